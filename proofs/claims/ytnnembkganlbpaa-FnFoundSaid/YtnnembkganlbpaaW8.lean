/- The walk of taking an item out of a tree, over what growing a kid does. -/
import Derived.Test.YtnnembkganlbpaaTd
import Derived.Test.YtnnembkganlbpaaW7
namespace Go.Proofs.Ytnnembkganlbpaa
open Go Go.Sl Go.Net Go.Wk Go.Bt Go.RowKit

/-- what taking out of the tree t leaves -/
def RemP (c fl mn mx h b : Nat) (t : Tr) (x : It) (ty d : Nat) (v : Value) : HProp := ex fun t2 : Tr =>
  pu (v = ans (rmo ty (flat h t) x) ∧ Ok mn mx h t2 ∧ t.its.length ≤ t2.its.length + d ∧ t2.its.length ≤ t.its.length ∧ flat h t2 = rml ty (flat h t) x) * (Tp c h t2 b * Ctx c fl)
theorem fou_spec {ty : Nat} {t : Tr} {x : It} (h : fou ty t x = true) : ty = 0 ∧ fnd t.its x.key = true := by
  unfold fou at h
  by_cases e : ty = 0
  · rw [if_pos e] at h; exact ⟨e, h⟩
  · rw [if_neg e] at h; cases h
set_option maxHeartbeats 3200000 in
theorem f87_step (c fl mn mx h b ty d : Nat) (x : It) (t : Tr) (hmn : 1 ≤ mn) (hm : mx < 10000) (hty : ty = 0 ∨ ty = 1 ∨ ty = 2) (hO : Ok mn mx h t) (hl : t.its.length ≤ mx) (hS : Srt (flat h t)) (hd : h = 0 → 1 ≤ t.its.length ∧ d = 1)
    (hkid : ∀ (h' ty' : Nat) (k : Tr) (xb : Nat) (x' : It), h = h' + 1 → (ty' = 0 ∨ ty' = 1 ∨ ty' = 2) → Ok mn mx h' k → mn < k.its.length → k.its.length ≤ mx → Srt (flat h' k) → Tri Try.prog 87 #[ptr xb, itV x', .int .i64 mn, .int .i64 ty'] (Tp c h' k xb * Ctx c fl) (RemP c fl mn mx h' xb k x' ty' 1))
    (hgrow : ∀ k : Tr, t.kids[plc ty t x]? = some k → k.its.length ≤ mn → Tri Try.prog 97 #[ptr b, .int .i64 (plc ty t x), itV x, .int .i64 mn, .int .i64 ty] (Tp c h t b * Ctx c fl) (RemP c fl mn mx h b t x ty d)) :
    Tri Try.prog 87 #[ptr b, itV x, .int .i64 mn, .int .i64 ty] (Tp c h t b * Ctx c fl) (RemP c fl mn mx h b t x ty d) := by
  have hSi := srt_its hO hS
  intro w0 F w hs
  simp only [mul_assoc'] at hs
  refine calls_WP 129 #[.cell 8 45, .tmp 9] Try.func87 rfl Try.ntmps87 rfl (Nat.le_of_ble_eq_true rfl) ?_
  refine WP_seq ?_
  -- R0
  refine WP_seqr [⟨0, 2, []⟩, ⟨1, 2, []⟩, ⟨2, 0, []⟩] (by kernel_rfl) ?_
  refine ns_box (#[.int .i64 x.key, .int .i64 x.val]) hs rfl rfl rfl rfl ?_
  intro b5 w hs
  refine ns_alloc zc_45 hs rfl rfl ?_
  intro b8 w hs
  refine ns_asg rfl rfl ?_
  refine ns_done ?_
  refine WP_seq ?_
  -- R1
  refine WP_seqr [⟨0, 0, []⟩] (by kernel_rfl) ?_
  refine ns_asg rfl rfl ?_
  refine ns_done ?_
  refine WP_seq ?_
  -- R2
  refine WP_seqr [⟨0, 0, []⟩] (by kernel_rfl) ?_
  refine ns_asg rfl rfl ?_
  refine ns_done ?_
  refine WP_seq_cut (fun σ w => σ 0 = ptr b ∧ σ 2 = .int .i64 mn ∧ σ 3 = .int .i64 ty ∧ σ 5 = .pointer (some ⟨b5, 0, none⟩) ∧ σ 8 = .pointer (some ⟨b8, 0, none⟩) ∧ σ 10 = .int .i64 (plc ty t x) ∧ σ 11 = .bool (fou ty t x) ∧ t.kids.length ≠ 0 ∧ St w0 (pts b5 (.cells #[.int .i64 x.key, .int .i64 x.val] 45 (0, 0)) * (pts b8 (.cells #[.int .i64 0, .int .i64 0] 45 (0, 0)) * (Tp c h t b * (Ctx c fl * F)))) w) ?_ ?_ -- S1
  · rcases hty with rfl | rfl | rfl
    · refine WP_seq ?_
      -- R3
      refine WP_seqr [⟨0, 0, []⟩] (by kernel_rfl) ?_
      refine ns_move rfl rfl ?_
      refine ns_done ?_
      refine WP_block ?_
      refine WP_seq ?_
      -- R5
      refine WP_seqr [⟨0, 0, []⟩, ⟨1, 0, []⟩] (by kernel_rfl) ?_
      refine ns_cmp false rfl rfl rfl rfl rfl ?_
      refine ns_asg rfl rfl ?_
      refine ns_done ?_
      refine WP_false rfl ?_ -- if1
      refine WP_seq ?_
      -- R9
      refine WP_seqr [⟨0, 0, []⟩, ⟨1, 0, []⟩] (by kernel_rfl) ?_
      refine ns_cmp false rfl rfl rfl rfl rfl ?_
      refine ns_asg rfl rfl ?_
      refine ns_done ?_
      refine WP_false rfl ?_ -- if2
      refine WP_seq ?_
      -- R13
      refine WP_seqr [⟨0, 0, []⟩, ⟨1, 0, []⟩] (by kernel_rfl) ?_
      refine ns_cmp true rfl rfl rfl rfl rfl ?_
      refine ns_asg rfl rfl ?_
      refine ns_done ?_
      refine WP_true rfl ?_ -- if3
      refine WP_seq ?_
      obtain ⟨bs, hlen, hs⟩ := St.tree (hs.foc (Tp c h t b))
      obtain ⟨⟨v1, v2⟩, hs⟩ := hs.ex
      simp only [mul_assoc'] at hs
      obtain ⟨a1, c1, rfl, hc1, hcm1⟩ := (hs.foc (IArr v1 t.its)).arr_form
      obtain ⟨a2, c2, rfl, hc2, hcm2⟩ := (hs.foc (PArr v2 bs)).arr_form
      unfold Ctx CowP at hs
      simp only [mul_assoc'] at hs
      -- R14
      refine WP_net hs mix [0, 1, 3, 7, 0, 0, 32, 96, 224, 480, 992, 2016, 4095, 8191, 16383, 16383, 32767, 131071] [⟨0, 0, []⟩, ⟨1, 0, []⟩, ⟨2, 0, []⟩, ⟨3, 1, []⟩, ⟨4, 1, []⟩, ⟨5, 0, []⟩, ⟨6, 0, []⟩, ⟨7, 0, []⟩, ⟨8, 1, []⟩, ⟨9, 0, []⟩, ⟨10, 0, []⟩, ⟨11, 1, []⟩, ⟨12, 2, []⟩, ⟨13, 0, []⟩, ⟨14, 0, []⟩, ⟨15, 0, []⟩, ⟨16, 0, []⟩, ⟨17, 0, []⟩] (by kernel_rfl) ?_
      intro w hs
      refine ns_move rfl rfl ?_
      refine ns_nil rfl rfl rfl ?_
      refine ns_fld fo_103_0 rfl rfl rfl ?_
      refine ns_ldB pl_100 hs rfl rfl rfl (by rfl) ?_
      refine ns_ldAB [.int .i64 x.key, .int .i64 x.val] ag_45 hs rfl rfl rfl (by rfl) (by rfl) (by decide) ?_
      refine ns_move rfl rfl ?_
      refine ns_nil rfl rfl rfl ?_
      refine ns_fld fo_103_2 rfl rfl rfl ?_
      refine ns_ldB pl_82 hs rfl rfl rfl (by rfl) ?_
      refine ns_nil rfl rfl rfl ?_
      refine ns_fld fo_84_1 rfl rfl rfl ?_
      refine ns_ldB pl_69 hs rfl rfl rfl (by rfl) ?_
      refine ns_call (f83_ok (.slice a1 t.its.length c1) t.its x hSi (by omega)) ck_83 (hs.foc (IArr (.slice a1 t.its.length c1) t.its)) rfl rfl rfl rfl ?_
      intro v61 w hs
      replace hs := hs.pu
      obtain ⟨rfl, hs⟩ := hs
      refine ns_move rfl rfl ?_
      refine ns_ext rfl rfl rfl rfl ?_
      refine ns_ext rfl rfl rfl rfl ?_
      refine ns_asg rfl rfl ?_
      refine ns_asg rfl rfl ?_
      refine ns_done ?_
      refine WP_seq ?_
      have hs := hs.fold (ctx_fold c fl)
      -- R15
      refine WP_seqr [⟨0, 0, []⟩, ⟨1, 0, []⟩, ⟨2, 0, []⟩, ⟨3, 1, []⟩, ⟨4, 0, []⟩, ⟨5, 0, []⟩] (by kernel_rfl) ?_
      refine ns_move rfl rfl ?_
      refine ns_nil rfl rfl rfl ?_
      refine ns_fld fo_103_1 rfl rfl rfl ?_
      refine ns_ldB pl_101 hs rfl rfl rfl (by rfl) ?_
      refine ns_len sl_101 rfl rfl rfl ?_
      refine ns_cmp _ rfl rfl rfl rfl rfl ?_
      refine ns_done ?_
      refine WP_if rfl (fun hif4 => ?_) (fun hif4 => ?_)
      · refine WP_seq ?_ -- S2
        refine WP_seq ?_
        -- R16
        refine WP_seqr [⟨0, 0, []⟩] (by kernel_rfl) ?_
        refine ns_move rfl rfl ?_
        refine ns_done ?_
        refine WP_if rfl (fun hif5 => ?_) (fun hif5 => ?_)
        · refine WP_seq ?_
          have hb0 : t.kids.length = 0 := by rw [← hlen]; simpa using hif4
          obtain rfl := kids_zero hO hb0
          have hd1 := hd rfl
          obtain ⟨y, hy, hyk⟩ := fnd_at hif5
          have hlt : lb t.its x.key < t.its.length := (List.getElem?_eq_some_iff.1 hy).1
          have hs := hs.fold (node_fold c b (.slice a1 t.its.length c1) (.slice a2 bs.length c2) t.its bs)
          -- R17
          refine WP_seqr [⟨0, 0, []⟩, ⟨1, 0, []⟩, ⟨2, 0, []⟩, ⟨3, 0, []⟩, ⟨4, 2, []⟩, ⟨5, 2, []⟩, ⟨6, 0, []⟩] (by kernel_rfl) ?_
          refine ns_move rfl rfl ?_
          refine ns_nil rfl rfl rfl ?_
          refine ns_fld fo_103_0 rfl rfl rfl ?_
          refine ns_move rfl rfl ?_
          refine ns_call (f96_ok c b (lb t.its x.key) y t.its bs hy) ck_96 (hs.foc (NodeP c b t.its bs)) rfl rfl rfl rfl ?_
          intro v75 w hs
          replace hs := hs.pu
          obtain ⟨rfl, hs⟩ := hs
          refine ns_stA (#[.int .i64 y.key, .int .i64 y.val]) ag_45 rfl (by decide) hs rfl rfl rfl rfl (by intro u hu; simp at hu; rcases hu with rfl | rfl <;> rfl) (by simp) ?_
          refine fun w hs => ⟨trivial, ?_⟩
          refine ns_asg rfl rfl ?_
          refine ns_done ?_
          refine WP_ret ?_
          have hload := run_loadVarA (P := Try.prog) (t := 45) (n := 2) (ad := ⟨b8, 0, none⟩) (vs := [.int .i64 y.key, .int .i64 y.val]) ag_45 rfl (by decide) w (St.cells (n := 2) hs (by rfl))
          have hs := hs.fold (tree_fold (c := c) (h := 0) (b := b) (its := t.its.eraseIdx (lb t.its x.key)) (kids := t.kids) hlen)
          have hg : rmo 0 (flat 0 t) x = some y := get_found hO hS hy hyk
          have hr : flat 0 (.mk (t.its.eraseIdx (lb t.its x.key)) t.kids) = rml 0 (flat 0 t) x := ((rm_leaf hSi).1 hif5).symm
          have hll : (t.its.eraseIdx (lb t.its x.key)).length = t.its.length - 1 := by rw [List.length_eraseIdx, if_pos hlt]
          exact ⟨_, resCT 8 45 9 rfl hload, St.mk_ex (.mk (t.its.eraseIdx (lb t.its x.key)) t.kids) (St.mk_pu ⟨(congrArg ans hg).symm, hO, by show _ ≤ (t.its.eraseIdx (lb t.its x.key)).length + d; omega, by show (t.its.eraseIdx (lb t.its x.key)).length ≤ _; omega, hr⟩ hs.out)⟩
        refine WP_skip ?_
        refine WP_ret ?_
        have hb0 : t.kids.length = 0 := by rw [← hlen]; simpa using hif4
        obtain rfl := kids_zero hO hb0
        have hd1 := hd rfl
        have hload := run_loadVarA (P := Try.prog) (t := 45) (n := 2) (ad := ⟨b8, 0, none⟩) (vs := [.int .i64 zero.key, .int .i64 zero.val]) ag_45 rfl (by decide) w (St.cells (n := 2) hs (by rfl))
        have hs := hs.fold (node_fold c b (.slice a1 t.its.length c1) (.slice a2 bs.length c2) t.its bs)
        have hs := hs.fold (tree_fold (c := c) (h := 0) (b := b) (its := t.its) (kids := t.kids) hlen)
        rw [Tr.eta] at hs
        have hg : rmo 0 (flat 0 t) x = none := get_leaf hSi hif5
        have hr : flat 0 t = rml 0 (flat 0 t) x := ((rm_leaf hSi).2 hif5).symm
        exact ⟨_, resCT 8 45 9 rfl hload, St.mk_ex t (St.mk_pu ⟨(congrArg ans hg).symm, hO, by omega, by omega, hr⟩ hs.out)⟩
      refine WP_skip ?_
      have hb0 : t.kids.length ≠ 0 := by intro e; rw [← hlen] at e; simp [e] at hif4
      have hs := hs.fold (node_fold c b (.slice a1 t.its.length c1) (.slice a2 bs.length c2) t.its bs)
      have hs := hs.fold (tree_fold (c := c) (h := h) (b := b) (its := t.its) (kids := t.kids) hlen)
      rw [Tr.eta] at hs
      exact ⟨rfl, rfl, rfl, rfl, rfl, rfl, rfl, hb0, hs.out⟩
    · refine WP_seq ?_
      -- R3
      refine WP_seqr [⟨0, 0, []⟩] (by kernel_rfl) ?_
      refine ns_move rfl rfl ?_
      refine ns_done ?_
      refine WP_block ?_
      refine WP_seq ?_
      -- R5
      refine WP_seqr [⟨0, 0, []⟩, ⟨1, 0, []⟩] (by kernel_rfl) ?_
      refine ns_cmp false rfl rfl rfl rfl rfl ?_
      refine ns_asg rfl rfl ?_
      refine ns_done ?_
      refine WP_false rfl ?_ -- if1
      refine WP_seq ?_
      -- R9
      refine WP_seqr [⟨0, 0, []⟩, ⟨1, 0, []⟩] (by kernel_rfl) ?_
      refine ns_cmp true rfl rfl rfl rfl rfl ?_
      refine ns_asg rfl rfl ?_
      refine ns_done ?_
      refine WP_true rfl ?_ -- if2
      refine WP_seq ?_ -- S2
      refine WP_seq ?_
      obtain ⟨bs, hlen, hs⟩ := St.tree (hs.foc (Tp c h t b))
      obtain ⟨⟨v1, v2⟩, hs⟩ := hs.ex
      simp only [mul_assoc'] at hs
      obtain ⟨a1, c1, rfl, hc1, hcm1⟩ := (hs.foc (IArr v1 t.its)).arr_form
      obtain ⟨a2, c2, rfl, hc2, hcm2⟩ := (hs.foc (PArr v2 bs)).arr_form
      -- R10
      refine WP_seqr [⟨0, 0, []⟩, ⟨1, 0, []⟩, ⟨2, 0, []⟩, ⟨3, 1, []⟩, ⟨4, 0, []⟩, ⟨5, 0, []⟩] (by kernel_rfl) ?_
      refine ns_move rfl rfl ?_
      refine ns_nil rfl rfl rfl ?_
      refine ns_fld fo_103_1 rfl rfl rfl ?_
      refine ns_ldB pl_101 hs rfl rfl rfl (by rfl) ?_
      refine ns_len sl_101 rfl rfl rfl ?_
      refine ns_cmp _ rfl rfl rfl rfl rfl ?_
      refine ns_done ?_
      refine WP_if rfl (fun hif3 => ?_) (fun hif3 => ?_)
      · refine WP_seq ?_
        have hb0 : t.kids.length = 0 := by rw [← hlen]; simpa using hif3
        obtain rfl := kids_zero hO hb0
        have hd1 := hd rfl
        obtain ⟨z, l, e⟩ : ∃ z l, t.its = z :: l := by
          cases hh : t.its with
          | nil => rw [hh] at hd1; simp at hd1
          | cons z l => exact ⟨z, l, rfl⟩
        have hs := hs.fold (node_fold c b (.slice a1 t.its.length c1) (.slice a2 bs.length c2) t.its bs)
        -- R11
        refine WP_seqr [⟨0, 0, []⟩, ⟨1, 0, []⟩, ⟨2, 0, []⟩, ⟨3, 2, []⟩, ⟨4, 2, []⟩, ⟨5, 0, []⟩] (by kernel_rfl) ?_
        refine ns_move rfl rfl ?_
        refine ns_nil rfl rfl rfl ?_
        refine ns_fld fo_103_0 rfl rfl rfl ?_
        refine ns_call (f96_ok c b 0 z t.its bs (by rw [e]; rfl)) ck_96 (hs.foc (NodeP c b t.its bs)) rfl rfl rfl rfl ?_
        intro v45 w hs
        replace hs := hs.pu
        obtain ⟨rfl, hs⟩ := hs
        refine ns_stA (#[.int .i64 z.key, .int .i64 z.val]) ag_45 rfl (by decide) hs rfl rfl rfl rfl (by intro u hu; simp at hu; rcases hu with rfl | rfl <;> rfl) (by simp) ?_
        refine fun w hs => ⟨trivial, ?_⟩
        refine ns_asg rfl rfl ?_
        refine ns_done ?_
        refine WP_ret ?_
        have hload := run_loadVarA (P := Try.prog) (t := 45) (n := 2) (ad := ⟨b8, 0, none⟩) (vs := [.int .i64 z.key, .int .i64 z.val]) ag_45 rfl (by decide) w (St.cells (n := 2) hs (by rfl))
        have hs := hs.fold (tree_fold (c := c) (h := 0) (b := b) (its := t.its.eraseIdx 0) (kids := t.kids) hlen)
        have hg : rmo 1 (flat 0 t) x = some z := by show t.its.head? = some z; rw [e]; rfl
        have hr : flat 0 (.mk (t.its.eraseIdx 0) t.kids) = rml 1 (flat 0 t) x := by show t.its.eraseIdx 0 = t.its.tail; rw [e]; rfl
        have hll : t.its.length = (t.its.eraseIdx 0).length + 1 := by rw [e]; rfl
        exact ⟨_, resCT 8 45 9 rfl hload, St.mk_ex (.mk (t.its.eraseIdx 0) t.kids) (St.mk_pu ⟨(congrArg ans hg).symm, hO, by show _ ≤ (t.its.eraseIdx 0).length + d; omega, by show (t.its.eraseIdx 0).length ≤ _; omega, hr⟩ hs.out)⟩
      refine WP_skip ?_
      have hb0 : t.kids.length ≠ 0 := by intro e; rw [← hlen] at e; simp [e] at hif3
      -- R12
      refine WP_seqr [⟨0, 0, []⟩] (by kernel_rfl) ?_
      refine ns_asg rfl rfl ?_
      refine ns_done ?_
      have hs := hs.fold (node_fold c b (.slice a1 t.its.length c1) (.slice a2 bs.length c2) t.its bs)
      have hs := hs.fold (tree_fold (c := c) (h := h) (b := b) (its := t.its) (kids := t.kids) hlen)
      rw [Tr.eta] at hs
      exact ⟨rfl, rfl, rfl, rfl, rfl, rfl, rfl, hb0, hs.out⟩
    · refine WP_seq ?_
      -- R3
      refine WP_seqr [⟨0, 0, []⟩] (by kernel_rfl) ?_
      refine ns_move rfl rfl ?_
      refine ns_done ?_
      refine WP_block ?_
      refine WP_seq ?_
      -- R5
      refine WP_seqr [⟨0, 0, []⟩, ⟨1, 0, []⟩] (by kernel_rfl) ?_
      refine ns_cmp true rfl rfl rfl rfl rfl ?_
      refine ns_asg rfl rfl ?_
      refine ns_done ?_
      refine WP_true rfl ?_ -- if1
      refine WP_seq ?_ -- S2
      refine WP_seq ?_
      obtain ⟨bs, hlen, hs⟩ := St.tree (hs.foc (Tp c h t b))
      obtain ⟨⟨v1, v2⟩, hs⟩ := hs.ex
      simp only [mul_assoc'] at hs
      obtain ⟨a1, c1, rfl, hc1, hcm1⟩ := (hs.foc (IArr v1 t.its)).arr_form
      obtain ⟨a2, c2, rfl, hc2, hcm2⟩ := (hs.foc (PArr v2 bs)).arr_form
      -- R6
      refine WP_seqr [⟨0, 0, []⟩, ⟨1, 0, []⟩, ⟨2, 0, []⟩, ⟨3, 1, []⟩, ⟨4, 0, []⟩, ⟨5, 0, []⟩] (by kernel_rfl) ?_
      refine ns_move rfl rfl ?_
      refine ns_nil rfl rfl rfl ?_
      refine ns_fld fo_103_1 rfl rfl rfl ?_
      refine ns_ldB pl_101 hs rfl rfl rfl (by rfl) ?_
      refine ns_len sl_101 rfl rfl rfl ?_
      refine ns_cmp _ rfl rfl rfl rfl rfl ?_
      refine ns_done ?_
      refine WP_if rfl (fun hif2 => ?_) (fun hif2 => ?_)
      · refine WP_seq ?_
        have hb0 : t.kids.length = 0 := by rw [← hlen]; simpa using hif2
        obtain rfl := kids_zero hO hb0
        have hd1 := hd rfl
        obtain ⟨l, z, e⟩ : ∃ l z, t.its = l ++ [z] := ⟨t.its.dropLast, t.its.getLast (ne_of_len (by omega)), (List.dropLast_concat_getLast _).symm⟩
        have hs := hs.fold (node_fold c b (.slice a1 t.its.length c1) (.slice a2 bs.length c2) t.its bs)
        rw [e] at hs
        -- R7
        refine WP_seqr [⟨0, 0, []⟩, ⟨1, 0, []⟩, ⟨2, 0, []⟩, ⟨3, 2, []⟩, ⟨4, 2, []⟩, ⟨5, 0, []⟩] (by kernel_rfl) ?_
        refine ns_move rfl rfl ?_
        refine ns_nil rfl rfl rfl ?_
        refine ns_fld fo_103_0 rfl rfl rfl ?_
        refine ns_call (f95_ok c b z l bs) ck_95 (hs.foc (NodeP c b (l ++ [z]) bs)) rfl rfl rfl rfl ?_
        intro v28 w hs
        replace hs := hs.pu
        obtain ⟨rfl, hs⟩ := hs
        refine ns_stA (#[.int .i64 z.key, .int .i64 z.val]) ag_45 rfl (by decide) hs rfl rfl rfl rfl (by intro u hu; simp at hu; rcases hu with rfl | rfl <;> rfl) (by simp) ?_
        refine fun w hs => ⟨trivial, ?_⟩
        refine ns_asg rfl rfl ?_
        refine ns_done ?_
        refine WP_ret ?_
        have hload := run_loadVarA (P := Try.prog) (t := 45) (n := 2) (ad := ⟨b8, 0, none⟩) (vs := [.int .i64 z.key, .int .i64 z.val]) ag_45 rfl (by decide) w (St.cells (n := 2) hs (by rfl))
        have hs := hs.fold (tree_fold (c := c) (h := 0) (b := b) (its := l) (kids := t.kids) hlen)
        have hg : rmo 2 (flat 0 t) x = some z := by show t.its.getLast? = some z; rw [e]; simp
        have hr : flat 0 (.mk l t.kids) = rml 2 (flat 0 t) x := by show l = t.its.dropLast; rw [e]; simp
        have hll : t.its.length = l.length + 1 := by rw [e]; simp
        exact ⟨_, resCT 8 45 9 rfl hload, St.mk_ex (.mk l t.kids) (St.mk_pu ⟨(congrArg ans hg).symm, hO, by show _ ≤ l.length + d; omega, by show l.length ≤ _; omega, hr⟩ hs.out)⟩
      refine WP_skip ?_
      have hb0 : t.kids.length ≠ 0 := by intro e; rw [← hlen] at e; simp [e] at hif2
      -- R8
      refine WP_seqr [⟨0, 0, []⟩, ⟨1, 0, []⟩, ⟨2, 0, []⟩, ⟨3, 1, []⟩, ⟨4, 0, []⟩, ⟨5, 0, []⟩] (by kernel_rfl) ?_
      refine ns_move rfl rfl ?_
      refine ns_nil rfl rfl rfl ?_
      refine ns_fld fo_103_0 rfl rfl rfl ?_
      refine ns_ldB pl_100 hs rfl rfl rfl (by rfl) ?_
      refine ns_len sl_100 rfl rfl rfl ?_
      refine ns_asg rfl rfl ?_
      refine ns_done ?_
      have hs := hs.fold (node_fold c b (.slice a1 t.its.length c1) (.slice a2 bs.length c2) t.its bs)
      have hs := hs.fold (tree_fold (c := c) (h := h) (b := b) (its := t.its) (kids := t.kids) hlen)
      rw [Tr.eta] at hs
      exact ⟨rfl, rfl, rfl, rfl, rfl, rfl, rfl, hb0, hs.out⟩
  rintro σ w ⟨g0, g2, g3, g5, g8, g10, g11, hb0, hs⟩
  obtain ⟨σ, rfl⟩ := rebase g0
  obtain ⟨σ, rfl⟩ := rebase (σ := σ) g2
  obtain ⟨σ, rfl⟩ := rebase (σ := σ) g3
  obtain ⟨σ, rfl⟩ := rebase (σ := σ) g5
  obtain ⟨σ, rfl⟩ := rebase (σ := σ) g8
  obtain ⟨σ, rfl⟩ := rebase (σ := σ) g10
  obtain ⟨σ, rfl⟩ := rebase (σ := σ) g11
  clear g0 g2 g3 g5 g8 g10 g11
  obtain ⟨h, rfl⟩ : ∃ h', h = h' + 1 := by
    cases h with
    | zero => rw [show t.kids = [] from hO] at hb0; exact absurd rfl hb0
    | succ h => exact ⟨h, rfl⟩
  have hkl := kids_len hO hb0
  have hle := plc_le ty t x
  obtain ⟨k, hk⟩ : ∃ k, t.kids[plc ty t x]? = some k := ⟨t.kids[plc ty t x]'(by omega), List.getElem?_eq_getElem (by omega)⟩
  have hko := kid_ok hO hk
  have hkS : Srt (flat h k) := kid_srt hO hS hk
  obtain ⟨bs, hlen, hs⟩ := St.tree (hs.foc (Tp c (h + 1) t b))
  obtain ⟨xb, hxb⟩ : ∃ xb, bs[plc ty t x]? = some xb := ⟨bs[plc ty t x]'(by omega), List.getElem?_eq_getElem (by omega)⟩
  rw [Ks_at hk hxb] at hs
  simp only [mul_assoc'] at hs
  obtain ⟨bs1, hlen1, hs⟩ := St.tree (hs.foc (Tq c (h + 1) k xb))
  obtain ⟨⟨v1, v2⟩, hs⟩ := (hs.foc (NodeP c b (t.its) (bs))).ex
  simp only [mul_assoc'] at hs
  obtain ⟨_, hz, _⟩ | ⟨g, cap, cur, hv, hc, hcm, hsz, htk, hs⟩ := (hs.foc (PArr (v2) (bs))).arr
  · omega
  cases hv
  obtain ⟨⟨u1, u2⟩, hs⟩ := (hs.foc (NodeP c xb (k.its) (bs1))).ex
  simp only [mul_assoc'] at hs
  obtain ⟨a3, c3, rfl, hc3, hcm3⟩ := (hs.foc (IArr u1 k.its)).arr_form
  refine WP_seq ?_ -- S3
  refine WP_seq ?_
  -- R18
  refine WP_seqr [⟨0, 0, []⟩, ⟨1, 0, []⟩, ⟨2, 0, []⟩, ⟨3, 1, []⟩, ⟨4, 0, []⟩, ⟨5, 0, []⟩, ⟨6, 1, []⟩, ⟨7, 0, []⟩, ⟨8, 0, []⟩, ⟨9, 1, []⟩, ⟨10, 0, []⟩, ⟨11, 0, []⟩, ⟨12, 0, []⟩] (by kernel_rfl) ?_
  refine ns_move rfl rfl ?_
  refine ns_nil rfl rfl rfl ?_
  refine ns_fld fo_103_1 rfl rfl rfl ?_
  refine ns_ldB pl_101 hs rfl rfl rfl (by rfl) ?_
  refine ns_move rfl rfl ?_
  refine ns_idx (plc ty t x) sl_101 rfl rfl rfl rfl rfl (by omega) ?_
  refine ns_ld pl_85 rfl rfl rfl (ptr_cell hs htk _ hxb) ?_
  refine ns_nil rfl rfl rfl ?_
  refine ns_fld fo_103_0 rfl rfl rfl ?_
  refine ns_ldB pl_100 hs rfl rfl rfl (by rfl) ?_
  refine ns_len sl_100 rfl rfl rfl ?_
  refine ns_move rfl rfl ?_
  refine ns_cmp _ rfl rfl rfl rfl rfl ?_
  refine ns_done ?_
  have hs := (hs.foc (pts g (.cells cur 85 (0, 0)))).mk_arr' hc hcm hsz htk
  have hs := hs.fold (node_fold c xb (.slice a3 k.its.length c3) u2 k.its bs1)
  have hs := hs.fold (node_fold c b v1 (.slice (some ⟨g, 0, none⟩) bs.length cap) t.its bs)
  refine WP_if rfl (fun hif6 => ?_) (fun hif6 => ?_)
  · refine WP_seq ?_
    have hsm : k.its.length ≤ mn := by have := of_decide_eq_true hif6; omega
    have hs := hs.fold (tree_fold (c := c) (h := h) (b := xb) (its := k.its) (kids := k.kids) hlen1)
    rw [Tr.eta, show Tp c h k xb = Tq c (h + 1) k xb from rfl] at hs
    have hs := hs.fold (Ent.of_eq (Ks_at (c := c) (h := h + 1) hk hxb).symm)
    have hs := hs.fold (tree_fold (c := c) (h := h + 1) (b := b) (its := t.its) (kids := t.kids) hlen)
    rw [Tr.eta] at hs
    -- R19
    refine WP_seqr [⟨0, 0, []⟩, ⟨1, 0, []⟩, ⟨2, 1, []⟩, ⟨3, 0, []⟩, ⟨4, 0, []⟩, ⟨5, 2, []⟩, ⟨6, 0, []⟩, ⟨7, 0, []⟩, ⟨8, 2, []⟩, ⟨9, 0, []⟩] (by kernel_rfl) ?_
    refine ns_move rfl rfl ?_
    refine ns_move rfl rfl ?_
    refine ns_ldAB [.int .i64 x.key, .int .i64 x.val] ag_45 hs rfl rfl rfl (by rfl) (by rfl) (by decide) ?_
    refine ns_move rfl rfl ?_
    refine ns_move rfl rfl ?_
    refine ns_call (hgrow k hk hsm) ck_97 (hs.foc (Tp c (h + 1) t b * Ctx c fl)) rfl rfl rfl rfl ?_
    intro v94 w hs
    unfold RemP at hs
    replace hs := hs.ex
    obtain ⟨t2, hs⟩ := hs
    replace hs := hs.pu
    obtain ⟨⟨rfl, q1, q2, q3, q4⟩, hs⟩ := hs
    simp only [mul_assoc'] at hs
    refine ns_ext rfl rfl rfl rfl ?_
    refine ns_ext rfl rfl rfl rfl ?_
    refine ns_stA (#[.int .i64 ((rmo ty (flat (h + 1) t) x).getD zero).key, .int .i64 ((rmo ty (flat (h + 1) t) x).getD zero).val]) ag_45 rfl (by decide) hs rfl rfl rfl rfl (by intro u hu; simp at hu; rcases hu with rfl | rfl <;> rfl) (by simp) ?_
    refine fun w hs => ⟨trivial, ?_⟩
    refine ns_asg rfl rfl ?_
    refine ns_done ?_
    refine WP_ret ?_
    have hload := run_loadVarA (P := Try.prog) (t := 45) (n := 2) (ad := ⟨b8, 0, none⟩) (vs := [.int .i64 ((rmo ty (flat (h + 1) t) x).getD zero).key, .int .i64 ((rmo ty (flat (h + 1) t) x).getD zero).val]) ag_45 rfl (by decide) w (St.cells (n := 2) hs (by rfl))
    exact ⟨_, resCT 8 45 9 rfl hload, St.mk_ex t2 (St.mk_pu ⟨rfl, q1, q2, q3, q4⟩ hs.out)⟩
  refine WP_skip ?_
  have hbig : mn < k.its.length := by have := of_decide_eq_false hif6; omega
  refine WP_seq ?_
  -- R20
  refine WP_seqr [⟨0, 0, []⟩, ⟨1, 0, []⟩, ⟨2, 2, []⟩, ⟨3, 0, []⟩] (by kernel_rfl) ?_
  refine ns_move rfl rfl ?_
  refine ns_move rfl rfl ?_
  refine ns_call (f86_ok c b (plc ty t x) xb t.its k.its bs bs1 hxb) ck_86 (hs.foc (NodeP c b t.its bs * NodeP c xb k.its bs1)) rfl rfl rfl rfl ?_
  intro v99 w hs
  replace hs := hs.pu
  obtain ⟨rfl, hs⟩ := hs
  simp only [mul_assoc'] at hs
  have hs := hs.fold (tree_fold (c := c) (h := h) (b := xb) (its := k.its) (kids := k.kids) hlen1)
  rw [Tr.eta] at hs
  refine ns_asg rfl rfl ?_
  refine ns_done ?_
  refine WP_seq ?_ -- S4
  refine WP_seq ?_
  -- R21
  refine WP_seqr [⟨0, 0, []⟩] (by kernel_rfl) ?_
  refine ns_move rfl rfl ?_
  refine ns_done ?_
  refine WP_if rfl (fun hif7 => ?_) (fun hif7 => ?_)
  · refine WP_seq ?_
    obtain ⟨rfl, hf⟩ := fou_spec hif7
    obtain ⟨y, hy, hyk⟩ := fnd_at hf
    have hlt : lb t.its x.key < t.its.length := (List.getElem?_eq_some_iff.1 hy).1
    have hki : plc 0 t x < t.kids.length := (List.getElem?_eq_some_iff.1 hk).1
    obtain ⟨z, hz⟩ : ∃ z, (flat h k).getLast? = some z := by
      cases hh : (flat h k).getLast? with
      | none => exact absurd (List.getLast?_eq_none_iff.1 hh) (kid_ne hO hmn hk)
      | some z => exact ⟨z, rfl⟩
    obtain ⟨⟨p1, p2⟩, hs⟩ := (hs.foc (NodeP c b (t.its) (bs))).ex
    simp only [mul_assoc'] at hs
    obtain ⟨_, hz4, _⟩ | ⟨g4, cap4, cur4, hv4, hc4, hcm4, hsz4, htk4, hs⟩ := (hs.foc (IArr (p1) (t.its))).arr
    · omega
    cases hv4
    -- R22
    refine WP_seqr [⟨0, 0, []⟩, ⟨1, 0, []⟩, ⟨2, 0, []⟩, ⟨3, 1, []⟩, ⟨4, 0, []⟩, ⟨5, 0, []⟩, ⟨6, 1, []⟩, ⟨7, 2, []⟩, ⟨8, 2, []⟩] (by kernel_rfl) ?_
    refine ns_move rfl rfl ?_
    refine ns_nil rfl rfl rfl ?_
    refine ns_fld fo_103_0 rfl rfl rfl ?_
    refine ns_ldB pl_100 hs rfl rfl rfl (by rfl) ?_
    refine ns_move rfl rfl ?_
    refine ns_idx (lb t.its x.key) sl_100 rfl rfl rfl rfl rfl hlt ?_
    refine ns_ldA [.int .i64 y.key, .int .i64 y.val] ag_45 rfl rfl rfl rfl (by decide) (it_cells hs htk4 _ hy) ?_
    refine ns_alloc zc_45 hs rfl rfl ?_
    intro b13 w hs
    refine ns_stA (#[.int .i64 y.key, .int .i64 y.val]) ag_45 rfl (by decide) hs rfl rfl rfl rfl (by intro u hu; simp at hu; rcases hu with rfl | rfl <;> rfl) (by simp) ?_
    refine fun w hs => ⟨trivial, ?_⟩
    refine ns_done ?_
    refine WP_seq ?_
    -- R23
    refine WP_seqr [⟨0, 2, []⟩] (by kernel_rfl) ?_
    refine ns_alloc zc_45 hs rfl rfl ?_
    intro b14 w hs
    refine ns_done ?_
    refine WP_seq ?_
    -- R24
    refine WP_net hs mix [0, 1, 3, 7, 0, 0, 0, 0, 224, 480, 992, 992, 2047, 6143] [⟨0, 0, []⟩, ⟨1, 0, []⟩, ⟨2, 0, []⟩, ⟨3, 1, []⟩, ⟨4, 0, []⟩, ⟨5, 0, []⟩, ⟨6, 1, []⟩, ⟨7, 0, []⟩, ⟨8, 2, [3]⟩, ⟨9, 0, []⟩, ⟨10, 0, []⟩, ⟨11, 0, []⟩, ⟨12, 0, []⟩, ⟨13, 2, []⟩] (by kernel_rfl) ?_
    intro w hs
    refine ns_move rfl rfl ?_
    refine ns_nil rfl rfl rfl ?_
    refine ns_fld fo_103_0 rfl rfl rfl ?_
    refine ns_ldB pl_100 hs rfl rfl rfl (by rfl) ?_
    refine ns_move rfl rfl ?_
    refine ns_move rfl rfl ?_
    refine ns_ldAB [.int .i64 zero.key, .int .i64 zero.val] ag_45 hs rfl rfl rfl (by rfl) (by rfl) (by decide) ?_
    refine ns_move rfl rfl ?_
    refine ns_callK (hkid h 2 k xb zero rfl (.inr (.inr rfl)) hko.2.2 hbig hko.2.1 hkS) ck_87 (hs.foc (Tp c h k xb * Ctx c fl)) rfl rfl rfl rfl ?_
    refine fun v117 w hs => ⟨⟨hs.c b 0, trivial⟩, ?_⟩
    unfold RemP at hs
    replace hs := hs.ex
    obtain ⟨k2, hs⟩ := hs
    replace hs := hs.pu
    obtain ⟨⟨rfl, q1, q2, q3, q4⟩, hs⟩ := hs
    simp only [mul_assoc'] at hs
    refine ns_move rfl rfl ?_
    refine ns_ext rfl rfl rfl rfl ?_
    refine ns_ext rfl rfl rfl rfl ?_
    refine ns_idx (lb t.its x.key) sl_100 rfl rfl rfl rfl rfl hlt ?_
    refine ns_stA (#[.int .i64 z.key, .int .i64 z.val]) ag_45 rfl (by decide) hs rfl rfl rfl (congrArg itV (by rw [show rmo 2 (flat h k) zero = (flat h k).getLast? from rfl, hz]; rfl)) (by intro u hu; simp at hu; rcases hu with rfl | rfl <;> rfl) (by rw [hsz4]; omega) ?_
    refine fun w hs => ⟨trivial, ?_⟩
    rw [Nat.zero_add] at hs
    refine ns_done ?_
    refine WP_seq ?_
    -- R25
    refine WP_seqr [⟨0, 1, []⟩, ⟨1, 2, []⟩, ⟨2, 0, []⟩] (by kernel_rfl) ?_
    refine ns_ldAB _ ag_45 hs rfl rfl rfl (by rfl) (by rfl) (by decide) ?_
    refine ns_stA (#[.int .i64 y.key, .int .i64 y.val]) ag_45 rfl (by decide) hs rfl rfl rfl rfl (by intro u hu; simp at hu; rcases hu with rfl | rfl <;> rfl) (by simp) ?_
    refine fun w hs => ⟨trivial, ?_⟩
    refine ns_asg rfl rfl ?_
    refine ns_done ?_
    refine WP_ret ?_
    have hload := run_loadVarA (P := Try.prog) (t := 45) (n := 2) (ad := ⟨b8, 0, none⟩) (vs := [.int .i64 y.key, .int .i64 y.val]) ag_45 rfl (by decide) w (St.cells (n := 2) hs (by rfl))
    have hset := set_cells (i := lb t.its x.key) (c := enc z) hsz4 (encs_len t.its) rfl hc4 hlt htk4
    rw [← encs_set t.its (lb t.its x.key) z hlt] at hset
    have hs := (hs.foc (pts g4 (.cells (splice cur4 (lb t.its x.key * 2) #[.int .i64 z.key, .int .i64 z.val].toList) 45 (0, 0)))).mk_arr' (n := t.its.length) (cap := cap4) hc4 hcm4 (by rw [splice_size (by rw [hsz4]; simp; omega), hsz4]) hset
    have e : t.its.length = (t.its.set (lb t.its x.key) z).length := by rw [List.length_set]
    rw [e] at hs
    have hs := hs.fold (node_fold c b (.slice (some ⟨g4, 0, none⟩) (t.its.set (lb t.its x.key) z).length cap4) p2 (t.its.set (lb t.its x.key) z) bs)
    have hs := hs.fold (set_fold (c := c) (h := h) (b := b) (i := plc 0 t x) (xb := xb) (t := t) (bs := bs) (t.its.set (lb t.its x.key) z) k2 hlen hki hxb)
    have hg : rmo 0 (flat (h + 1) t) x = some y := get_found hO hS hy hyk
    have hr := rm_here hO hS hy hyk hk hz q4
    exact ⟨_, resCT 8 45 9 rfl hload, St.mk_ex (.mk (t.its.set (lb t.its x.key) z) (t.kids.set (plc 0 t x) k2)) (St.mk_pu ⟨(congrArg ans hg).symm, ok_setk hO q1 (by omega) (by omega) z _, by show _ ≤ (t.its.set (lb t.its x.key) z).length + d; omega, by show (t.its.set (lb t.its x.key) z).length ≤ _; omega, hr⟩ hs.out)⟩
  refine WP_skip ?_
  refine WP_seq ?_
  -- R26
  refine WP_seqr [⟨0, 0, []⟩, ⟨1, 1, []⟩, ⟨2, 0, []⟩, ⟨3, 0, []⟩, ⟨4, 2, []⟩, ⟨5, 0, []⟩, ⟨6, 0, []⟩, ⟨7, 2, []⟩, ⟨8, 0, []⟩] (by kernel_rfl) ?_
  refine ns_move rfl rfl ?_
  refine ns_ldAB [.int .i64 x.key, .int .i64 x.val] ag_45 hs rfl rfl rfl (by rfl) (by rfl) (by decide) ?_
  refine ns_move rfl rfl ?_
  refine ns_move rfl rfl ?_
  refine ns_call (hkid h ty k xb x rfl hty hko.2.2 hbig hko.2.1 hkS) ck_87 (hs.foc (Tp c h k xb * Ctx c fl)) rfl rfl rfl rfl ?_
  intro v126 w hs
  unfold RemP at hs
  replace hs := hs.ex
  obtain ⟨k2, hs⟩ := hs
  replace hs := hs.pu
  obtain ⟨⟨rfl, q1, q2, q3, q4⟩, hs⟩ := hs
  simp only [mul_assoc'] at hs
  refine ns_ext rfl rfl rfl rfl ?_
  refine ns_ext rfl rfl rfl rfl ?_
  refine ns_stA (#[.int .i64 ((rmo ty (flat h k) x).getD zero).key, .int .i64 ((rmo ty (flat h k) x).getD zero).val]) ag_45 rfl (by decide) hs rfl rfl rfl rfl (by intro u hu; simp at hu; rcases hu with rfl | rfl <;> rfl) (by simp) ?_
  refine fun w hs => ⟨trivial, ?_⟩
  refine ns_asg rfl rfl ?_
  refine ns_done ?_
  refine WP_ret ?_
  have hload := run_loadVarA (P := Try.prog) (t := 45) (n := 2) (ad := ⟨b8, 0, none⟩) (vs := [.int .i64 ((rmo ty (flat h k) x).getD zero).key, .int .i64 ((rmo ty (flat h k) x).getD zero).val]) ag_45 rfl (by decide) w (St.cells (n := 2) hs (by rfl))
  have hki : plc ty t x < t.kids.length := (List.getElem?_eq_some_iff.1 hk).1
  obtain ⟨r1, r2⟩ := rm_down hO hS hmn hif7 hk
  have hs := hs.fold (set_fold (c := c) (h := h) (b := b) (i := plc ty t x) (xb := xb) (t := t) (bs := bs) t.its k2 hlen hki hxb)
  exact ⟨_, resCT 8 45 9 rfl hload, St.mk_ex (.mk t.its (t.kids.set (plc ty t x) k2)) (St.mk_pu ⟨(congrArg ans r1).symm, ok_set hO q1 (by omega) (by omega), by show t.its.length ≤ t.its.length + d; omega, Nat.le_refl _, r2 k2 q4⟩ hs.out)⟩
end Go.Proofs.Ytnnembkganlbpaa
