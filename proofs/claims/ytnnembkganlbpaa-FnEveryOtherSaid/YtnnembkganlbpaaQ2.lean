/- Part 2 of the ground on which the laws stand: W8 Tg W9 Tb W10 W11 W12 W13 Ro W14 W15 W16. -/
import Derived.Test.YtnnembkganlbpaaQ1
import Derived.Test.YtnnembkganlbpaaRn
import Derived.Test.YtnnembkganlbpaaTf
/- The walk of taking an item out of a tree, over what growing a kid does. -/
namespace Go.Proofs.Ytnnembkganlbpaa
open Go Go.Sl Go.Net Go.Wk Go.Bt Go.RowKit

/-- what taking out of the tree t leaves -/
def RemP (c fl mn mx h b : Nat) (t : Tr) (x : It) (ty d : Nat) (v : Value) : HProp := ex fun t2 : Tr =>
  pu (v = ans (rmo ty (flat h t) x) ∧ Ok mn mx h t2 ∧ t.its.length ≤ t2.its.length + d ∧ t2.its.length ≤ t.its.length ∧ flat h t2 = rml ty (flat h t) x) * (Tp c h t2 b * Ctx c fl)
theorem fou_spec {ty : Nat} {t : Tr} {x : It} (h : fou ty t x = true) : ty = 0 ∧ fnd t.its x.key = true := by
  unfold fou at h
  by_cases e : ty = 0
  · rw [if_pos e] at h; exact ⟨e, h⟩
  · rw [if_neg e] at h; cases h
set_option maxHeartbeats 3200000 in
theorem f87_step (c fl mn mx h b ty d : Nat) (x : It) (t : Tr) (hmn : 1 ≤ mn) (hm : mx < 10000) (hty : ty = 0 ∨ ty = 1 ∨ ty = 2) (hO : Ok mn mx h t) (hl : t.its.length ≤ mx) (hS : Srt (flat h t)) (hd : h = 0 → 1 ≤ t.its.length ∧ d = 1)
    (hkid : ∀ (h' ty' : Nat) (k : Tr) (xb : Nat) (x' : It), h = h' + 1 → (ty' = 0 ∨ ty' = 1 ∨ ty' = 2) → Ok mn mx h' k → mn < k.its.length → k.its.length ≤ mx → Srt (flat h' k) → Tri Try.prog 87 #[ptr xb, itV x', .int .i64 mn, .int .i64 ty'] (Tp c h' k xb * Ctx c fl) (RemP c fl mn mx h' xb k x' ty' 1))
    (hgrow : ∀ k : Tr, t.kids[plc ty t x]? = some k → k.its.length ≤ mn → Tri Try.prog 97 #[ptr b, .int .i64 (plc ty t x), itV x, .int .i64 mn, .int .i64 ty] (Tp c h t b * Ctx c fl) (RemP c fl mn mx h b t x ty d)) :
    Tri Try.prog 87 #[ptr b, itV x, .int .i64 mn, .int .i64 ty] (Tp c h t b * Ctx c fl) (RemP c fl mn mx h b t x ty d) := by
  have hSi := srt_its hO hS
  intro w0 F w hs
  simp only [mul_assoc'] at hs
  refine calls_WP 129 #[.cell 8 45, .tmp 9] Try.func87 rfl Try.ntmps87 rfl (Nat.le_of_ble_eq_true rfl) ?_
  refine WP_seq ?_
  -- R0
  refine WP_seqr [⟨0, 2, []⟩, ⟨1, 2, []⟩, ⟨2, 0, []⟩] (by kernel_rfl) ?_
  refine ns_box (#[.int .i64 x.key, .int .i64 x.val]) hs rfl rfl rfl rfl ?_
  intro b5 w hs
  refine ns_alloc zc_45 hs rfl rfl ?_
  intro b8 w hs
  refine ns_asg rfl rfl ?_
  refine ns_done ?_
  refine WP_seq ?_
  -- R1
  refine WP_seqr [⟨0, 0, []⟩] (by kernel_rfl) ?_
  refine ns_asg rfl rfl ?_
  refine ns_done ?_
  refine WP_seq ?_
  -- R2
  refine WP_seqr [⟨0, 0, []⟩] (by kernel_rfl) ?_
  refine ns_asg rfl rfl ?_
  refine ns_done ?_
  refine WP_seq_cut (fun σ w => σ 0 = ptr b ∧ σ 2 = .int .i64 mn ∧ σ 3 = .int .i64 ty ∧ σ 5 = .pointer (some ⟨b5, 0, none⟩) ∧ σ 8 = .pointer (some ⟨b8, 0, none⟩) ∧ σ 10 = .int .i64 (plc ty t x) ∧ σ 11 = .bool (fou ty t x) ∧ t.kids.length ≠ 0 ∧ St w0 (pts b5 (.cells #[.int .i64 x.key, .int .i64 x.val] 45 (0, 0)) * (pts b8 (.cells #[.int .i64 0, .int .i64 0] 45 (0, 0)) * (Tp c h t b * (Ctx c fl * F)))) w) ?_ ?_ -- S1
  · rcases hty with rfl | rfl | rfl
    · refine WP_seq ?_
      -- R3
      refine WP_seqr [⟨0, 0, []⟩] (by kernel_rfl) ?_
      refine ns_move rfl rfl ?_
      refine ns_done ?_
      refine WP_block ?_
      refine WP_seq ?_
      -- R5
      refine WP_seqr [⟨0, 0, []⟩, ⟨1, 0, []⟩] (by kernel_rfl) ?_
      refine ns_cmp false rfl rfl rfl rfl rfl ?_
      refine ns_asg rfl rfl ?_
      refine ns_done ?_
      refine WP_false rfl ?_ -- if1
      refine WP_seq ?_
      -- R9
      refine WP_seqr [⟨0, 0, []⟩, ⟨1, 0, []⟩] (by kernel_rfl) ?_
      refine ns_cmp false rfl rfl rfl rfl rfl ?_
      refine ns_asg rfl rfl ?_
      refine ns_done ?_
      refine WP_false rfl ?_ -- if2
      refine WP_seq ?_
      -- R13
      refine WP_seqr [⟨0, 0, []⟩, ⟨1, 0, []⟩] (by kernel_rfl) ?_
      refine ns_cmp true rfl rfl rfl rfl rfl ?_
      refine ns_asg rfl rfl ?_
      refine ns_done ?_
      refine WP_true rfl ?_ -- if3
      refine WP_seq ?_
      obtain ⟨bs, hlen, hs⟩ := St.tree (hs.foc (Tp c h t b))
      obtain ⟨⟨v1, v2⟩, hs⟩ := hs.ex
      simp only [mul_assoc'] at hs
      obtain ⟨a1, c1, rfl, hc1, hcm1⟩ := (hs.foc (IArr v1 t.its)).arr_form
      obtain ⟨a2, c2, rfl, hc2, hcm2⟩ := (hs.foc (PArr v2 bs)).arr_form
      unfold Ctx CowP at hs
      simp only [mul_assoc'] at hs
      -- R14
      refine WP_net hs mix [0, 1, 3, 7, 0, 0, 32, 96, 224, 480, 992, 2016, 4095, 8191, 16383, 16383, 32767, 131071] [⟨0, 0, []⟩, ⟨1, 0, []⟩, ⟨2, 0, []⟩, ⟨3, 1, []⟩, ⟨4, 1, []⟩, ⟨5, 0, []⟩, ⟨6, 0, []⟩, ⟨7, 0, []⟩, ⟨8, 1, []⟩, ⟨9, 0, []⟩, ⟨10, 0, []⟩, ⟨11, 1, []⟩, ⟨12, 2, []⟩, ⟨13, 0, []⟩, ⟨14, 0, []⟩, ⟨15, 0, []⟩, ⟨16, 0, []⟩, ⟨17, 0, []⟩] (by kernel_rfl) ?_
      intro w hs
      refine ns_move rfl rfl ?_
      refine ns_nil rfl rfl rfl ?_
      refine ns_fld fo_103_0 rfl rfl rfl ?_
      refine ns_ldB pl_100 hs rfl rfl rfl (by rfl) ?_
      refine ns_ldAB [.int .i64 x.key, .int .i64 x.val] ag_45 hs rfl rfl rfl (by rfl) (by rfl) (by decide) ?_
      refine ns_move rfl rfl ?_
      refine ns_nil rfl rfl rfl ?_
      refine ns_fld fo_103_2 rfl rfl rfl ?_
      refine ns_ldB pl_82 hs rfl rfl rfl (by rfl) ?_
      refine ns_nil rfl rfl rfl ?_
      refine ns_fld fo_84_1 rfl rfl rfl ?_
      refine ns_ldB pl_69 hs rfl rfl rfl (by rfl) ?_
      refine ns_call (f83_ok (.slice a1 t.its.length c1) t.its x hSi (by omega)) ck_83 (hs.foc (IArr (.slice a1 t.its.length c1) t.its)) rfl rfl rfl rfl ?_
      intro v61 w hs
      replace hs := hs.pu
      obtain ⟨rfl, hs⟩ := hs
      refine ns_move rfl rfl ?_
      refine ns_ext rfl rfl rfl rfl ?_
      refine ns_ext rfl rfl rfl rfl ?_
      refine ns_asg rfl rfl ?_
      refine ns_asg rfl rfl ?_
      refine ns_done ?_
      refine WP_seq ?_
      have hs := hs.fold (ctx_fold c fl)
      -- R15
      refine WP_seqr [⟨0, 0, []⟩, ⟨1, 0, []⟩, ⟨2, 0, []⟩, ⟨3, 1, []⟩, ⟨4, 0, []⟩, ⟨5, 0, []⟩] (by kernel_rfl) ?_
      refine ns_move rfl rfl ?_
      refine ns_nil rfl rfl rfl ?_
      refine ns_fld fo_103_1 rfl rfl rfl ?_
      refine ns_ldB pl_101 hs rfl rfl rfl (by rfl) ?_
      refine ns_len sl_101 rfl rfl rfl ?_
      refine ns_cmp _ rfl rfl rfl rfl rfl ?_
      refine ns_done ?_
      refine WP_if rfl (fun hif4 => ?_) (fun hif4 => ?_)
      · refine WP_seq ?_ -- S2
        refine WP_seq ?_
        -- R16
        refine WP_seqr [⟨0, 0, []⟩] (by kernel_rfl) ?_
        refine ns_move rfl rfl ?_
        refine ns_done ?_
        refine WP_if rfl (fun hif5 => ?_) (fun hif5 => ?_)
        · refine WP_seq ?_
          have hb0 : t.kids.length = 0 := by rw [← hlen]; simpa using hif4
          obtain rfl := kids_zero hO hb0
          have hd1 := hd rfl
          obtain ⟨y, hy, hyk⟩ := fnd_at hif5
          have hlt : lb t.its x.key < t.its.length := (List.getElem?_eq_some_iff.1 hy).1
          have hs := hs.fold (node_fold c b (.slice a1 t.its.length c1) (.slice a2 bs.length c2) t.its bs)
          -- R17
          refine WP_seqr [⟨0, 0, []⟩, ⟨1, 0, []⟩, ⟨2, 0, []⟩, ⟨3, 0, []⟩, ⟨4, 2, []⟩, ⟨5, 2, []⟩, ⟨6, 0, []⟩] (by kernel_rfl) ?_
          refine ns_move rfl rfl ?_
          refine ns_nil rfl rfl rfl ?_
          refine ns_fld fo_103_0 rfl rfl rfl ?_
          refine ns_move rfl rfl ?_
          refine ns_call (f96_ok c b (lb t.its x.key) y t.its bs hy) ck_96 (hs.foc (NodeP c b t.its bs)) rfl rfl rfl rfl ?_
          intro v75 w hs
          replace hs := hs.pu
          obtain ⟨rfl, hs⟩ := hs
          refine ns_stA (#[.int .i64 y.key, .int .i64 y.val]) ag_45 rfl (by decide) hs rfl rfl rfl rfl (by intro u hu; simp at hu; rcases hu with rfl | rfl <;> rfl) (by simp) ?_
          refine fun w hs => ⟨trivial, ?_⟩
          refine ns_asg rfl rfl ?_
          refine ns_done ?_
          refine WP_ret ?_
          have hload := run_loadVarA (P := Try.prog) (t := 45) (n := 2) (ad := ⟨b8, 0, none⟩) (vs := [.int .i64 y.key, .int .i64 y.val]) ag_45 rfl (by decide) w (St.cells (n := 2) hs (by rfl))
          have hs := hs.fold (tree_fold (c := c) (h := 0) (b := b) (its := t.its.eraseIdx (lb t.its x.key)) (kids := t.kids) hlen)
          have hg : rmo 0 (flat 0 t) x = some y := get_found hO hS hy hyk
          have hr : flat 0 (.mk (t.its.eraseIdx (lb t.its x.key)) t.kids) = rml 0 (flat 0 t) x := ((rm_leaf hSi).1 hif5).symm
          have hll : (t.its.eraseIdx (lb t.its x.key)).length = t.its.length - 1 := by rw [List.length_eraseIdx, if_pos hlt]
          exact ⟨_, resCT 8 45 9 rfl hload, St.mk_ex (.mk (t.its.eraseIdx (lb t.its x.key)) t.kids) (St.mk_pu ⟨(congrArg ans hg).symm, hO, by show _ ≤ (t.its.eraseIdx (lb t.its x.key)).length + d; omega, by show (t.its.eraseIdx (lb t.its x.key)).length ≤ _; omega, hr⟩ hs.out)⟩
        refine WP_skip ?_
        refine WP_ret ?_
        have hb0 : t.kids.length = 0 := by rw [← hlen]; simpa using hif4
        obtain rfl := kids_zero hO hb0
        have hd1 := hd rfl
        have hload := run_loadVarA (P := Try.prog) (t := 45) (n := 2) (ad := ⟨b8, 0, none⟩) (vs := [.int .i64 zero.key, .int .i64 zero.val]) ag_45 rfl (by decide) w (St.cells (n := 2) hs (by rfl))
        have hs := hs.fold (node_fold c b (.slice a1 t.its.length c1) (.slice a2 bs.length c2) t.its bs)
        have hs := hs.fold (tree_fold (c := c) (h := 0) (b := b) (its := t.its) (kids := t.kids) hlen)
        rw [Tr.eta] at hs
        have hg : rmo 0 (flat 0 t) x = none := get_leaf hSi hif5
        have hr : flat 0 t = rml 0 (flat 0 t) x := ((rm_leaf hSi).2 hif5).symm
        exact ⟨_, resCT 8 45 9 rfl hload, St.mk_ex t (St.mk_pu ⟨(congrArg ans hg).symm, hO, by omega, by omega, hr⟩ hs.out)⟩
      refine WP_skip ?_
      have hb0 : t.kids.length ≠ 0 := by intro e; rw [← hlen] at e; simp [e] at hif4
      have hs := hs.fold (node_fold c b (.slice a1 t.its.length c1) (.slice a2 bs.length c2) t.its bs)
      have hs := hs.fold (tree_fold (c := c) (h := h) (b := b) (its := t.its) (kids := t.kids) hlen)
      rw [Tr.eta] at hs
      exact ⟨rfl, rfl, rfl, rfl, rfl, rfl, rfl, hb0, hs.out⟩
    · refine WP_seq ?_
      -- R3
      refine WP_seqr [⟨0, 0, []⟩] (by kernel_rfl) ?_
      refine ns_move rfl rfl ?_
      refine ns_done ?_
      refine WP_block ?_
      refine WP_seq ?_
      -- R5
      refine WP_seqr [⟨0, 0, []⟩, ⟨1, 0, []⟩] (by kernel_rfl) ?_
      refine ns_cmp false rfl rfl rfl rfl rfl ?_
      refine ns_asg rfl rfl ?_
      refine ns_done ?_
      refine WP_false rfl ?_ -- if1
      refine WP_seq ?_
      -- R9
      refine WP_seqr [⟨0, 0, []⟩, ⟨1, 0, []⟩] (by kernel_rfl) ?_
      refine ns_cmp true rfl rfl rfl rfl rfl ?_
      refine ns_asg rfl rfl ?_
      refine ns_done ?_
      refine WP_true rfl ?_ -- if2
      refine WP_seq ?_ -- S2
      refine WP_seq ?_
      obtain ⟨bs, hlen, hs⟩ := St.tree (hs.foc (Tp c h t b))
      obtain ⟨⟨v1, v2⟩, hs⟩ := hs.ex
      simp only [mul_assoc'] at hs
      obtain ⟨a1, c1, rfl, hc1, hcm1⟩ := (hs.foc (IArr v1 t.its)).arr_form
      obtain ⟨a2, c2, rfl, hc2, hcm2⟩ := (hs.foc (PArr v2 bs)).arr_form
      -- R10
      refine WP_seqr [⟨0, 0, []⟩, ⟨1, 0, []⟩, ⟨2, 0, []⟩, ⟨3, 1, []⟩, ⟨4, 0, []⟩, ⟨5, 0, []⟩] (by kernel_rfl) ?_
      refine ns_move rfl rfl ?_
      refine ns_nil rfl rfl rfl ?_
      refine ns_fld fo_103_1 rfl rfl rfl ?_
      refine ns_ldB pl_101 hs rfl rfl rfl (by rfl) ?_
      refine ns_len sl_101 rfl rfl rfl ?_
      refine ns_cmp _ rfl rfl rfl rfl rfl ?_
      refine ns_done ?_
      refine WP_if rfl (fun hif3 => ?_) (fun hif3 => ?_)
      · refine WP_seq ?_
        have hb0 : t.kids.length = 0 := by rw [← hlen]; simpa using hif3
        obtain rfl := kids_zero hO hb0
        have hd1 := hd rfl
        obtain ⟨z, l, e⟩ : ∃ z l, t.its = z :: l := by
          cases hh : t.its with
          | nil => rw [hh] at hd1; simp at hd1
          | cons z l => exact ⟨z, l, rfl⟩
        have hs := hs.fold (node_fold c b (.slice a1 t.its.length c1) (.slice a2 bs.length c2) t.its bs)
        -- R11
        refine WP_seqr [⟨0, 0, []⟩, ⟨1, 0, []⟩, ⟨2, 0, []⟩, ⟨3, 2, []⟩, ⟨4, 2, []⟩, ⟨5, 0, []⟩] (by kernel_rfl) ?_
        refine ns_move rfl rfl ?_
        refine ns_nil rfl rfl rfl ?_
        refine ns_fld fo_103_0 rfl rfl rfl ?_
        refine ns_call (f96_ok c b 0 z t.its bs (by rw [e]; rfl)) ck_96 (hs.foc (NodeP c b t.its bs)) rfl rfl rfl rfl ?_
        intro v45 w hs
        replace hs := hs.pu
        obtain ⟨rfl, hs⟩ := hs
        refine ns_stA (#[.int .i64 z.key, .int .i64 z.val]) ag_45 rfl (by decide) hs rfl rfl rfl rfl (by intro u hu; simp at hu; rcases hu with rfl | rfl <;> rfl) (by simp) ?_
        refine fun w hs => ⟨trivial, ?_⟩
        refine ns_asg rfl rfl ?_
        refine ns_done ?_
        refine WP_ret ?_
        have hload := run_loadVarA (P := Try.prog) (t := 45) (n := 2) (ad := ⟨b8, 0, none⟩) (vs := [.int .i64 z.key, .int .i64 z.val]) ag_45 rfl (by decide) w (St.cells (n := 2) hs (by rfl))
        have hs := hs.fold (tree_fold (c := c) (h := 0) (b := b) (its := t.its.eraseIdx 0) (kids := t.kids) hlen)
        have hg : rmo 1 (flat 0 t) x = some z := by show t.its.head? = some z; rw [e]; rfl
        have hr : flat 0 (.mk (t.its.eraseIdx 0) t.kids) = rml 1 (flat 0 t) x := by show t.its.eraseIdx 0 = t.its.tail; rw [e]; rfl
        have hll : t.its.length = (t.its.eraseIdx 0).length + 1 := by rw [e]; rfl
        exact ⟨_, resCT 8 45 9 rfl hload, St.mk_ex (.mk (t.its.eraseIdx 0) t.kids) (St.mk_pu ⟨(congrArg ans hg).symm, hO, by show _ ≤ (t.its.eraseIdx 0).length + d; omega, by show (t.its.eraseIdx 0).length ≤ _; omega, hr⟩ hs.out)⟩
      refine WP_skip ?_
      have hb0 : t.kids.length ≠ 0 := by intro e; rw [← hlen] at e; simp [e] at hif3
      -- R12
      refine WP_seqr [⟨0, 0, []⟩] (by kernel_rfl) ?_
      refine ns_asg rfl rfl ?_
      refine ns_done ?_
      have hs := hs.fold (node_fold c b (.slice a1 t.its.length c1) (.slice a2 bs.length c2) t.its bs)
      have hs := hs.fold (tree_fold (c := c) (h := h) (b := b) (its := t.its) (kids := t.kids) hlen)
      rw [Tr.eta] at hs
      exact ⟨rfl, rfl, rfl, rfl, rfl, rfl, rfl, hb0, hs.out⟩
    · refine WP_seq ?_
      -- R3
      refine WP_seqr [⟨0, 0, []⟩] (by kernel_rfl) ?_
      refine ns_move rfl rfl ?_
      refine ns_done ?_
      refine WP_block ?_
      refine WP_seq ?_
      -- R5
      refine WP_seqr [⟨0, 0, []⟩, ⟨1, 0, []⟩] (by kernel_rfl) ?_
      refine ns_cmp true rfl rfl rfl rfl rfl ?_
      refine ns_asg rfl rfl ?_
      refine ns_done ?_
      refine WP_true rfl ?_ -- if1
      refine WP_seq ?_ -- S2
      refine WP_seq ?_
      obtain ⟨bs, hlen, hs⟩ := St.tree (hs.foc (Tp c h t b))
      obtain ⟨⟨v1, v2⟩, hs⟩ := hs.ex
      simp only [mul_assoc'] at hs
      obtain ⟨a1, c1, rfl, hc1, hcm1⟩ := (hs.foc (IArr v1 t.its)).arr_form
      obtain ⟨a2, c2, rfl, hc2, hcm2⟩ := (hs.foc (PArr v2 bs)).arr_form
      -- R6
      refine WP_seqr [⟨0, 0, []⟩, ⟨1, 0, []⟩, ⟨2, 0, []⟩, ⟨3, 1, []⟩, ⟨4, 0, []⟩, ⟨5, 0, []⟩] (by kernel_rfl) ?_
      refine ns_move rfl rfl ?_
      refine ns_nil rfl rfl rfl ?_
      refine ns_fld fo_103_1 rfl rfl rfl ?_
      refine ns_ldB pl_101 hs rfl rfl rfl (by rfl) ?_
      refine ns_len sl_101 rfl rfl rfl ?_
      refine ns_cmp _ rfl rfl rfl rfl rfl ?_
      refine ns_done ?_
      refine WP_if rfl (fun hif2 => ?_) (fun hif2 => ?_)
      · refine WP_seq ?_
        have hb0 : t.kids.length = 0 := by rw [← hlen]; simpa using hif2
        obtain rfl := kids_zero hO hb0
        have hd1 := hd rfl
        obtain ⟨l, z, e⟩ : ∃ l z, t.its = l ++ [z] := ⟨t.its.dropLast, t.its.getLast (ne_of_len (by omega)), (List.dropLast_concat_getLast _).symm⟩
        have hs := hs.fold (node_fold c b (.slice a1 t.its.length c1) (.slice a2 bs.length c2) t.its bs)
        rw [e] at hs
        -- R7
        refine WP_seqr [⟨0, 0, []⟩, ⟨1, 0, []⟩, ⟨2, 0, []⟩, ⟨3, 2, []⟩, ⟨4, 2, []⟩, ⟨5, 0, []⟩] (by kernel_rfl) ?_
        refine ns_move rfl rfl ?_
        refine ns_nil rfl rfl rfl ?_
        refine ns_fld fo_103_0 rfl rfl rfl ?_
        refine ns_call (f95_ok c b z l bs) ck_95 (hs.foc (NodeP c b (l ++ [z]) bs)) rfl rfl rfl rfl ?_
        intro v28 w hs
        replace hs := hs.pu
        obtain ⟨rfl, hs⟩ := hs
        refine ns_stA (#[.int .i64 z.key, .int .i64 z.val]) ag_45 rfl (by decide) hs rfl rfl rfl rfl (by intro u hu; simp at hu; rcases hu with rfl | rfl <;> rfl) (by simp) ?_
        refine fun w hs => ⟨trivial, ?_⟩
        refine ns_asg rfl rfl ?_
        refine ns_done ?_
        refine WP_ret ?_
        have hload := run_loadVarA (P := Try.prog) (t := 45) (n := 2) (ad := ⟨b8, 0, none⟩) (vs := [.int .i64 z.key, .int .i64 z.val]) ag_45 rfl (by decide) w (St.cells (n := 2) hs (by rfl))
        have hs := hs.fold (tree_fold (c := c) (h := 0) (b := b) (its := l) (kids := t.kids) hlen)
        have hg : rmo 2 (flat 0 t) x = some z := by show t.its.getLast? = some z; rw [e]; simp
        have hr : flat 0 (.mk l t.kids) = rml 2 (flat 0 t) x := by show l = t.its.dropLast; rw [e]; simp
        have hll : t.its.length = l.length + 1 := by rw [e]; simp
        exact ⟨_, resCT 8 45 9 rfl hload, St.mk_ex (.mk l t.kids) (St.mk_pu ⟨(congrArg ans hg).symm, hO, by show _ ≤ l.length + d; omega, by show l.length ≤ _; omega, hr⟩ hs.out)⟩
      refine WP_skip ?_
      have hb0 : t.kids.length ≠ 0 := by intro e; rw [← hlen] at e; simp [e] at hif2
      -- R8
      refine WP_seqr [⟨0, 0, []⟩, ⟨1, 0, []⟩, ⟨2, 0, []⟩, ⟨3, 1, []⟩, ⟨4, 0, []⟩, ⟨5, 0, []⟩] (by kernel_rfl) ?_
      refine ns_move rfl rfl ?_
      refine ns_nil rfl rfl rfl ?_
      refine ns_fld fo_103_0 rfl rfl rfl ?_
      refine ns_ldB pl_100 hs rfl rfl rfl (by rfl) ?_
      refine ns_len sl_100 rfl rfl rfl ?_
      refine ns_asg rfl rfl ?_
      refine ns_done ?_
      have hs := hs.fold (node_fold c b (.slice a1 t.its.length c1) (.slice a2 bs.length c2) t.its bs)
      have hs := hs.fold (tree_fold (c := c) (h := h) (b := b) (its := t.its) (kids := t.kids) hlen)
      rw [Tr.eta] at hs
      exact ⟨rfl, rfl, rfl, rfl, rfl, rfl, rfl, hb0, hs.out⟩
  rintro σ w ⟨g0, g2, g3, g5, g8, g10, g11, hb0, hs⟩
  obtain ⟨σ, rfl⟩ := rebase g0
  obtain ⟨σ, rfl⟩ := rebase (σ := σ) g2
  obtain ⟨σ, rfl⟩ := rebase (σ := σ) g3
  obtain ⟨σ, rfl⟩ := rebase (σ := σ) g5
  obtain ⟨σ, rfl⟩ := rebase (σ := σ) g8
  obtain ⟨σ, rfl⟩ := rebase (σ := σ) g10
  obtain ⟨σ, rfl⟩ := rebase (σ := σ) g11
  clear g0 g2 g3 g5 g8 g10 g11
  obtain ⟨h, rfl⟩ : ∃ h', h = h' + 1 := by
    cases h with
    | zero => rw [show t.kids = [] from hO] at hb0; exact absurd rfl hb0
    | succ h => exact ⟨h, rfl⟩
  have hkl := kids_len hO hb0
  have hle := plc_le ty t x
  obtain ⟨k, hk⟩ : ∃ k, t.kids[plc ty t x]? = some k := ⟨t.kids[plc ty t x]'(by omega), List.getElem?_eq_getElem (by omega)⟩
  have hko := kid_ok hO hk
  have hkS : Srt (flat h k) := kid_srt hO hS hk
  obtain ⟨bs, hlen, hs⟩ := St.tree (hs.foc (Tp c (h + 1) t b))
  obtain ⟨xb, hxb⟩ : ∃ xb, bs[plc ty t x]? = some xb := ⟨bs[plc ty t x]'(by omega), List.getElem?_eq_getElem (by omega)⟩
  rw [Ks_at hk hxb] at hs
  simp only [mul_assoc'] at hs
  obtain ⟨bs1, hlen1, hs⟩ := St.tree (hs.foc (Tq c (h + 1) k xb))
  obtain ⟨⟨v1, v2⟩, hs⟩ := (hs.foc (NodeP c b (t.its) (bs))).ex
  simp only [mul_assoc'] at hs
  obtain ⟨_, hz, _⟩ | ⟨g, cap, cur, hv, hc, hcm, hsz, htk, hs⟩ := (hs.foc (PArr (v2) (bs))).arr
  · omega
  cases hv
  obtain ⟨⟨u1, u2⟩, hs⟩ := (hs.foc (NodeP c xb (k.its) (bs1))).ex
  simp only [mul_assoc'] at hs
  obtain ⟨a3, c3, rfl, hc3, hcm3⟩ := (hs.foc (IArr u1 k.its)).arr_form
  refine WP_seq ?_ -- S3
  refine WP_seq ?_
  -- R18
  refine WP_seqr [⟨0, 0, []⟩, ⟨1, 0, []⟩, ⟨2, 0, []⟩, ⟨3, 1, []⟩, ⟨4, 0, []⟩, ⟨5, 0, []⟩, ⟨6, 1, []⟩, ⟨7, 0, []⟩, ⟨8, 0, []⟩, ⟨9, 1, []⟩, ⟨10, 0, []⟩, ⟨11, 0, []⟩, ⟨12, 0, []⟩] (by kernel_rfl) ?_
  refine ns_move rfl rfl ?_
  refine ns_nil rfl rfl rfl ?_
  refine ns_fld fo_103_1 rfl rfl rfl ?_
  refine ns_ldB pl_101 hs rfl rfl rfl (by rfl) ?_
  refine ns_move rfl rfl ?_
  refine ns_idx (plc ty t x) sl_101 rfl rfl rfl rfl rfl (by omega) ?_
  refine ns_ld pl_85 rfl rfl rfl (ptr_cell hs htk _ hxb) ?_
  refine ns_nil rfl rfl rfl ?_
  refine ns_fld fo_103_0 rfl rfl rfl ?_
  refine ns_ldB pl_100 hs rfl rfl rfl (by rfl) ?_
  refine ns_len sl_100 rfl rfl rfl ?_
  refine ns_move rfl rfl ?_
  refine ns_cmp _ rfl rfl rfl rfl rfl ?_
  refine ns_done ?_
  have hs := (hs.foc (pts g (.cells cur 85 (0, 0)))).mk_arr' hc hcm hsz htk
  have hs := hs.fold (node_fold c xb (.slice a3 k.its.length c3) u2 k.its bs1)
  have hs := hs.fold (node_fold c b v1 (.slice (some ⟨g, 0, none⟩) bs.length cap) t.its bs)
  refine WP_if rfl (fun hif6 => ?_) (fun hif6 => ?_)
  · refine WP_seq ?_
    have hsm : k.its.length ≤ mn := by have := of_decide_eq_true hif6; omega
    have hs := hs.fold (tree_fold (c := c) (h := h) (b := xb) (its := k.its) (kids := k.kids) hlen1)
    rw [Tr.eta, show Tp c h k xb = Tq c (h + 1) k xb from rfl] at hs
    have hs := hs.fold (Ent.of_eq (Ks_at (c := c) (h := h + 1) hk hxb).symm)
    have hs := hs.fold (tree_fold (c := c) (h := h + 1) (b := b) (its := t.its) (kids := t.kids) hlen)
    rw [Tr.eta] at hs
    -- R19
    refine WP_seqr [⟨0, 0, []⟩, ⟨1, 0, []⟩, ⟨2, 1, []⟩, ⟨3, 0, []⟩, ⟨4, 0, []⟩, ⟨5, 2, []⟩, ⟨6, 0, []⟩, ⟨7, 0, []⟩, ⟨8, 2, []⟩, ⟨9, 0, []⟩] (by kernel_rfl) ?_
    refine ns_move rfl rfl ?_
    refine ns_move rfl rfl ?_
    refine ns_ldAB [.int .i64 x.key, .int .i64 x.val] ag_45 hs rfl rfl rfl (by rfl) (by rfl) (by decide) ?_
    refine ns_move rfl rfl ?_
    refine ns_move rfl rfl ?_
    refine ns_call (hgrow k hk hsm) ck_97 (hs.foc (Tp c (h + 1) t b * Ctx c fl)) rfl rfl rfl rfl ?_
    intro v94 w hs
    unfold RemP at hs
    replace hs := hs.ex
    obtain ⟨t2, hs⟩ := hs
    replace hs := hs.pu
    obtain ⟨⟨rfl, q1, q2, q3, q4⟩, hs⟩ := hs
    simp only [mul_assoc'] at hs
    refine ns_ext rfl rfl rfl rfl ?_
    refine ns_ext rfl rfl rfl rfl ?_
    refine ns_stA (#[.int .i64 ((rmo ty (flat (h + 1) t) x).getD zero).key, .int .i64 ((rmo ty (flat (h + 1) t) x).getD zero).val]) ag_45 rfl (by decide) hs rfl rfl rfl rfl (by intro u hu; simp at hu; rcases hu with rfl | rfl <;> rfl) (by simp) ?_
    refine fun w hs => ⟨trivial, ?_⟩
    refine ns_asg rfl rfl ?_
    refine ns_done ?_
    refine WP_ret ?_
    have hload := run_loadVarA (P := Try.prog) (t := 45) (n := 2) (ad := ⟨b8, 0, none⟩) (vs := [.int .i64 ((rmo ty (flat (h + 1) t) x).getD zero).key, .int .i64 ((rmo ty (flat (h + 1) t) x).getD zero).val]) ag_45 rfl (by decide) w (St.cells (n := 2) hs (by rfl))
    exact ⟨_, resCT 8 45 9 rfl hload, St.mk_ex t2 (St.mk_pu ⟨rfl, q1, q2, q3, q4⟩ hs.out)⟩
  refine WP_skip ?_
  have hbig : mn < k.its.length := by have := of_decide_eq_false hif6; omega
  refine WP_seq ?_
  -- R20
  refine WP_seqr [⟨0, 0, []⟩, ⟨1, 0, []⟩, ⟨2, 2, []⟩, ⟨3, 0, []⟩] (by kernel_rfl) ?_
  refine ns_move rfl rfl ?_
  refine ns_move rfl rfl ?_
  refine ns_call (f86_ok c b (plc ty t x) xb t.its k.its bs bs1 hxb) ck_86 (hs.foc (NodeP c b t.its bs * NodeP c xb k.its bs1)) rfl rfl rfl rfl ?_
  intro v99 w hs
  replace hs := hs.pu
  obtain ⟨rfl, hs⟩ := hs
  simp only [mul_assoc'] at hs
  have hs := hs.fold (tree_fold (c := c) (h := h) (b := xb) (its := k.its) (kids := k.kids) hlen1)
  rw [Tr.eta] at hs
  refine ns_asg rfl rfl ?_
  refine ns_done ?_
  refine WP_seq ?_ -- S4
  refine WP_seq ?_
  -- R21
  refine WP_seqr [⟨0, 0, []⟩] (by kernel_rfl) ?_
  refine ns_move rfl rfl ?_
  refine ns_done ?_
  refine WP_if rfl (fun hif7 => ?_) (fun hif7 => ?_)
  · refine WP_seq ?_
    obtain ⟨rfl, hf⟩ := fou_spec hif7
    obtain ⟨y, hy, hyk⟩ := fnd_at hf
    have hlt : lb t.its x.key < t.its.length := (List.getElem?_eq_some_iff.1 hy).1
    have hki : plc 0 t x < t.kids.length := (List.getElem?_eq_some_iff.1 hk).1
    obtain ⟨z, hz⟩ : ∃ z, (flat h k).getLast? = some z := by
      cases hh : (flat h k).getLast? with
      | none => exact absurd (List.getLast?_eq_none_iff.1 hh) (kid_ne hO hmn hk)
      | some z => exact ⟨z, rfl⟩
    obtain ⟨⟨p1, p2⟩, hs⟩ := (hs.foc (NodeP c b (t.its) (bs))).ex
    simp only [mul_assoc'] at hs
    obtain ⟨_, hz4, _⟩ | ⟨g4, cap4, cur4, hv4, hc4, hcm4, hsz4, htk4, hs⟩ := (hs.foc (IArr (p1) (t.its))).arr
    · omega
    cases hv4
    -- R22
    refine WP_seqr [⟨0, 0, []⟩, ⟨1, 0, []⟩, ⟨2, 0, []⟩, ⟨3, 1, []⟩, ⟨4, 0, []⟩, ⟨5, 0, []⟩, ⟨6, 1, []⟩, ⟨7, 2, []⟩, ⟨8, 2, []⟩] (by kernel_rfl) ?_
    refine ns_move rfl rfl ?_
    refine ns_nil rfl rfl rfl ?_
    refine ns_fld fo_103_0 rfl rfl rfl ?_
    refine ns_ldB pl_100 hs rfl rfl rfl (by rfl) ?_
    refine ns_move rfl rfl ?_
    refine ns_idx (lb t.its x.key) sl_100 rfl rfl rfl rfl rfl hlt ?_
    refine ns_ldA [.int .i64 y.key, .int .i64 y.val] ag_45 rfl rfl rfl rfl (by decide) (it_cells hs htk4 _ hy) ?_
    refine ns_alloc zc_45 hs rfl rfl ?_
    intro b13 w hs
    refine ns_stA (#[.int .i64 y.key, .int .i64 y.val]) ag_45 rfl (by decide) hs rfl rfl rfl rfl (by intro u hu; simp at hu; rcases hu with rfl | rfl <;> rfl) (by simp) ?_
    refine fun w hs => ⟨trivial, ?_⟩
    refine ns_done ?_
    refine WP_seq ?_
    -- R23
    refine WP_seqr [⟨0, 2, []⟩] (by kernel_rfl) ?_
    refine ns_alloc zc_45 hs rfl rfl ?_
    intro b14 w hs
    refine ns_done ?_
    refine WP_seq ?_
    -- R24
    refine WP_net hs mix [0, 1, 3, 7, 0, 0, 0, 0, 224, 480, 992, 992, 2047, 6143] [⟨0, 0, []⟩, ⟨1, 0, []⟩, ⟨2, 0, []⟩, ⟨3, 1, []⟩, ⟨4, 0, []⟩, ⟨5, 0, []⟩, ⟨6, 1, []⟩, ⟨7, 0, []⟩, ⟨8, 2, [3]⟩, ⟨9, 0, []⟩, ⟨10, 0, []⟩, ⟨11, 0, []⟩, ⟨12, 0, []⟩, ⟨13, 2, []⟩] (by kernel_rfl) ?_
    intro w hs
    refine ns_move rfl rfl ?_
    refine ns_nil rfl rfl rfl ?_
    refine ns_fld fo_103_0 rfl rfl rfl ?_
    refine ns_ldB pl_100 hs rfl rfl rfl (by rfl) ?_
    refine ns_move rfl rfl ?_
    refine ns_move rfl rfl ?_
    refine ns_ldAB [.int .i64 zero.key, .int .i64 zero.val] ag_45 hs rfl rfl rfl (by rfl) (by rfl) (by decide) ?_
    refine ns_move rfl rfl ?_
    refine ns_callK (hkid h 2 k xb zero rfl (.inr (.inr rfl)) hko.2.2 hbig hko.2.1 hkS) ck_87 (hs.foc (Tp c h k xb * Ctx c fl)) rfl rfl rfl rfl ?_
    refine fun v117 w hs => ⟨⟨hs.c b 0, trivial⟩, ?_⟩
    unfold RemP at hs
    replace hs := hs.ex
    obtain ⟨k2, hs⟩ := hs
    replace hs := hs.pu
    obtain ⟨⟨rfl, q1, q2, q3, q4⟩, hs⟩ := hs
    simp only [mul_assoc'] at hs
    refine ns_move rfl rfl ?_
    refine ns_ext rfl rfl rfl rfl ?_
    refine ns_ext rfl rfl rfl rfl ?_
    refine ns_idx (lb t.its x.key) sl_100 rfl rfl rfl rfl rfl hlt ?_
    refine ns_stA (#[.int .i64 z.key, .int .i64 z.val]) ag_45 rfl (by decide) hs rfl rfl rfl (congrArg itV (by rw [show rmo 2 (flat h k) zero = (flat h k).getLast? from rfl, hz]; rfl)) (by intro u hu; simp at hu; rcases hu with rfl | rfl <;> rfl) (by rw [hsz4]; omega) ?_
    refine fun w hs => ⟨trivial, ?_⟩
    rw [Nat.zero_add] at hs
    refine ns_done ?_
    refine WP_seq ?_
    -- R25
    refine WP_seqr [⟨0, 1, []⟩, ⟨1, 2, []⟩, ⟨2, 0, []⟩] (by kernel_rfl) ?_
    refine ns_ldAB _ ag_45 hs rfl rfl rfl (by rfl) (by rfl) (by decide) ?_
    refine ns_stA (#[.int .i64 y.key, .int .i64 y.val]) ag_45 rfl (by decide) hs rfl rfl rfl rfl (by intro u hu; simp at hu; rcases hu with rfl | rfl <;> rfl) (by simp) ?_
    refine fun w hs => ⟨trivial, ?_⟩
    refine ns_asg rfl rfl ?_
    refine ns_done ?_
    refine WP_ret ?_
    have hload := run_loadVarA (P := Try.prog) (t := 45) (n := 2) (ad := ⟨b8, 0, none⟩) (vs := [.int .i64 y.key, .int .i64 y.val]) ag_45 rfl (by decide) w (St.cells (n := 2) hs (by rfl))
    have hset := set_cells (i := lb t.its x.key) (c := enc z) hsz4 (encs_len t.its) rfl hc4 hlt htk4
    rw [← encs_set t.its (lb t.its x.key) z hlt] at hset
    have hs := (hs.foc (pts g4 (.cells (splice cur4 (lb t.its x.key * 2) #[.int .i64 z.key, .int .i64 z.val].toList) 45 (0, 0)))).mk_arr' (n := t.its.length) (cap := cap4) hc4 hcm4 (by rw [splice_size (by rw [hsz4]; simp; omega), hsz4]) hset
    have e : t.its.length = (t.its.set (lb t.its x.key) z).length := by rw [List.length_set]
    rw [e] at hs
    have hs := hs.fold (node_fold c b (.slice (some ⟨g4, 0, none⟩) (t.its.set (lb t.its x.key) z).length cap4) p2 (t.its.set (lb t.its x.key) z) bs)
    have hs := hs.fold (set_fold (c := c) (h := h) (b := b) (i := plc 0 t x) (xb := xb) (t := t) (bs := bs) (t.its.set (lb t.its x.key) z) k2 hlen hki hxb)
    have hg : rmo 0 (flat (h + 1) t) x = some y := get_found hO hS hy hyk
    have hr := rm_here hO hS hy hyk hk hz q4
    exact ⟨_, resCT 8 45 9 rfl hload, St.mk_ex (.mk (t.its.set (lb t.its x.key) z) (t.kids.set (plc 0 t x) k2)) (St.mk_pu ⟨(congrArg ans hg).symm, ok_setk hO q1 (by omega) (by omega) z _, by show _ ≤ (t.its.set (lb t.its x.key) z).length + d; omega, by show (t.its.set (lb t.its x.key) z).length ≤ _; omega, hr⟩ hs.out)⟩
  refine WP_skip ?_
  refine WP_seq ?_
  -- R26
  refine WP_seqr [⟨0, 0, []⟩, ⟨1, 1, []⟩, ⟨2, 0, []⟩, ⟨3, 0, []⟩, ⟨4, 2, []⟩, ⟨5, 0, []⟩, ⟨6, 0, []⟩, ⟨7, 2, []⟩, ⟨8, 0, []⟩] (by kernel_rfl) ?_
  refine ns_move rfl rfl ?_
  refine ns_ldAB [.int .i64 x.key, .int .i64 x.val] ag_45 hs rfl rfl rfl (by rfl) (by rfl) (by decide) ?_
  refine ns_move rfl rfl ?_
  refine ns_move rfl rfl ?_
  refine ns_call (hkid h ty k xb x rfl hty hko.2.2 hbig hko.2.1 hkS) ck_87 (hs.foc (Tp c h k xb * Ctx c fl)) rfl rfl rfl rfl ?_
  intro v126 w hs
  unfold RemP at hs
  replace hs := hs.ex
  obtain ⟨k2, hs⟩ := hs
  replace hs := hs.pu
  obtain ⟨⟨rfl, q1, q2, q3, q4⟩, hs⟩ := hs
  simp only [mul_assoc'] at hs
  refine ns_ext rfl rfl rfl rfl ?_
  refine ns_ext rfl rfl rfl rfl ?_
  refine ns_stA (#[.int .i64 ((rmo ty (flat h k) x).getD zero).key, .int .i64 ((rmo ty (flat h k) x).getD zero).val]) ag_45 rfl (by decide) hs rfl rfl rfl rfl (by intro u hu; simp at hu; rcases hu with rfl | rfl <;> rfl) (by simp) ?_
  refine fun w hs => ⟨trivial, ?_⟩
  refine ns_asg rfl rfl ?_
  refine ns_done ?_
  refine WP_ret ?_
  have hload := run_loadVarA (P := Try.prog) (t := 45) (n := 2) (ad := ⟨b8, 0, none⟩) (vs := [.int .i64 ((rmo ty (flat h k) x).getD zero).key, .int .i64 ((rmo ty (flat h k) x).getD zero).val]) ag_45 rfl (by decide) w (St.cells (n := 2) hs (by rfl))
  have hki : plc ty t x < t.kids.length := (List.getElem?_eq_some_iff.1 hk).1
  obtain ⟨r1, r2⟩ := rm_down hO hS hmn hif7 hk
  have hs := hs.fold (set_fold (c := c) (h := h) (b := b) (i := plc ty t x) (xb := xb) (t := t) (bs := bs) t.its k2 hlen hki hxb)
  exact ⟨_, resCT 8 45 9 rfl hload, St.mk_ex (.mk t.its (t.kids.set (plc ty t x) k2)) (St.mk_pu ⟨(congrArg ans r1).symm, ok_set hO q1 (by omega) (by omega), by show t.its.length ≤ t.its.length + d; omega, Nat.le_refl _, r2 k2 q4⟩ hs.out)⟩
end Go.Proofs.Ytnnembkganlbpaa
/- Two neighbouring kids in memory, and what giving, taking and joining make of them. -/
namespace Go.Proofs.Ytnnembkganlbpaa
open Go Go.Sl Go.Bt

section
variable {c h b p : Nat} {t L R L2 R2 : Tr} {bs bsL bsR : List Nat} {yb xb qb : Nat}
/-- the kids without the two -/
def Kr (c h : Nat) (kids : List Tr) (bs : List Nat) (p : Nat) : HProp := Ks c h ((kids.eraseIdx (p + 1)).eraseIdx p) ((bs.eraseIdx (p + 1)).eraseIdx p)
theorem Ks_pair {kids : List Tr} (hL : kids[p]? = some L) (hR : kids[p + 1]? = some R) (hy : bs[p]? = some yb) (hx : bs[p + 1]? = some xb) : Ks c h kids bs = Tq c h L yb * (Tq c h R xb * Kr c h kids bs p) := by
  rw [Ks_at hR hx, Ks_at (i := p) (k := L) (x := yb) (by rw [List.getElem?_eraseIdx_of_lt (Nat.lt_succ_self p)]; exact hL) (by rw [List.getElem?_eraseIdx_of_lt (Nat.lt_succ_self p)]; exact hy), mul_left_comm']
  rfl
theorem erase_set2 {α : Type} (l : List α) (p : Nat) (a b : α) : (((l.set p a).set (p + 1) b).eraseIdx (p + 1)).eraseIdx p = (l.eraseIdx (p + 1)).eraseIdx p := by
  induction l generalizing p with
  | nil => rfl
  | cons x l ih =>
    cases p with
    | zero => cases l <;> rfl
    | succ p => simp only [List.set_cons_succ, List.eraseIdx_cons_succ, ih]
theorem erase_set1 {α : Type} (l : List α) (p : Nat) (a : α) : ((l.set p a).eraseIdx (p + 1)).eraseIdx p = (l.eraseIdx (p + 1)).eraseIdx p := by
  induction l generalizing p with
  | nil => rfl
  | cons x l ih =>
    cases p with
    | zero => cases l <;> rfl
    | succ p => simp only [List.set_cons_succ, List.eraseIdx_cons_succ, ih]
theorem pair_fold (its1 : List It) (L2 R2 : Tr) (hlen : bs.length = t.kids.length) (hp : p + 1 < t.kids.length) (hy : bs[p]? = some yb) (hx : bs[p + 1]? = some xb) :
    Ent (NodeP c b its1 bs * (Tp c h L2 yb * (Tp c h R2 xb * Kr c (h + 1) t.kids bs p))) (Tp c (h + 1) (.mk its1 ((t.kids.set p L2).set (p + 1) R2)) b) := by
  have f := tree_fold (c := c) (h := h + 1) (b := b) (its := its1) (kids := (t.kids.set p L2).set (p + 1) R2) (bs := bs) (by rw [List.length_set, List.length_set, hlen])
  rw [Ks_pair (set_pair hp).1 (set_pair hp).2 hy hx] at f
  unfold Kr at f ⊢
  rw [erase_set2] at f
  exact f
theorem merge_fold (its1 : List It) (m : Tr) (hlen : bs.length = t.kids.length) (hp : p + 1 < t.kids.length) (hy : bs[p]? = some yb) :
    Ent (NodeP c b its1 (bs.eraseIdx (p + 1)) * (Tp c h m yb * Kr c (h + 1) t.kids bs p)) (Tp c (h + 1) (.mk its1 ((t.kids.set p m).eraseIdx (p + 1))) b) := by
  have f := tree_fold (c := c) (h := h + 1) (b := b) (its := its1) (kids := (t.kids.set p m).eraseIdx (p + 1)) (bs := bs.eraseIdx (p + 1)) (by rw [List.length_eraseIdx, List.length_eraseIdx, List.length_set, hlen])
  rw [Ks_at (i := p) (k := m) (x := yb) (by rw [List.getElem?_eraseIdx_of_lt (Nat.lt_succ_self p)]; rw [List.getElem?_set_self (by omega)]) (by rw [List.getElem?_eraseIdx_of_lt (Nat.lt_succ_self p)]; exact hy)] at f
  unfold Kr
  rw [erase_set1] at f
  exact f
theorem ks_none (hlen : bsL.length = L.kids.length) (h0 : bsL.length = 0) : L.kids = [] ∧ bsL = [] := ⟨List.eq_nil_of_length_eq_zero (by omega), List.eq_nil_of_length_eq_zero h0⟩
/-- the left one gave its last kid -/
theorem giveL_ks {bl : List Nat} (hlen : (bl ++ [qb]).length = L.kids.length) :
    Ks c h L.kids (bl ++ [qb]) * Ks c h R.kids bsR = Ks c h L.kids.dropLast bl * Ks c h (L.kids.getLast?.toList ++ R.kids) (qb :: bsR) := by
  obtain ⟨ks, q, e⟩ : ∃ ks q, L.kids = ks ++ [q] := ⟨L.kids.dropLast, L.kids.getLast (ne_of_len (by rw [← hlen]; simp)), (List.dropLast_concat_getLast _).symm⟩
  rw [e] at hlen ⊢
  have hl : ks.length = bl.length := by simp at hlen; omega
  have e1 : (ks ++ [q]).dropLast = ks := by simp
  have e2 : (ks ++ [q]).getLast?.toList = [q] := by simp
  rw [e1, e2, Ks_append hl]
  show Ks c h ks bl * (Tq c h q qb * 1) * Ks c h R.kids bsR = Ks c h ks bl * (Tq c h q qb * Ks c h R.kids bsR)
  rw [mul_one', mul_assoc']
/-- the right one gave its first kid -/
theorem giveR_ks {br : List Nat} (hlenL : bsL.length = L.kids.length) (hlen : (qb :: br).length = R.kids.length) :
    Ks c h L.kids bsL * Ks c h R.kids (qb :: br) = Ks c h (L.kids ++ R.kids.head?.toList) (bsL ++ [qb]) * Ks c h R.kids.tail br := by
  obtain ⟨q, ks, e⟩ : ∃ q ks, R.kids = q :: ks := by
    cases hh : R.kids with
    | nil => rw [hh] at hlen; simp at hlen
    | cons q ks => exact ⟨q, ks, rfl⟩
  rw [e]
  show Ks c h L.kids bsL * (Tq c h q qb * Ks c h ks br) = Ks c h (L.kids ++ [q]) (bsL ++ [qb]) * Ks c h ks br
  rw [Ks_append hlenL.symm]
  show _ = Ks c h L.kids bsL * (Tq c h q qb * 1) * Ks c h ks br
  rw [mul_one', mul_assoc']
theorem giveL_fold {bl : List Nat} {l : List It} {w : It} (hlen : (bl ++ [qb]).length = L.kids.length) (hlenR : bsR.length = R.kids.length) :
    Ent (NodeP c yb l bl * (NodeP c xb (w :: R.its) (qb :: bsR) * (Ks c h L.kids (bl ++ [qb]) * Ks c h R.kids bsR))) (Tp c h (giveL L l) yb * Tp c h (takeL L R w) xb) := by
  rw [giveL_ks hlen]
  have f1 : Ent (NodeP c yb l bl * Ks c h L.kids.dropLast bl) (Tp c h (giveL L l) yb) := tree_fold (by simp at hlen ⊢; omega)
  have f2 : Ent (NodeP c xb (w :: R.its) (qb :: bsR) * Ks c h (L.kids.getLast?.toList ++ R.kids) (qb :: bsR)) (Tp c h (takeL L R w) xb) := tree_fold (by
    have : L.kids.getLast?.toList.length = 1 := by
      cases hh : L.kids.getLast? with
      | none => rw [List.getLast?_eq_none_iff.1 hh] at hlen; simp at hlen
      | some q => rfl
    rw [List.length_append, this]; simp; omega)
  exact (Ent.of_eq (by ac_rfl)).trans (Ent.mul f1 f2)
theorem giveL_fold0 {l : List It} {w : It} (hlen : bsL.length = L.kids.length) (hlenR : bsR.length = R.kids.length) (h0 : bsL.length = 0) :
    Ent (NodeP c yb l bsL * (NodeP c xb (w :: R.its) bsR * (Ks c h L.kids bsL * Ks c h R.kids bsR))) (Tp c h (giveL L l) yb * Tp c h (takeL L R w) xb) := by
  obtain ⟨e1, e2⟩ := ks_none hlen h0
  have f1 : Ent (NodeP c yb l bsL * Ks c h L.kids bsL) (Tp c h (giveL L l) yb) := by
    have := tree_fold (c := c) (h := h) (b := yb) (its := l) (kids := L.kids.dropLast) (bs := bsL) (by rw [e1, e2]; rfl)
    rw [e1, e2] at this ⊢
    unfold giveL; rw [e1]; exact this
  have f2 : Ent (NodeP c xb (w :: R.its) bsR * Ks c h R.kids bsR) (Tp c h (takeL L R w) xb) := by
    unfold takeL; rw [e1]; exact tree_fold hlenR
  exact (Ent.of_eq (by ac_rfl)).trans (Ent.mul f1 f2)
theorem giveR_fold {br : List Nat} {r : List It} {w : It} (hlenL : bsL.length = L.kids.length) (hlen : (qb :: br).length = R.kids.length) :
    Ent (NodeP c yb (L.its ++ [w]) (bsL ++ [qb]) * (NodeP c xb r br * (Ks c h L.kids bsL * Ks c h R.kids (qb :: br)))) (Tp c h (takeR L R w) yb * Tp c h (giveR R r) xb) := by
  rw [giveR_ks hlenL hlen]
  have f1 : Ent (NodeP c yb (L.its ++ [w]) (bsL ++ [qb]) * Ks c h (L.kids ++ R.kids.head?.toList) (bsL ++ [qb])) (Tp c h (takeR L R w) yb) := tree_fold (by
    have : R.kids.head?.toList.length = 1 := by
      cases hh : R.kids with
      | nil => rw [hh] at hlen; simp at hlen
      | cons q l => rfl
    rw [List.length_append, List.length_append, this]; simp; omega)
  have f2 : Ent (NodeP c xb r br * Ks c h R.kids.tail br) (Tp c h (giveR R r) xb) := tree_fold (by simp at hlen ⊢; omega)
  exact (Ent.of_eq (by ac_rfl)).trans (Ent.mul f1 f2)
theorem giveR_fold0 {r : List It} {w : It} (hlenL : bsL.length = L.kids.length) (hlen : bsR.length = R.kids.length) (h0 : bsR.length = 0) :
    Ent (NodeP c yb (L.its ++ [w]) bsL * (NodeP c xb r bsR * (Ks c h L.kids bsL * Ks c h R.kids bsR))) (Tp c h (takeR L R w) yb * Tp c h (giveR R r) xb) := by
  obtain ⟨e1, e2⟩ := ks_none hlen h0
  have f1 : Ent (NodeP c yb (L.its ++ [w]) bsL * Ks c h L.kids bsL) (Tp c h (takeR L R w) yb) := by
    unfold takeR; rw [e1]
    show Ent _ (Tp c h (.mk (L.its ++ [w]) (L.kids ++ [])) yb)
    rw [List.append_nil]; exact tree_fold hlenL
  have f2 : Ent (NodeP c xb r bsR * Ks c h R.kids bsR) (Tp c h (giveR R r) xb) := by
    have := tree_fold (c := c) (h := h) (b := xb) (its := r) (kids := R.kids.tail) (bs := bsR) (by rw [e1, e2]; rfl)
    rw [e1, e2] at this ⊢
    unfold giveR; rw [e1]; exact this
  exact (Ent.of_eq (by ac_rfl)).trans (Ent.mul f1 f2)
theorem join_fold {w : It} (hlenL : bsL.length = L.kids.length) (hlenR : bsR.length = R.kids.length) :
    Ent (NodeP c yb (L.its ++ w :: R.its) (bsL ++ bsR) * (Ks c h L.kids bsL * Ks c h R.kids bsR)) (Tp c h (joinT L R w) yb) := by
  rw [← Ks_append hlenL.symm]
  exact tree_fold (by rw [List.length_append, List.length_append, hlenL, hlenR])
end
end Go.Proofs.Ytnnembkganlbpaa
/- The walk of growing a kid: a neighbour gives, or two kids become one; then the taking out goes on. -/
namespace Go.Proofs.Ytnnembkganlbpaa
open Go Go.Sl Go.Net Go.Wk Go.Bt Go.RowKit
set_option maxHeartbeats 6400000 in
theorem f97_ok (c fl mn mx h b ty i : Nat) (x : It) (t k : Tr) (hmn : 1 ≤ mn) (hmx : mx = 2 * mn + 1) (hm : mx < 10000) (hO : Ok mn mx (h + 1) t) (hl1 : 1 ≤ t.its.length) (hl2 : t.its.length ≤ mx) (hS : Srt (flat (h + 1) t))
    (hp : plc ty t x = i) (hk : t.kids[i]? = some k) (hsm : k.its.length ≤ mn)
    (hrec : ∀ t1 : Tr, Grown mn mx h ty x t t1 → Tri Try.prog 87 #[ptr b, itV x, .int .i64 mn, .int .i64 ty] (Tp c (h + 1) t1 b * Ctx c fl) (RemP c fl mn mx (h + 1) b t1 x ty 0)) :
    Tri Try.prog 97 #[ptr b, .int .i64 i, itV x, .int .i64 mn, .int .i64 ty] (Tp c (h + 1) t b * Ctx c fl) (RemP c fl mn mx (h + 1) b t x ty 1) := by
  have hkl := hO.1
  have hle : i ≤ t.its.length := by have := plc_le ty t x; omega
  have hko := kid_ok hO hk
  intro w0 F w hs
  simp only [mul_assoc'] at hs
  refine calls_WP 230 #[.cell 10 45, .tmp 11] Try.func97 rfl Try.ntmps97 rfl (Nat.le_of_ble_eq_true rfl) ?_
  refine WP_seq ?_
  -- R0
  refine WP_seqr [⟨0, 2, []⟩, ⟨1, 2, []⟩, ⟨2, 0, []⟩] (by kernel_rfl) ?_
  refine ns_box (#[.int .i64 x.key, .int .i64 x.val]) hs rfl rfl rfl rfl ?_
  intro b7 w hs
  refine ns_alloc zc_45 hs rfl rfl ?_
  intro b10 w hs
  refine ns_asg rfl rfl ?_
  refine ns_done ?_
  have hs := (hs.foc (pts b7 (.cells #[.int .i64 x.key, .int .i64 x.val] 45 (0, 0)) * (pts b10 (.cells #[.int .i64 0, .int .i64 0] 45 (0, 0)) * (Tp c (h + 1) t b * (Ctx c fl * F))))).fst
  refine WP_seq_cut (fun σ w => ∃ t1 : Tr, σ 0 = ptr b ∧ σ 3 = .int .i64 mn ∧ σ 4 = .int .i64 ty ∧ σ 7 = .pointer (some ⟨b7, 0, none⟩) ∧ σ 10 = .pointer (some ⟨b10, 0, none⟩) ∧ Grown mn mx h ty x t t1 ∧ St w0 (pts b7 (.cells #[.int .i64 x.key, .int .i64 x.val] 45 (0, 0)) * (pts b10 (.cells #[.int .i64 0, .int .i64 0] 45 (0, 0)) * (Tp c (h + 1) t1 b * (Ctx c fl * F)))) w) ?_ ?_ -- S1
  · refine WP_seq_cut (fun σ w => ∃ q : Bool, σ 38 = .bool q ∧ (q = true → ∃ p L, i = p + 1 ∧ t.kids[p]? = some L ∧ mn < L.its.length) ∧ (q = false → ∀ p L, i = p + 1 → t.kids[p]? = some L → L.its.length ≤ mn) ∧ σ 0 = ptr b ∧ σ 1 = .int .i64 i ∧ σ 3 = .int .i64 mn ∧ σ 4 = .int .i64 ty ∧ σ 7 = .pointer (some ⟨b7, 0, none⟩) ∧ σ 10 = .pointer (some ⟨b10, 0, none⟩) ∧ St w0 (pts b7 (.cells #[.int .i64 x.key, .int .i64 x.val] 45 (0, 0)) * (pts b10 (.cells #[.int .i64 0, .int .i64 0] 45 (0, 0)) * (Tp c (h + 1) t b * (Ctx c fl * F)))) w) ?_ ?_ -- R1.cut
    · rcases Nat.eq_zero_or_pos i with h0 | h0
      · -- R1
        refine WP_seqr [⟨0, 0, []⟩, ⟨1, 0, []⟩, ⟨2, 0, []⟩, ⟨3, 0, []⟩, ⟨4, 0, []⟩, ⟨5, 0, []⟩, ⟨6, 0, []⟩, ⟨7, 0, []⟩, ⟨8, 0, []⟩, ⟨9, 0, []⟩, ⟨10, 0, []⟩, ⟨11, 0, []⟩, ⟨12, 0, []⟩, ⟨13, 0, []⟩, ⟨14, 0, []⟩, ⟨15, 0, []⟩, ⟨16, 0, []⟩, ⟨17, 0, []⟩] (by kernel_rfl) ?_
        refine ns_move rfl rfl ?_
        refine ns_cmp false rfl rfl rfl rfl (by simp [cmpI]; omega) ?_
        refine ns_move rfl rfl ?_
        refine ns_no rfl rfl ?_
        refine ns_no rfl rfl ?_
        refine ns_no rfl rfl ?_
        refine ns_no rfl rfl ?_
        refine ns_no rfl rfl ?_
        refine ns_no rfl rfl ?_
        refine ns_no rfl rfl ?_
        refine ns_no rfl rfl ?_
        refine ns_no rfl rfl ?_
        refine ns_no rfl rfl ?_
        refine ns_no rfl rfl ?_
        refine ns_no rfl rfl ?_
        refine ns_no rfl rfl ?_
        refine ns_no rfl rfl ?_
        refine ns_pick rfl rfl rfl ?_
        refine ns_done ?_
        exact ⟨false, rfl, (fun e => by cases e), (fun _ p L e => by omega), rfl, rfl, rfl, rfl, rfl, rfl, hs⟩
      · have hs0 := hs
        obtain ⟨p, rfl⟩ : ∃ p, i = p + 1 := ⟨i - 1, by omega⟩
        obtain ⟨L, hL⟩ : ∃ L, t.kids[p]? = some L := ⟨t.kids[p]'(by omega), List.getElem?_eq_getElem (by omega)⟩
        have hkoL := kid_ok hO hL
        obtain ⟨bs, hlen, hs⟩ := St.tree (hs.foc (Tp c (h + 1) t b))
        obtain ⟨yb, hyb⟩ : ∃ yb, bs[p]? = some yb := ⟨bs[p]'(by omega), List.getElem?_eq_getElem (by omega)⟩
        rw [Ks_at hL hyb] at hs
        simp only [mul_assoc'] at hs
        obtain ⟨bsL, hlenL, hs⟩ := St.tree (hs.foc (Tq c (h + 1) L yb))
        obtain ⟨⟨v1, v2⟩, hs⟩ := (hs.foc (NodeP c b (t.its) (bs))).ex
        simp only [mul_assoc'] at hs
        obtain ⟨_, hz, _⟩ | ⟨g, cap, cur, hv, hc, hcm, hsz, htk, hs⟩ := (hs.foc (PArr (v2) (bs))).arr
        · omega
        cases hv
        obtain ⟨⟨u1, u2⟩, hs⟩ := (hs.foc (NodeP c yb (L.its) (bsL))).ex
        simp only [mul_assoc'] at hs
        obtain ⟨a3, c3, rfl, hc3, hcm3⟩ := (hs.foc (IArr u1 L.its)).arr_form
        -- R1
        refine WP_seqr [⟨0, 0, []⟩, ⟨1, 0, []⟩, ⟨2, 0, []⟩, ⟨3, 0, []⟩, ⟨4, 0, []⟩, ⟨5, 0, []⟩, ⟨6, 1, []⟩, ⟨7, 0, []⟩, ⟨8, 0, []⟩, ⟨9, 0, []⟩, ⟨10, 1, []⟩, ⟨11, 0, []⟩, ⟨12, 0, []⟩, ⟨13, 1, []⟩, ⟨14, 0, []⟩, ⟨15, 0, []⟩, ⟨16, 0, []⟩, ⟨17, 0, []⟩] (by kernel_rfl) ?_
        refine ns_move rfl rfl ?_
        refine ns_cmp true rfl rfl rfl rfl (by simp [cmpI]) ?_
        refine ns_move rfl rfl ?_
        refine ns_move rfl rfl ?_
        refine ns_nil rfl rfl rfl ?_
        refine ns_fld fo_103_1 rfl rfl rfl ?_
        refine ns_ldB pl_101 hs rfl rfl rfl (by rfl) ?_
        refine ns_move rfl rfl ?_
        refine ns_sub rfl rfl rfl rfl (by omega) (by omega) ?_
        refine ns_idx p sl_101 rfl rfl rfl rfl (by omega) (by omega) ?_
        refine ns_ld pl_85 rfl rfl rfl (ptr_cell hs htk _ hyb) ?_
        refine ns_nil rfl rfl rfl ?_
        refine ns_fld fo_103_0 rfl rfl rfl ?_
        refine ns_ldB pl_100 hs rfl rfl rfl (by rfl) ?_
        refine ns_len sl_100 rfl rfl rfl ?_
        refine ns_move rfl rfl ?_
        refine ns_cmp _ rfl rfl rfl rfl rfl ?_
        refine ns_pick rfl rfl rfl ?_
        refine ns_done ?_
        refine ⟨decide ((L.its.length : Int) > (mn : Int)), rfl, fun hq => ⟨p, L, rfl, hL, by have := of_decide_eq_true hq; omega⟩, fun hq p' L' e hL' => ?_, rfl, rfl, rfl, rfl, rfl, rfl, hs0⟩
        obtain rfl : p' = p := by omega
        rw [hL] at hL'
        cases hL'
        have := of_decide_eq_false hq
        omega
    rintro σ w ⟨q, g38, q1, q2, g0, g1, g3, g4, g7, g10, hs⟩
    obtain ⟨σ, rfl⟩ := rebase g38
    obtain ⟨σ, rfl⟩ := rebase (σ := σ) g0
    obtain ⟨σ, rfl⟩ := rebase (σ := σ) g1
    obtain ⟨σ, rfl⟩ := rebase (σ := σ) g3
    obtain ⟨σ, rfl⟩ := rebase (σ := σ) g4
    obtain ⟨σ, rfl⟩ := rebase (σ := σ) g7
    obtain ⟨σ, rfl⟩ := rebase (σ := σ) g10
    clear g38 g0 g1 g3 g4 g7 g10
    refine WP_if rfl (fun hif1 => ?_) (fun hif1 => ?_)
    · refine WP_seq ?_
      obtain ⟨p, L, rfl, hL, hbig⟩ := q1 hif1
      have hkoL := kid_ok hO hL
      have hkoR := hko
      have hpk : p + 1 < t.kids.length := (List.getElem?_eq_some_iff.1 hk).1
      have hpl : p < t.its.length := by omega
      obtain ⟨wi, hw⟩ : ∃ wi, t.its[p]? = some wi := ⟨t.its[p]'(by omega), List.getElem?_eq_getElem (by omega)⟩
      obtain ⟨l, z, e⟩ : ∃ l z, L.its = l ++ [z] := ⟨L.its.dropLast, L.its.getLast (ne_of_len (by omega)), (List.dropLast_concat_getLast _).symm⟩
      have hGr := grown_left (ty := ty) hO hS hmx hp hw hL hk e hbig hsm
      obtain ⟨bs, hlen, hs⟩ := St.tree (hs.foc (Tp c (h + 1) t b))
      obtain ⟨yb, hyb⟩ : ∃ yb, bs[p]? = some yb := ⟨bs[p]'(by omega), List.getElem?_eq_getElem (by omega)⟩
      obtain ⟨xb, hxb⟩ : ∃ xb, bs[p + 1]? = some xb := ⟨bs[p + 1]'(by omega), List.getElem?_eq_getElem (by omega)⟩
      rw [Ks_pair hL hk hyb hxb] at hs
      simp only [mul_assoc'] at hs
      obtain ⟨bsL, hlenL, hs⟩ := St.tree (hs.foc (Tq c (h + 1) L yb))
      obtain ⟨bsR, hlenR, hs⟩ := St.tree (hs.foc (Tq c (h + 1) k xb))
      have hbL : bsL.length < 1000000 := by
        by_cases h0 : L.kids.length = 0
        · omega
        · have := kids_len hkoL.2.2 h0; omega
      have hbR : bsR.length < 1000000 := by
        by_cases h0 : k.kids.length = 0
        · omega
        · have := kids_len hkoR.2.2 h0; omega
      have hbs : bs.length < 1000000 := by omega
      -- R2
      refine WP_seqr [⟨0, 0, []⟩, ⟨1, 0, []⟩, ⟨2, 2, []⟩, ⟨3, 0, []⟩] (by kernel_rfl) ?_
      refine ns_move rfl rfl ?_
      refine ns_move rfl rfl ?_
      refine ns_call (f86_ok c b (p + 1) xb t.its k.its bs bsR hxb) ck_86 (hs.foc (NodeP c b t.its bs * NodeP c xb k.its bsR)) rfl rfl rfl rfl ?_
      intro v41 w hs
      replace hs := hs.pu
      obtain ⟨rfl, hs⟩ := hs
      simp only [mul_assoc'] at hs
      refine ns_asg rfl rfl ?_
      refine ns_done ?_
      refine WP_seq ?_
      -- R3
      refine WP_seqr [⟨0, 0, []⟩, ⟨1, 0, []⟩, ⟨2, 0, []⟩, ⟨3, 2, []⟩, ⟨4, 0, []⟩] (by kernel_rfl) ?_
      refine ns_move rfl rfl ?_
      refine ns_move rfl rfl ?_
      refine ns_sub rfl rfl rfl rfl (by omega) (by omega) ?_
      refine ns_call (f86_ok c b p yb t.its L.its bs bsL hyb) ck_86 (hs.foc (NodeP c b t.its bs * NodeP c yb L.its bsL)) rfl rfl rfl (congrArg (fun z : Int => [ptr b, Value.int .i64 z]) (show ((p + 1 : Nat) : Int) - 1 = (p : Int) by omega)) ?_
      intro v45 w hs
      replace hs := hs.pu
      obtain ⟨rfl, hs⟩ := hs
      simp only [mul_assoc'] at hs
      refine ns_asg rfl rfl ?_
      refine ns_done ?_
      refine WP_seq ?_
      rw [e] at hs
      -- R4
      refine WP_seqr [⟨0, 0, []⟩, ⟨1, 0, []⟩, ⟨2, 0, []⟩, ⟨3, 2, []⟩, ⟨4, 2, []⟩, ⟨5, 2, []⟩] (by kernel_rfl) ?_
      refine ns_move rfl rfl ?_
      refine ns_nil rfl rfl rfl ?_
      refine ns_fld fo_103_0 rfl rfl rfl ?_
      refine ns_call (f95_ok c yb z l bsL) ck_95 (hs.foc (NodeP c yb (l ++ [z]) bsL)) rfl rfl rfl rfl ?_
      intro v49 w hs
      replace hs := hs.pu
      obtain ⟨rfl, hs⟩ := hs
      refine ns_alloc zc_45 hs rfl rfl ?_
      intro b14 w hs
      refine ns_stA (#[.int .i64 z.key, .int .i64 z.val]) ag_45 rfl (by decide) hs rfl rfl rfl rfl (by intro u hu; simp at hu; rcases hu with rfl | rfl <;> rfl) (by simp) ?_
      refine fun w hs => ⟨trivial, ?_⟩
      rw [splice2] at hs
      refine ns_done ?_
      refine WP_seq ?_
      obtain ⟨⟨v1, v2⟩, hs⟩ := (hs.foc (NodeP c b (t.its) (bs))).ex
      simp only [mul_assoc'] at hs
      obtain ⟨_, hz, _⟩ | ⟨g, cap, cur, hv, hc, hcm, hsz, htk, hs⟩ := (hs.foc (IArr (v1) (t.its))).arr
      · omega
      cases hv
      -- R5
      refine WP_net hs mix [0, 1, 3, 0, 8, 24, 56, 0, 128, 504, 1016, 2047] [⟨0, 0, []⟩, ⟨1, 0, []⟩, ⟨2, 0, []⟩, ⟨3, 0, []⟩, ⟨4, 0, []⟩, ⟨5, 0, []⟩, ⟨6, 1, []⟩, ⟨7, 0, []⟩, ⟨8, 0, []⟩, ⟨9, 0, []⟩, ⟨10, 1, []⟩, ⟨11, 2, []⟩] (by kernel_rfl) ?_
      intro w hs
      refine ns_move rfl rfl ?_
      refine ns_nil rfl rfl rfl ?_
      refine ns_fld fo_103_0 rfl rfl rfl ?_
      refine ns_move rfl rfl ?_
      refine ns_nil rfl rfl rfl ?_
      refine ns_fld fo_103_0 rfl rfl rfl ?_
      refine ns_ldB pl_100 hs rfl rfl rfl (by rfl) ?_
      refine ns_move rfl rfl ?_
      refine ns_sub rfl rfl rfl rfl (by omega) (by omega) ?_
      refine ns_idx p sl_100 rfl rfl rfl rfl (by omega) hpl ?_
      refine ns_ldA [.int .i64 wi.key, .int .i64 wi.val] ag_45 rfl rfl rfl rfl (by decide) (it_cells hs htk _ hw) ?_
      refine ns_call (f84_ok c xb 0 wi k.its bsR (Nat.zero_le _) (by omega)) ck_84 (hs.foc (NodeP c xb k.its bsR)) rfl rfl rfl rfl ?_
      intro v61 w hs
      refine ns_done ?_
      refine WP_seq ?_
      -- R6
      refine WP_net hs mix [0, 1, 3, 7, 0, 16, 0, 127, 255] [⟨0, 0, []⟩, ⟨1, 0, []⟩, ⟨2, 0, []⟩, ⟨3, 1, []⟩, ⟨4, 0, []⟩, ⟨5, 0, []⟩, ⟨6, 1, []⟩, ⟨7, 0, []⟩, ⟨8, 2, []⟩] (by kernel_rfl) ?_
      intro w hs
      refine ns_move rfl rfl ?_
      refine ns_nil rfl rfl rfl ?_
      refine ns_fld fo_103_0 rfl rfl rfl ?_
      refine ns_ldB pl_100 hs rfl rfl rfl (by rfl) ?_
      refine ns_move rfl rfl ?_
      refine ns_sub rfl rfl rfl rfl (by omega) (by omega) ?_
      refine ns_ldAB [.int .i64 z.key, .int .i64 z.val] ag_45 hs rfl rfl rfl (by rfl) (by rfl) (by decide) ?_
      refine ns_idx p sl_100 rfl rfl rfl rfl (by omega) hpl ?_
      refine ns_stA (#[.int .i64 z.key, .int .i64 z.val]) ag_45 rfl (by decide) hs rfl rfl rfl rfl (by intro u hu; simp at hu; rcases hu with rfl | rfl <;> rfl) (by rw [hsz]; omega) ?_
      refine fun w hs => ⟨trivial, ?_⟩
      rw [Nat.zero_add] at hs
      refine ns_done ?_
      have hset := set_cells (i := p) (c := enc z) hsz (encs_len t.its) rfl hc hpl htk
      rw [← encs_set t.its p z hpl] at hset
      have hs := (hs.foc (pts g (.cells (splice cur (p * 2) #[.int .i64 z.key, .int .i64 z.val].toList) 45 (0, 0)))).mk_arr' (n := t.its.length) (cap := cap) hc hcm (by rw [splice_size (by rw [hsz]; simp; omega), hsz]) hset
      have e9 : t.its.length = (t.its.set p z).length := by rw [List.length_set]
      rw [e9] at hs
      have hs := hs.fold (node_fold c b (.slice (some ⟨g, 0, none⟩) (t.its.set p z).length cap) v2 (t.its.set p z) bs)
      refine WP_seq ?_
      obtain ⟨⟨u1, u2⟩, hs⟩ := (hs.foc (NodeP c yb (l) (bsL))).ex
      simp only [mul_assoc'] at hs
      obtain ⟨a4, c4, rfl, hc4, hcm4⟩ := (hs.foc (PArr u2 bsL)).arr_form
      -- R7
      refine WP_seqr [⟨0, 0, []⟩, ⟨1, 0, []⟩, ⟨2, 0, []⟩, ⟨3, 1, []⟩, ⟨4, 0, []⟩, ⟨5, 0, []⟩] (by kernel_rfl) ?_
      refine ns_move rfl rfl ?_
      refine ns_nil rfl rfl rfl ?_
      refine ns_fld fo_103_1 rfl rfl rfl ?_
      refine ns_ldB pl_101 hs rfl rfl rfl (by rfl) ?_
      refine ns_len sl_101 rfl rfl rfl ?_
      refine ns_cmp _ rfl rfl rfl rfl rfl ?_
      refine ns_done ?_
      have hs := hs.fold (node_fold c yb u1 (.slice a4 bsL.length c4) l bsL)
      rw [List.insertIdx_zero] at hs
      refine WP_if rfl (fun hif2 => ?_) (fun hif2 => ?_)
      · have hne : bsL ≠ [] := by intro e0; rw [e0] at hif2; simp at hif2
        obtain ⟨bl, qb, rfl⟩ : ∃ bl qb, bsL = bl ++ [qb] := ⟨bsL.dropLast, bsL.getLast hne, (List.dropLast_concat_getLast _).symm⟩
        -- R8
        refine WP_net hs mix [0, 1, 3, 0, 8, 24, 56, 127] [⟨0, 0, []⟩, ⟨1, 0, []⟩, ⟨2, 0, []⟩, ⟨3, 0, []⟩, ⟨4, 0, []⟩, ⟨5, 0, []⟩, ⟨6, 2, []⟩, ⟨7, 2, []⟩] (by kernel_rfl) ?_
        intro w hs
        refine ns_move rfl rfl ?_
        refine ns_nil rfl rfl rfl ?_
        refine ns_fld fo_103_1 rfl rfl rfl ?_
        refine ns_move rfl rfl ?_
        refine ns_nil rfl rfl rfl ?_
        refine ns_fld fo_103_1 rfl rfl rfl ?_
        refine ns_call (f101_ok c yb qb l bl) ck_101 (hs.foc (NodeP c yb l (bl ++ [qb]))) rfl rfl rfl rfl ?_
        intro v82 w hs
        replace hs := hs.pu
        obtain ⟨rfl, hs⟩ := hs
        refine ns_call (f94_ok c xb 0 qb (wi :: k.its) bsR (Nat.zero_le _) hbR) ck_94 (hs.foc (NodeP c xb (wi :: k.its) bsR)) rfl rfl rfl rfl ?_
        intro v83 w hs
        refine ns_done ?_
        rw [List.insertIdx_zero] at hs
        have hs := hs.fold (giveL_fold (c := c) (h := h) (L := L) (R := k) (bsR := bsR) (yb := yb) (xb := xb) (qb := qb) (bl := bl) (l := l) (w := wi) hlenL hlenR)
        simp only [mul_assoc'] at hs
        have hs := hs.fold (pair_fold (c := c) (h := h) (b := b) (p := p) (t := t) (bs := bs) (yb := yb) (xb := xb) (t.its.set p z) (giveL L l) (takeL L k wi) hlen hpk hyb hxb)
        exact ⟨_, rfl, rfl, rfl, rfl, rfl, hGr, hs.out⟩
      refine WP_skip ?_
      have h0 : bsL.length = 0 := by simp at hif2; rw [hif2]; rfl
      have hs := hs.fold (giveL_fold0 (c := c) (h := h) (L := L) (R := k) (bsL := bsL) (bsR := bsR) (yb := yb) (xb := xb) (l := l) (w := wi) hlenL hlenR h0)
      simp only [mul_assoc'] at hs
      have hs := hs.fold (pair_fold (c := c) (h := h) (b := b) (p := p) (t := t) (bs := bs) (yb := yb) (xb := xb) (t.its.set p z) (giveL L l) (takeL L k wi) hlen hpk hyb hxb)
      exact ⟨_, rfl, rfl, rfl, rfl, rfl, hGr, hs.out⟩
    refine WP_seq_cut (fun σ w => ∃ q : Bool, σ 106 = .bool q ∧ (q = true → ∃ R, i < t.its.length ∧ t.kids[i + 1]? = some R ∧ mn < R.its.length) ∧ (q = false → ∀ R, i < t.its.length → t.kids[i + 1]? = some R → R.its.length ≤ mn) ∧ σ 0 = ptr b ∧ σ 1 = .int .i64 i ∧ σ 3 = .int .i64 mn ∧ σ 4 = .int .i64 ty ∧ σ 7 = .pointer (some ⟨b7, 0, none⟩) ∧ σ 10 = .pointer (some ⟨b10, 0, none⟩) ∧ St w0 (pts b7 (.cells #[.int .i64 x.key, .int .i64 x.val] 45 (0, 0)) * (pts b10 (.cells #[.int .i64 0, .int .i64 0] 45 (0, 0)) * (Tp c (h + 1) t b * (Ctx c fl * F)))) w) ?_ ?_ -- R9.cut
    · rcases Nat.lt_or_ge i t.its.length with h1 | h1
      · have hs0 := hs
        obtain ⟨R, hR⟩ : ∃ R, t.kids[i + 1]? = some R := ⟨t.kids[i + 1]'(by omega), List.getElem?_eq_getElem (by omega)⟩
        obtain ⟨bs, hlen, hs⟩ := St.tree (hs.foc (Tp c (h + 1) t b))
        obtain ⟨xb, hxb⟩ : ∃ xb, bs[i + 1]? = some xb := ⟨bs[i + 1]'(by omega), List.getElem?_eq_getElem (by omega)⟩
        rw [Ks_at hR hxb] at hs
        simp only [mul_assoc'] at hs
        obtain ⟨bsR, hlenR, hs⟩ := St.tree (hs.foc (Tq c (h + 1) R xb))
        obtain ⟨⟨v1, v2⟩, hs⟩ := (hs.foc (NodeP c b (t.its) (bs))).ex
        simp only [mul_assoc'] at hs
        obtain ⟨a1, c1, rfl, hc1, hcm1⟩ := (hs.foc (IArr v1 t.its)).arr_form
        obtain ⟨_, hz, _⟩ | ⟨g, cap, cur, hv, hc, hcm, hsz, htk, hs⟩ := (hs.foc (PArr (v2) (bs))).arr
        · omega
        cases hv
        obtain ⟨⟨u1, u2⟩, hs⟩ := (hs.foc (NodeP c xb (R.its) (bsR))).ex
        simp only [mul_assoc'] at hs
        obtain ⟨a3, c3, rfl, hc3, hcm3⟩ := (hs.foc (IArr u1 R.its)).arr_form
        -- R9
        refine WP_seqr [⟨0, 0, []⟩, ⟨1, 0, []⟩, ⟨2, 0, []⟩, ⟨3, 0, []⟩, ⟨4, 1, []⟩, ⟨5, 0, []⟩, ⟨6, 0, []⟩, ⟨7, 0, []⟩, ⟨8, 0, []⟩, ⟨9, 0, []⟩, ⟨10, 0, []⟩, ⟨11, 1, []⟩, ⟨12, 0, []⟩, ⟨13, 0, []⟩, ⟨14, 0, []⟩, ⟨15, 1, []⟩, ⟨16, 0, []⟩, ⟨17, 0, []⟩, ⟨18, 1, []⟩, ⟨19, 0, []⟩, ⟨20, 0, []⟩, ⟨21, 0, []⟩, ⟨22, 0, []⟩] (by kernel_rfl) ?_
        refine ns_move rfl rfl ?_
        refine ns_move rfl rfl ?_
        refine ns_nil rfl rfl rfl ?_
        refine ns_fld fo_103_0 rfl rfl rfl ?_
        refine ns_ldB pl_100 hs rfl rfl rfl (by rfl) ?_
        refine ns_len sl_100 rfl rfl rfl ?_
        refine ns_cmp true rfl rfl rfl rfl (by simp [cmpI]; omega) ?_
        refine ns_move rfl rfl ?_
        refine ns_move rfl rfl ?_
        refine ns_nil rfl rfl rfl ?_
        refine ns_fld fo_103_1 rfl rfl rfl ?_
        refine ns_ldB pl_101 hs rfl rfl rfl (by rfl) ?_
        refine ns_move rfl rfl ?_
        refine ns_add rfl rfl rfl rfl (by omega) (by omega) ?_
        refine ns_idx (i + 1) sl_101 rfl rfl rfl rfl (by omega) (by omega) ?_
        refine ns_ld pl_85 rfl rfl rfl (ptr_cell hs htk _ hxb) ?_
        refine ns_nil rfl rfl rfl ?_
        refine ns_fld fo_103_0 rfl rfl rfl ?_
        refine ns_ldB pl_100 hs rfl rfl rfl (by rfl) ?_
        refine ns_len sl_100 rfl rfl rfl ?_
        refine ns_move rfl rfl ?_
        refine ns_cmp _ rfl rfl rfl rfl rfl ?_
        refine ns_pick rfl rfl rfl ?_
        refine ns_done ?_
        refine ⟨decide ((R.its.length : Int) > (mn : Int)), rfl, fun hq => ⟨R, h1, hR, by have := of_decide_eq_true hq; omega⟩, fun hq R' _ hR' => ?_, rfl, rfl, rfl, rfl, rfl, rfl, hs0⟩
        rw [hR] at hR'
        cases hR'
        have := of_decide_eq_false hq
        omega
      · have hs0 := hs
        obtain ⟨bs, hlen, hs⟩ := St.tree (hs.foc (Tp c (h + 1) t b))
        obtain ⟨⟨v1, v2⟩, hs⟩ := (hs.foc (NodeP c b (t.its) (bs))).ex
        simp only [mul_assoc'] at hs
        obtain ⟨a1, c1, rfl, hc1, hcm1⟩ := (hs.foc (IArr v1 t.its)).arr_form
        -- R9
        refine WP_seqr [⟨0, 0, []⟩, ⟨1, 0, []⟩, ⟨2, 0, []⟩, ⟨3, 0, []⟩, ⟨4, 1, []⟩, ⟨5, 0, []⟩, ⟨6, 0, []⟩, ⟨7, 0, []⟩, ⟨8, 0, []⟩, ⟨9, 0, []⟩, ⟨10, 0, []⟩, ⟨11, 0, []⟩, ⟨12, 0, []⟩, ⟨13, 0, []⟩, ⟨14, 0, []⟩, ⟨15, 0, []⟩, ⟨16, 0, []⟩, ⟨17, 0, []⟩, ⟨18, 0, []⟩, ⟨19, 0, []⟩, ⟨20, 0, []⟩, ⟨21, 0, []⟩, ⟨22, 0, []⟩] (by kernel_rfl) ?_
        refine ns_move rfl rfl ?_
        refine ns_move rfl rfl ?_
        refine ns_nil rfl rfl rfl ?_
        refine ns_fld fo_103_0 rfl rfl rfl ?_
        refine ns_ldB pl_100 hs rfl rfl rfl (by rfl) ?_
        refine ns_len sl_100 rfl rfl rfl ?_
        refine ns_cmp false rfl rfl rfl rfl (by simp [cmpI]; omega) ?_
        refine ns_move rfl rfl ?_
        refine ns_no rfl rfl ?_
        refine ns_no rfl rfl ?_
        refine ns_no rfl rfl ?_
        refine ns_no rfl rfl ?_
        refine ns_no rfl rfl ?_
        refine ns_no rfl rfl ?_
        refine ns_no rfl rfl ?_
        refine ns_no rfl rfl ?_
        refine ns_no rfl rfl ?_
        refine ns_no rfl rfl ?_
        refine ns_no rfl rfl ?_
        refine ns_no rfl rfl ?_
        refine ns_no rfl rfl ?_
        refine ns_no rfl rfl ?_
        refine ns_pick rfl rfl rfl ?_
        refine ns_done ?_
        exact ⟨false, rfl, (fun e => by cases e), (fun _ R e => by omega), rfl, rfl, rfl, rfl, rfl, rfl, hs0⟩
    rintro σ w ⟨q, g106, q3, q4, g0, g1, g3, g4, g7, g10, hs⟩
    obtain ⟨σ, rfl⟩ := rebase g106
    obtain ⟨σ, rfl⟩ := rebase (σ := σ) g0
    obtain ⟨σ, rfl⟩ := rebase (σ := σ) g1
    obtain ⟨σ, rfl⟩ := rebase (σ := σ) g3
    obtain ⟨σ, rfl⟩ := rebase (σ := σ) g4
    obtain ⟨σ, rfl⟩ := rebase (σ := σ) g7
    obtain ⟨σ, rfl⟩ := rebase (σ := σ) g10
    clear g106 g0 g1 g3 g4 g7 g10
    refine WP_if rfl (fun hif3 => ?_) (fun hif3 => ?_)
    · refine WP_seq ?_
      obtain ⟨R, hpl, hR, hbig⟩ := q3 hif3
      obtain ⟨p, rfl⟩ : ∃ p, i = p := ⟨i, rfl⟩
      have hkoL := hko
      have hkoR := kid_ok hO hR
      have hpk : i + 1 < t.kids.length := (List.getElem?_eq_some_iff.1 hR).1
      obtain ⟨wi, hw⟩ : ∃ wi, t.its[i]? = some wi := ⟨t.its[i]'(by omega), List.getElem?_eq_getElem (by omega)⟩
      obtain ⟨z, r, e⟩ : ∃ z r, R.its = z :: r := by
        cases hh : R.its with
        | nil => rw [hh] at hbig; simp at hbig
        | cons z r => exact ⟨z, r, rfl⟩
      have hGr := grown_right (ty := ty) hO hS hmx hp hw hk hR e hbig hsm
      obtain ⟨bs, hlen, hs⟩ := St.tree (hs.foc (Tp c (h + 1) t b))
      obtain ⟨yb, hyb⟩ : ∃ yb, bs[i]? = some yb := ⟨bs[i]'(by omega), List.getElem?_eq_getElem (by omega)⟩
      obtain ⟨xb, hxb⟩ : ∃ xb, bs[i + 1]? = some xb := ⟨bs[i + 1]'(by omega), List.getElem?_eq_getElem (by omega)⟩
      rw [Ks_pair hk hR hyb hxb] at hs
      simp only [mul_assoc'] at hs
      obtain ⟨bsL, hlenL, hs⟩ := St.tree (hs.foc (Tq c (h + 1) k yb))
      obtain ⟨bsR, hlenR, hs⟩ := St.tree (hs.foc (Tq c (h + 1) R xb))
      have hbL : bsL.length < 1000000 := by
        by_cases h0 : k.kids.length = 0
        · omega
        · have := kids_len hkoL.2.2 h0; omega
      have hbR : bsR.length < 1000000 := by
        by_cases h0 : R.kids.length = 0
        · omega
        · have := kids_len hkoR.2.2 h0; omega
      have hbs : bs.length < 1000000 := by omega
      -- R10
      refine WP_seqr [⟨0, 0, []⟩, ⟨1, 0, []⟩, ⟨2, 2, []⟩, ⟨3, 0, []⟩] (by kernel_rfl) ?_
      refine ns_move rfl rfl ?_
      refine ns_move rfl rfl ?_
      refine ns_call (f86_ok c b i yb t.its k.its bs bsL hyb) ck_86 (hs.foc (NodeP c b t.its bs * NodeP c yb k.its bsL)) rfl rfl rfl rfl ?_
      intro v109 w hs
      replace hs := hs.pu
      obtain ⟨rfl, hs⟩ := hs
      simp only [mul_assoc'] at hs
      refine ns_asg rfl rfl ?_
      refine ns_done ?_
      refine WP_seq ?_
      -- R11
      refine WP_seqr [⟨0, 0, []⟩, ⟨1, 0, []⟩, ⟨2, 0, []⟩, ⟨3, 2, []⟩, ⟨4, 0, []⟩] (by kernel_rfl) ?_
      refine ns_move rfl rfl ?_
      refine ns_move rfl rfl ?_
      refine ns_add rfl rfl rfl rfl (by omega) (by omega) ?_
      refine ns_call (f86_ok c b (i + 1) xb t.its R.its bs bsR hxb) ck_86 (hs.foc (NodeP c b t.its bs * NodeP c xb R.its bsR)) rfl rfl rfl rfl ?_
      intro v113 w hs
      replace hs := hs.pu
      obtain ⟨rfl, hs⟩ := hs
      simp only [mul_assoc'] at hs
      refine ns_asg rfl rfl ?_
      refine ns_done ?_
      refine WP_seq ?_
      -- R12
      refine WP_seqr [⟨0, 0, []⟩, ⟨1, 0, []⟩, ⟨2, 0, []⟩, ⟨3, 2, []⟩, ⟨4, 2, []⟩, ⟨5, 2, []⟩] (by kernel_rfl) ?_
      refine ns_move rfl rfl ?_
      refine ns_nil rfl rfl rfl ?_
      refine ns_fld fo_103_0 rfl rfl rfl ?_
      refine ns_call (f96_ok c xb 0 z R.its bsR (by rw [e]; rfl)) ck_96 (hs.foc (NodeP c xb R.its bsR)) rfl rfl rfl rfl ?_
      intro v117 w hs
      replace hs := hs.pu
      obtain ⟨rfl, hs⟩ := hs
      rw [show R.its.eraseIdx 0 = r from by rw [e]; rfl] at hs
      refine ns_alloc zc_45 hs rfl rfl ?_
      intro b17 w hs
      refine ns_stA (#[.int .i64 z.key, .int .i64 z.val]) ag_45 rfl (by decide) hs rfl rfl rfl rfl (by intro u hu; simp at hu; rcases hu with rfl | rfl <;> rfl) (by simp) ?_
      refine fun w hs => ⟨trivial, ?_⟩
      rw [splice2] at hs
      refine ns_done ?_
      refine WP_seq ?_
      obtain ⟨⟨v1, v2⟩, hs⟩ := (hs.foc (NodeP c b (t.its) (bs))).ex
      simp only [mul_assoc'] at hs
      obtain ⟨_, hz, _⟩ | ⟨g, cap, cur, hv, hc, hcm, hsz, htk, hs⟩ := (hs.foc (IArr (v1) (t.its))).arr
      · omega
      cases hv
      obtain ⟨⟨u1, u2⟩, hs⟩ := (hs.foc (NodeP c yb (k.its) (bsL))).ex
      simp only [mul_assoc'] at hs
      -- R13
      refine WP_net hs mix [0, 0, 2, 6, 14, 0, 32, 96, 224, 0, 992, 2016, 4064, 8190, 16383, 32767, 65535] [⟨0, 0, []⟩, ⟨1, 0, []⟩, ⟨2, 0, []⟩, ⟨3, 0, []⟩, ⟨4, 1, []⟩, ⟨5, 0, []⟩, ⟨6, 0, []⟩, ⟨7, 0, []⟩, ⟨8, 1, []⟩, ⟨9, 0, []⟩, ⟨10, 0, []⟩, ⟨11, 1, []⟩, ⟨12, 2, [4]⟩, ⟨13, 2, []⟩, ⟨14, 0, []⟩, ⟨15, 0, []⟩, ⟨16, 2, []⟩] (by kernel_rfl) ?_
      intro w hs
      refine ns_move rfl rfl ?_
      refine ns_move rfl rfl ?_
      refine ns_nil rfl rfl rfl ?_
      refine ns_fld fo_103_0 rfl rfl rfl ?_
      have hk4 := hs.c yb 0
      refine ns_ldB pl_100 hs rfl rfl rfl (by rfl) ?_
      refine ns_move rfl rfl ?_
      refine ns_nil rfl rfl rfl ?_
      refine ns_fld fo_103_0 rfl rfl rfl ?_
      refine ns_ldB pl_100 hs rfl rfl rfl (by rfl) ?_
      refine ns_move rfl rfl ?_
      refine ns_idx i sl_100 rfl rfl rfl rfl rfl hpl ?_
      refine ns_ldA [.int .i64 wi.key, .int .i64 wi.val] ag_45 rfl rfl rfl rfl (by decide) (it_cells hs htk _ hw) ?_
      refine ns_lit [itV wi] [.int .i64 wi.key, .int .i64 wi.val] sl_100 zr_45 (by decide) (by decide) hs rfl rfl rfl rfl (by simp [Value.cells, itV]) rfl ?_
      refine fun b130 w hs hx => ⟨⟨hx _ _ hk4, trivial⟩, ?_⟩
      refine ns_app [.int .i64 wi.key, .int .i64 wi.val] sl_100 zr_45 by_45 rfl (by decide) (hs.foc (IArr u1 k.its)) rfl rfl rfl rfl rfl (St.cells (n := 2) hs (by rfl)) (by intro u hu; simp at hu; rcases hu with rfl | rfl <;> rfl) (by simp only [maxLen]; omega) (by omega) ?_
      refine fun v131 w hs hv => ⟨trivial, ?_⟩
      have hs := hs.up (Ent.of_eq (IArr_eq (l := k.its ++ [wi]) (by simp) (by rw [encs_append]; rfl)))
      obtain ⟨a5, c5, rfl, _, _⟩ := hs.arr_form
      refine ns_nil rfl rfl rfl ?_
      refine ns_fld fo_103_0 rfl rfl rfl ?_
      refine ns_st (.slice a5 (k.its ++ [wi]).length c5) pl_100 hs rfl rfl rfl rfl rfl (by simp) ?_
      refine fun w hs => ⟨trivial, ?_⟩
      try simp only [Nat.zero_add] at hs
      try simp only [List.setIfInBounds_toArray] at hs
      try simp only [List.set_cons_succ] at hs
      try simp only [List.set_cons_zero] at hs
      refine ns_done ?_
      have hs := hs.fold (node_fold c yb (.slice a5 (k.its ++ [wi]).length c5) u2 (k.its ++ [wi]) bsL)
      refine WP_seq ?_
      -- R14
      refine WP_net hs mix [0, 1, 3, 7, 0, 0, 63, 127] [⟨0, 0, []⟩, ⟨1, 0, []⟩, ⟨2, 0, []⟩, ⟨3, 1, []⟩, ⟨4, 0, []⟩, ⟨5, 1, []⟩, ⟨6, 0, []⟩, ⟨7, 2, []⟩] (by kernel_rfl) ?_
      intro w hs
      refine ns_move rfl rfl ?_
      refine ns_nil rfl rfl rfl ?_
      refine ns_fld fo_103_0 rfl rfl rfl ?_
      refine ns_ldB pl_100 hs rfl rfl rfl (by rfl) ?_
      refine ns_move rfl rfl ?_
      refine ns_ldAB [.int .i64 z.key, .int .i64 z.val] ag_45 hs rfl rfl rfl (by rfl) (by rfl) (by decide) ?_
      refine ns_idx i sl_100 rfl rfl rfl rfl rfl hpl ?_
      refine ns_stA (#[.int .i64 z.key, .int .i64 z.val]) ag_45 rfl (by decide) hs rfl rfl rfl rfl (by intro u hu; simp at hu; rcases hu with rfl | rfl <;> rfl) (by rw [hsz]; omega) ?_
      refine fun w hs => ⟨trivial, ?_⟩
      rw [Nat.zero_add] at hs
      refine ns_done ?_
      have hset := set_cells (i := i) (c := enc z) hsz (encs_len t.its) rfl hc hpl htk
      rw [← encs_set t.its i z hpl] at hset
      have hs := (hs.foc (pts g (.cells (splice cur (i * 2) #[.int .i64 z.key, .int .i64 z.val].toList) 45 (0, 0)))).mk_arr' (n := t.its.length) (cap := cap) hc hcm (by rw [splice_size (by rw [hsz]; simp; omega), hsz]) hset
      have e9 : t.its.length = (t.its.set i z).length := by rw [List.length_set]
      rw [e9] at hs
      have hs := hs.fold (node_fold c b (.slice (some ⟨g, 0, none⟩) (t.its.set i z).length cap) v2 (t.its.set i z) bs)
      refine WP_seq ?_
      obtain ⟨⟨u3, u4⟩, hs⟩ := (hs.foc (NodeP c xb (r) (bsR))).ex
      simp only [mul_assoc'] at hs
      obtain ⟨a4, c4, rfl, hc4, hcm4⟩ := (hs.foc (PArr u4 bsR)).arr_form
      -- R15
      refine WP_seqr [⟨0, 0, []⟩, ⟨1, 0, []⟩, ⟨2, 0, []⟩, ⟨3, 1, []⟩, ⟨4, 0, []⟩, ⟨5, 0, []⟩] (by kernel_rfl) ?_
      refine ns_move rfl rfl ?_
      refine ns_nil rfl rfl rfl ?_
      refine ns_fld fo_103_1 rfl rfl rfl ?_
      refine ns_ldB pl_101 hs rfl rfl rfl (by rfl) ?_
      refine ns_len sl_101 rfl rfl rfl ?_
      refine ns_cmp _ rfl rfl rfl rfl rfl ?_
      refine ns_done ?_
      have hs := hs.fold (node_fold c xb u3 (.slice a4 bsR.length c4) r bsR)
      refine WP_if rfl (fun hif4 => ?_) (fun hif4 => ?_)
      · obtain ⟨qb, br, rfl⟩ : ∃ qb br, bsR = qb :: br := by
          cases hh : bsR with
          | nil => rw [hh] at hif4; simp at hif4
          | cons q r => exact ⟨q, r, rfl⟩
        obtain ⟨⟨p1, p2⟩, hs⟩ := (hs.foc (NodeP c yb (k.its ++ [wi]) (bsL))).ex
        simp only [mul_assoc'] at hs
        -- R16
        refine WP_net hs mix [0, 0, 2, 6, 14, 0, 32, 96, 224, 480, 1022, 2047, 4095, 8191] [⟨0, 0, []⟩, ⟨1, 0, []⟩, ⟨2, 0, []⟩, ⟨3, 0, []⟩, ⟨4, 1, []⟩, ⟨5, 0, []⟩, ⟨6, 0, []⟩, ⟨7, 0, []⟩, ⟨8, 2, [4]⟩, ⟨9, 2, [4]⟩, ⟨10, 2, []⟩, ⟨11, 0, []⟩, ⟨12, 0, []⟩, ⟨13, 2, []⟩] (by kernel_rfl) ?_
        intro w hs
        refine ns_move rfl rfl ?_
        refine ns_move rfl rfl ?_
        refine ns_nil rfl rfl rfl ?_
        refine ns_fld fo_103_1 rfl rfl rfl ?_
        refine ns_ldB pl_101 hs rfl rfl rfl (by rfl) ?_
        refine ns_move rfl rfl ?_
        refine ns_nil rfl rfl rfl ?_
        refine ns_fld fo_103_1 rfl rfl rfl ?_
        refine ns_callK (f102_ok c xb 0 qb r (qb :: br) rfl) ck_102 (hs.foc (NodeP c xb r (qb :: br))) rfl rfl rfl rfl ?_
        refine fun v155 w hs => ⟨⟨hs.c yb 1, trivial⟩, ?_⟩
        replace hs := hs.pu
        obtain ⟨rfl, hs⟩ := hs
        rw [show (qb :: br).eraseIdx 0 = br from rfl] at hs
        have hk4 := hs.c yb 1
        refine ns_lit [ptr qb] [ptr qb] sl_101 zr_85 (by decide) (by decide) hs rfl rfl rfl rfl (by simp [Value.cells, ptr]) rfl ?_
        refine fun b156 w hs hx => ⟨⟨hx _ _ hk4, trivial⟩, ?_⟩
        refine ns_app [ptr qb] sl_101 zr_85 by_85 rfl (by decide) (hs.foc (PArr p2 bsL)) rfl rfl rfl rfl rfl (St.cells (n := 1) hs (by rfl)) (by intro u hu; simp at hu; subst hu; rfl) (by simp only [maxLen]; omega) (by omega) ?_
        refine fun v157 w hs hv => ⟨trivial, ?_⟩
        have hs := hs.up (Ent.of_eq (PArr_eq (l := bsL ++ [qb]) (by simp) (by simp)))
        obtain ⟨a6, c6, rfl, _, _⟩ := hs.arr_form
        refine ns_nil rfl rfl rfl ?_
        refine ns_fld fo_103_1 rfl rfl rfl ?_
        refine ns_st (.slice a6 (bsL ++ [qb]).length c6) pl_101 hs rfl rfl rfl rfl rfl (by simp) ?_
        refine fun w hs => ⟨trivial, ?_⟩
        try simp only [Nat.zero_add] at hs
        try simp only [List.setIfInBounds_toArray] at hs
        try simp only [List.set_cons_succ] at hs
        try simp only [List.set_cons_zero] at hs
        refine ns_done ?_
        have hs := hs.fold (node_fold c yb p1 (.slice a6 (bsL ++ [qb]).length c6) (k.its ++ [wi]) (bsL ++ [qb]))
        have hs := hs.fold (giveR_fold (c := c) (h := h) (L := k) (R := R) (bsL := bsL) (yb := yb) (xb := xb) (qb := qb) (br := br) (r := r) (w := wi) hlenL hlenR)
        simp only [mul_assoc'] at hs
        have hs := hs.fold (pair_fold (c := c) (h := h) (b := b) (p := i) (t := t) (bs := bs) (yb := yb) (xb := xb) (t.its.set i z) (takeR k R wi) (giveR R r) hlen hpk hyb hxb)
        exact ⟨_, rfl, rfl, rfl, rfl, rfl, hGr, hs.out⟩
      refine WP_skip ?_
      have h0 : bsR.length = 0 := by simp at hif4; rw [hif4]; rfl
      have hs := hs.fold (giveR_fold0 (c := c) (h := h) (L := k) (R := R) (bsL := bsL) (bsR := bsR) (yb := yb) (xb := xb) (r := r) (w := wi) hlenL hlenR h0)
      simp only [mul_assoc'] at hs
      have hs := hs.fold (pair_fold (c := c) (h := h) (b := b) (p := i) (t := t) (bs := bs) (yb := yb) (xb := xb) (t.its.set i z) (takeR k R wi) (giveR R r) hlen hpk hyb hxb)
      exact ⟨_, rfl, rfl, rfl, rfl, rfl, hGr, hs.out⟩
    refine WP_seq_cut (fun σ w => ∃ p : Nat, (p = i ∨ (i = p + 1 ∧ t.its.length = p + 1)) ∧ p + 1 ≤ t.its.length ∧ σ 0 = ptr b ∧ σ 1 = .int .i64 p ∧ σ 3 = .int .i64 mn ∧ σ 4 = .int .i64 ty ∧ σ 7 = .pointer (some ⟨b7, 0, none⟩) ∧ σ 10 = .pointer (some ⟨b10, 0, none⟩) ∧ St w0 (pts b7 (.cells #[.int .i64 x.key, .int .i64 x.val] 45 (0, 0)) * (pts b10 (.cells #[.int .i64 0, .int .i64 0] 45 (0, 0)) * (Tp c (h + 1) t b * (Ctx c fl * F)))) w) ?_ ?_ -- S2
    · refine WP_seq ?_
      have hs0 := hs
      obtain ⟨bs, hlen, hs⟩ := St.tree (hs.foc (Tp c (h + 1) t b))
      obtain ⟨⟨v1, v2⟩, hs⟩ := (hs.foc (NodeP c b (t.its) (bs))).ex
      simp only [mul_assoc'] at hs
      obtain ⟨a1, c1, rfl, hc1, hcm1⟩ := (hs.foc (IArr v1 t.its)).arr_form
      -- R17
      refine WP_seqr [⟨0, 0, []⟩, ⟨1, 0, []⟩, ⟨2, 0, []⟩, ⟨3, 0, []⟩, ⟨4, 1, []⟩, ⟨5, 0, []⟩, ⟨6, 0, []⟩] (by kernel_rfl) ?_
      refine ns_move rfl rfl ?_
      refine ns_move rfl rfl ?_
      refine ns_nil rfl rfl rfl ?_
      refine ns_fld fo_103_0 rfl rfl rfl ?_
      refine ns_ldB pl_100 hs rfl rfl rfl (by rfl) ?_
      refine ns_len sl_100 rfl rfl rfl ?_
      refine ns_cmp _ rfl rfl rfl rfl rfl ?_
      refine ns_done ?_
      refine WP_if rfl (fun hif5 => ?_) (fun hif5 => ?_)
      · -- R18
        refine WP_seqr [⟨0, 0, []⟩, ⟨1, 0, []⟩, ⟨2, 0, []⟩] (by kernel_rfl) ?_
        refine ns_move rfl rfl ?_
        refine ns_sub rfl rfl rfl rfl (by omega) (by omega) ?_
        refine ns_asg rfl rfl ?_
        refine ns_done ?_
        have h5 := of_decide_eq_true hif5
        exact ⟨i - 1, .inr ⟨by omega, by omega⟩, by omega, rfl, congrArg (Value.int .i64) (by omega), rfl, rfl, rfl, rfl, hs0⟩
      refine WP_skip ?_
      have h5 := of_decide_eq_false hif5
      exact ⟨i, .inl rfl, by omega, rfl, rfl, rfl, rfl, rfl, rfl, hs0⟩
    rintro σ w ⟨p, hpi, hpl, g0, g1, g3, g4, g7, g10, hs⟩
    obtain ⟨σ, rfl⟩ := rebase g0
    obtain ⟨σ, rfl⟩ := rebase (σ := σ) g1
    obtain ⟨σ, rfl⟩ := rebase (σ := σ) g3
    obtain ⟨σ, rfl⟩ := rebase (σ := σ) g4
    obtain ⟨σ, rfl⟩ := rebase (σ := σ) g7
    obtain ⟨σ, rfl⟩ := rebase (σ := σ) g10
    clear g0 g1 g3 g4 g7 g10
    obtain ⟨L, hL⟩ : ∃ L, t.kids[p]? = some L := ⟨t.kids[p]'(by omega), List.getElem?_eq_getElem (by omega)⟩
    obtain ⟨R, hR⟩ : ∃ R, t.kids[p + 1]? = some R := ⟨t.kids[p + 1]'(by omega), List.getElem?_eq_getElem (by omega)⟩
    have hkoL := kid_ok hO hL
    have hkoR := kid_ok hO hR
    have hpk : p + 1 < t.kids.length := (List.getElem?_eq_some_iff.1 hR).1
    obtain ⟨wi, hw⟩ : ∃ wi, t.its[p]? = some wi := ⟨t.its[p]'(by omega), List.getElem?_eq_getElem (by omega)⟩
    have hsml : L.its.length ≤ mn ∧ R.its.length ≤ mn := by
      rcases hpi with rfl | ⟨rfl, e⟩
      · rw [hk] at hL
        cases hL
        exact ⟨hsm, q4 hif3 R (by omega) hR⟩
      · rw [hk] at hR
        cases hR
        exact ⟨q2 hif1 p L rfl hL, hsm⟩
    have hGr := grown_join (ty := ty) (x := x) hO hS hmx (by rw [hp]; exact hpi.imp Eq.symm id) hw hL hR hsml.1 hsml.2
    obtain ⟨bs, hlen, hs⟩ := St.tree (hs.foc (Tp c (h + 1) t b))
    obtain ⟨yb, hyb⟩ : ∃ yb, bs[p]? = some yb := ⟨bs[p]'(by omega), List.getElem?_eq_getElem (by omega)⟩
    obtain ⟨xb, hxb⟩ : ∃ xb, bs[p + 1]? = some xb := ⟨bs[p + 1]'(by omega), List.getElem?_eq_getElem (by omega)⟩
    rw [Ks_pair hL hR hyb hxb] at hs
    simp only [mul_assoc'] at hs
    obtain ⟨bsL, hlenL, hs⟩ := St.tree (hs.foc (Tq c (h + 1) L yb))
    obtain ⟨bsR, hlenR, hs⟩ := St.tree (hs.foc (Tq c (h + 1) R xb))
    have hbL : bsL.length < 1000000 := by
      by_cases h0 : L.kids.length = 0
      · omega
      · have := kids_len hkoL.2.2 h0; omega
    have hbR : bsR.length < 1000000 := by
      by_cases h0 : R.kids.length = 0
      · omega
      · have := kids_len hkoR.2.2 h0; omega
    have hbs : bs.length < 1000000 := by omega
    refine WP_seq ?_
    -- R19
    refine WP_seqr [⟨0, 0, []⟩, ⟨1, 0, []⟩, ⟨2, 2, []⟩, ⟨3, 0, []⟩] (by kernel_rfl) ?_
    refine ns_move rfl rfl ?_
    refine ns_move rfl rfl ?_
    refine ns_call (f86_ok c b p yb t.its L.its bs bsL hyb) ck_86 (hs.foc (NodeP c b t.its bs * NodeP c yb L.its bsL)) rfl rfl rfl rfl ?_
    intro v171 w hs
    replace hs := hs.pu
    obtain ⟨rfl, hs⟩ := hs
    simp only [mul_assoc'] at hs
    refine ns_asg rfl rfl ?_
    refine ns_done ?_
    refine WP_seq ?_
    -- R20
    refine WP_seqr [⟨0, 0, []⟩, ⟨1, 0, []⟩, ⟨2, 0, []⟩, ⟨3, 0, []⟩, ⟨4, 2, []⟩, ⟨5, 2, []⟩, ⟨6, 2, []⟩] (by kernel_rfl) ?_
    refine ns_move rfl rfl ?_
    refine ns_nil rfl rfl rfl ?_
    refine ns_fld fo_103_0 rfl rfl rfl ?_
    refine ns_move rfl rfl ?_
    refine ns_call (f96_ok c b p wi t.its bs hw) ck_96 (hs.foc (NodeP c b t.its bs)) rfl rfl rfl rfl ?_
    intro v176 w hs
    replace hs := hs.pu
    obtain ⟨rfl, hs⟩ := hs
    refine ns_alloc zc_45 hs rfl rfl ?_
    intro b19 w hs
    refine ns_stA (#[.int .i64 wi.key, .int .i64 wi.val]) ag_45 rfl (by decide) hs rfl rfl rfl rfl (by intro u hu; simp at hu; rcases hu with rfl | rfl <;> rfl) (by simp) ?_
    refine fun w hs => ⟨trivial, ?_⟩
    rw [splice2] at hs
    refine ns_done ?_
    refine WP_seq ?_
    -- R21
    refine WP_seqr [⟨0, 0, []⟩, ⟨1, 0, []⟩, ⟨2, 0, []⟩, ⟨3, 0, []⟩, ⟨4, 0, []⟩, ⟨5, 2, []⟩, ⟨6, 0, []⟩] (by kernel_rfl) ?_
    refine ns_move rfl rfl ?_
    refine ns_nil rfl rfl rfl ?_
    refine ns_fld fo_103_1 rfl rfl rfl ?_
    refine ns_move rfl rfl ?_
    refine ns_add rfl rfl rfl rfl (by omega) (by omega) ?_
    refine ns_call (f102_ok c b (p + 1) xb (t.its.eraseIdx p) bs hxb) ck_102 (hs.foc (NodeP c b (t.its.eraseIdx p) bs)) rfl rfl rfl rfl ?_
    intro v182 w hs
    replace hs := hs.pu
    obtain ⟨rfl, hs⟩ := hs
    refine ns_asg rfl rfl ?_
    refine ns_done ?_
    refine WP_seq ?_
    obtain ⟨⟨u1, u2⟩, hs⟩ := (hs.foc (NodeP c yb (L.its) (bsL))).ex
    simp only [mul_assoc'] at hs
    -- R22
    refine WP_net hs mix [0, 0, 2, 6, 14, 0, 32, 126, 255, 511, 1023] [⟨0, 0, []⟩, ⟨1, 0, []⟩, ⟨2, 0, []⟩, ⟨3, 0, []⟩, ⟨4, 1, []⟩, ⟨5, 1, []⟩, ⟨6, 2, [4]⟩, ⟨7, 2, []⟩, ⟨8, 0, []⟩, ⟨9, 0, []⟩, ⟨10, 2, []⟩] (by kernel_rfl) ?_
    intro w hs
    refine ns_move rfl rfl ?_
    refine ns_move rfl rfl ?_
    refine ns_nil rfl rfl rfl ?_
    refine ns_fld fo_103_0 rfl rfl rfl ?_
    have hk4 := hs.c yb 0
    refine ns_ldB pl_100 hs rfl rfl rfl (by rfl) ?_
    refine ns_ldAB [.int .i64 wi.key, .int .i64 wi.val] ag_45 hs rfl rfl rfl (by rfl) (by rfl) (by decide) ?_
    refine ns_lit [itV wi] [.int .i64 wi.key, .int .i64 wi.val] sl_100 zr_45 (by decide) (by decide) hs rfl rfl rfl rfl (by simp [Value.cells, itV]) rfl ?_
    refine fun b189 w hs hx => ⟨⟨hx _ _ hk4, trivial⟩, ?_⟩
    refine ns_app [.int .i64 wi.key, .int .i64 wi.val] sl_100 zr_45 by_45 rfl (by decide) (hs.foc (IArr u1 L.its)) rfl rfl rfl rfl rfl (St.cells (n := 2) hs (by rfl)) (by intro u hu; simp at hu; rcases hu with rfl | rfl <;> rfl) (by simp only [maxLen]; omega) (by omega) ?_
    refine fun v190 w hs hv => ⟨trivial, ?_⟩
    have hs := hs.up (Ent.of_eq (IArr_eq (l := L.its ++ [wi]) (by simp) (by rw [encs_append]; rfl)))
    obtain ⟨a5, c5, rfl, _, _⟩ := hs.arr_form
    refine ns_nil rfl rfl rfl ?_
    refine ns_fld fo_103_0 rfl rfl rfl ?_
    refine ns_st (.slice a5 (L.its ++ [wi]).length c5) pl_100 hs rfl rfl rfl rfl rfl (by simp) ?_
    refine fun w hs => ⟨trivial, ?_⟩
    try simp only [Nat.zero_add] at hs
    try simp only [List.setIfInBounds_toArray] at hs
    try simp only [List.set_cons_succ] at hs
    try simp only [List.set_cons_zero] at hs
    refine ns_done ?_
    refine WP_seq ?_
    obtain ⟨⟨u3, u4⟩, hs⟩ := (hs.foc (NodeP c xb (R.its) (bsR))).ex
    simp only [mul_assoc'] at hs
    obtain ⟨_, hz3, _⟩ | ⟨g3, cap3, cur3, hv3, hc3, hcm3, hsz3, htk3, hs⟩ := (hs.foc (IArr (u3) (R.its))).arr
    · omega
    cases hv3
    have hlw : (L.its ++ [wi]).length = L.its.length + 1 := by simp
    -- R23
    refine WP_net hs mix [0, 0, 2, 6, 14, 0, 32, 96, 224, 510, 1023, 2047, 4095] [⟨0, 0, []⟩, ⟨1, 0, []⟩, ⟨2, 0, []⟩, ⟨3, 0, []⟩, ⟨4, 1, []⟩, ⟨5, 0, []⟩, ⟨6, 0, []⟩, ⟨7, 0, []⟩, ⟨8, 1, []⟩, ⟨9, 2, []⟩, ⟨10, 0, []⟩, ⟨11, 0, []⟩, ⟨12, 2, []⟩] (by kernel_rfl) ?_
    intro w hs
    refine ns_move rfl rfl ?_
    refine ns_move rfl rfl ?_
    refine ns_nil rfl rfl rfl ?_
    refine ns_fld fo_103_0 rfl rfl rfl ?_
    refine ns_ldB pl_100 hs rfl rfl rfl (by rfl) ?_
    refine ns_move rfl rfl ?_
    refine ns_nil rfl rfl rfl ?_
    refine ns_fld fo_103_0 rfl rfl rfl ?_
    refine ns_ldB pl_100 hs rfl rfl rfl (by rfl) ?_
    refine ns_app (encs R.its) sl_100 zr_45 by_45 rfl (by decide) (hs.foc (IArr (.slice a5 (L.its ++ [wi]).length c5) (L.its ++ [wi]))) rfl rfl rfl rfl (encs_len R.its) (row_cells hs htk3 0 (encs R.its).length (by simp)) (fun u hu => encs_one R.its u hu) (by simp only [maxLen]; omega) (by omega) ?_
    refine fun v202 w hs hv => ⟨trivial, ?_⟩
    have hs := hs.up (Ent.of_eq (IArr_eq (l := L.its ++ wi :: R.its) (by simp; omega) (by rw [← encs_append]; simp)))
    obtain ⟨a7, c7, rfl, _, _⟩ := hs.arr_form
    refine ns_nil rfl rfl rfl ?_
    refine ns_fld fo_103_0 rfl rfl rfl ?_
    refine ns_st (.slice a7 (L.its ++ wi :: R.its).length c7) pl_100 hs rfl rfl rfl rfl rfl (by simp) ?_
    refine fun w hs => ⟨trivial, ?_⟩
    try simp only [Nat.zero_add] at hs
    try simp only [List.setIfInBounds_toArray] at hs
    try simp only [List.set_cons_succ] at hs
    try simp only [List.set_cons_zero] at hs
    refine ns_done ?_
    refine WP_seq_cut (fun σ w => σ 0 = ptr b ∧ σ 3 = .int .i64 mn ∧ σ 4 = .int .i64 ty ∧ σ 7 = .pointer (some ⟨b7, 0, none⟩) ∧ σ 10 = .pointer (some ⟨b10, 0, none⟩) ∧ σ 20 = ptr xb ∧ St w0 (NodeP c xb R.its bsR * (Ctx c fl * (NodeP c b (t.its.eraseIdx p) (bs.eraseIdx (p + 1)) * (NodeP c yb (L.its ++ wi :: R.its) (bsL ++ bsR) * (Ks c h L.kids bsL * (Ks c h R.kids bsR * (Kr c (h + 1) t.kids bs p * (pts b7 (.cells #[.int .i64 x.key, .int .i64 x.val] 45 (0, 0)) * (pts b10 (.cells #[.int .i64 0, .int .i64 0] 45 (0, 0)) * F))))))))) w) ?_ ?_ -- R24.cut
    · have hs := (hs.foc (pts g3 (.cells cur3 45 (0, 0)))).mk_arr' hc3 hcm3 hsz3 htk3
      rcases (hs.foc (PArr u4 bsR)).arr with ⟨e1, e2, e3, hs⟩ | ⟨g4, cap4, cur4, e1, hc4, hcm4, hsz4, htk4, hs⟩ <;> subst e1
      · -- R24
        refine WP_net hs mix [0, 0, 2, 6, 14, 0, 32, 96, 224, 510, 1023, 2047, 4095] [⟨0, 0, []⟩, ⟨1, 0, []⟩, ⟨2, 0, []⟩, ⟨3, 0, []⟩, ⟨4, 1, []⟩, ⟨5, 0, []⟩, ⟨6, 0, []⟩, ⟨7, 0, []⟩, ⟨8, 1, []⟩, ⟨9, 2, []⟩, ⟨10, 0, []⟩, ⟨11, 0, []⟩, ⟨12, 2, []⟩] (by kernel_rfl) ?_
        intro w hs
        refine ns_move rfl rfl ?_
        refine ns_move rfl rfl ?_
        refine ns_nil rfl rfl rfl ?_
        refine ns_fld fo_103_1 rfl rfl rfl ?_
        refine ns_ldB pl_101 hs rfl rfl rfl (by rfl) ?_
        refine ns_move rfl rfl ?_
        refine ns_nil rfl rfl rfl ?_
        refine ns_fld fo_103_1 rfl rfl rfl ?_
        refine ns_ldB pl_101 hs rfl rfl rfl (by rfl) ?_
        refine ns_app0 sl_101 (hs.foc (PArr u2 bsL)) rfl rfl rfl rfl ?_
        refine ⟨trivial, ?_⟩
        obtain ⟨a8, c8, rfl, _, _⟩ := (hs.foc (PArr u2 bsL)).arr_form
        refine ns_nil rfl rfl rfl ?_
        refine ns_fld fo_103_1 rfl rfl rfl ?_
        refine ns_st (.slice a8 bsL.length c8) pl_101 hs rfl rfl rfl rfl rfl (by simp) ?_
        refine fun w hs => ⟨trivial, ?_⟩
        try simp only [Nat.zero_add] at hs
        try simp only [List.setIfInBounds_toArray] at hs
        try simp only [List.set_cons_succ] at hs
        try simp only [List.set_cons_zero] at hs
        refine ns_done ?_
        have hz : bsR = [] := List.eq_nil_of_length_eq_zero e2
        subst hz
        have hs := hs.fold (node_fold c yb (.slice a7 (L.its ++ wi :: R.its).length c7) (.slice a8 bsL.length c8) (L.its ++ wi :: R.its) bsL)
        have hs : St w0 (PArr (.slice none 0 0) [] * _) w := hs.eq (show _ = (PArr (.slice none 0 0) [] : HProp) * _ by rw [show (PArr (.slice none 0 0) [] : HProp) = 1 from Arr.nil 85 1, one_mul'])
        have hs := hs.fold (node_fold c xb (.slice (some ⟨g3, 0, none⟩) R.its.length cap3) (.slice none 0 0) R.its [])
        rw [List.append_nil]
        exact ⟨rfl, rfl, rfl, rfl, rfl, rfl, hs.out⟩
      · -- R24
        refine WP_net hs mix [0, 0, 2, 6, 14, 0, 32, 96, 224, 510, 1023, 2047, 4095] [⟨0, 0, []⟩, ⟨1, 0, []⟩, ⟨2, 0, []⟩, ⟨3, 0, []⟩, ⟨4, 1, []⟩, ⟨5, 0, []⟩, ⟨6, 0, []⟩, ⟨7, 0, []⟩, ⟨8, 1, []⟩, ⟨9, 2, []⟩, ⟨10, 0, []⟩, ⟨11, 0, []⟩, ⟨12, 2, []⟩] (by kernel_rfl) ?_
        intro w hs
        refine ns_move rfl rfl ?_
        refine ns_move rfl rfl ?_
        refine ns_nil rfl rfl rfl ?_
        refine ns_fld fo_103_1 rfl rfl rfl ?_
        refine ns_ldB pl_101 hs rfl rfl rfl (by rfl) ?_
        refine ns_move rfl rfl ?_
        refine ns_nil rfl rfl rfl ?_
        refine ns_fld fo_103_1 rfl rfl rfl ?_
        refine ns_ldB pl_101 hs rfl rfl rfl (by rfl) ?_
        refine ns_app (bsR.map ptr) sl_101 zr_85 by_85 rfl (by decide) (hs.foc (PArr u2 bsL)) rfl rfl rfl rfl (by rw [List.length_map, Nat.mul_one]) (row_cells hs htk4 0 (bsR.map ptr).length (List.take_of_length_le (Nat.le_refl _))) (fun u hu => ptrs_one bsR u hu) (by simp only [maxLen]; omega) (by omega) ?_
        refine fun v214 w hs hv => ⟨trivial, ?_⟩
        have hs := hs.up (Ent.of_eq (PArr_eq (l := bsL ++ bsR) (by simp) (by simp)))
        obtain ⟨a8, c8, rfl, _, _⟩ := hs.arr_form
        refine ns_nil rfl rfl rfl ?_
        refine ns_fld fo_103_1 rfl rfl rfl ?_
        refine ns_st (.slice a8 (bsL ++ bsR).length c8) pl_101 hs rfl rfl rfl rfl rfl (by simp) ?_
        refine fun w hs => ⟨trivial, ?_⟩
        try simp only [Nat.zero_add] at hs
        try simp only [List.setIfInBounds_toArray] at hs
        try simp only [List.set_cons_succ] at hs
        try simp only [List.set_cons_zero] at hs
        refine ns_done ?_
        have hs := (hs.foc (pts g4 (.cells cur4 85 (0, 0)))).mk_arr' hc4 hcm4 hsz4 htk4
        have hs := hs.fold (node_fold c yb (.slice a7 (L.its ++ wi :: R.its).length c7) (.slice a8 (bsL ++ bsR).length c8) (L.its ++ wi :: R.its) (bsL ++ bsR))
        have hs := hs.fold (node_fold c xb (.slice (some ⟨g3, 0, none⟩) R.its.length cap3) (.slice (some ⟨g4, 0, none⟩) bsR.length cap4) R.its bsR)
        exact ⟨rfl, rfl, rfl, rfl, rfl, rfl, hs.out⟩
    rintro σ w ⟨g0, g3, g4, g7, g10, g20, hs⟩
    obtain ⟨σ, rfl⟩ := rebase g0
    obtain ⟨σ, rfl⟩ := rebase (σ := σ) g3
    obtain ⟨σ, rfl⟩ := rebase (σ := σ) g4
    obtain ⟨σ, rfl⟩ := rebase (σ := σ) g7
    obtain ⟨σ, rfl⟩ := rebase (σ := σ) g10
    obtain ⟨σ, rfl⟩ := rebase (σ := σ) g20
    clear g0 g3 g4 g7 g10 g20
    obtain ⟨⟨v1, v2⟩, hs⟩ := (hs.foc (NodeP c b (t.its.eraseIdx p) (bs.eraseIdx (p + 1)))).ex
    simp only [mul_assoc'] at hs
    -- R25
    refine WP_seqr [⟨0, 0, []⟩, ⟨1, 0, []⟩, ⟨2, 0, []⟩, ⟨3, 1, []⟩, ⟨4, 0, []⟩, ⟨5, 2, []⟩] (by kernel_rfl) ?_
    refine ns_move rfl rfl ?_
    refine ns_nil rfl rfl rfl ?_
    refine ns_fld fo_103_2 rfl rfl rfl ?_
    refine ns_ldB pl_82 hs rfl rfl rfl (by rfl) ?_
    refine ns_move rfl rfl ?_
    refine ns_call (f89_ok c fl xb R.its bsR) ck_89 (hs.foc (NodeP c xb R.its bsR * Ctx c fl)) rfl rfl rfl rfl ?_
    intro v222 w hs
    replace hs := hs.ex
    obtain ⟨kk, hs⟩ := hs
    replace hs := hs.pu
    obtain ⟨rfl, hs⟩ := hs
    refine ns_done ?_
    have hs := hs.fold (node_fold c b v1 v2 (t.its.eraseIdx p) (bs.eraseIdx (p + 1)))
    have hs := hs.fold (join_fold (c := c) (h := h) (L := L) (R := R) (bsL := bsL) (bsR := bsR) (yb := yb) (w := wi) hlenL hlenR)
    have hs := hs.fold (merge_fold (c := c) (h := h) (b := b) (p := p) (t := t) (bs := bs) (yb := yb) (t.its.eraseIdx p) (joinT L R wi) hlen hpk hyb)
    exact ⟨_, rfl, rfl, rfl, rfl, rfl, hGr, hs.out⟩
  rintro σ w ⟨t1, g0, g3, g4, g7, g10, hGr, hs⟩
  obtain ⟨σ, rfl⟩ := rebase g0
  obtain ⟨σ, rfl⟩ := rebase (σ := σ) g3
  obtain ⟨σ, rfl⟩ := rebase (σ := σ) g4
  obtain ⟨σ, rfl⟩ := rebase (σ := σ) g7
  obtain ⟨σ, rfl⟩ := rebase (σ := σ) g10
  clear g0 g3 g4 g7 g10
  refine WP_seq ?_
  -- R26
  refine WP_seqr [⟨0, 0, []⟩, ⟨1, 1, []⟩, ⟨2, 0, []⟩, ⟨3, 0, []⟩, ⟨4, 2, []⟩, ⟨5, 0, []⟩, ⟨6, 0, []⟩, ⟨7, 2, []⟩, ⟨8, 0, []⟩] (by kernel_rfl) ?_
  refine ns_move rfl rfl ?_
  refine ns_ldAB [.int .i64 x.key, .int .i64 x.val] ag_45 hs rfl rfl rfl (by rfl) (by rfl) (by decide) ?_
  refine ns_move rfl rfl ?_
  refine ns_move rfl rfl ?_
  refine ns_call (hrec t1 hGr) ck_87 (hs.foc (Tp c (h + 1) t1 b * Ctx c fl)) rfl rfl rfl rfl ?_
  intro v227 w hs
  unfold RemP at hs
  replace hs := hs.ex
  obtain ⟨t2, hs⟩ := hs
  replace hs := hs.pu
  obtain ⟨⟨rfl, r1, r2, r3, r4⟩, hs⟩ := hs
  simp only [mul_assoc'] at hs
  refine ns_ext rfl rfl rfl rfl ?_
  refine ns_ext rfl rfl rfl rfl ?_
  refine ns_stA (#[.int .i64 ((rmo ty (flat (h + 1) t1) x).getD zero).key, .int .i64 ((rmo ty (flat (h + 1) t1) x).getD zero).val]) ag_45 rfl (by decide) hs rfl rfl rfl rfl (by intro u hu; simp at hu; rcases hu with rfl | rfl <;> rfl) (by simp) ?_
  refine fun w hs => ⟨trivial, ?_⟩
  refine ns_asg rfl rfl ?_
  refine ns_done ?_
  refine WP_ret ?_
  have hload := run_loadVarA (P := Try.prog) (t := 45) (n := 2) (ad := ⟨b10, 0, none⟩) (vs := [.int .i64 ((rmo ty (flat (h + 1) t1) x).getD zero).key, .int .i64 ((rmo ty (flat (h + 1) t1) x).getD zero).val]) ag_45 rfl (by decide) w (St.cells (n := 2) hs (by rfl))
  obtain ⟨_, hF, h1, h2, _⟩ := hGr
  rw [hF] at r4
  have hv := congrArg (fun l => ans (rmo ty l x)) hF
  exact ⟨_, resCT 10 45 11 rfl hload, St.mk_ex t2 (St.mk_pu ⟨hv, r1, by omega, by omega, r4⟩ hs.out)⟩
/-- taking out where the kid that is gone into can give -/
theorem f87_big (c fl mn mx h b ty : Nat) (x : It) (t : Tr) (hmn : 1 ≤ mn) (hm : mx < 10000) (hty : ty = 0 ∨ ty = 1 ∨ ty = 2) (hO : Ok mn mx (h + 1) t) (hl : t.its.length ≤ mx) (hS : Srt (flat (h + 1) t))
    (hbig : ∀ k : Tr, t.kids[plc ty t x]? = some k → mn < k.its.length)
    (hkid : ∀ (ty' : Nat) (k : Tr) (xb : Nat) (x' : It), (ty' = 0 ∨ ty' = 1 ∨ ty' = 2) → Ok mn mx h k → mn < k.its.length → k.its.length ≤ mx → Srt (flat h k) → Tri Try.prog 87 #[ptr xb, itV x', .int .i64 mn, .int .i64 ty'] (Tp c h k xb * Ctx c fl) (RemP c fl mn mx h xb k x' ty' 1)) :
    Tri Try.prog 87 #[ptr b, itV x, .int .i64 mn, .int .i64 ty] (Tp c (h + 1) t b * Ctx c fl) (RemP c fl mn mx (h + 1) b t x ty 0) :=
  f87_step c fl mn mx (h + 1) b ty 0 x t hmn hm hty hO hl hS (fun e => by cases e) (fun h' ty' k xb x' e => by cases e; exact hkid ty' k xb x') fun k hk hle => absurd (hbig k hk) (by omega)
theorem f87_ok (c fl mn mx : Nat) (hmn : 1 ≤ mn) (hmx : mx = 2 * mn + 1) (hm : mx < 10000) : ∀ (h ty b : Nat) (t : Tr) (x : It), (ty = 0 ∨ ty = 1 ∨ ty = 2) → Ok mn mx h t → 1 ≤ t.its.length → t.its.length ≤ mx → Srt (flat h t) →
    Tri Try.prog 87 #[ptr b, itV x, .int .i64 mn, .int .i64 ty] (Tp c h t b * Ctx c fl) (RemP c fl mn mx h b t x ty 1) := by
  intro h
  induction h with
  | zero =>
    exact fun ty b t x hty hO h1 hl hS => f87_step c fl mn mx 0 b ty 1 x t hmn hm hty hO hl hS (fun _ => ⟨h1, rfl⟩) (fun h' ty' k xb x' e => by cases e) fun k hk => by rw [show t.kids = [] from hO] at hk; simp at hk
  | succ h ih =>
    intro ty b t x hty hO h1 hl hS
    have hkid : ∀ (ty' : Nat) (k : Tr) (xb : Nat) (x' : It), (ty' = 0 ∨ ty' = 1 ∨ ty' = 2) → Ok mn mx h k → mn < k.its.length → k.its.length ≤ mx → Srt (flat h k) → Tri Try.prog 87 #[ptr xb, itV x', .int .i64 mn, .int .i64 ty'] (Tp c h k xb * Ctx c fl) (RemP c fl mn mx h xb k x' ty' 1) :=
      fun ty' k xb x' ht hk hb hkl hkS => ih ty' xb k x' ht hk (by omega) hkl hkS
    refine f87_step c fl mn mx (h + 1) b ty 1 x t hmn hm hty hO hl hS (fun e => by cases e) (fun h' ty' k xb x' e => by cases e; exact hkid ty' k xb x') fun k hk hsm => ?_
    refine f97_ok c fl mn mx h b ty (plc ty t x) x t k hmn hmx hm hO h1 hl hS rfl hk hsm fun t1 hG => ?_
    obtain ⟨g1, g2, g3, g4, g5⟩ := hG
    exact f87_big c fl mn mx h b ty x t1 hmn hm hty g1 (by omega) (by rw [g2]; exact hS) g5 hkid
end Go.Proofs.Ytnnembkganlbpaa
/- A whole tree in memory: degree, length, root, context; over the list that it holds. -/
namespace Go.Proofs.Ytnnembkganlbpaa
open Go Go.Sl Go.Net Go.Wk Go.Bt Go.RowKit

def Good (d h : Nat) (t : Tr) (l : List It) : Prop := Ok (d - 1) (2 * d - 1) h t ∧ t.its.length ≤ 2 * d - 1 ∧ flat h t = l ∧ Srt l ∧ (h ≠ 0 → 1 ≤ t.its.length)
def BtN (c d b : Nat) : HProp := pts b (.cells #[.int .i64 d, .int .i64 0, .pointer none, ptr c] 87 (0, 0))
def BtT (c d b n h : Nat) (t : Tr) (rb : Nat) : HProp := pts b (.cells #[.int .i64 d, .int .i64 n, ptr rb, ptr c] 87 (0, 0)) * Tp c h t rb
/-- the tree at b, of degree d, holds the list l -/
def BT (c d b : Nat) (l : List It) : HProp := ex fun o : Option (Nat × Tr × Nat) => match o with
  | none => pu (l = []) * BtN c d b
  | some (h, t, rb) => pu (Good d h t l) * BtT c d b l.length h t rb
theorem bt_nil (c d b : Nat) : Ent (BtN c d b) (BT c d b []) := fun x hx => ⟨none, by
  show (pu (([] : List It) = []) * BtN c d b) x
  rw [pu_true rfl]; exact hx⟩
theorem bt_tree {c d b h rb n : Nat} {t : Tr} {l : List It} (hg : Good d h t l) (hn : n = l.length) : Ent (pts b (.cells #[.int .i64 d, .int .i64 n, ptr rb, ptr c] 87 (0, 0)) * Tp c h t rb) (BT c d b l) := fun x hx => ⟨some (h, t, rb), by
  show (pu (Good d h t l) * BtT c d b l.length h t rb) x
  rw [pu_true hg]; subst hn; exact hx⟩
theorem St.bt {w0 w : World} {c d b : Nat} {l : List It} {F : HProp} (hs : St w0 (BT c d b l * F) w) :
    (l = [] ∧ St w0 (BtN c d b * F) w) ∨ ∃ h t rb, Good d h t l ∧ St w0 (pts b (.cells #[.int .i64 d, .int .i64 l.length, ptr rb, ptr c] 87 (0, 0)) * (Tp c h t rb * F)) w := by
  obtain ⟨o, hs⟩ := St.ex hs
  match o with
  | none => exact .inl hs.pu
  | some (h, t, rb) =>
    have := hs.pu
    refine .inr ⟨h, t, rb, this.1, ?_⟩
    have h2 := this.2
    unfold BtT at h2
    rw [mul_assoc'] at h2
    exact h2
theorem good_put {d h h2 : Nat} {t t2 : Tr} {x : It} {l : List It} (hg : Good d h t l) (h1 : Ok (d - 1) (2 * d - 1) h2 t2) (hl : t2.its.length ≤ 2 * d - 1) (hf : flat h2 t2 = put l x) (hn : h2 ≠ 0 → 1 ≤ t2.its.length) : Good d h2 t2 (put l x) :=
  ⟨h1, hl, hf, srt_put hg.2.2.2.1 x, hn⟩
/-- a root that is full is cut in two below a new root -/
theorem root_cut {d h : Nat} {t : Tr} {y : It} {l : List It} (hd : 2 ≤ d) (hg : Good d h t l) (hfull : t.its.length = 2 * d - 1) (hy : t.its[d - 1]? = some y) : Good d (h + 1) (.mk [y] [cutL t (d - 1), cutR t (d - 1)]) l := by
  obtain ⟨g1, g2, g3, g4, g5⟩ := hg
  have hc := cut_ok g1 (show d - 1 < t.its.length by omega)
  have e1 : (cutL t (d - 1)).its.length = d - 1 := by show (t.its.take (d - 1)).length = _; rw [List.length_take]; omega
  have e2 : (cutR t (d - 1)).its.length = d - 1 := by show (t.its.drop (d - 1 + 1)).length = _; rw [List.length_drop]; omega
  refine ⟨⟨rfl, fun k hk => ?_⟩, by show 1 ≤ _; omega, ?_, g4, fun _ => Nat.le_refl 1⟩
  · have hk : k ∈ [cutL t (d - 1), cutR t (d - 1)] := hk
    simp at hk
    rcases hk with rfl | rfl
    · exact ⟨by omega, by omega, hc.1⟩
    · exact ⟨by omega, by omega, hc.2⟩
  · rw [flat_mk, ← g3, cut_flat g1 hy]
    show flat h (cutL t (d - 1)) ++ (y :: (flat h (cutR t (d - 1)) ++ [])) = _
    rw [List.append_nil]
/-- a root without items gives way to its kid -/
theorem root_drop {d h : Nat} {t k : Tr} {l : List It} (hd : 2 ≤ d) (hO : Ok (d - 1) (2 * d - 1) (h + 1) t) (h0 : t.its = []) (hk : t.kids[0]? = some k) (hf : flat (h + 1) t = l) (hS : Srt l) : Good d h k l := by
  have hko := kid_ok hO hk
  have hl := hO.1
  rw [h0] at hl
  obtain ⟨k2, e⟩ : ∃ k2, t.kids = [k2] := by
    match hh : t.kids, hl with
    | [k2], _ => exact ⟨k2, rfl⟩
  rw [e] at hk
  cases hk
  refine ⟨hko.2.2, hko.2.1, ?_, hS, fun _ => by omega⟩
  rw [← hf]
  show _ = weave t.its (t.kids.map (flat h))
  rw [h0, e]
  exact (weave_one _).symm
end Go.Proofs.Ytnnembkganlbpaa
/- The walk of ReplaceOrInsert. -/
namespace Go.Proofs.Ytnnembkganlbpaa
open Go Go.Sl Go.Net Go.Wk Go.Bt Go.RowKit

theorem get_some {l : List It} (hS : Srt l) (k : Int) : (get l k).isSome = fnd l k := by
  rw [get_eq hS]
  by_cases h : fnd l k = true
  · obtain ⟨x, hx, _⟩ := fnd_lt h
    rw [if_pos h, hx, h]; rfl
  · rw [if_neg h]; simpa using h
theorem len_put {l : List It} (hS : Srt l) (x : It) : (put l x).length = if (get l x.key).isSome = true then l.length else l.length + 1 := by rw [length_put, get_some hS]
set_option maxHeartbeats 1600000 in
theorem f48_nil (c fl d b : Nat) (x : It) (hd : 2 ≤ d) : Tri Try.prog 48 #[ptr b, itV x] (BtN c d b * Ctx c fl) fun v => pu (v = ans none) * (BT c d b [x] * Ctx c fl) := by
  intro w0 F w hs
  unfold BtN at hs
  simp only [mul_assoc'] at hs
  refine calls_WP 148 #[.cell 4 45, .tmp 5] Try.func48 rfl Try.ntmps48 rfl (Nat.le_of_ble_eq_true rfl) ?_
  refine WP_seq ?_
  -- R0
  refine WP_seqr [⟨0, 2, []⟩, ⟨1, 2, []⟩, ⟨2, 0, []⟩] (by kernel_rfl) ?_
  refine ns_box (#[.int .i64 x.key, .int .i64 x.val]) hs rfl rfl rfl rfl ?_
  intro b3 w hs
  refine ns_alloc zc_45 hs rfl rfl ?_
  intro b4 w hs
  refine ns_asg rfl rfl ?_
  refine ns_done ?_
  refine WP_seq ?_ -- S1
  refine WP_seq ?_
  -- R1
  refine WP_seqr [⟨0, 0, []⟩, ⟨1, 0, []⟩, ⟨2, 0, []⟩, ⟨3, 1, []⟩, ⟨4, 0, []⟩] (by kernel_rfl) ?_
  refine ns_move rfl rfl ?_
  refine ns_nil rfl rfl rfl ?_
  refine ns_fld fo_87_2 rfl rfl rfl ?_
  refine ns_ldB pl_85 hs rfl rfl rfl (by rfl) ?_
  refine ns_peq true pt_85 rfl rfl rfl rfl rfl ?_
  refine ns_done ?_
  refine WP_true rfl ?_ -- if1
  refine WP_seq ?_
  -- R2
  refine WP_seqr [⟨0, 0, []⟩, ⟨1, 0, []⟩, ⟨2, 0, []⟩, ⟨3, 0, []⟩, ⟨4, 1, []⟩, ⟨5, 2, []⟩, ⟨6, 0, []⟩, ⟨7, 0, []⟩, ⟨8, 2, []⟩] (by kernel_rfl) ?_
  refine ns_move rfl rfl ?_
  refine ns_move rfl rfl ?_
  refine ns_nil rfl rfl rfl ?_
  refine ns_fld fo_87_3 rfl rfl rfl ?_
  refine ns_ldB pl_82 hs rfl rfl rfl (by rfl) ?_
  refine ns_call (f67_ok c fl) ck_67 (hs.foc (Ctx c fl)) rfl rfl rfl rfl ?_
  intro v21 w hs
  replace hs := hs.ex
  obtain ⟨r, hs⟩ := hs
  replace hs := hs.pu
  obtain ⟨rfl, hs⟩ := hs
  simp only [mul_assoc'] at hs
  refine ns_nil rfl rfl rfl ?_
  refine ns_fld fo_87_2 rfl rfl rfl ?_
  refine ns_st (ptr r) pl_85 hs rfl rfl rfl rfl rfl (by simp) ?_
  refine fun w hs => ⟨trivial, ?_⟩
  try simp only [Nat.zero_add] at hs
  try simp only [List.setIfInBounds_toArray] at hs
  try simp only [List.set_cons_succ] at hs
  try simp only [List.set_cons_zero] at hs
  refine ns_done ?_
  refine WP_seq ?_
  obtain ⟨⟨v1, v2⟩, hs⟩ := (hs.foc (NodeP c r ([]) ([]))).ex
  simp only [mul_assoc'] at hs
  -- R3
  refine WP_net hs mix [0, 1, 3, 7, 0, 16, 48, 112, 240, 496, 1008, 0, 2048, 8176, 16383, 32767, 65535] [⟨0, 0, []⟩, ⟨1, 0, []⟩, ⟨2, 0, []⟩, ⟨3, 1, []⟩, ⟨4, 0, []⟩, ⟨5, 0, []⟩, ⟨6, 0, []⟩, ⟨7, 1, []⟩, ⟨8, 0, []⟩, ⟨9, 0, []⟩, ⟨10, 1, []⟩, ⟨11, 1, []⟩, ⟨12, 2, [3, 7, 10]⟩, ⟨13, 2, [3]⟩, ⟨14, 0, []⟩, ⟨15, 0, []⟩, ⟨16, 2, []⟩] (by kernel_rfl) ?_
  intro w hs
  refine ns_move rfl rfl ?_
  refine ns_nil rfl rfl rfl ?_
  refine ns_fld fo_87_2 rfl rfl rfl ?_
  have hk3 := hs.c b 2
  have hk10 := hs.c r 0
  refine ns_ldB pl_85 hs rfl rfl rfl (by rfl) ?_
  refine ns_move rfl rfl ?_
  refine ns_nil rfl rfl rfl ?_
  refine ns_fld fo_87_2 rfl rfl rfl ?_
  refine ns_ldB pl_85 hs rfl rfl rfl (by rfl) ?_
  refine ns_nil rfl rfl rfl ?_
  refine ns_fld fo_103_0 rfl rfl rfl ?_
  refine ns_ldB pl_100 hs rfl rfl rfl (by rfl) ?_
  refine ns_ldAB [.int .i64 x.key, .int .i64 x.val] ag_45 hs rfl rfl rfl (by rfl) (by rfl) (by decide) ?_
  refine ns_lit [itV x] [.int .i64 x.key, .int .i64 x.val] sl_100 zr_45 (by decide) (by decide) hs rfl rfl rfl rfl (by simp [Value.cells, itV]) rfl ?_
  refine fun b36 w hs hx => ⟨⟨hx _ _ hk3, hx _ _ hk3, hx _ _ hk10, trivial⟩, ?_⟩
  refine ns_app [.int .i64 x.key, .int .i64 x.val] sl_100 zr_45 by_45 rfl (by decide) (hs.foc (IArr v1 [])) rfl rfl rfl rfl rfl (St.cells (n := 2) hs (by rfl)) (by intro u hu; simp at hu; rcases hu with rfl | rfl <;> rfl) (by decide) (by decide) ?_
  refine fun v37 w hs hv => ⟨⟨hs.c b 2, trivial⟩, ?_⟩
  have hs := hs.up (Ent.of_eq (IArr_eq (l := [x]) (by simp) (by rfl)))
  obtain ⟨a5, c5, rfl, _, _⟩ := hs.arr_form
  refine ns_nil rfl rfl rfl ?_
  refine ns_fld fo_103_0 rfl rfl rfl ?_
  refine ns_st (.slice a5 [x].length c5) pl_100 hs rfl rfl rfl rfl rfl (by simp) ?_
  refine fun w hs => ⟨trivial, ?_⟩
  try simp only [Nat.zero_add] at hs
  try simp only [List.setIfInBounds_toArray] at hs
  try simp only [List.set_cons_succ] at hs
  try simp only [List.set_cons_zero] at hs
  refine ns_done ?_
  have hs := hs.fold (node_fold c r (.slice a5 [x].length c5) v2 [x] [])
  refine WP_seq ?_
  -- R4
  refine WP_seqr [⟨0, 0, []⟩, ⟨1, 0, []⟩, ⟨2, 0, []⟩, ⟨3, 1, []⟩, ⟨4, 0, []⟩, ⟨5, 0, []⟩, ⟨6, 0, []⟩, ⟨7, 2, []⟩] (by kernel_rfl) ?_
  refine ns_move rfl rfl ?_
  refine ns_nil rfl rfl rfl ?_
  refine ns_fld fo_87_1 rfl rfl rfl ?_
  refine ns_ldB pl_3 hs rfl rfl rfl (by rfl) ?_
  refine ns_add rfl rfl rfl rfl (by omega) (by omega) ?_
  refine ns_nil rfl rfl rfl ?_
  refine ns_fld fo_87_1 rfl rfl rfl ?_
  refine ns_st (.int .i64 ((1 : Nat) : Int)) pl_3 hs rfl rfl rfl rfl rfl (by simp) ?_
  refine fun w hs => ⟨trivial, ?_⟩
  try simp only [Nat.zero_add] at hs
  try simp only [List.setIfInBounds_toArray] at hs
  try simp only [List.set_cons_succ] at hs
  try simp only [List.set_cons_zero] at hs
  refine ns_done ?_
  refine WP_ret ?_
  have hload := run_loadVarA (P := Try.prog) (t := 45) (n := 2) (ad := ⟨b4, 0, none⟩) (vs := [.int .i64 zero.key, .int .i64 zero.val]) ag_45 rfl (by decide) w (St.cells (n := 2) hs (by rfl))
  have hs : St w0 (Ks c 0 [] [] * _) w := hs.eq (show _ = Ks c 0 [] [] * _ by rw [Ks_nil, one_mul'])
  have hs := hs.fold (tree_fold (c := c) (h := 0) (b := r) (its := [x]) (kids := []) (bs := []) rfl)
  have hg : Good d 0 (.mk [x] []) [x] := ⟨rfl, by show 1 ≤ _; omega, rfl, List.pairwise_singleton _ _, fun h => absurd rfl h⟩
  have hs := hs.fold (bt_tree (c := c) (b := b) (rb := r) (n := 1) hg rfl)
  exact ⟨_, resCT 4 45 5 rfl hload, St.mk_pu rfl hs.out⟩
set_option maxHeartbeats 3200000 in
theorem f48_tree (c fl d b h rb : Nat) (x : It) (t : Tr) (l : List It) (hd : 2 ≤ d) (hd2 : d ≤ 1000) (hg : Good d h t l) (hll : l.length < 1000000) :
    Tri Try.prog 48 #[ptr b, itV x] (pts b (.cells #[.int .i64 d, .int .i64 l.length, ptr rb, ptr c] 87 (0, 0)) * (Tp c h t rb * Ctx c fl)) fun v => pu (v = ans (get l x.key)) * (BT c d b (put l x) * Ctx c fl) := by
  have hmid : (2 * d - 1) / 2 = d - 1 := by omega
  have gl := hg.2.1
  intro w0 F w hs
  simp only [mul_assoc'] at hs
  refine calls_WP 148 #[.cell 4 45, .tmp 5] Try.func48 rfl Try.ntmps48 rfl (Nat.le_of_ble_eq_true rfl) ?_
  refine WP_seq ?_
  -- R0
  refine WP_seqr [⟨0, 2, []⟩, ⟨1, 2, []⟩, ⟨2, 0, []⟩] (by kernel_rfl) ?_
  refine ns_box (#[.int .i64 x.key, .int .i64 x.val]) hs rfl rfl rfl rfl ?_
  intro b3 w hs
  refine ns_alloc zc_45 hs rfl rfl ?_
  intro b4 w hs
  refine ns_asg rfl rfl ?_
  refine ns_done ?_
  refine WP_seq_cut (fun σ w => σ 0 = ptr b ∧ σ 3 = .pointer (some ⟨b3, 0, none⟩) ∧ σ 4 = .pointer (some ⟨b4, 0, none⟩) ∧ ∃ (h1 : Nat) (t1 : Tr) (rb1 : Nat), Good d h1 t1 l ∧ t1.its.length < 2 * d - 1 ∧ St w0 (pts b3 (.cells #[.int .i64 x.key, .int .i64 x.val] 45 (0, 0)) * (pts b4 (.cells #[.int .i64 0, .int .i64 0] 45 (0, 0)) * (pts b (.cells #[.int .i64 d, .int .i64 l.length, ptr rb1, ptr c] 87 (0, 0)) * (Tp c h1 t1 rb1 * (Ctx c fl * F))))) w) ?_ ?_ -- S1
  · refine WP_seq ?_
    -- R1
    refine WP_seqr [⟨0, 0, []⟩, ⟨1, 0, []⟩, ⟨2, 0, []⟩, ⟨3, 1, []⟩, ⟨4, 0, []⟩] (by kernel_rfl) ?_
    refine ns_move rfl rfl ?_
    refine ns_nil rfl rfl rfl ?_
    refine ns_fld fo_87_2 rfl rfl rfl ?_
    refine ns_ldB pl_85 hs rfl rfl rfl (by rfl) ?_
    refine ns_peq false pt_85 rfl rfl rfl rfl (by simp [cmpP]) ?_
    refine ns_done ?_
    refine WP_false rfl ?_ -- if1
    refine WP_seq ?_
    obtain ⟨bs, hlen, hs⟩ := St.tree (hs.foc (Tp c h t rb))
    -- R5
    refine WP_net hs mix [0, 0, 2, 6, 14, 0, 32, 96, 224, 510, 1023, 2047, 4095] [⟨0, 0, []⟩, ⟨1, 0, []⟩, ⟨2, 0, []⟩, ⟨3, 0, []⟩, ⟨4, 1, []⟩, ⟨5, 0, []⟩, ⟨6, 0, []⟩, ⟨7, 0, []⟩, ⟨8, 1, []⟩, ⟨9, 2, []⟩, ⟨10, 0, []⟩, ⟨11, 0, []⟩, ⟨12, 2, []⟩] (by kernel_rfl) ?_
    intro w hs
    refine ns_move rfl rfl ?_
    refine ns_move rfl rfl ?_
    refine ns_nil rfl rfl rfl ?_
    refine ns_fld fo_87_2 rfl rfl rfl ?_
    refine ns_ldB pl_85 hs rfl rfl rfl (by rfl) ?_
    refine ns_move rfl rfl ?_
    refine ns_nil rfl rfl rfl ?_
    refine ns_fld fo_87_3 rfl rfl rfl ?_
    refine ns_ldB pl_82 hs rfl rfl rfl (by rfl) ?_
    refine ns_call (f68_ok c rb t.its bs) ck_68 (hs.foc (NodeP c rb t.its bs)) rfl rfl rfl rfl ?_
    intro v56 w hs
    replace hs := hs.pu
    obtain ⟨rfl, hs⟩ := hs
    refine ns_nil rfl rfl rfl ?_
    refine ns_fld fo_87_2 rfl rfl rfl ?_
    refine ns_st (ptr rb) pl_85 hs rfl rfl rfl rfl rfl (by simp) ?_
    refine fun w hs => ⟨trivial, ?_⟩
    try simp only [Nat.zero_add] at hs
    try simp only [List.setIfInBounds_toArray] at hs
    try simp only [List.set_cons_succ] at hs
    try simp only [List.set_cons_zero] at hs
    refine ns_done ?_
    refine WP_seq ?_
    obtain ⟨⟨v1, v2⟩, hs⟩ := (hs.foc (NodeP c rb (t.its) (bs))).ex
    simp only [mul_assoc'] at hs
    obtain ⟨a1, c1, rfl, hc1, hcm1⟩ := (hs.foc (IArr v1 t.its)).arr_form
    -- R6
    refine WP_net hs mix [0, 1, 3, 7, 15, 31, 63, 127, 0, 256, 1023] [⟨0, 0, []⟩, ⟨1, 0, []⟩, ⟨2, 0, []⟩, ⟨3, 1, []⟩, ⟨4, 0, []⟩, ⟨5, 0, []⟩, ⟨6, 1, []⟩, ⟨7, 0, []⟩, ⟨8, 0, []⟩, ⟨9, 2, [3, 6]⟩, ⟨10, 0, []⟩] (by kernel_rfl) ?_
    intro w hs
    refine ns_move rfl rfl ?_
    refine ns_nil rfl rfl rfl ?_
    refine ns_fld fo_87_2 rfl rfl rfl ?_
    refine ns_ldB pl_85 hs rfl rfl rfl (by rfl) ?_
    refine ns_nil rfl rfl rfl ?_
    refine ns_fld fo_103_0 rfl rfl rfl ?_
    refine ns_ldB pl_100 hs rfl rfl rfl (by rfl) ?_
    refine ns_len sl_100 rfl rfl rfl ?_
    refine ns_move rfl rfl ?_
    refine ns_callK (f69_ok b d (.int .i64 l.length) (ptr rb) (ptr c) (by omega) hd2) ck_69 (hs.foc (pts b (.cells #[.int .i64 d, .int .i64 l.length, ptr rb, ptr c] 87 (0, 0)))) rfl rfl rfl rfl ?_
    refine fun v68 w hs => ?_
    replace hs := hs.pu
    obtain ⟨rfl, hs⟩ := hs
    refine ⟨⟨hs.c b 2, hs.c rb 0, trivial⟩, ?_⟩
    refine ns_cmp _ rfl rfl rfl rfl rfl ?_
    refine ns_done ?_
    have hs := hs.fold (node_fold c rb (.slice a1 t.its.length c1) v2 t.its bs)
    refine WP_if rfl (fun hif2 => ?_) (fun hif2 => ?_)
    · refine WP_seq_cut (fun σ w => ∃ (b6 r : Nat) (y : It), t.its[d - 1]? = some y ∧ σ 0 = ptr b ∧ σ 3 = .pointer (some ⟨b3, 0, none⟩) ∧ σ 4 = .pointer (some ⟨b4, 0, none⟩) ∧ σ 6 = .pointer (some ⟨b6, 0, none⟩) ∧ σ 7 = ptr r ∧ St w0 (pts b6 (.cells #[.int .i64 y.key, .int .i64 y.val] 45 (0, 0)) * (pts b3 (.cells #[.int .i64 x.key, .int .i64 x.val] 45 (0, 0)) * (pts b4 (.cells #[.int .i64 0, .int .i64 0] 45 (0, 0)) * (pts b (.cells #[.int .i64 d, .int .i64 l.length, ptr rb, ptr c] 87 (0, 0)) * (NodeP c rb (t.its.take (d - 1)) (bs.take (d - 1 + 1)) * (NodeP c r (t.its.drop (d - 1 + 1)) (bs.drop (d - 1 + 1)) * (Ks c h t.kids bs * (Ctx c fl * F)))))))) w) ?_ ?_ -- R7.cut
      · have hfull : t.its.length = 2 * d - 1 := by have := of_decide_eq_true hif2; omega
        obtain ⟨y, hy⟩ : ∃ y, t.its[(2 * d - 1) / 2]? = some y := ⟨t.its[(2 * d - 1) / 2]'(by omega), List.getElem?_eq_getElem (by omega)⟩
        have hbb : bs.length ≠ 0 → (2 * d - 1) / 2 + 1 ≤ bs.length ∧ bs.length < 1000000 := fun h0 => by
          have := kids_len hg.1 (by omega)
          omega
        -- R7
        refine WP_tre hs mix [0, 1, 3, 7, 0, 16, 48, 127, 255, 511, 511, 0, 3071, 8191] (.cons ⟨0, 0, []⟩ (.cons ⟨1, 0, []⟩ (.cons ⟨2, 0, []⟩ (.cons ⟨3, 1, []⟩ (.cons ⟨4, 0, []⟩ (.fork ⟨5, 2, [3]⟩ (.cons ⟨6, 0, []⟩ (.fork ⟨7, 2, []⟩ (.cons ⟨8, 0, []⟩ (.cons ⟨9, 0, []⟩ (.cons ⟨10, 0, []⟩ (.cons ⟨11, 2, []⟩ (.cons ⟨12, 2, []⟩ (.cons ⟨13, 0, []⟩ .nil)))))) ⟨11, 2, [3]⟩ (.cons ⟨7, 2, []⟩ (.cons ⟨8, 0, []⟩ (.cons ⟨9, 0, []⟩ (.cons ⟨10, 0, []⟩ (.cons ⟨12, 2, []⟩ (.cons ⟨13, 0, []⟩ .nil)))))))) ⟨11, 2, [3]⟩ (.cons ⟨5, 2, [3]⟩ (.cons ⟨6, 0, []⟩ (.cons ⟨7, 2, []⟩ (.cons ⟨8, 0, []⟩ (.cons ⟨9, 0, []⟩ (.cons ⟨10, 0, []⟩ (.cons ⟨12, 2, []⟩ (.cons ⟨13, 0, []⟩ .nil)))))))))))))) (by kernel_rfl) ?_
        intro w hs
        refine ns_move rfl rfl ?_
        refine ns_nil rfl rfl rfl ?_
        refine ns_fld fo_87_2 rfl rfl rfl ?_
        have hk3 := hs.c b 2
        refine ns_ldB pl_85 hs rfl rfl rfl (by rfl) ?_
        refine ns_move rfl rfl ?_
        refine ns_fork ?_ ?_
        · refine ns_callK (f69_ok b d (.int .i64 l.length) (ptr rb) (ptr c) (by omega) hd2) ck_69 (hs.foc (pts b (.cells #[.int .i64 d, .int .i64 l.length, ptr rb, ptr c] 87 (0, 0)))) rfl rfl rfl rfl ?_
          refine fun v76 w hs => ?_
          replace hs := hs.pu
          obtain ⟨rfl, hs⟩ := hs
          refine ⟨⟨hs.c b 2, trivial⟩, ?_⟩
          have hk3 := hs.c b 2
          refine ns_quo rfl rfl rfl rfl (by decide) (by show _ ≤ (((2 * d - 1) / 2 : Nat) : Int); omega) (by show (((2 * d - 1) / 2 : Nat) : Int) ≤ _; omega) ?_
          refine ns_fork ?_ ?_
          · refine ns_call (f70_ok c fl rb ((2 * d - 1) / 2) y t.its bs hy (by omega) hbb) ck_70 (hs.foc (NodeP c rb t.its bs * Ctx c fl)) rfl rfl rfl rfl ?_
            intro v78 w hs
            replace hs := hs.ex
            obtain ⟨r, hs⟩ := hs
            replace hs := hs.pu
            obtain ⟨rfl, hs⟩ := hs
            simp only [mul_assoc'] at hs
            refine ns_move rfl rfl ?_
            refine ns_ext rfl rfl rfl rfl ?_
            refine ns_ext rfl rfl rfl rfl ?_
            refine ns_alloc zc_45 hs rfl rfl ?_
            intro b6 w hs
            refine ns_stA (#[.int .i64 y.key, .int .i64 y.val]) ag_45 rfl (by decide) hs rfl rfl rfl rfl (by intro u hu; simp at hu; rcases hu with rfl | rfl <;> rfl) (by simp) ?_
            refine fun w hs => ⟨trivial, ?_⟩
            rw [splice2] at hs
            refine ns_asg rfl rfl ?_
            refine ns_done ?_
            rw [hmid] at hs hy
            exact ⟨b6, r, y, hy, rfl, rfl, rfl, rfl, rfl, hs.out⟩
          · refine ns_allocK zc_45 hs rfl rfl ?_
            refine fun b6 w hs hx => ⟨⟨hx _ _ hk3, trivial⟩, ?_⟩
            refine ns_call (f70_ok c fl rb ((2 * d - 1) / 2) y t.its bs hy (by omega) hbb) ck_70 (hs.foc (NodeP c rb t.its bs * Ctx c fl)) rfl rfl rfl rfl ?_
            intro v78 w hs
            replace hs := hs.ex
            obtain ⟨r, hs⟩ := hs
            replace hs := hs.pu
            obtain ⟨rfl, hs⟩ := hs
            simp only [mul_assoc'] at hs
            refine ns_move rfl rfl ?_
            refine ns_ext rfl rfl rfl rfl ?_
            refine ns_ext rfl rfl rfl rfl ?_
            refine ns_stA (#[.int .i64 y.key, .int .i64 y.val]) ag_45 rfl (by decide) hs rfl rfl rfl rfl (by intro u hu; simp at hu; rcases hu with rfl | rfl <;> rfl) (by simp) ?_
            refine fun w hs => ⟨trivial, ?_⟩
            rw [splice2] at hs
            refine ns_asg rfl rfl ?_
            refine ns_done ?_
            rw [hmid] at hs hy
            exact ⟨b6, r, y, hy, rfl, rfl, rfl, rfl, rfl, hs.out⟩
        · refine ns_allocK zc_45 hs rfl rfl ?_
          refine fun b6 w hs hx => ⟨⟨hx _ _ hk3, trivial⟩, ?_⟩
          refine ns_callK (f69_ok b d (.int .i64 l.length) (ptr rb) (ptr c) (by omega) hd2) ck_69 (hs.foc (pts b (.cells #[.int .i64 d, .int .i64 l.length, ptr rb, ptr c] 87 (0, 0)))) rfl rfl rfl rfl ?_
          refine fun v76 w hs => ?_
          replace hs := hs.pu
          obtain ⟨rfl, hs⟩ := hs
          refine ⟨⟨hs.c b 2, trivial⟩, ?_⟩
          have hk3 := hs.c b 2
          refine ns_quo rfl rfl rfl rfl (by decide) (by show _ ≤ (((2 * d - 1) / 2 : Nat) : Int); omega) (by show (((2 * d - 1) / 2 : Nat) : Int) ≤ _; omega) ?_
          refine ns_call (f70_ok c fl rb ((2 * d - 1) / 2) y t.its bs hy (by omega) hbb) ck_70 (hs.foc (NodeP c rb t.its bs * Ctx c fl)) rfl rfl rfl rfl ?_
          intro v78 w hs
          replace hs := hs.ex
          obtain ⟨r, hs⟩ := hs
          replace hs := hs.pu
          obtain ⟨rfl, hs⟩ := hs
          simp only [mul_assoc'] at hs
          refine ns_move rfl rfl ?_
          refine ns_ext rfl rfl rfl rfl ?_
          refine ns_ext rfl rfl rfl rfl ?_
          refine ns_stA (#[.int .i64 y.key, .int .i64 y.val]) ag_45 rfl (by decide) hs rfl rfl rfl rfl (by intro u hu; simp at hu; rcases hu with rfl | rfl <;> rfl) (by simp) ?_
          refine fun w hs => ⟨trivial, ?_⟩
          rw [splice2] at hs
          refine ns_asg rfl rfl ?_
          refine ns_done ?_
          rw [hmid] at hs hy
          exact ⟨b6, r, y, hy, rfl, rfl, rfl, rfl, rfl, hs.out⟩
      rintro σ w ⟨b6, r, y, hy, g0, g3, g4, g6, g7, hs⟩
      obtain ⟨σ, rfl⟩ := rebase g0
      obtain ⟨σ, rfl⟩ := rebase (σ := σ) g3
      obtain ⟨σ, rfl⟩ := rebase (σ := σ) g4
      obtain ⟨σ, rfl⟩ := rebase (σ := σ) g6
      obtain ⟨σ, rfl⟩ := rebase (σ := σ) g7
      clear g0 g3 g4 g6 g7
      have hfull : t.its.length = 2 * d - 1 := by have := of_decide_eq_true hif2; omega
      refine WP_seq ?_
      -- R8
      refine WP_seqr [⟨0, 0, []⟩, ⟨1, 0, []⟩, ⟨2, 0, []⟩, ⟨3, 1, []⟩, ⟨4, 0, []⟩] (by kernel_rfl) ?_
      refine ns_move rfl rfl ?_
      refine ns_nil rfl rfl rfl ?_
      refine ns_fld fo_87_2 rfl rfl rfl ?_
      refine ns_ldB pl_85 hs rfl rfl rfl (by rfl) ?_
      refine ns_asg rfl rfl ?_
      refine ns_done ?_
      refine WP_seq ?_
      -- R9
      refine WP_seqr [⟨0, 0, []⟩, ⟨1, 0, []⟩, ⟨2, 0, []⟩, ⟨3, 0, []⟩, ⟨4, 1, []⟩, ⟨5, 2, []⟩, ⟨6, 0, []⟩, ⟨7, 0, []⟩, ⟨8, 2, []⟩] (by kernel_rfl) ?_
      refine ns_move rfl rfl ?_
      refine ns_move rfl rfl ?_
      refine ns_nil rfl rfl rfl ?_
      refine ns_fld fo_87_3 rfl rfl rfl ?_
      refine ns_ldB pl_82 hs rfl rfl rfl (by rfl) ?_
      refine ns_call (f67_ok c fl) ck_67 (hs.foc (Ctx c fl)) rfl rfl rfl rfl ?_
      intro v90 w hs
      replace hs := hs.ex
      obtain ⟨r2, hs⟩ := hs
      replace hs := hs.pu
      obtain ⟨rfl, hs⟩ := hs
      simp only [mul_assoc'] at hs
      refine ns_nil rfl rfl rfl ?_
      refine ns_fld fo_87_2 rfl rfl rfl ?_
      refine ns_st (ptr r2) pl_85 hs rfl rfl rfl rfl rfl (by simp) ?_
      refine fun w hs => ⟨trivial, ?_⟩
      try simp only [Nat.zero_add] at hs
      try simp only [List.setIfInBounds_toArray] at hs
      try simp only [List.set_cons_succ] at hs
      try simp only [List.set_cons_zero] at hs
      refine ns_done ?_
      refine WP_seq ?_
      obtain ⟨⟨u1, u2⟩, hs⟩ := (hs.foc (NodeP c r2 ([]) ([]))).ex
      simp only [mul_assoc'] at hs
      -- R10
      refine WP_net hs mix [0, 1, 3, 7, 0, 16, 48, 112, 240, 496, 1008, 0, 2048, 8176, 16383, 32767, 65535] [⟨0, 0, []⟩, ⟨1, 0, []⟩, ⟨2, 0, []⟩, ⟨3, 1, []⟩, ⟨4, 0, []⟩, ⟨5, 0, []⟩, ⟨6, 0, []⟩, ⟨7, 1, []⟩, ⟨8, 0, []⟩, ⟨9, 0, []⟩, ⟨10, 1, []⟩, ⟨11, 1, []⟩, ⟨12, 2, [3, 7, 10]⟩, ⟨13, 2, [3]⟩, ⟨14, 0, []⟩, ⟨15, 0, []⟩, ⟨16, 2, []⟩] (by kernel_rfl) ?_
      intro w hs
      refine ns_move rfl rfl ?_
      refine ns_nil rfl rfl rfl ?_
      refine ns_fld fo_87_2 rfl rfl rfl ?_
      have hk3 := hs.c b 2
      have hk10 := hs.c r2 0
      refine ns_ldB pl_85 hs rfl rfl rfl (by rfl) ?_
      refine ns_move rfl rfl ?_
      refine ns_nil rfl rfl rfl ?_
      refine ns_fld fo_87_2 rfl rfl rfl ?_
      refine ns_ldB pl_85 hs rfl rfl rfl (by rfl) ?_
      refine ns_nil rfl rfl rfl ?_
      refine ns_fld fo_103_0 rfl rfl rfl ?_
      refine ns_ldB pl_100 hs rfl rfl rfl (by rfl) ?_
      refine ns_ldAB [.int .i64 y.key, .int .i64 y.val] ag_45 hs rfl rfl rfl (by rfl) (by rfl) (by decide) ?_
      refine ns_lit [itV y] [.int .i64 y.key, .int .i64 y.val] sl_100 zr_45 (by decide) (by decide) hs rfl rfl rfl rfl (by simp [Value.cells, itV]) rfl ?_
      refine fun b105 w hs hx => ⟨⟨hx _ _ hk3, hx _ _ hk3, hx _ _ hk10, trivial⟩, ?_⟩
      refine ns_app [.int .i64 y.key, .int .i64 y.val] sl_100 zr_45 by_45 rfl (by decide) (hs.foc (IArr u1 [])) rfl rfl rfl rfl rfl (St.cells (n := 2) hs (by rfl)) (by intro u hu; simp at hu; rcases hu with rfl | rfl <;> rfl) (by decide) (by decide) ?_
      refine fun v106 w hs hv => ⟨⟨hs.c b 2, trivial⟩, ?_⟩
      have hs := hs.up (Ent.of_eq (IArr_eq (l := [y]) (by simp) (by rfl)))
      obtain ⟨a5, c5, rfl, _, _⟩ := hs.arr_form
      refine ns_nil rfl rfl rfl ?_
      refine ns_fld fo_103_0 rfl rfl rfl ?_
      refine ns_st (.slice a5 [y].length c5) pl_100 hs rfl rfl rfl rfl rfl (by simp) ?_
      refine fun w hs => ⟨trivial, ?_⟩
      try simp only [Nat.zero_add] at hs
      try simp only [List.setIfInBounds_toArray] at hs
      try simp only [List.set_cons_succ] at hs
      try simp only [List.set_cons_zero] at hs
      refine ns_done ?_
      -- R11
      refine WP_net hs mix [0, 1, 3, 7, 0, 16, 48, 112, 240, 496, 1008, 0, 0, 6144, 16368, 32767, 65535, 131071] [⟨0, 0, []⟩, ⟨1, 0, []⟩, ⟨2, 0, []⟩, ⟨3, 1, []⟩, ⟨4, 0, []⟩, ⟨5, 0, []⟩, ⟨6, 0, []⟩, ⟨7, 1, []⟩, ⟨8, 0, []⟩, ⟨9, 0, []⟩, ⟨10, 1, []⟩, ⟨11, 0, []⟩, ⟨12, 0, []⟩, ⟨13, 2, [3, 7, 10]⟩, ⟨14, 2, [3]⟩, ⟨15, 0, []⟩, ⟨16, 0, []⟩, ⟨17, 2, []⟩] (by kernel_rfl) ?_
      intro w hs
      refine ns_move rfl rfl ?_
      refine ns_nil rfl rfl rfl ?_
      refine ns_fld fo_87_2 rfl rfl rfl ?_
      have hk3 := hs.c b 2
      have hk10 := hs.c r2 1
      refine ns_ldB pl_85 hs rfl rfl rfl (by rfl) ?_
      refine ns_move rfl rfl ?_
      refine ns_nil rfl rfl rfl ?_
      refine ns_fld fo_87_2 rfl rfl rfl ?_
      refine ns_ldB pl_85 hs rfl rfl rfl (by rfl) ?_
      refine ns_nil rfl rfl rfl ?_
      refine ns_fld fo_103_1 rfl rfl rfl ?_
      refine ns_ldB pl_101 hs rfl rfl rfl (by rfl) ?_
      refine ns_move rfl rfl ?_
      refine ns_move rfl rfl ?_
      refine ns_lit [ptr rb, ptr r] [ptr rb, ptr r] sl_101 zr_85 (by decide) (by decide) hs rfl rfl rfl rfl (by simp [Value.cells, ptr]) rfl ?_
      refine fun b122 w hs hx => ⟨⟨hx _ _ hk3, hx _ _ hk3, hx _ _ hk10, trivial⟩, ?_⟩
      refine ns_app [ptr rb, ptr r] sl_101 zr_85 by_85 rfl (by decide) (hs.foc (PArr u2 [])) rfl rfl rfl rfl rfl (St.cells (n := 2) hs (by rfl)) (by intro u hu; simp at hu; rcases hu with rfl | rfl <;> rfl) (by decide) (by decide) ?_
      refine fun v123 w hs hv => ⟨⟨hs.c b 2, trivial⟩, ?_⟩
      have hs := hs.up (Ent.of_eq (PArr_eq (l := [rb, r]) (by simp) (by rfl)))
      obtain ⟨a6, c6, rfl, _, _⟩ := hs.arr_form
      refine ns_nil rfl rfl rfl ?_
      refine ns_fld fo_103_1 rfl rfl rfl ?_
      refine ns_st (.slice a6 [rb, r].length c6) pl_101 hs rfl rfl rfl rfl rfl (by simp) ?_
      refine fun w hs => ⟨trivial, ?_⟩
      try simp only [Nat.zero_add] at hs
      try simp only [List.setIfInBounds_toArray] at hs
      try simp only [List.set_cons_succ] at hs
      try simp only [List.set_cons_zero] at hs
      refine ns_done ?_
      have hs := hs.fold (node_fold c r2 (.slice a5 [y].length c5) (.slice a6 [rb, r].length c6) [y] [rb, r])
      rw [Ks_cut (m := d - 1 + 1) hlen] at hs
      simp only [mul_assoc'] at hs
      have hs := hs.fold (tree_fold (c := c) (h := h) (b := rb) (its := t.its.take (d - 1)) (kids := t.kids.take (d - 1 + 1)) (bs := bs.take (d - 1 + 1)) (by rw [List.length_take, List.length_take, hlen]))
      have hs := hs.fold (tree_fold (c := c) (h := h) (b := r) (its := t.its.drop (d - 1 + 1)) (kids := t.kids.drop (d - 1 + 1)) (bs := bs.drop (d - 1 + 1)) (by rw [List.length_drop, List.length_drop, hlen]))
      have eK : Ks c (h + 1) [cutL t (d - 1), cutR t (d - 1)] [rb, r] = Tp c h (.mk (t.its.take (d - 1)) (t.kids.take (d - 1 + 1))) rb * Tp c h (.mk (t.its.drop (d - 1 + 1)) (t.kids.drop (d - 1 + 1))) r := by
        show _ * (_ * 1) = _
        rw [mul_one']; rfl
      have hs := hs.fold (Ent.of_eq eK.symm)
      have hs := hs.fold (tree_fold (c := c) (h := h + 1) (b := r2) (its := [y]) (kids := [cutL t (d - 1), cutR t (d - 1)]) (bs := [rb, r]) rfl)
      exact ⟨rfl, rfl, rfl, h + 1, .mk [y] [cutL t (d - 1), cutR t (d - 1)], r2, root_cut hd hg hfull hy, by show 1 < _; omega, hs.out⟩
    refine WP_skip ?_
    have hs := hs.fold (tree_fold (c := c) (h := h) (b := rb) (its := t.its) (kids := t.kids) hlen)
    rw [Tr.eta] at hs
    exact ⟨rfl, rfl, rfl, h, t, rb, hg, by have := of_decide_eq_false hif2; omega, hs.out⟩
  rintro σ w ⟨g0, g3, g4, h1, t1, rb1, hg1, hsm, hs⟩
  obtain ⟨σ, rfl⟩ := rebase g0
  obtain ⟨σ, rfl⟩ := rebase (σ := σ) g3
  obtain ⟨σ, rfl⟩ := rebase (σ := σ) g4
  clear g0 g3 g4
  refine WP_seq_cut (fun σ w => ∃ (b9 : Nat) (t2 : Tr), Good d h1 t2 (put l x) ∧ σ 0 = ptr b ∧ σ 4 = .pointer (some ⟨b4, 0, none⟩) ∧ σ 9 = .pointer (some ⟨b9, 0, none⟩) ∧ σ 10 = .bool (get l x.key).isSome ∧ St w0 (pts b9 (.cells #[.int .i64 ((get l x.key).getD zero).key, .int .i64 ((get l x.key).getD zero).val] 45 (0, 0)) * (pts b4 (.cells #[.int .i64 0, .int .i64 0] 45 (0, 0)) * (pts b (.cells #[.int .i64 d, .int .i64 l.length, ptr rb1, ptr c] 87 (0, 0)) * (Tp c h1 t2 rb1 * (Ctx c fl * F))))) w) ?_ ?_ -- R12.cut
  · -- R12
    refine WP_tre hs mix [0, 1, 3, 7, 0, 0, 32, 127, 255, 511, 511, 0, 3071, 8191] (.cons ⟨0, 0, []⟩ (.cons ⟨1, 0, []⟩ (.cons ⟨2, 0, []⟩ (.cons ⟨3, 1, []⟩ (.cons ⟨4, 1, []⟩ (.cons ⟨5, 0, []⟩ (.fork ⟨6, 2, [3, 4]⟩ (.fork ⟨7, 2, []⟩ (.cons ⟨8, 0, []⟩ (.cons ⟨9, 0, []⟩ (.cons ⟨10, 0, []⟩ (.cons ⟨11, 2, []⟩ (.cons ⟨12, 2, []⟩ (.cons ⟨13, 0, []⟩ .nil)))))) ⟨11, 2, [3, 4]⟩ (.cons ⟨7, 2, []⟩ (.cons ⟨8, 0, []⟩ (.cons ⟨9, 0, []⟩ (.cons ⟨10, 0, []⟩ (.cons ⟨12, 2, []⟩ (.cons ⟨13, 0, []⟩ .nil))))))) ⟨11, 2, [3, 4]⟩ (.cons ⟨6, 2, [3, 4]⟩ (.cons ⟨7, 2, []⟩ (.cons ⟨8, 0, []⟩ (.cons ⟨9, 0, []⟩ (.cons ⟨10, 0, []⟩ (.cons ⟨12, 2, []⟩ (.cons ⟨13, 0, []⟩ .nil)))))))))))))) (by kernel_rfl) ?_
    intro w hs
    refine ns_move rfl rfl ?_
    refine ns_nil rfl rfl rfl ?_
    refine ns_fld fo_87_2 rfl rfl rfl ?_
    have hk3 := hs.c b 2
    have hk4 : Cells w ⟨b3, 0, none⟩ [.int .i64 x.key, .int .i64 x.val] := St.cells (n := 2) hs (by rfl)
    refine ns_ldB pl_85 hs rfl rfl rfl (by rfl) ?_
    refine ns_ldAB [.int .i64 x.key, .int .i64 x.val] ag_45 hs rfl rfl rfl (by rfl) (by rfl) (by decide) ?_
    refine ns_move rfl rfl ?_
    refine ns_fork ?_ ?_
    · refine ns_callK (f69_ok b d (.int .i64 l.length) (ptr rb1) (ptr c) (by omega) hd2) ck_69 (hs.foc (pts b (.cells #[.int .i64 d, .int .i64 l.length, ptr rb1, ptr c] 87 (0, 0)))) rfl rfl rfl rfl ?_
      refine fun v133 w hs => ?_
      replace hs := hs.pu
      obtain ⟨rfl, hs⟩ := hs
      refine ⟨⟨hs.c b 2, St.cells (n := 2) hs (by rfl), trivial⟩, ?_⟩
      have hk3 := hs.c b 2
      have hk4 : Cells w ⟨b3, 0, none⟩ [.int .i64 x.key, .int .i64 x.val] := St.cells (n := 2) hs (by rfl)
      refine ns_fork ?_ ?_
      · refine ns_call (f71_ok c fl (d - 1) (2 * d - 1) x (by omega) (by omega) (by omega) h1 rb1 t1 hg1.1 hsm (by rw [hg1.2.2.1]; exact hg1.2.2.2.1)) ck_71 (hs.foc (Tp c h1 t1 rb1 * Ctx c fl)) rfl rfl rfl rfl ?_
        intro v134 w hs
        unfold InsP at hs
        rw [hg1.2.2.1] at hs
        replace hs := hs.ex
        obtain ⟨t2, hs⟩ := hs
        replace hs := hs.pu
        obtain ⟨⟨rfl, q1, q2, q3, q4⟩, hs⟩ := hs
        simp only [mul_assoc'] at hs
        refine ns_move rfl rfl ?_
        refine ns_ext rfl rfl rfl rfl ?_
        refine ns_ext rfl rfl rfl rfl ?_
        refine ns_alloc zc_45 hs rfl rfl ?_
        intro b9 w hs
        refine ns_stA (#[.int .i64 ((get l x.key).getD zero).key, .int .i64 ((get l x.key).getD zero).val]) ag_45 rfl (by decide) hs rfl rfl rfl rfl (by intro u hu; simp at hu; rcases hu with rfl | rfl <;> rfl) (by simp) ?_
        refine fun w hs => ⟨trivial, ?_⟩
        rw [splice2] at hs
        refine ns_asg rfl rfl ?_
        refine ns_done ?_
        exact ⟨b9, t2, good_put hg1 q1 q3 q4 (fun h0 => by have := hg1.2.2.2.2 h0; omega), rfl, rfl, rfl, rfl, hs.out⟩
      · refine ns_allocK zc_45 hs rfl rfl ?_
        refine fun b9 w hs hx => ⟨⟨hx _ _ hk3, fun j v hj => hx _ _ (hk4 j v hj), trivial⟩, ?_⟩
        refine ns_call (f71_ok c fl (d - 1) (2 * d - 1) x (by omega) (by omega) (by omega) h1 rb1 t1 hg1.1 hsm (by rw [hg1.2.2.1]; exact hg1.2.2.2.1)) ck_71 (hs.foc (Tp c h1 t1 rb1 * Ctx c fl)) rfl rfl rfl rfl ?_
        intro v134 w hs
        unfold InsP at hs
        rw [hg1.2.2.1] at hs
        replace hs := hs.ex
        obtain ⟨t2, hs⟩ := hs
        replace hs := hs.pu
        obtain ⟨⟨rfl, q1, q2, q3, q4⟩, hs⟩ := hs
        simp only [mul_assoc'] at hs
        refine ns_move rfl rfl ?_
        refine ns_ext rfl rfl rfl rfl ?_
        refine ns_ext rfl rfl rfl rfl ?_
        refine ns_stA (#[.int .i64 ((get l x.key).getD zero).key, .int .i64 ((get l x.key).getD zero).val]) ag_45 rfl (by decide) hs rfl rfl rfl rfl (by intro u hu; simp at hu; rcases hu with rfl | rfl <;> rfl) (by simp) ?_
        refine fun w hs => ⟨trivial, ?_⟩
        rw [splice2] at hs
        refine ns_asg rfl rfl ?_
        refine ns_done ?_
        exact ⟨b9, t2, good_put hg1 q1 q3 q4 (fun h0 => by have := hg1.2.2.2.2 h0; omega), rfl, rfl, rfl, rfl, hs.out⟩
    · refine ns_allocK zc_45 hs rfl rfl ?_
      refine fun b9 w hs hx => ⟨⟨hx _ _ hk3, fun j v hj => hx _ _ (hk4 j v hj), trivial⟩, ?_⟩
      refine ns_callK (f69_ok b d (.int .i64 l.length) (ptr rb1) (ptr c) (by omega) hd2) ck_69 (hs.foc (pts b (.cells #[.int .i64 d, .int .i64 l.length, ptr rb1, ptr c] 87 (0, 0)))) rfl rfl rfl rfl ?_
      refine fun v133 w hs => ?_
      replace hs := hs.pu
      obtain ⟨rfl, hs⟩ := hs
      refine ⟨⟨hs.c b 2, St.cells (n := 2) hs (by rfl), trivial⟩, ?_⟩
      have hk3 := hs.c b 2
      have hk4 : Cells w ⟨b3, 0, none⟩ [.int .i64 x.key, .int .i64 x.val] := St.cells (n := 2) hs (by rfl)
      refine ns_call (f71_ok c fl (d - 1) (2 * d - 1) x (by omega) (by omega) (by omega) h1 rb1 t1 hg1.1 hsm (by rw [hg1.2.2.1]; exact hg1.2.2.2.1)) ck_71 (hs.foc (Tp c h1 t1 rb1 * Ctx c fl)) rfl rfl rfl rfl ?_
      intro v134 w hs
      unfold InsP at hs
      rw [hg1.2.2.1] at hs
      replace hs := hs.ex
      obtain ⟨t2, hs⟩ := hs
      replace hs := hs.pu
      obtain ⟨⟨rfl, q1, q2, q3, q4⟩, hs⟩ := hs
      simp only [mul_assoc'] at hs
      refine ns_move rfl rfl ?_
      refine ns_ext rfl rfl rfl rfl ?_
      refine ns_ext rfl rfl rfl rfl ?_
      refine ns_stA (#[.int .i64 ((get l x.key).getD zero).key, .int .i64 ((get l x.key).getD zero).val]) ag_45 rfl (by decide) hs rfl rfl rfl rfl (by intro u hu; simp at hu; rcases hu with rfl | rfl <;> rfl) (by simp) ?_
      refine fun w hs => ⟨trivial, ?_⟩
      rw [splice2] at hs
      refine ns_asg rfl rfl ?_
      refine ns_done ?_
      exact ⟨b9, t2, good_put hg1 q1 q3 q4 (fun h0 => by have := hg1.2.2.2.2 h0; omega), rfl, rfl, rfl, rfl, hs.out⟩
  rintro σ w ⟨b9, t2, hg2, g0, g4, g9, g10, hs⟩
  obtain ⟨σ, rfl⟩ := rebase g0
  obtain ⟨σ, rfl⟩ := rebase (σ := σ) g4
  obtain ⟨σ, rfl⟩ := rebase (σ := σ) g9
  obtain ⟨σ, rfl⟩ := rebase (σ := σ) g10
  clear g0 g4 g9 g10
  have hlp := len_put hg.2.2.2.1 x
  refine WP_seq_cut (fun σ w => σ 4 = .pointer (some ⟨b4, 0, none⟩) ∧ σ 9 = .pointer (some ⟨b9, 0, none⟩) ∧ σ 10 = .bool (get l x.key).isSome ∧ St w0 (pts b9 (.cells #[.int .i64 ((get l x.key).getD zero).key, .int .i64 ((get l x.key).getD zero).val] 45 (0, 0)) * (pts b4 (.cells #[.int .i64 0, .int .i64 0] 45 (0, 0)) * (pts b (.cells #[.int .i64 d, .int .i64 (put l x).length, ptr rb1, ptr c] 87 (0, 0)) * (Tp c h1 t2 rb1 * (Ctx c fl * F))))) w) ?_ ?_ -- S2
  · refine WP_seq ?_
    -- R13
    refine WP_seqr [⟨0, 0, []⟩, ⟨1, 0, []⟩] (by kernel_rfl) ?_
    refine ns_move rfl rfl ?_
    refine ns_not rfl rfl rfl ?_
    refine ns_done ?_
    refine WP_if rfl (fun hif3 => ?_) (fun hif3 => ?_)
    · have hn : (get l x.key).isSome = false := by simpa using hif3
      rw [hn] at hlp
      simp only [Bool.false_eq_true, if_false] at hlp
      -- R14
      refine WP_seqr [⟨0, 0, []⟩, ⟨1, 0, []⟩, ⟨2, 0, []⟩, ⟨3, 1, []⟩, ⟨4, 0, []⟩, ⟨5, 0, []⟩, ⟨6, 0, []⟩, ⟨7, 2, []⟩] (by kernel_rfl) ?_
      refine ns_move rfl rfl ?_
      refine ns_nil rfl rfl rfl ?_
      refine ns_fld fo_87_1 rfl rfl rfl ?_
      refine ns_ldB pl_3 hs rfl rfl rfl (by rfl) ?_
      refine ns_add rfl rfl rfl rfl (by omega) (by omega) ?_
      refine ns_nil rfl rfl rfl ?_
      refine ns_fld fo_87_1 rfl rfl rfl ?_
      refine ns_st (.int .i64 ((l.length + 1 : Nat) : Int)) pl_3 hs rfl rfl rfl rfl rfl (by simp) ?_
      refine fun w hs => ⟨trivial, ?_⟩
      try simp only [Nat.zero_add] at hs
      try simp only [List.setIfInBounds_toArray] at hs
      try simp only [List.set_cons_succ] at hs
      try simp only [List.set_cons_zero] at hs
      refine ns_done ?_
      rw [← hlp] at hs
      exact ⟨rfl, rfl, rfl, hs.out⟩
    refine WP_skip ?_
    have hn : (get l x.key).isSome = true := by simpa using hif3
    rw [if_pos hn] at hlp
    rw [← hlp] at hs
    exact ⟨rfl, rfl, rfl, hs.out⟩
  rintro σ w ⟨g4, g9, g10, hs⟩
  obtain ⟨σ, rfl⟩ := rebase g4
  obtain ⟨σ, rfl⟩ := rebase (σ := σ) g9
  obtain ⟨σ, rfl⟩ := rebase (σ := σ) g10
  clear g4 g9 g10
  refine WP_seq ?_
  -- R15
  refine WP_seqr [⟨0, 1, []⟩, ⟨1, 0, []⟩, ⟨2, 2, []⟩, ⟨3, 0, []⟩] (by kernel_rfl) ?_
  refine ns_ldAB _ ag_45 hs rfl rfl rfl (by rfl) (by rfl) (by decide) ?_
  refine ns_move rfl rfl ?_
  refine ns_stA (#[.int .i64 ((get l x.key).getD zero).key, .int .i64 ((get l x.key).getD zero).val]) ag_45 rfl (by decide) hs rfl rfl rfl rfl (by intro u hu; simp at hu; rcases hu with rfl | rfl <;> rfl) (by simp) ?_
  refine fun w hs => ⟨trivial, ?_⟩
  refine ns_asg rfl rfl ?_
  refine ns_done ?_
  refine WP_ret ?_
  have hload := run_loadVarA (P := Try.prog) (t := 45) (n := 2) (ad := ⟨b4, 0, none⟩) (vs := [.int .i64 ((get l x.key).getD zero).key, .int .i64 ((get l x.key).getD zero).val]) ag_45 rfl (by decide) w (St.cells (n := 2) hs (by rfl))
  have hs := hs.fold (bt_tree (c := c) (b := b) (rb := rb1) (n := (put l x).length) hg2 rfl)
  exact ⟨_, resCT 4 45 5 rfl hload, St.mk_pu rfl hs.out⟩
end Go.Proofs.Ytnnembkganlbpaa
/- The walk of deleteItem. -/
namespace Go.Proofs.Ytnnembkganlbpaa
open Go Go.Sl Go.Net Go.Wk Go.Bt Go.RowKit

theorem bt_nil2 (c d b : Nat) : Ent (pts b (.cells #[.int .i64 d, .int .i64 0, .pointer none, ptr c] 87 (0, 0))) (BT c d b []) := bt_nil c d b
theorem srt_rml {l : List It} (hS : Srt l) (ty : Nat) (x : It) : Srt (rml ty l x) := by
  unfold rml
  split
  · exact srt_rem hS _
  · split
    · exact List.Pairwise.sublist (List.tail_sublist l) hS
    · exact List.Pairwise.sublist (List.dropLast_sublist l) hS
theorem rml_nil (ty : Nat) (x : It) : rml ty [] x = [] ∧ rmo ty [] x = none := by
  unfold rml rmo
  constructor
  · split
    · rfl
    · split <;> rfl
  · split
    · rfl
    · split <;> rfl
theorem len_rml {l : List It} (hS : Srt l) (ty : Nat) (x : It) : (rml ty l x).length = if (rmo ty l x).isSome = true then l.length - 1 else l.length := by
  unfold rml rmo
  split
  · rw [length_rem hS, get_some hS]
  · split
    · cases l <;> simp
    · cases hl : l.getLast? with
      | none => rw [List.getLast?_eq_none_iff.1 hl]; rfl
      | some y => simp
theorem f73_nil (c fl d b ty : Nat) (x : It) : Tri Try.prog 73 #[ptr b, itV x, .int .i64 ty] (BtN c d b * Ctx c fl) fun v => pu (v = ans none) * (BT c d b [] * Ctx c fl) := by
  intro w0 F w hs
  unfold BtN at hs
  simp only [mul_assoc'] at hs
  refine calls_WP 103 #[.cell 6 45, .tmp 7] Try.func73 rfl Try.ntmps73 rfl (Nat.le_of_ble_eq_true rfl) ?_
  refine WP_seq ?_
  -- R0
  refine WP_seqr [⟨0, 2, []⟩, ⟨1, 2, []⟩, ⟨2, 0, []⟩] (by kernel_rfl) ?_
  refine ns_box (#[.int .i64 x.key, .int .i64 x.val]) hs rfl rfl rfl rfl ?_
  intro b4 w hs
  refine ns_alloc zc_45 hs rfl rfl ?_
  intro b6 w hs
  refine ns_asg rfl rfl ?_
  refine ns_done ?_
  refine WP_seq ?_ -- S1
  refine WP_seq ?_
  -- R1
  refine WP_seqr [⟨0, 0, []⟩, ⟨1, 0, []⟩, ⟨2, 0, []⟩, ⟨3, 1, []⟩, ⟨4, 0, []⟩, ⟨5, 0, []⟩, ⟨6, 0, []⟩, ⟨7, 0, []⟩, ⟨8, 0, []⟩, ⟨9, 0, []⟩, ⟨10, 0, []⟩, ⟨11, 0, []⟩, ⟨12, 0, []⟩, ⟨13, 0, []⟩, ⟨14, 0, []⟩, ⟨15, 0, []⟩] (by kernel_rfl) ?_
  refine ns_move rfl rfl ?_
  refine ns_nil rfl rfl rfl ?_
  refine ns_fld fo_87_2 rfl rfl rfl ?_
  refine ns_ldB pl_85 hs rfl rfl rfl (by rfl) ?_
  refine ns_peq true pt_85 rfl rfl rfl rfl rfl ?_
  refine ns_move rfl rfl ?_
  refine ns_no rfl rfl ?_
  refine ns_no rfl rfl ?_
  refine ns_no rfl rfl ?_
  refine ns_no rfl rfl ?_
  refine ns_no rfl rfl ?_
  refine ns_no rfl rfl ?_
  refine ns_no rfl rfl ?_
  refine ns_no rfl rfl ?_
  refine ns_no rfl rfl ?_
  refine ns_pick rfl rfl rfl ?_
  refine ns_done ?_
  refine WP_true rfl ?_ -- if1
  refine WP_ret ?_
  have hload := run_loadVarA (P := Try.prog) (t := 45) (n := 2) (ad := ⟨b6, 0, none⟩) (vs := [.int .i64 zero.key, .int .i64 zero.val]) ag_45 rfl (by decide) w (St.cells (n := 2) hs (by rfl))
  have hs := hs.fold (bt_nil2 c d b)
  exact ⟨_, resCT 6 45 7 rfl hload, St.mk_pu rfl hs.out⟩
theorem f73_empty (c fl d b h rb ty : Nat) (x : It) (t : Tr) (hg : Good d h t []) (h0 : t.its.length = 0) :
    Tri Try.prog 73 #[ptr b, itV x, .int .i64 ty] (pts b (.cells #[.int .i64 d, .int .i64 0, ptr rb, ptr c] 87 (0, 0)) * (Tp c h t rb * Ctx c fl)) fun v => pu (v = ans none) * (BT c d b [] * Ctx c fl) := by
  intro w0 F w hs
  simp only [mul_assoc'] at hs
  refine calls_WP 103 #[.cell 6 45, .tmp 7] Try.func73 rfl Try.ntmps73 rfl (Nat.le_of_ble_eq_true rfl) ?_
  refine WP_seq ?_
  -- R0
  refine WP_seqr [⟨0, 2, []⟩, ⟨1, 2, []⟩, ⟨2, 0, []⟩] (by kernel_rfl) ?_
  refine ns_box (#[.int .i64 x.key, .int .i64 x.val]) hs rfl rfl rfl rfl ?_
  intro b4 w hs
  refine ns_alloc zc_45 hs rfl rfl ?_
  intro b6 w hs
  refine ns_asg rfl rfl ?_
  refine ns_done ?_
  refine WP_seq ?_ -- S1
  refine WP_seq ?_
  have hs0 := hs
  obtain ⟨bs, hlen, hs⟩ := St.tree (hs.foc (Tp c h t rb))
  obtain ⟨⟨v1, v2⟩, hs⟩ := (hs.foc (NodeP c rb (t.its) (bs))).ex
  simp only [mul_assoc'] at hs
  obtain ⟨a1, c1, rfl, hc1, hcm1⟩ := (hs.foc (IArr v1 t.its)).arr_form
  -- R1
  refine WP_seqr [⟨0, 0, []⟩, ⟨1, 0, []⟩, ⟨2, 0, []⟩, ⟨3, 1, []⟩, ⟨4, 0, []⟩, ⟨5, 0, []⟩, ⟨6, 0, []⟩, ⟨7, 0, []⟩, ⟨8, 0, []⟩, ⟨9, 1, []⟩, ⟨10, 0, []⟩, ⟨11, 0, []⟩, ⟨12, 1, []⟩, ⟨13, 0, []⟩, ⟨14, 0, []⟩, ⟨15, 0, []⟩] (by kernel_rfl) ?_
  refine ns_move rfl rfl ?_
  refine ns_nil rfl rfl rfl ?_
  refine ns_fld fo_87_2 rfl rfl rfl ?_
  refine ns_ldB pl_85 hs rfl rfl rfl (by rfl) ?_
  refine ns_peq false pt_85 rfl rfl rfl rfl (by simp [cmpP]) ?_
  refine ns_move rfl rfl ?_
  refine ns_move rfl rfl ?_
  refine ns_nil rfl rfl rfl ?_
  refine ns_fld fo_87_2 rfl rfl rfl ?_
  refine ns_ldB pl_85 hs rfl rfl rfl (by rfl) ?_
  refine ns_nil rfl rfl rfl ?_
  refine ns_fld fo_103_0 rfl rfl rfl ?_
  refine ns_ldB pl_100 hs rfl rfl rfl (by rfl) ?_
  refine ns_len sl_100 rfl rfl rfl ?_
  refine ns_cmp true rfl rfl rfl rfl (by simp [cmpI, h0]) ?_
  refine ns_pick rfl rfl rfl ?_
  refine ns_done ?_
  have hs := hs0
  refine WP_true rfl ?_ -- if1
  refine WP_ret ?_
  have hload := run_loadVarA (P := Try.prog) (t := 45) (n := 2) (ad := ⟨b6, 0, none⟩) (vs := [.int .i64 zero.key, .int .i64 zero.val]) ag_45 rfl (by decide) w (St.cells (n := 2) hs (by rfl))
  have hs := hs.fold (bt_tree (c := c) (b := b) (rb := rb) (n := 0) hg rfl)
  exact ⟨_, resCT 6 45 7 rfl hload, St.mk_pu rfl hs.out⟩
set_option maxHeartbeats 3200000 in
theorem f73_tree (c fl d b h rb ty : Nat) (x : It) (t : Tr) (l : List It) (hd : 2 ≤ d) (hd2 : d ≤ 1000) (hty : ty = 0 ∨ ty = 1 ∨ ty = 2) (hg : Good d h t l) (h0 : 1 ≤ t.its.length) (hll : l.length < 1000000) :
    Tri Try.prog 73 #[ptr b, itV x, .int .i64 ty] (pts b (.cells #[.int .i64 d, .int .i64 l.length, ptr rb, ptr c] 87 (0, 0)) * (Tp c h t rb * Ctx c fl)) fun v => pu (v = ans (rmo ty l x)) * (BT c d b (rml ty l x) * Ctx c fl) := by
  have gl := hg.2.1
  have hSr := srt_rml hg.2.2.2.1 ty x
  have hlp := len_rml hg.2.2.2.1 ty x
  intro w0 F w hs
  simp only [mul_assoc'] at hs
  refine calls_WP 103 #[.cell 6 45, .tmp 7] Try.func73 rfl Try.ntmps73 rfl (Nat.le_of_ble_eq_true rfl) ?_
  refine WP_seq ?_
  -- R0
  refine WP_seqr [⟨0, 2, []⟩, ⟨1, 2, []⟩, ⟨2, 0, []⟩] (by kernel_rfl) ?_
  refine ns_box (#[.int .i64 x.key, .int .i64 x.val]) hs rfl rfl rfl rfl ?_
  intro b4 w hs
  refine ns_alloc zc_45 hs rfl rfl ?_
  intro b6 w hs
  refine ns_asg rfl rfl ?_
  refine ns_done ?_
  refine WP_seq ?_ -- S1
  refine WP_seq ?_
  have hs0 := hs
  obtain ⟨bs, hlen, hs⟩ := St.tree (hs.foc (Tp c h t rb))
  obtain ⟨⟨v1, v2⟩, hs⟩ := (hs.foc (NodeP c rb (t.its) (bs))).ex
  simp only [mul_assoc'] at hs
  obtain ⟨a1, c1, rfl, hc1, hcm1⟩ := (hs.foc (IArr v1 t.its)).arr_form
  -- R1
  refine WP_seqr [⟨0, 0, []⟩, ⟨1, 0, []⟩, ⟨2, 0, []⟩, ⟨3, 1, []⟩, ⟨4, 0, []⟩, ⟨5, 0, []⟩, ⟨6, 0, []⟩, ⟨7, 0, []⟩, ⟨8, 0, []⟩, ⟨9, 1, []⟩, ⟨10, 0, []⟩, ⟨11, 0, []⟩, ⟨12, 1, []⟩, ⟨13, 0, []⟩, ⟨14, 0, []⟩, ⟨15, 0, []⟩] (by kernel_rfl) ?_
  refine ns_move rfl rfl ?_
  refine ns_nil rfl rfl rfl ?_
  refine ns_fld fo_87_2 rfl rfl rfl ?_
  refine ns_ldB pl_85 hs rfl rfl rfl (by rfl) ?_
  refine ns_peq false pt_85 rfl rfl rfl rfl (by simp [cmpP]) ?_
  refine ns_move rfl rfl ?_
  refine ns_move rfl rfl ?_
  refine ns_nil rfl rfl rfl ?_
  refine ns_fld fo_87_2 rfl rfl rfl ?_
  refine ns_ldB pl_85 hs rfl rfl rfl (by rfl) ?_
  refine ns_nil rfl rfl rfl ?_
  refine ns_fld fo_103_0 rfl rfl rfl ?_
  refine ns_ldB pl_100 hs rfl rfl rfl (by rfl) ?_
  refine ns_len sl_100 rfl rfl rfl ?_
  refine ns_cmp false rfl rfl rfl rfl (congrArg some (beq_eq_false_iff_ne.2 (by omega))) ?_
  refine ns_pick rfl rfl rfl ?_
  refine ns_done ?_
  have hs := hs0
  refine WP_false rfl ?_ -- if1
  refine WP_skip ?_
  refine WP_seq ?_
  obtain ⟨bs, hlen, hs⟩ := St.tree (hs.foc (Tp c h t rb))
  -- R2
  refine WP_net hs mix [0, 0, 2, 6, 14, 0, 32, 96, 224, 510, 1023, 2047, 4095] [⟨0, 0, []⟩, ⟨1, 0, []⟩, ⟨2, 0, []⟩, ⟨3, 0, []⟩, ⟨4, 1, []⟩, ⟨5, 0, []⟩, ⟨6, 0, []⟩, ⟨7, 0, []⟩, ⟨8, 1, []⟩, ⟨9, 2, []⟩, ⟨10, 0, []⟩, ⟨11, 0, []⟩, ⟨12, 2, []⟩] (by kernel_rfl) ?_
  intro w hs
  refine ns_move rfl rfl ?_
  refine ns_move rfl rfl ?_
  refine ns_nil rfl rfl rfl ?_
  refine ns_fld fo_87_2 rfl rfl rfl ?_
  refine ns_ldB pl_85 hs rfl rfl rfl (by rfl) ?_
  refine ns_move rfl rfl ?_
  refine ns_nil rfl rfl rfl ?_
  refine ns_fld fo_87_3 rfl rfl rfl ?_
  refine ns_ldB pl_82 hs rfl rfl rfl (by rfl) ?_
  refine ns_call (f68_ok c rb t.its bs) ck_68 (hs.foc (NodeP c rb t.its bs)) rfl rfl rfl rfl ?_
  intro v36 w hs
  replace hs := hs.pu
  obtain ⟨rfl, hs⟩ := hs
  refine ns_nil rfl rfl rfl ?_
  refine ns_fld fo_87_2 rfl rfl rfl ?_
  refine ns_st (ptr rb) pl_85 hs rfl rfl rfl rfl rfl (by simp) ?_
  refine fun w hs => ⟨trivial, ?_⟩
  try simp only [Nat.zero_add] at hs
  try simp only [List.setIfInBounds_toArray] at hs
  try simp only [List.set_cons_succ] at hs
  try simp only [List.set_cons_zero] at hs
  refine ns_done ?_
  have hs := hs.fold (tree_fold (c := c) (h := h) (b := rb) (its := t.its) (kids := t.kids) hlen)
  rw [Tr.eta] at hs
  refine WP_seq_cut (fun σ w => ∃ (b8 : Nat) (t2 : Tr), Ok (d - 1) (2 * d - 1) h t2 ∧ t.its.length ≤ t2.its.length + 1 ∧ t2.its.length ≤ t.its.length ∧ flat h t2 = rml ty l x ∧ σ 0 = ptr b ∧ σ 6 = .pointer (some ⟨b6, 0, none⟩) ∧ σ 8 = .pointer (some ⟨b8, 0, none⟩) ∧ σ 9 = .bool (rmo ty l x).isSome ∧ St w0 (pts b8 (.cells #[.int .i64 ((rmo ty l x).getD zero).key, .int .i64 ((rmo ty l x).getD zero).val] 45 (0, 0)) * (pts b6 (.cells #[.int .i64 0, .int .i64 0] 45 (0, 0)) * (pts b (.cells #[.int .i64 d, .int .i64 l.length, ptr rb, ptr c] 87 (0, 0)) * (Tp c h t2 rb * (Ctx c fl * F))))) w) ?_ ?_ -- R3.cut
  · -- R3
    refine WP_tre hs mix [0, 1, 3, 7, 0, 0, 32, 0, 255, 511, 1023, 1023, 0, 6143, 16383] (.cons ⟨0, 0, []⟩ (.cons ⟨1, 0, []⟩ (.cons ⟨2, 0, []⟩ (.cons ⟨3, 1, []⟩ (.cons ⟨4, 1, []⟩ (.cons ⟨5, 0, []⟩ (.cons ⟨7, 0, []⟩ (.fork ⟨6, 2, [3, 4]⟩ (.fork ⟨8, 2, []⟩ (.cons ⟨9, 0, []⟩ (.cons ⟨10, 0, []⟩ (.cons ⟨11, 0, []⟩ (.cons ⟨12, 2, []⟩ (.cons ⟨13, 2, []⟩ (.cons ⟨14, 0, []⟩ .nil)))))) ⟨12, 2, [3, 4]⟩ (.cons ⟨8, 2, []⟩ (.cons ⟨9, 0, []⟩ (.cons ⟨10, 0, []⟩ (.cons ⟨11, 0, []⟩ (.cons ⟨13, 2, []⟩ (.cons ⟨14, 0, []⟩ .nil))))))) ⟨12, 2, [3, 4]⟩ (.cons ⟨6, 2, [3, 4]⟩ (.cons ⟨8, 2, []⟩ (.cons ⟨9, 0, []⟩ (.cons ⟨10, 0, []⟩ (.cons ⟨11, 0, []⟩ (.cons ⟨13, 2, []⟩ (.cons ⟨14, 0, []⟩ .nil))))))))))))))) (by kernel_rfl) ?_
    intro w hs
    refine ns_move rfl rfl ?_
    refine ns_nil rfl rfl rfl ?_
    refine ns_fld fo_87_2 rfl rfl rfl ?_
    have hk3 := hs.c b 2
    have hk4 : Cells w ⟨b4, 0, none⟩ [.int .i64 x.key, .int .i64 x.val] := St.cells (n := 2) hs (by rfl)
    refine ns_ldB pl_85 hs rfl rfl rfl (by rfl) ?_
    refine ns_ldAB [.int .i64 x.key, .int .i64 x.val] ag_45 hs rfl rfl rfl (by rfl) (by rfl) (by decide) ?_
    refine ns_move rfl rfl ?_
    refine ns_move rfl rfl ?_
    refine ns_fork ?_ ?_
    · refine ns_callK (f88_ok b d (.int .i64 l.length) (ptr rb) (ptr c) (by omega) hd2) ck_88 (hs.foc (pts b (.cells #[.int .i64 d, .int .i64 l.length, ptr rb, ptr c] 87 (0, 0)))) rfl rfl rfl rfl ?_
      refine fun v46 w hs => ?_
      replace hs := hs.pu
      obtain ⟨rfl, hs⟩ := hs
      refine ⟨⟨hs.c b 2, St.cells (n := 2) hs (by rfl), trivial⟩, ?_⟩
      have hk3 := hs.c b 2
      have hk4 : Cells w ⟨b4, 0, none⟩ [.int .i64 x.key, .int .i64 x.val] := St.cells (n := 2) hs (by rfl)
      refine ns_fork ?_ ?_
      · refine ns_call (f87_ok c fl (d - 1) (2 * d - 1) (by omega) (by omega) (by omega) h ty rb t x hty hg.1 h0 hg.2.1 (by rw [hg.2.2.1]; exact hg.2.2.2.1)) ck_87 (hs.foc (Tp c h t rb * Ctx c fl)) rfl rfl rfl rfl ?_
        intro v48 w hs
        unfold RemP at hs
        rw [hg.2.2.1] at hs
        replace hs := hs.ex
        obtain ⟨t2, hs⟩ := hs
        replace hs := hs.pu
        obtain ⟨⟨rfl, q1, q2, q3, q4⟩, hs⟩ := hs
        simp only [mul_assoc'] at hs
        refine ns_move rfl rfl ?_
        refine ns_ext rfl rfl rfl rfl ?_
        refine ns_ext rfl rfl rfl rfl ?_
        refine ns_alloc zc_45 hs rfl rfl ?_
        intro b8 w hs
        refine ns_stA (#[.int .i64 ((rmo ty l x).getD zero).key, .int .i64 ((rmo ty l x).getD zero).val]) ag_45 rfl (by decide) hs rfl rfl rfl rfl (by intro u hu; simp at hu; rcases hu with rfl | rfl <;> rfl) (by simp) ?_
        refine fun w hs => ⟨trivial, ?_⟩
        rw [splice2] at hs
        refine ns_asg rfl rfl ?_
        refine ns_done ?_
        exact ⟨b8, t2, q1, q2, q3, q4, rfl, rfl, rfl, rfl, hs.out⟩
      · refine ns_allocK zc_45 hs rfl rfl ?_
        refine fun b8 w hs hx => ⟨⟨hx _ _ hk3, fun j v hj => hx _ _ (hk4 j v hj), trivial⟩, ?_⟩
        refine ns_call (f87_ok c fl (d - 1) (2 * d - 1) (by omega) (by omega) (by omega) h ty rb t x hty hg.1 h0 hg.2.1 (by rw [hg.2.2.1]; exact hg.2.2.2.1)) ck_87 (hs.foc (Tp c h t rb * Ctx c fl)) rfl rfl rfl rfl ?_
        intro v48 w hs
        unfold RemP at hs
        rw [hg.2.2.1] at hs
        replace hs := hs.ex
        obtain ⟨t2, hs⟩ := hs
        replace hs := hs.pu
        obtain ⟨⟨rfl, q1, q2, q3, q4⟩, hs⟩ := hs
        simp only [mul_assoc'] at hs
        refine ns_move rfl rfl ?_
        refine ns_ext rfl rfl rfl rfl ?_
        refine ns_ext rfl rfl rfl rfl ?_
        refine ns_stA (#[.int .i64 ((rmo ty l x).getD zero).key, .int .i64 ((rmo ty l x).getD zero).val]) ag_45 rfl (by decide) hs rfl rfl rfl rfl (by intro u hu; simp at hu; rcases hu with rfl | rfl <;> rfl) (by simp) ?_
        refine fun w hs => ⟨trivial, ?_⟩
        rw [splice2] at hs
        refine ns_asg rfl rfl ?_
        refine ns_done ?_
        exact ⟨b8, t2, q1, q2, q3, q4, rfl, rfl, rfl, rfl, hs.out⟩
    · refine ns_allocK zc_45 hs rfl rfl ?_
      refine fun b8 w hs hx => ⟨⟨hx _ _ hk3, fun j v hj => hx _ _ (hk4 j v hj), trivial⟩, ?_⟩
      refine ns_callK (f88_ok b d (.int .i64 l.length) (ptr rb) (ptr c) (by omega) hd2) ck_88 (hs.foc (pts b (.cells #[.int .i64 d, .int .i64 l.length, ptr rb, ptr c] 87 (0, 0)))) rfl rfl rfl rfl ?_
      refine fun v46 w hs => ?_
      replace hs := hs.pu
      obtain ⟨rfl, hs⟩ := hs
      refine ⟨⟨hs.c b 2, St.cells (n := 2) hs (by rfl), trivial⟩, ?_⟩
      have hk3 := hs.c b 2
      have hk4 : Cells w ⟨b4, 0, none⟩ [.int .i64 x.key, .int .i64 x.val] := St.cells (n := 2) hs (by rfl)
      refine ns_call (f87_ok c fl (d - 1) (2 * d - 1) (by omega) (by omega) (by omega) h ty rb t x hty hg.1 h0 hg.2.1 (by rw [hg.2.2.1]; exact hg.2.2.2.1)) ck_87 (hs.foc (Tp c h t rb * Ctx c fl)) rfl rfl rfl rfl ?_
      intro v48 w hs
      unfold RemP at hs
      rw [hg.2.2.1] at hs
      replace hs := hs.ex
      obtain ⟨t2, hs⟩ := hs
      replace hs := hs.pu
      obtain ⟨⟨rfl, q1, q2, q3, q4⟩, hs⟩ := hs
      simp only [mul_assoc'] at hs
      refine ns_move rfl rfl ?_
      refine ns_ext rfl rfl rfl rfl ?_
      refine ns_ext rfl rfl rfl rfl ?_
      refine ns_stA (#[.int .i64 ((rmo ty l x).getD zero).key, .int .i64 ((rmo ty l x).getD zero).val]) ag_45 rfl (by decide) hs rfl rfl rfl rfl (by intro u hu; simp at hu; rcases hu with rfl | rfl <;> rfl) (by simp) ?_
      refine fun w hs => ⟨trivial, ?_⟩
      rw [splice2] at hs
      refine ns_asg rfl rfl ?_
      refine ns_done ?_
      exact ⟨b8, t2, q1, q2, q3, q4, rfl, rfl, rfl, rfl, hs.out⟩
  rintro σ w ⟨b8, t2, q1, q2, q3, q4, g0, g6, g8, g9, hs⟩
  obtain ⟨σ, rfl⟩ := rebase g0
  obtain ⟨σ, rfl⟩ := rebase (σ := σ) g6
  obtain ⟨σ, rfl⟩ := rebase (σ := σ) g8
  obtain ⟨σ, rfl⟩ := rebase (σ := σ) g9
  clear g0 g6 g8 g9
  refine WP_seq_cut (fun σ w => σ 0 = ptr b ∧ σ 6 = .pointer (some ⟨b6, 0, none⟩) ∧ σ 8 = .pointer (some ⟨b8, 0, none⟩) ∧ σ 9 = .bool (rmo ty l x).isSome ∧ ∃ (h3 : Nat) (t3 : Tr) (rb3 : Nat), Good d h3 t3 (rml ty l x) ∧ St w0 (pts b8 (.cells #[.int .i64 ((rmo ty l x).getD zero).key, .int .i64 ((rmo ty l x).getD zero).val] 45 (0, 0)) * (pts b6 (.cells #[.int .i64 0, .int .i64 0] 45 (0, 0)) * (pts b (.cells #[.int .i64 d, .int .i64 l.length, ptr rb3, ptr c] 87 (0, 0)) * (Tp c h3 t3 rb3 * (Ctx c fl * F))))) w) ?_ ?_ -- S2
  · refine WP_seq_cut (fun σ w => ∃ q : Bool, σ 70 = .bool q ∧ (q = true → t2.its.length = 0 ∧ t2.kids.length ≠ 0) ∧ (q = false → h ≠ 0 → 1 ≤ t2.its.length) ∧ σ 0 = ptr b ∧ σ 6 = .pointer (some ⟨b6, 0, none⟩) ∧ σ 8 = .pointer (some ⟨b8, 0, none⟩) ∧ σ 9 = .bool (rmo ty l x).isSome ∧ St w0 (pts b8 (.cells #[.int .i64 ((rmo ty l x).getD zero).key, .int .i64 ((rmo ty l x).getD zero).val] 45 (0, 0)) * (pts b6 (.cells #[.int .i64 0, .int .i64 0] 45 (0, 0)) * (pts b (.cells #[.int .i64 d, .int .i64 l.length, ptr rb, ptr c] 87 (0, 0)) * (Tp c h t2 rb * (Ctx c fl * F))))) w) ?_ ?_ -- R4.cut
    · have hs0 := hs
      obtain ⟨bs, hlen, hs⟩ := St.tree (hs.foc (Tp c h t2 rb))
      obtain ⟨⟨v1, v2⟩, hs⟩ := (hs.foc (NodeP c rb t2.its bs)).ex
      simp only [mul_assoc'] at hs
      obtain ⟨a1, c1, rfl, hc1, hcm1⟩ := (hs.foc (IArr v1 t2.its)).arr_form
      obtain ⟨a2, c2, rfl, hc2, hcm2⟩ := (hs.foc (PArr v2 bs)).arr_form
      rcases Nat.eq_zero_or_pos t2.its.length with hz | hz
      · -- R4
        refine WP_seqr [⟨0, 0, []⟩, ⟨1, 0, []⟩, ⟨2, 0, []⟩, ⟨3, 1, []⟩, ⟨4, 0, []⟩, ⟨5, 0, []⟩, ⟨6, 1, []⟩, ⟨7, 0, []⟩, ⟨8, 0, []⟩, ⟨9, 0, []⟩, ⟨10, 0, []⟩, ⟨11, 0, []⟩, ⟨12, 0, []⟩, ⟨13, 1, []⟩, ⟨14, 0, []⟩, ⟨15, 0, []⟩, ⟨16, 1, []⟩, ⟨17, 0, []⟩, ⟨18, 0, []⟩, ⟨19, 0, []⟩] (by kernel_rfl) ?_
        refine ns_move rfl rfl ?_
        refine ns_nil rfl rfl rfl ?_
        refine ns_fld fo_87_2 rfl rfl rfl ?_
        refine ns_ldB pl_85 hs rfl rfl rfl (by rfl) ?_
        refine ns_nil rfl rfl rfl ?_
        refine ns_fld fo_103_0 rfl rfl rfl ?_
        refine ns_ldB pl_100 hs rfl rfl rfl (by rfl) ?_
        refine ns_len sl_100 rfl rfl rfl ?_
        refine ns_cmp true rfl rfl rfl rfl (by simp [cmpI, hz]) ?_
        refine ns_move rfl rfl ?_
        refine ns_move rfl rfl ?_
        refine ns_nil rfl rfl rfl ?_
        refine ns_fld fo_87_2 rfl rfl rfl ?_
        refine ns_ldB pl_85 hs rfl rfl rfl (by rfl) ?_
        refine ns_nil rfl rfl rfl ?_
        refine ns_fld fo_103_1 rfl rfl rfl ?_
        refine ns_ldB pl_101 hs rfl rfl rfl (by rfl) ?_
        refine ns_len sl_101 rfl rfl rfl ?_
        refine ns_cmp _ rfl rfl rfl rfl rfl ?_
        refine ns_pick rfl rfl rfl ?_
        refine ns_done ?_
        refine ⟨decide ((bs.length : Int) > 0), rfl, fun hq => ⟨hz, by have := of_decide_eq_true hq; omega⟩, fun hq hne => ?_, rfl, rfl, rfl, rfl, hs0⟩
        have hq := of_decide_eq_false hq
        have : t2.kids.length = 0 := by omega
        exact absurd (kids_zero q1 this) hne
      · -- R4
        refine WP_seqr [⟨0, 0, []⟩, ⟨1, 0, []⟩, ⟨2, 0, []⟩, ⟨3, 1, []⟩, ⟨4, 0, []⟩, ⟨5, 0, []⟩, ⟨6, 1, []⟩, ⟨7, 0, []⟩, ⟨8, 0, []⟩, ⟨9, 0, []⟩, ⟨10, 0, []⟩, ⟨11, 0, []⟩, ⟨12, 0, []⟩, ⟨13, 0, []⟩, ⟨14, 0, []⟩, ⟨15, 0, []⟩, ⟨16, 0, []⟩, ⟨17, 0, []⟩, ⟨18, 0, []⟩, ⟨19, 0, []⟩] (by kernel_rfl) ?_
        refine ns_move rfl rfl ?_
        refine ns_nil rfl rfl rfl ?_
        refine ns_fld fo_87_2 rfl rfl rfl ?_
        refine ns_ldB pl_85 hs rfl rfl rfl (by rfl) ?_
        refine ns_nil rfl rfl rfl ?_
        refine ns_fld fo_103_0 rfl rfl rfl ?_
        refine ns_ldB pl_100 hs rfl rfl rfl (by rfl) ?_
        refine ns_len sl_100 rfl rfl rfl ?_
        refine ns_cmp false rfl rfl rfl rfl (congrArg some (beq_eq_false_iff_ne.2 (by omega))) ?_
        refine ns_move rfl rfl ?_
        refine ns_no rfl rfl ?_
        refine ns_no rfl rfl ?_
        refine ns_no rfl rfl ?_
        refine ns_no rfl rfl ?_
        refine ns_no rfl rfl ?_
        refine ns_no rfl rfl ?_
        refine ns_no rfl rfl ?_
        refine ns_no rfl rfl ?_
        refine ns_no rfl rfl ?_
        refine ns_pick rfl rfl rfl ?_
        refine ns_done ?_
        exact ⟨false, rfl, (fun e => by cases e), (fun _ _ => hz), rfl, rfl, rfl, rfl, hs0⟩
    rintro σ w ⟨q, g70, e1, e2, g0, g6, g8, g9, hs⟩
    obtain ⟨σ, rfl⟩ := rebase g70
    obtain ⟨σ, rfl⟩ := rebase (σ := σ) g0
    obtain ⟨σ, rfl⟩ := rebase (σ := σ) g6
    obtain ⟨σ, rfl⟩ := rebase (σ := σ) g8
    obtain ⟨σ, rfl⟩ := rebase (σ := σ) g9
    clear g70 g0 g6 g8 g9
    refine WP_if rfl (fun hif2 => ?_) (fun hif2 => ?_)
    · refine WP_seq ?_
      obtain ⟨hz, hb0⟩ := e1 hif2
      obtain ⟨h, rfl⟩ : ∃ h', h = h' + 1 := by
        cases h with
        | zero => rw [show t2.kids = [] from q1] at hb0; exact absurd rfl hb0
        | succ h => exact ⟨h, rfl⟩
      obtain ⟨k, hk⟩ : ∃ k, t2.kids[0]? = some k := ⟨t2.kids[0]'(by omega), List.getElem?_eq_getElem (by omega)⟩
      obtain ⟨bs, hlen, hs⟩ := St.tree (hs.foc (Tp c (h + 1) t2 rb))
      obtain ⟨xb, hxb⟩ : ∃ xb, bs[0]? = some xb := ⟨bs[0]'(by omega), List.getElem?_eq_getElem (by omega)⟩
      rw [Ks_at hk hxb] at hs
      simp only [mul_assoc'] at hs
      -- R5
      refine WP_seqr [⟨0, 0, []⟩, ⟨1, 0, []⟩, ⟨2, 0, []⟩, ⟨3, 1, []⟩, ⟨4, 0, []⟩] (by kernel_rfl) ?_
      refine ns_move rfl rfl ?_
      refine ns_nil rfl rfl rfl ?_
      refine ns_fld fo_87_2 rfl rfl rfl ?_
      refine ns_ldB pl_85 hs rfl rfl rfl (by rfl) ?_
      refine ns_asg rfl rfl ?_
      refine ns_done ?_
      refine WP_seq ?_
      obtain ⟨⟨v1, v2⟩, hs⟩ := (hs.foc (NodeP c rb (t2.its) (bs))).ex
      simp only [mul_assoc'] at hs
      obtain ⟨_, hz, _⟩ | ⟨g, cap, cur, hv, hc, hcm, hsz, htk, hs⟩ := (hs.foc (PArr (v2) (bs))).arr
      · omega
      cases hv
      -- R6
      refine WP_seqr [⟨0, 0, []⟩, ⟨1, 0, []⟩, ⟨2, 0, []⟩, ⟨3, 0, []⟩, ⟨4, 1, []⟩, ⟨5, 0, []⟩, ⟨6, 0, []⟩, ⟨7, 1, []⟩, ⟨8, 0, []⟩, ⟨9, 1, []⟩, ⟨10, 0, []⟩, ⟨11, 0, []⟩, ⟨12, 2, []⟩] (by kernel_rfl) ?_
      refine ns_move rfl rfl ?_
      refine ns_move rfl rfl ?_
      refine ns_nil rfl rfl rfl ?_
      refine ns_fld fo_87_2 rfl rfl rfl ?_
      refine ns_ldB pl_85 hs rfl rfl rfl (by rfl) ?_
      refine ns_nil rfl rfl rfl ?_
      refine ns_fld fo_103_1 rfl rfl rfl ?_
      refine ns_ldB pl_101 hs rfl rfl rfl (by rfl) ?_
      refine ns_idx 0 sl_101 rfl rfl rfl rfl rfl (by omega) ?_
      refine ns_ld pl_85 rfl rfl rfl (ptr_cell hs htk _ hxb) ?_
      refine ns_nil rfl rfl rfl ?_
      refine ns_fld fo_87_2 rfl rfl rfl ?_
      refine ns_st (ptr xb) pl_85 hs rfl rfl rfl rfl rfl (by simp) ?_
      refine fun w hs => ⟨trivial, ?_⟩
      try simp only [Nat.zero_add] at hs
      try simp only [List.setIfInBounds_toArray] at hs
      try simp only [List.set_cons_succ] at hs
      try simp only [List.set_cons_zero] at hs
      refine ns_done ?_
      have hs := (hs.foc (pts g (.cells cur 85 (0, 0)))).mk_arr' hc hcm hsz htk
      have hs := hs.fold (node_fold c rb v1 (.slice (some ⟨g, 0, none⟩) bs.length cap) t2.its bs)
      -- R7
      refine WP_seqr [⟨0, 0, []⟩, ⟨1, 0, []⟩, ⟨2, 0, []⟩, ⟨3, 1, []⟩, ⟨4, 0, []⟩, ⟨5, 2, []⟩] (by kernel_rfl) ?_
      refine ns_move rfl rfl ?_
      refine ns_nil rfl rfl rfl ?_
      refine ns_fld fo_87_3 rfl rfl rfl ?_
      refine ns_ldB pl_82 hs rfl rfl rfl (by rfl) ?_
      refine ns_move rfl rfl ?_
      refine ns_call (f89_ok c fl rb t2.its bs) ck_89 (hs.foc (NodeP c rb t2.its bs * Ctx c fl)) rfl rfl rfl rfl ?_
      intro v92 w hs
      replace hs := hs.ex
      obtain ⟨kk, hs⟩ := hs
      replace hs := hs.pu
      obtain ⟨rfl, hs⟩ := hs
      refine ns_done ?_
      rw [show Tq c (h + 1) k xb = Tp c h k xb from rfl] at hs
      exact ⟨rfl, rfl, rfl, rfl, h, k, xb, root_drop hd q1 (List.eq_nil_of_length_eq_zero hz) hk q4 hSr, hs.out⟩
    refine WP_skip ?_
    exact ⟨rfl, rfl, rfl, rfl, h, t2, rb, ⟨q1, by omega, q4, hSr, e2 hif2⟩, hs⟩
  rintro σ w ⟨g0, g6, g8, g9, h3, t3, rb3, hg3, hs⟩
  obtain ⟨σ, rfl⟩ := rebase g0
  obtain ⟨σ, rfl⟩ := rebase (σ := σ) g6
  obtain ⟨σ, rfl⟩ := rebase (σ := σ) g8
  obtain ⟨σ, rfl⟩ := rebase (σ := σ) g9
  clear g0 g6 g8 g9
  refine WP_seq_cut (fun σ w => σ 0 = ptr b ∧ σ 6 = .pointer (some ⟨b6, 0, none⟩) ∧ σ 8 = .pointer (some ⟨b8, 0, none⟩) ∧ σ 9 = .bool (rmo ty l x).isSome ∧ St w0 (pts b8 (.cells #[.int .i64 ((rmo ty l x).getD zero).key, .int .i64 ((rmo ty l x).getD zero).val] 45 (0, 0)) * (pts b6 (.cells #[.int .i64 0, .int .i64 0] 45 (0, 0)) * (pts b (.cells #[.int .i64 d, .int .i64 (rml ty l x).length, ptr rb3, ptr c] 87 (0, 0)) * (Tp c h3 t3 rb3 * (Ctx c fl * F))))) w) ?_ ?_ -- S3
  · refine WP_seq ?_
    -- R8
    refine WP_seqr [⟨0, 0, []⟩] (by kernel_rfl) ?_
    refine ns_move rfl rfl ?_
    refine ns_done ?_
    refine WP_if rfl (fun hif3 => ?_) (fun hif3 => ?_)
    · have hn : (rmo ty l x).isSome = true := hif3
      rw [if_pos hn] at hlp
      have hpos : 1 ≤ l.length := by
        rcases Nat.eq_zero_or_pos l.length with e | e
        · rw [List.eq_nil_of_length_eq_zero e, (rml_nil ty x).2] at hn; cases hn
        · exact e
      -- R9
      refine WP_seqr [⟨0, 0, []⟩, ⟨1, 0, []⟩, ⟨2, 0, []⟩, ⟨3, 1, []⟩, ⟨4, 0, []⟩, ⟨5, 0, []⟩, ⟨6, 0, []⟩, ⟨7, 2, []⟩] (by kernel_rfl) ?_
      refine ns_move rfl rfl ?_
      refine ns_nil rfl rfl rfl ?_
      refine ns_fld fo_87_1 rfl rfl rfl ?_
      refine ns_ldB pl_3 hs rfl rfl rfl (by rfl) ?_
      refine ns_sub rfl rfl rfl rfl (by omega) (by omega) ?_
      refine ns_nil rfl rfl rfl ?_
      refine ns_fld fo_87_1 rfl rfl rfl ?_
      refine ns_st (.int .i64 ((l.length : Int) - 1)) pl_3 hs rfl rfl rfl rfl rfl (by simp) ?_
      refine fun w hs => ⟨trivial, ?_⟩
      try simp only [Nat.zero_add] at hs
      try simp only [List.setIfInBounds_toArray] at hs
      try simp only [List.set_cons_succ] at hs
      try simp only [List.set_cons_zero] at hs
      refine ns_done ?_
      rw [show ((l.length : Int) - 1) = (((rml ty l x).length : Nat) : Int) by omega] at hs
      exact ⟨rfl, rfl, rfl, rfl, hs.out⟩
    refine WP_skip ?_
    have hn : (rmo ty l x).isSome = false := hif3
    rw [hn] at hlp
    simp only [Bool.false_eq_true, if_false] at hlp
    rw [← hlp] at hs
    exact ⟨rfl, rfl, rfl, rfl, hs⟩
  rintro σ w ⟨g0, g6, g8, g9, hs⟩
  obtain ⟨σ, rfl⟩ := rebase g0
  obtain ⟨σ, rfl⟩ := rebase (σ := σ) g6
  obtain ⟨σ, rfl⟩ := rebase (σ := σ) g8
  obtain ⟨σ, rfl⟩ := rebase (σ := σ) g9
  clear g0 g6 g8 g9
  refine WP_seq ?_
  -- R10
  refine WP_seqr [⟨0, 1, []⟩, ⟨1, 0, []⟩, ⟨2, 2, []⟩, ⟨3, 0, []⟩] (by kernel_rfl) ?_
  refine ns_ldAB _ ag_45 hs rfl rfl rfl (by rfl) (by rfl) (by decide) ?_
  refine ns_move rfl rfl ?_
  refine ns_stA (#[.int .i64 ((rmo ty l x).getD zero).key, .int .i64 ((rmo ty l x).getD zero).val]) ag_45 rfl (by decide) hs rfl rfl rfl rfl (by intro u hu; simp at hu; rcases hu with rfl | rfl <;> rfl) (by simp) ?_
  refine fun w hs => ⟨trivial, ?_⟩
  refine ns_asg rfl rfl ?_
  refine ns_done ?_
  refine WP_ret ?_
  have hload := run_loadVarA (P := Try.prog) (t := 45) (n := 2) (ad := ⟨b6, 0, none⟩) (vs := [.int .i64 ((rmo ty l x).getD zero).key, .int .i64 ((rmo ty l x).getD zero).val]) ag_45 rfl (by decide) w (St.cells (n := 2) hs (by rfl))
  have hs := hs.fold (bt_tree (c := c) (b := b) (rb := rb3) (n := (rml ty l x).length) hg3 rfl)
  exact ⟨_, resCT 6 45 7 rfl hload, St.mk_pu rfl hs.out⟩
end Go.Proofs.Ytnnembkganlbpaa
/- The tree's own calls: put, take out, look, the ends, the length; over the list that it holds. -/
namespace Go.Proofs.Ytnnembkganlbpaa
open Go Go.Sl Go.Net Go.Wk Go.Bt Go.RowKit

theorem f48_ok (c fl d b : Nat) (x : It) (l : List It) (hd : 2 ≤ d) (hd2 : d ≤ 1000) (hll : l.length < 1000000) :
    Tri Try.prog 48 #[ptr b, itV x] (BT c d b l * Ctx c fl) fun v => pu (v = ans (get l x.key)) * (BT c d b (put l x) * Ctx c fl) := by
  intro w0 F w hs
  rw [mul_assoc'] at hs
  replace hs := St.bt hs
  rcases hs with ⟨rfl, hs⟩ | ⟨h, t, rb, hg, hs⟩
  · exact f48_nil c fl d b x hd w0 F w (hs.eq (by ac_rfl))
  · exact f48_tree c fl d b h rb x t l hd hd2 hg hll w0 F w (hs.eq (by ac_rfl))
theorem f73_ok (c fl d b ty : Nat) (x : It) (l : List It) (hd : 2 ≤ d) (hd2 : d ≤ 1000) (hty : ty = 0 ∨ ty = 1 ∨ ty = 2) (hll : l.length < 1000000) :
    Tri Try.prog 73 #[ptr b, itV x, .int .i64 ty] (BT c d b l * Ctx c fl) fun v => pu (v = ans (rmo ty l x)) * (BT c d b (rml ty l x) * Ctx c fl) := by
  intro w0 F w hs
  rw [mul_assoc'] at hs
  replace hs := St.bt hs
  rcases hs with ⟨rfl, hs⟩ | ⟨h, t, rb, hg, hs⟩
  · rw [(rml_nil ty x).1, (rml_nil ty x).2]
    exact f73_nil c fl d b ty x w0 F w (hs.eq (by ac_rfl))
  · by_cases h0 : t.its.length = 0
    · have hh : h = 0 := by
        rcases Nat.eq_zero_or_pos h with e | e
        · exact e
        · have := hg.2.2.2.2 (by omega); omega
      subst hh
      have hl : l = [] := by
        rw [← hg.2.2.1]
        exact List.eq_nil_of_length_eq_zero h0
      subst hl
      rw [(rml_nil ty x).1, (rml_nil ty x).2]
      exact f73_empty c fl d b 0 rb ty x t hg h0 w0 F w (hs.eq (by ac_rfl))
    · exact f73_tree c fl d b h rb ty x t l hd hd2 hty hg (by omega) hll w0 F w (hs.eq (by ac_rfl))
theorem f49_n (c fl d b : Nat) (x : It) : Tri Try.prog 49 #[ptr b, itV x] (BtN c d b * Ctx c fl) fun v => pu (v = ans (get [] x.key)) * (BT c d b [] * Ctx c fl) := by
  intro w0 F w hs
  unfold BtN at hs
  simp only [mul_assoc'] at hs
  refine calls_WP 19 #[.cell 4 45, .tmp 5] Try.func49 rfl Try.ntmps49 rfl (Nat.le_of_ble_eq_true rfl) ?_
  refine WP_seq ?_
  -- R0
  refine WP_seqr [⟨0, 2, []⟩, ⟨1, 2, []⟩, ⟨2, 0, []⟩] (by kernel_rfl) ?_
  refine ns_box (#[.int .i64 x.key, .int .i64 x.val]) hs rfl rfl rfl rfl ?_
  intro b3 w hs
  refine ns_alloc zc_45 hs rfl rfl ?_
  intro b4 w hs
  refine ns_asg rfl rfl ?_
  refine ns_done ?_
  refine WP_seq ?_ -- S1
  refine WP_seq ?_
  -- R1
  refine WP_seqr [⟨0, 0, []⟩, ⟨1, 0, []⟩, ⟨2, 0, []⟩, ⟨3, 1, []⟩, ⟨4, 0, []⟩] (by kernel_rfl) ?_
  refine ns_move rfl rfl ?_
  refine ns_nil rfl rfl rfl ?_
  refine ns_fld fo_87_2 rfl rfl rfl ?_
  refine ns_ldB pl_85 hs rfl rfl rfl (by rfl) ?_
  refine ns_peq true pt_85 rfl rfl rfl rfl rfl ?_
  refine ns_done ?_
  refine WP_true rfl ?_ -- if1
  refine WP_ret ?_
  have hload := run_loadVarA (P := Try.prog) (t := 45) (n := 2) (ad := ⟨b4, 0, none⟩) (vs := [.int .i64 zero.key, .int .i64 zero.val]) ag_45 rfl (by decide) w (St.cells (n := 2) hs (by rfl))
  have hs := hs.fold (bt_nil2 c d b)
  exact ⟨_, resCT 4 45 5 rfl hload, St.mk_pu rfl hs.out⟩
theorem f49_t (c fl d b h rb : Nat) (x : It) (t : Tr) (l : List It) (hg : Good d h t l) (hd2 : d ≤ 1000) : Tri Try.prog 49 #[ptr b, itV x] (pts b (.cells #[.int .i64 d, .int .i64 l.length, ptr rb, ptr c] 87 (0, 0)) * (Tp c h t rb * Ctx c fl)) fun v => pu (v = ans (get l x.key)) * (BT c d b l * Ctx c fl) := by
  intro w0 F w hs
  simp only [mul_assoc'] at hs
  refine calls_WP 19 #[.cell 4 45, .tmp 5] Try.func49 rfl Try.ntmps49 rfl (Nat.le_of_ble_eq_true rfl) ?_
  refine WP_seq ?_
  -- R0
  refine WP_seqr [⟨0, 2, []⟩, ⟨1, 2, []⟩, ⟨2, 0, []⟩] (by kernel_rfl) ?_
  refine ns_box (#[.int .i64 x.key, .int .i64 x.val]) hs rfl rfl rfl rfl ?_
  intro b3 w hs
  refine ns_alloc zc_45 hs rfl rfl ?_
  intro b4 w hs
  refine ns_asg rfl rfl ?_
  refine ns_done ?_
  refine WP_seq ?_ -- S1
  refine WP_seq ?_
  -- R1
  refine WP_seqr [⟨0, 0, []⟩, ⟨1, 0, []⟩, ⟨2, 0, []⟩, ⟨3, 1, []⟩, ⟨4, 0, []⟩] (by kernel_rfl) ?_
  refine ns_move rfl rfl ?_
  refine ns_nil rfl rfl rfl ?_
  refine ns_fld fo_87_2 rfl rfl rfl ?_
  refine ns_ldB pl_85 hs rfl rfl rfl (by rfl) ?_
  refine ns_peq false pt_85 rfl rfl rfl rfl (by simp [cmpP]) ?_
  refine ns_done ?_
  refine WP_false rfl ?_ -- if1
  refine WP_skip ?_
  refine WP_seq ?_
  -- R2
  refine WP_net hs mix [0, 1, 3, 7, 0, 31, 63, 63, 255, 511] [⟨0, 0, []⟩, ⟨1, 0, []⟩, ⟨2, 0, []⟩, ⟨3, 1, []⟩, ⟨4, 1, []⟩, ⟨5, 2, []⟩, ⟨6, 0, []⟩, ⟨7, 0, []⟩, ⟨8, 2, []⟩, ⟨9, 0, []⟩] (by kernel_rfl) ?_
  intro w hs
  refine ns_move rfl rfl ?_
  refine ns_nil rfl rfl rfl ?_
  refine ns_fld fo_87_2 rfl rfl rfl ?_
  refine ns_ldB pl_85 hs rfl rfl rfl (by rfl) ?_
  refine ns_ldAB [.int .i64 x.key, .int .i64 x.val] ag_45 hs rfl rfl rfl (by rfl) (by rfl) (by decide) ?_
  refine ns_call (f72_ok c fl (d - 1) (2 * d - 1) x (by omega) h rb t hg.1 hg.2.1 (by rw [hg.2.2.1]; exact hg.2.2.2.1)) ck_72 (hs.foc (Tp c h t rb * Ctx c fl)) rfl rfl rfl rfl ?_
  intro v16 w hs
  rw [hg.2.2.1] at hs
  replace hs := hs.pu
  obtain ⟨rfl, hs⟩ := hs
  simp only [mul_assoc'] at hs
  refine ns_ext rfl rfl rfl rfl ?_
  refine ns_ext rfl rfl rfl rfl ?_
  refine ns_stA (#[.int .i64 ((get l x.key).getD zero).key, .int .i64 ((get l x.key).getD zero).val]) ag_45 rfl (by decide) hs rfl rfl rfl rfl (by intro u hu; simp at hu; rcases hu with rfl | rfl <;> rfl) (by simp) ?_
  refine fun w hs => ⟨trivial, ?_⟩
  refine ns_asg rfl rfl ?_
  refine ns_done ?_
  refine WP_ret ?_
  have hload := run_loadVarA (P := Try.prog) (t := 45) (n := 2) (ad := ⟨b4, 0, none⟩) (vs := [.int .i64 ((get l x.key).getD zero).key, .int .i64 ((get l x.key).getD zero).val]) ag_45 rfl (by decide) w (St.cells (n := 2) hs (by rfl))
  have hs := hs.fold (bt_tree (c := c) (b := b) (rb := rb) (n := l.length) hg rfl)
  exact ⟨_, resCT 4 45 5 rfl hload, St.mk_pu rfl hs.out⟩
theorem f49_ok (c fl d b : Nat) (x : It) (l : List It) (hd2 : d ≤ 1000) : Tri Try.prog 49 #[ptr b, itV x] (BT c d b l * Ctx c fl) fun v => pu (v = ans (get l x.key)) * (BT c d b l * Ctx c fl) := by
  intro w0 F w hs
  rw [mul_assoc'] at hs
  replace hs := St.bt hs
  rcases hs with ⟨rfl, hs⟩ | ⟨h, t, rb, hg, hs⟩
  · exact f49_n c fl d b x w0 F w (hs.eq (by ac_rfl))
  · exact f49_t c fl d b h rb x t l hg hd2 w0 F w (hs.eq (by ac_rfl))
theorem f50_ok (c fl d b : Nat) (x : It) (l : List It) (hd2 : d ≤ 1000) : Tri Try.prog 50 #[ptr b, itV x] (BT c d b l * Ctx c fl) fun v => pu (v = .bool (get l x.key).isSome) * (BT c d b l * Ctx c fl) := by
  intro w0 F w hs
  simp only [mul_assoc'] at hs
  refine calls_WP 14 #[.tmp 4] Try.func50 rfl Try.ntmps50 rfl (Nat.le_of_ble_eq_true rfl) ?_
  refine WP_seq ?_
  -- R0
  refine WP_seqr [⟨0, 2, []⟩, ⟨1, 0, []⟩] (by kernel_rfl) ?_
  refine ns_box (#[.int .i64 x.key, .int .i64 x.val]) hs rfl rfl rfl rfl ?_
  intro b3 w hs
  refine ns_asg rfl rfl ?_
  refine ns_done ?_
  refine WP_seq ?_
  -- R1
  refine WP_seqr [⟨0, 0, []⟩, ⟨1, 1, []⟩, ⟨2, 2, []⟩, ⟨3, 0, []⟩, ⟨4, 0, []⟩, ⟨5, 0, []⟩, ⟨6, 2, []⟩, ⟨7, 2, []⟩, ⟨8, 0, []⟩] (by kernel_rfl) ?_
  refine ns_move rfl rfl ?_
  refine ns_ldAB [.int .i64 x.key, .int .i64 x.val] ag_45 hs rfl rfl rfl (by rfl) (by rfl) (by decide) ?_
  refine ns_call (f49_ok c fl d b x l hd2) ck_49 (hs.foc (BT c d b l * Ctx c fl)) rfl rfl rfl rfl ?_
  intro v10 w hs
  replace hs := hs.pu
  obtain ⟨rfl, hs⟩ := hs
  simp only [mul_assoc'] at hs
  refine ns_move rfl rfl ?_
  refine ns_ext rfl rfl rfl rfl ?_
  refine ns_ext rfl rfl rfl rfl ?_
  refine ns_alloc zc_45 hs rfl rfl ?_
  intro b5 w hs
  refine ns_stA (#[.int .i64 ((get l x.key).getD zero).key, .int .i64 ((get l x.key).getD zero).val]) ag_45 rfl (by decide) hs rfl rfl rfl rfl (by intro u hu; simp at hu; rcases hu with rfl | rfl <;> rfl) (by simp) ?_
  refine fun w hs => ⟨trivial, ?_⟩
  refine ns_asg rfl rfl ?_
  refine ns_done ?_
  refine WP_seq ?_
  -- R2
  refine WP_seqr [⟨0, 0, []⟩, ⟨1, 0, []⟩] (by kernel_rfl) ?_
  refine ns_move rfl rfl ?_
  refine ns_asg rfl rfl ?_
  refine ns_done ?_
  refine WP_ret ?_
  exact ⟨_, res1 _, St.mk_pu rfl hs.out⟩
theorem f52_n (c fl d b : Nat) : Tri Try.prog 52 #[ptr b] (BtN c d b * Ctx c fl) fun v => pu (v = ans ([] : List It).head?) * (BT c d b [] * Ctx c fl) := by
  intro w0 F w hs
  unfold BtN at hs
  simp only [mul_assoc'] at hs
  refine calls_WP 11 #[.cell 2 45, .tmp 3] Try.func52 rfl Try.ntmps52 rfl (Nat.le_of_ble_eq_true rfl) ?_
  refine WP_seq ?_
  -- R0
  refine WP_seqr [⟨0, 2, []⟩, ⟨1, 0, []⟩] (by kernel_rfl) ?_
  refine ns_alloc zc_45 hs rfl rfl ?_
  intro b2 w hs
  refine ns_asg rfl rfl ?_
  refine ns_done ?_
  refine WP_seq ?_
  -- R1
  refine WP_seqr [⟨0, 0, []⟩, ⟨1, 0, []⟩, ⟨2, 0, []⟩, ⟨3, 1, []⟩, ⟨4, 2, []⟩, ⟨5, 0, []⟩, ⟨6, 0, []⟩, ⟨7, 2, []⟩, ⟨8, 0, []⟩] (by kernel_rfl) ?_
  refine ns_move rfl rfl ?_
  refine ns_nil rfl rfl rfl ?_
  refine ns_fld fo_87_2 rfl rfl rfl ?_
  refine ns_ldB pl_85 hs rfl rfl rfl (by rfl) ?_
  refine ns_call (f74_nil) ck_74 (hs.foc 1) rfl rfl rfl rfl ?_
  intro v8 w hs
  replace hs := hs.pure
  obtain ⟨rfl, hs⟩ := hs
  refine ns_ext rfl rfl rfl rfl ?_
  refine ns_ext rfl rfl rfl rfl ?_
  refine ns_stA (#[.int .i64 zero.key, .int .i64 zero.val]) ag_45 rfl (by decide) hs rfl rfl rfl rfl (by intro u hu; simp at hu; rcases hu with rfl | rfl <;> rfl) (by simp) ?_
  refine fun w hs => ⟨trivial, ?_⟩
  refine ns_asg rfl rfl ?_
  refine ns_done ?_
  refine WP_ret ?_
  have hload := run_loadVarA (P := Try.prog) (t := 45) (n := 2) (ad := ⟨b2, 0, none⟩) (vs := [.int .i64 zero.key, .int .i64 zero.val]) ag_45 rfl (by decide) w (St.cells (n := 2) hs (by rfl))
  have hs := hs.fold (bt_nil2 c d b)
  exact ⟨_, resCT 2 45 3 rfl hload, St.mk_pu rfl hs.out⟩
theorem f52_t (c fl d b h rb : Nat) (t : Tr) (l : List It) (hg : Good d h t l) (hd : 2 ≤ d) : Tri Try.prog 52 #[ptr b] (pts b (.cells #[.int .i64 d, .int .i64 l.length, ptr rb, ptr c] 87 (0, 0)) * (Tp c h t rb * Ctx c fl)) fun v => pu (v = ans l.head?) * (BT c d b l * Ctx c fl) := by
  intro w0 F w hs
  simp only [mul_assoc'] at hs
  refine calls_WP 11 #[.cell 2 45, .tmp 3] Try.func52 rfl Try.ntmps52 rfl (Nat.le_of_ble_eq_true rfl) ?_
  refine WP_seq ?_
  -- R0
  refine WP_seqr [⟨0, 2, []⟩, ⟨1, 0, []⟩] (by kernel_rfl) ?_
  refine ns_alloc zc_45 hs rfl rfl ?_
  intro b2 w hs
  refine ns_asg rfl rfl ?_
  refine ns_done ?_
  refine WP_seq ?_
  -- R1
  refine WP_seqr [⟨0, 0, []⟩, ⟨1, 0, []⟩, ⟨2, 0, []⟩, ⟨3, 1, []⟩, ⟨4, 2, []⟩, ⟨5, 0, []⟩, ⟨6, 0, []⟩, ⟨7, 2, []⟩, ⟨8, 0, []⟩] (by kernel_rfl) ?_
  refine ns_move rfl rfl ?_
  refine ns_nil rfl rfl rfl ?_
  refine ns_fld fo_87_2 rfl rfl rfl ?_
  refine ns_ldB pl_85 hs rfl rfl rfl (by rfl) ?_
  refine ns_call (f74_ok c (d - 1) (2 * d - 1) h rb t (by omega) hg.1 hg.2.1 (by rw [hg.2.2.1]; exact hg.2.2.2.1)) ck_74 (hs.foc (Tp c h t rb)) rfl rfl rfl rfl ?_
  intro v8 w hs
  rw [hg.2.2.1] at hs
  replace hs := hs.pu
  obtain ⟨rfl, hs⟩ := hs
  refine ns_ext rfl rfl rfl rfl ?_
  refine ns_ext rfl rfl rfl rfl ?_
  refine ns_stA (#[.int .i64 (l.head?.getD zero).key, .int .i64 (l.head?.getD zero).val]) ag_45 rfl (by decide) hs rfl rfl rfl rfl (by intro u hu; simp at hu; rcases hu with rfl | rfl <;> rfl) (by simp) ?_
  refine fun w hs => ⟨trivial, ?_⟩
  refine ns_asg rfl rfl ?_
  refine ns_done ?_
  refine WP_ret ?_
  have hload := run_loadVarA (P := Try.prog) (t := 45) (n := 2) (ad := ⟨b2, 0, none⟩) (vs := [.int .i64 (l.head?.getD zero).key, .int .i64 (l.head?.getD zero).val]) ag_45 rfl (by decide) w (St.cells (n := 2) hs (by rfl))
  have hs := hs.fold (bt_tree (c := c) (b := b) (rb := rb) (n := l.length) hg rfl)
  exact ⟨_, resCT 2 45 3 rfl hload, St.mk_pu rfl hs.out⟩
theorem f52_ok (c fl d b : Nat) (l : List It) (hd : 2 ≤ d) : Tri Try.prog 52 #[ptr b] (BT c d b l * Ctx c fl) fun v => pu (v = ans l.head?) * (BT c d b l * Ctx c fl) := by
  intro w0 F w hs
  rw [mul_assoc'] at hs
  replace hs := St.bt hs
  rcases hs with ⟨rfl, hs⟩ | ⟨h, t, rb, hg, hs⟩
  · exact f52_n c fl d b w0 F w (hs.eq (by ac_rfl))
  · exact f52_t c fl d b h rb t l hg hd w0 F w (hs.eq (by ac_rfl))
theorem f53_n (c fl d b : Nat) : Tri Try.prog 53 #[ptr b] (BtN c d b * Ctx c fl) fun v => pu (v = ans ([] : List It).getLast?) * (BT c d b [] * Ctx c fl) := by
  intro w0 F w hs
  unfold BtN at hs
  simp only [mul_assoc'] at hs
  refine calls_WP 11 #[.cell 2 45, .tmp 3] Try.func53 rfl Try.ntmps53 rfl (Nat.le_of_ble_eq_true rfl) ?_
  refine WP_seq ?_
  -- R0
  refine WP_seqr [⟨0, 2, []⟩, ⟨1, 0, []⟩] (by kernel_rfl) ?_
  refine ns_alloc zc_45 hs rfl rfl ?_
  intro b2 w hs
  refine ns_asg rfl rfl ?_
  refine ns_done ?_
  refine WP_seq ?_
  -- R1
  refine WP_seqr [⟨0, 0, []⟩, ⟨1, 0, []⟩, ⟨2, 0, []⟩, ⟨3, 1, []⟩, ⟨4, 2, []⟩, ⟨5, 0, []⟩, ⟨6, 0, []⟩, ⟨7, 2, []⟩, ⟨8, 0, []⟩] (by kernel_rfl) ?_
  refine ns_move rfl rfl ?_
  refine ns_nil rfl rfl rfl ?_
  refine ns_fld fo_87_2 rfl rfl rfl ?_
  refine ns_ldB pl_85 hs rfl rfl rfl (by rfl) ?_
  refine ns_call (f75_nil) ck_75 (hs.foc 1) rfl rfl rfl rfl ?_
  intro v8 w hs
  replace hs := hs.pure
  obtain ⟨rfl, hs⟩ := hs
  refine ns_ext rfl rfl rfl rfl ?_
  refine ns_ext rfl rfl rfl rfl ?_
  refine ns_stA (#[.int .i64 zero.key, .int .i64 zero.val]) ag_45 rfl (by decide) hs rfl rfl rfl rfl (by intro u hu; simp at hu; rcases hu with rfl | rfl <;> rfl) (by simp) ?_
  refine fun w hs => ⟨trivial, ?_⟩
  refine ns_asg rfl rfl ?_
  refine ns_done ?_
  refine WP_ret ?_
  have hload := run_loadVarA (P := Try.prog) (t := 45) (n := 2) (ad := ⟨b2, 0, none⟩) (vs := [.int .i64 zero.key, .int .i64 zero.val]) ag_45 rfl (by decide) w (St.cells (n := 2) hs (by rfl))
  have hs := hs.fold (bt_nil2 c d b)
  exact ⟨_, resCT 2 45 3 rfl hload, St.mk_pu rfl hs.out⟩
theorem f53_t (c fl d b h rb : Nat) (t : Tr) (l : List It) (hg : Good d h t l) (hd : 2 ≤ d) : Tri Try.prog 53 #[ptr b] (pts b (.cells #[.int .i64 d, .int .i64 l.length, ptr rb, ptr c] 87 (0, 0)) * (Tp c h t rb * Ctx c fl)) fun v => pu (v = ans l.getLast?) * (BT c d b l * Ctx c fl) := by
  intro w0 F w hs
  simp only [mul_assoc'] at hs
  refine calls_WP 11 #[.cell 2 45, .tmp 3] Try.func53 rfl Try.ntmps53 rfl (Nat.le_of_ble_eq_true rfl) ?_
  refine WP_seq ?_
  -- R0
  refine WP_seqr [⟨0, 2, []⟩, ⟨1, 0, []⟩] (by kernel_rfl) ?_
  refine ns_alloc zc_45 hs rfl rfl ?_
  intro b2 w hs
  refine ns_asg rfl rfl ?_
  refine ns_done ?_
  refine WP_seq ?_
  -- R1
  refine WP_seqr [⟨0, 0, []⟩, ⟨1, 0, []⟩, ⟨2, 0, []⟩, ⟨3, 1, []⟩, ⟨4, 2, []⟩, ⟨5, 0, []⟩, ⟨6, 0, []⟩, ⟨7, 2, []⟩, ⟨8, 0, []⟩] (by kernel_rfl) ?_
  refine ns_move rfl rfl ?_
  refine ns_nil rfl rfl rfl ?_
  refine ns_fld fo_87_2 rfl rfl rfl ?_
  refine ns_ldB pl_85 hs rfl rfl rfl (by rfl) ?_
  refine ns_call (f75_ok c (d - 1) (2 * d - 1) h rb t (by omega) hg.1 hg.2.1 (by rw [hg.2.2.1]; exact hg.2.2.2.1)) ck_75 (hs.foc (Tp c h t rb)) rfl rfl rfl rfl ?_
  intro v8 w hs
  rw [hg.2.2.1] at hs
  replace hs := hs.pu
  obtain ⟨rfl, hs⟩ := hs
  refine ns_ext rfl rfl rfl rfl ?_
  refine ns_ext rfl rfl rfl rfl ?_
  refine ns_stA (#[.int .i64 (l.getLast?.getD zero).key, .int .i64 (l.getLast?.getD zero).val]) ag_45 rfl (by decide) hs rfl rfl rfl rfl (by intro u hu; simp at hu; rcases hu with rfl | rfl <;> rfl) (by simp) ?_
  refine fun w hs => ⟨trivial, ?_⟩
  refine ns_asg rfl rfl ?_
  refine ns_done ?_
  refine WP_ret ?_
  have hload := run_loadVarA (P := Try.prog) (t := 45) (n := 2) (ad := ⟨b2, 0, none⟩) (vs := [.int .i64 (l.getLast?.getD zero).key, .int .i64 (l.getLast?.getD zero).val]) ag_45 rfl (by decide) w (St.cells (n := 2) hs (by rfl))
  have hs := hs.fold (bt_tree (c := c) (b := b) (rb := rb) (n := l.length) hg rfl)
  exact ⟨_, resCT 2 45 3 rfl hload, St.mk_pu rfl hs.out⟩
theorem f53_ok (c fl d b : Nat) (l : List It) (hd : 2 ≤ d) : Tri Try.prog 53 #[ptr b] (BT c d b l * Ctx c fl) fun v => pu (v = ans l.getLast?) * (BT c d b l * Ctx c fl) := by
  intro w0 F w hs
  rw [mul_assoc'] at hs
  replace hs := St.bt hs
  rcases hs with ⟨rfl, hs⟩ | ⟨h, t, rb, hg, hs⟩
  · exact f53_n c fl d b w0 F w (hs.eq (by ac_rfl))
  · exact f53_t c fl d b h rb t l hg hd w0 F w (hs.eq (by ac_rfl))
theorem f56_n (c fl d b : Nat) : Tri Try.prog 56 #[ptr b] (BtN c d b * Ctx c fl) fun v => pu (v = .int .i64 (([] : List It).length : Nat)) * (BT c d b [] * Ctx c fl) := by
  intro w0 F w hs
  unfold BtN at hs
  simp only [mul_assoc'] at hs
  refine calls_WP 7 #[.tmp 2] Try.func56 rfl Try.ntmps56 rfl (Nat.le_of_ble_eq_true rfl) ?_
  refine WP_seq ?_
  -- R0
  refine WP_seqr [⟨0, 0, []⟩] (by kernel_rfl) ?_
  refine ns_asg rfl rfl ?_
  refine ns_done ?_
  refine WP_seq ?_
  -- R1
  refine WP_seqr [⟨0, 0, []⟩, ⟨1, 0, []⟩, ⟨2, 0, []⟩, ⟨3, 1, []⟩, ⟨4, 0, []⟩] (by kernel_rfl) ?_
  refine ns_move rfl rfl ?_
  refine ns_nil rfl rfl rfl ?_
  refine ns_fld fo_87_1 rfl rfl rfl ?_
  refine ns_ldB pl_3 hs rfl rfl rfl (by rfl) ?_
  refine ns_asg rfl rfl ?_
  refine ns_done ?_
  refine WP_ret ?_
  have hs := hs.fold (bt_nil2 c d b)
  exact ⟨_, res1 _, St.mk_pu rfl hs.out⟩
theorem f56_t (c fl d b h rb : Nat) (t : Tr) (l : List It) (hg : Good d h t l) : Tri Try.prog 56 #[ptr b] (pts b (.cells #[.int .i64 d, .int .i64 l.length, ptr rb, ptr c] 87 (0, 0)) * (Tp c h t rb * Ctx c fl)) fun v => pu (v = .int .i64 (l.length : Nat)) * (BT c d b l * Ctx c fl) := by
  intro w0 F w hs
  simp only [mul_assoc'] at hs
  refine calls_WP 7 #[.tmp 2] Try.func56 rfl Try.ntmps56 rfl (Nat.le_of_ble_eq_true rfl) ?_
  refine WP_seq ?_
  -- R0
  refine WP_seqr [⟨0, 0, []⟩] (by kernel_rfl) ?_
  refine ns_asg rfl rfl ?_
  refine ns_done ?_
  refine WP_seq ?_
  -- R1
  refine WP_seqr [⟨0, 0, []⟩, ⟨1, 0, []⟩, ⟨2, 0, []⟩, ⟨3, 1, []⟩, ⟨4, 0, []⟩] (by kernel_rfl) ?_
  refine ns_move rfl rfl ?_
  refine ns_nil rfl rfl rfl ?_
  refine ns_fld fo_87_1 rfl rfl rfl ?_
  refine ns_ldB pl_3 hs rfl rfl rfl (by rfl) ?_
  refine ns_asg rfl rfl ?_
  refine ns_done ?_
  refine WP_ret ?_
  have hs := hs.fold (bt_tree (c := c) (b := b) (rb := rb) (n := l.length) hg rfl)
  exact ⟨_, res1 _, St.mk_pu rfl hs.out⟩
theorem f56_ok (c fl d b : Nat) (l : List It) : Tri Try.prog 56 #[ptr b] (BT c d b l * Ctx c fl) fun v => pu (v = .int .i64 (l.length : Nat)) * (BT c d b l * Ctx c fl) := by
  intro w0 F w hs
  rw [mul_assoc'] at hs
  replace hs := St.bt hs
  rcases hs with ⟨rfl, hs⟩ | ⟨h, t, rb, hg, hs⟩
  · exact f56_n c fl d b w0 F w (hs.eq (by ac_rfl))
  · exact f56_t c fl d b h rb t l hg w0 F w (hs.eq (by ac_rfl))
theorem f51_ok (c fl d b : Nat) (x : It) (l : List It) (hd : 2 ≤ d) (hd2 : d ≤ 1000) (hll : l.length < 1000000) : Tri Try.prog 51 #[ptr b, itV x] (BT c d b l * Ctx c fl) fun v => pu (v = ans (get l x.key)) * (BT c d b (rem l x.key) * Ctx c fl) := by
  intro w0 F w hs
  simp only [mul_assoc'] at hs
  refine calls_WP 11 #[.cell 4 45, .tmp 5] Try.func51 rfl Try.ntmps51 rfl (Nat.le_of_ble_eq_true rfl) ?_
  refine WP_seq ?_
  -- R0
  refine WP_seqr [⟨0, 2, []⟩, ⟨1, 2, []⟩, ⟨2, 0, []⟩] (by kernel_rfl) ?_
  refine ns_box (#[.int .i64 x.key, .int .i64 x.val]) hs rfl rfl rfl rfl ?_
  intro b3 w hs
  refine ns_alloc zc_45 hs rfl rfl ?_
  intro b4 w hs
  refine ns_asg rfl rfl ?_
  refine ns_done ?_
  refine WP_seq ?_
  -- R1
  refine WP_seqr [⟨0, 0, []⟩, ⟨1, 1, []⟩, ⟨2, 2, []⟩, ⟨3, 0, []⟩, ⟨4, 0, []⟩, ⟨5, 2, []⟩, ⟨6, 0, []⟩] (by kernel_rfl) ?_
  refine ns_move rfl rfl ?_
  refine ns_ldAB [.int .i64 x.key, .int .i64 x.val] ag_45 hs rfl rfl rfl (by rfl) (by rfl) (by decide) ?_
  refine ns_call (f73_ok c fl d b 0 x l hd hd2 (.inl rfl) hll) ck_73 (hs.foc (BT c d b l * Ctx c fl)) rfl rfl rfl rfl ?_
  intro v8 w hs
  replace hs := hs.pu
  obtain ⟨rfl, hs⟩ := hs
  simp only [mul_assoc'] at hs
  refine ns_ext rfl rfl rfl rfl ?_
  refine ns_ext rfl rfl rfl rfl ?_
  refine ns_stA (#[.int .i64 ((rmo 0 l x).getD zero).key, .int .i64 ((rmo 0 l x).getD zero).val]) ag_45 rfl (by decide) hs rfl rfl rfl rfl (by intro u hu; simp at hu; rcases hu with rfl | rfl <;> rfl) (by simp) ?_
  refine fun w hs => ⟨trivial, ?_⟩
  refine ns_asg rfl rfl ?_
  refine ns_done ?_
  refine WP_ret ?_
  have hload := run_loadVarA (P := Try.prog) (t := 45) (n := 2) (ad := ⟨b4, 0, none⟩) (vs := [.int .i64 ((rmo 0 l x).getD zero).key, .int .i64 ((rmo 0 l x).getD zero).val]) ag_45 rfl (by decide) w (St.cells (n := 2) hs (by rfl))
  exact ⟨_, resCT 4 45 5 rfl hload, St.mk_pu rfl (hs.out (P := BT c d b (rml 0 l x) * Ctx c fl * F))⟩
theorem f54_ok (c fl d b : Nat) (l : List It) (hd : 2 ≤ d) (hd2 : d ≤ 1000) (hll : l.length < 1000000) : Tri Try.prog 54 #[ptr b] (BT c d b l * Ctx c fl) fun v => pu (v = ans l.head?) * (BT c d b l.tail * Ctx c fl) := by
  intro w0 F w hs
  simp only [mul_assoc'] at hs
  refine calls_WP 10 #[.cell 2 45, .tmp 3] Try.func54 rfl Try.ntmps54 rfl (Nat.le_of_ble_eq_true rfl) ?_
  refine WP_seq ?_
  -- R0
  refine WP_seqr [⟨0, 2, []⟩, ⟨1, 0, []⟩] (by kernel_rfl) ?_
  refine ns_alloc zc_45 hs rfl rfl ?_
  intro b2 w hs
  refine ns_asg rfl rfl ?_
  refine ns_done ?_
  refine WP_seq ?_
  -- R1
  refine WP_seqr [⟨0, 2, []⟩] (by kernel_rfl) ?_
  refine ns_alloc zc_45 hs rfl rfl ?_
  intro b4 w hs
  refine ns_done ?_
  refine WP_seq ?_
  -- R2
  refine WP_seqr [⟨0, 0, []⟩, ⟨1, 1, []⟩, ⟨2, 2, []⟩, ⟨3, 0, []⟩, ⟨4, 0, []⟩, ⟨5, 2, []⟩, ⟨6, 0, []⟩] (by kernel_rfl) ?_
  refine ns_move rfl rfl ?_
  refine ns_ldAB [.int .i64 zero.key, .int .i64 zero.val] ag_45 hs rfl rfl rfl (by rfl) (by rfl) (by decide) ?_
  refine ns_call (f73_ok c fl d b 1 zero l hd hd2 (.inr (.inl rfl)) hll) ck_73 (hs.foc (BT c d b l * Ctx c fl)) rfl rfl rfl rfl ?_
  intro v7 w hs
  replace hs := hs.pu
  obtain ⟨rfl, hs⟩ := hs
  simp only [mul_assoc'] at hs
  refine ns_ext rfl rfl rfl rfl ?_
  refine ns_ext rfl rfl rfl rfl ?_
  refine ns_stA (#[.int .i64 ((rmo 1 l zero).getD zero).key, .int .i64 ((rmo 1 l zero).getD zero).val]) ag_45 rfl (by decide) hs rfl rfl rfl rfl (by intro u hu; simp at hu; rcases hu with rfl | rfl <;> rfl) (by simp) ?_
  refine fun w hs => ⟨trivial, ?_⟩
  refine ns_asg rfl rfl ?_
  refine ns_done ?_
  refine WP_ret ?_
  have hload := run_loadVarA (P := Try.prog) (t := 45) (n := 2) (ad := ⟨b2, 0, none⟩) (vs := [.int .i64 ((rmo 1 l zero).getD zero).key, .int .i64 ((rmo 1 l zero).getD zero).val]) ag_45 rfl (by decide) w (St.cells (n := 2) hs (by rfl))
  exact ⟨_, resCT 2 45 3 rfl hload, St.mk_pu rfl (hs.out (P := BT c d b (rml 1 l zero) * Ctx c fl * F))⟩
theorem f55_ok (c fl d b : Nat) (l : List It) (hd : 2 ≤ d) (hd2 : d ≤ 1000) (hll : l.length < 1000000) : Tri Try.prog 55 #[ptr b] (BT c d b l * Ctx c fl) fun v => pu (v = ans l.getLast?) * (BT c d b l.dropLast * Ctx c fl) := by
  intro w0 F w hs
  simp only [mul_assoc'] at hs
  refine calls_WP 10 #[.cell 2 45, .tmp 3] Try.func55 rfl Try.ntmps55 rfl (Nat.le_of_ble_eq_true rfl) ?_
  refine WP_seq ?_
  -- R0
  refine WP_seqr [⟨0, 2, []⟩, ⟨1, 0, []⟩] (by kernel_rfl) ?_
  refine ns_alloc zc_45 hs rfl rfl ?_
  intro b2 w hs
  refine ns_asg rfl rfl ?_
  refine ns_done ?_
  refine WP_seq ?_
  -- R1
  refine WP_seqr [⟨0, 2, []⟩] (by kernel_rfl) ?_
  refine ns_alloc zc_45 hs rfl rfl ?_
  intro b4 w hs
  refine ns_done ?_
  refine WP_seq ?_
  -- R2
  refine WP_seqr [⟨0, 0, []⟩, ⟨1, 1, []⟩, ⟨2, 2, []⟩, ⟨3, 0, []⟩, ⟨4, 0, []⟩, ⟨5, 2, []⟩, ⟨6, 0, []⟩] (by kernel_rfl) ?_
  refine ns_move rfl rfl ?_
  refine ns_ldAB [.int .i64 zero.key, .int .i64 zero.val] ag_45 hs rfl rfl rfl (by rfl) (by rfl) (by decide) ?_
  refine ns_call (f73_ok c fl d b 2 zero l hd hd2 (.inr (.inr rfl)) hll) ck_73 (hs.foc (BT c d b l * Ctx c fl)) rfl rfl rfl rfl ?_
  intro v7 w hs
  replace hs := hs.pu
  obtain ⟨rfl, hs⟩ := hs
  simp only [mul_assoc'] at hs
  refine ns_ext rfl rfl rfl rfl ?_
  refine ns_ext rfl rfl rfl rfl ?_
  refine ns_stA (#[.int .i64 ((rmo 2 l zero).getD zero).key, .int .i64 ((rmo 2 l zero).getD zero).val]) ag_45 rfl (by decide) hs rfl rfl rfl rfl (by intro u hu; simp at hu; rcases hu with rfl | rfl <;> rfl) (by simp) ?_
  refine fun w hs => ⟨trivial, ?_⟩
  refine ns_asg rfl rfl ?_
  refine ns_done ?_
  refine WP_ret ?_
  have hload := run_loadVarA (P := Try.prog) (t := 45) (n := 2) (ad := ⟨b2, 0, none⟩) (vs := [.int .i64 ((rmo 2 l zero).getD zero).key, .int .i64 ((rmo 2 l zero).getD zero).val]) ag_45 rfl (by decide) w (St.cells (n := 2) hs (by rfl))
  exact ⟨_, resCT 2 45 3 rfl hload, St.mk_pu rfl (hs.out (P := BT c d b (rml 2 l zero) * Ctx c fl * F))⟩
end Go.Proofs.Ytnnembkganlbpaa
/- The walks of Clear: a tree's nodes go back to the free list, the root is let go. -/
namespace Go.Proofs.Ytnnembkganlbpaa
open Go Go.Sl Go.Net Go.Wk Go.Bt Go.RowKit

theorem Ks_drop {c h j : Nat} {kids : List Tr} {bs : List Nat} {k : Tr} {x : Nat} (hk : kids[j]? = some k) (hx : bs[j]? = some x) : Ks c h (kids.drop j) (bs.drop j) = Tq c h k x * Ks c h (kids.drop (j + 1)) (bs.drop (j + 1)) := by
  obtain ⟨h1, e1⟩ := List.getElem?_eq_some_iff.1 hk
  obtain ⟨h2, e2⟩ := List.getElem?_eq_some_iff.1 hx
  rw [List.drop_eq_getElem_cons h1, List.drop_eq_getElem_cons h2, e1, e2]
  rfl
set_option maxHeartbeats 800000 in
theorem f79_step (c fl h b : Nat) (t : Tr) (hlk : t.kids.length < 1000000)
    (hkid : ∀ (i : Nat) (k : Tr) (xb : Nat), t.kids[i]? = some k → Tri Try.prog 79 #[ptr xb, ptr c] (Tq c h k xb * Ctx c fl) fun v => ex fun q : Bool => pu (v = .bool q) * Ctx c fl) :
    Tri Try.prog 79 #[ptr b, ptr c] (Tp c h t b * Ctx c fl) fun v => ex fun q : Bool => pu (v = .bool q) * Ctx c fl := by
  intro w0 F w hs
  simp only [mul_assoc'] at hs
  obtain ⟨bs, hlen, hs⟩ := St.tree hs
  obtain ⟨⟨v1, v2⟩, hs⟩ := hs.ex
  simp only [mul_assoc'] at hs
  obtain ⟨a2, c2, rfl, hc2, hcm2⟩ := (hs.foc (PArr v2 bs)).arr_form
  refine calls_WP 25 #[.tmp 4] Try.func79 rfl Try.ntmps79 rfl (Nat.le_of_ble_eq_true rfl) ?_
  refine WP_seq ?_
  -- R0
  refine WP_seqr [⟨0, 0, []⟩] (by kernel_rfl) ?_
  refine ns_asg rfl rfl ?_
  refine ns_done ?_
  refine WP_seq_cut (fun σ w => σ 0 = ptr b ∧ σ 1 = ptr c ∧ St w0 (NodeP c b t.its bs * (Ctx c fl * F)) w) ?_ ?_ -- S1
  · refine WP_seq ?_
    -- R1
    refine WP_seqr [⟨0, 0, []⟩, ⟨1, 0, []⟩, ⟨2, 0, []⟩, ⟨3, 1, []⟩, ⟨4, 0, []⟩, ⟨5, 0, []⟩] (by kernel_rfl) ?_
    refine ns_move rfl rfl ?_
    refine ns_nil rfl rfl rfl ?_
    refine ns_fld fo_103_1 rfl rfl rfl ?_
    refine ns_ldB pl_101 hs rfl rfl rfl (by rfl) ?_
    refine ns_len sl_101 rfl rfl rfl ?_
    refine ns_move rfl rfl ?_
    refine ns_done ?_
    refine WP_block ?_
    refine WP_loop (fun m σ w => ∃ j : Nat, m = bs.length - j ∧ j ≤ bs.length ∧ σ 12 = .int .i64 j ∧ σ 0 = ptr b ∧ σ 1 = ptr c ∧ σ 10 = .slice a2 bs.length c2 ∧ σ 11 = .int .i64 bs.length ∧ St w0 (pts b (.cells #[v1, .slice a2 bs.length c2, ptr c] 103 (0, 0)) * (IArr v1 t.its * (PArr (.slice a2 bs.length c2) bs * (Ks c h (t.kids.drop j) (bs.drop j) * (Ctx c fl * F))))) w) bs.length ?_ ?_ -- L1
    · exact ⟨0, by omega, by omega, rfl, rfl, rfl, rfl, rfl, hs⟩
    rintro m σ w ⟨j, rfl, hj, g12, g0, g1, g10, g11, hs⟩
    obtain ⟨σ, rfl⟩ := rebase g12
    obtain ⟨σ, rfl⟩ := rebase (σ := σ) g0
    obtain ⟨σ, rfl⟩ := rebase (σ := σ) g1
    obtain ⟨σ, rfl⟩ := rebase (σ := σ) g10
    obtain ⟨σ, rfl⟩ := rebase (σ := σ) g11
    clear g12 g0 g1 g10 g11
    refine WP_seq ?_
    -- R2
    refine WP_seqr [⟨0, 0, []⟩] (by kernel_rfl) ?_
    refine ns_cmp _ rfl rfl rfl rfl rfl ?_
    refine ns_done ?_
    refine WP_seq ?_ -- S2
    refine WP_if' rfl (fun hif1 => ?_) (fun hif1 => ?_)
    · refine WP_exit ?_
      have hs := hs.fold (node_fold c b v1 (.slice a2 bs.length c2) t.its bs)
      exact ⟨rfl, rfl, St.out (H := NodeP c b t.its bs * (Ks c h (t.kids.drop j) (bs.drop j) * (Ctx c fl * F))) hs⟩
    refine WP_skip ?_
    refine WP_seq ?_ -- S3
    refine WP_block ?_
    refine WP_seq ?_
    have hj2 : j < bs.length := by have := of_decide_eq_true hif1; omega
    obtain ⟨k, hk⟩ : ∃ k, t.kids[j]? = some k := ⟨t.kids[j]'(by omega), List.getElem?_eq_getElem (by omega)⟩
    obtain ⟨xb, hxb⟩ : ∃ xb, bs[j]? = some xb := ⟨bs[j]'(by omega), List.getElem?_eq_getElem (by omega)⟩
    rw [Ks_drop hk hxb] at hs
    simp only [mul_assoc'] at hs
    obtain ⟨_, hz, _⟩ | ⟨g, cap, cur, hv, hc, hcm, hsz, htk, hs⟩ := (hs.foc (PArr (.slice a2 bs.length c2) (bs))).arr
    · omega
    cases hv
    -- R3
    refine WP_seqr [⟨0, 0, []⟩, ⟨1, 1, []⟩, ⟨2, 0, []⟩] (by kernel_rfl) ?_
    refine ns_idx j sl_101 rfl rfl rfl rfl rfl hj2 ?_
    refine ns_ld pl_85 rfl rfl rfl (ptr_cell hs htk _ hxb) ?_
    refine ns_asg rfl rfl ?_
    refine ns_done ?_
    have hs := (hs.foc (pts g (.cells cur 85 (0, 0)))).mk_arr' hc hcm hsz htk
    refine WP_seq ?_
    -- R4
    refine WP_seqr [⟨0, 0, []⟩, ⟨1, 0, []⟩, ⟨2, 2, []⟩, ⟨3, 0, []⟩] (by kernel_rfl) ?_
    refine ns_move rfl rfl ?_
    refine ns_move rfl rfl ?_
    refine ns_call (hkid j k xb hk) ck_79 (hs.foc (Tq c h k xb * Ctx c fl)) rfl rfl rfl rfl ?_
    intro v18 w hs
    replace hs := hs.ex
    obtain ⟨q, hs⟩ := hs
    replace hs := hs.pu
    obtain ⟨rfl, hs⟩ := hs
    refine ns_not rfl rfl rfl ?_
    refine ns_done ?_
    refine WP_if rfl (fun hif2 => ?_) (fun hif2 => ?_)
    · refine WP_seq ?_
      -- R5
      refine WP_seqr [⟨0, 0, []⟩] (by kernel_rfl) ?_
      refine ns_asg rfl rfl ?_
      refine ns_done ?_
      refine WP_ret ?_
      exact ⟨_, res1 _, St.mk_ex false (St.mk_pu rfl (hs.out (P := Ctx c fl * F)))⟩
    refine WP_skip ?_
    -- R6
    refine WP_seqr [⟨0, 0, []⟩, ⟨1, 0, []⟩] (by kernel_rfl) ?_
    refine ns_add rfl rfl rfl rfl (by omega) (by omega) ?_
    refine ns_move rfl rfl ?_
    refine ns_done ?_
    exact ⟨bs.length - (j + 1), by omega, j + 1, rfl, by omega, congrArg (Value.int .i64) (by omega : ((j : Int) + 1) = ((j + 1 : Nat) : Int)), rfl, rfl, rfl, rfl, hs.out⟩
    
  rintro σ w ⟨g0, g1, hs⟩
  obtain ⟨σ, rfl⟩ := rebase g0
  obtain ⟨σ, rfl⟩ := rebase (σ := σ) g1
  clear g0 g1
  refine WP_seq ?_
  -- R7
  refine WP_seqr [⟨0, 0, []⟩, ⟨1, 0, []⟩, ⟨2, 2, []⟩, ⟨3, 0, []⟩, ⟨4, 0, []⟩] (by kernel_rfl) ?_
  refine ns_move rfl rfl ?_
  refine ns_move rfl rfl ?_
  refine ns_call (f89_ok c fl b t.its bs) ck_89 (hs.foc (NodeP c b t.its bs * Ctx c fl)) rfl rfl rfl rfl ?_
  intro v23 w hs
  replace hs := hs.ex
  obtain ⟨kk, hs⟩ := hs
  replace hs := hs.pu
  obtain ⟨rfl, hs⟩ := hs
  refine ns_cmp _ rfl rfl rfl rfl rfl ?_
  refine ns_asg rfl rfl ?_
  refine ns_done ?_
  refine WP_ret ?_
  exact ⟨_, res1 _, St.mk_ex _ (St.mk_pu rfl hs)⟩
theorem f79_ok (c fl mn mx : Nat) (hmx : mx < 10000) : ∀ (h b : Nat) (t : Tr), Ok mn mx h t → t.its.length ≤ mx → Tri Try.prog 79 #[ptr b, ptr c] (Tp c h t b * Ctx c fl) fun v => ex fun q : Bool => pu (v = .bool q) * Ctx c fl := by
  intro h
  induction h with
  | zero => exact fun b t hO hl => f79_step c fl 0 b t (by rw [show t.kids = [] from hO]; decide) fun i k xb hk => by rw [show t.kids = [] from hO] at hk; simp at hk
  | succ h ih => exact fun b t hO hl => f79_step c fl (h + 1) b t (by have := hO.1; omega) fun i k xb hk => ih xb k (kid_ok hO hk).2.2 (kid_ok hO hk).2.1
theorem f66_n (c fl d b : Nat) (q : Bool) : Tri Try.prog 66 #[ptr b, .bool q] (BtN c d b * Ctx c fl) fun _ => BT c d b [] * Ctx c fl := by
  intro w0 F w hs
  unfold BtN at hs
  simp only [mul_assoc'] at hs
  refine calls_WP 27 #[] Try.func66 rfl Try.ntmps66 rfl (Nat.le_of_ble_eq_true rfl) ?_
  refine WP_seq_cut (fun σ w => σ 0 = ptr b ∧ St w0 (pts b (.cells #[.int .i64 d, .int .i64 0, .pointer none, ptr c] 87 (0, 0)) * (Ctx c fl * F)) w) ?_ ?_ -- S1
  · refine WP_seq ?_
    -- R0
    refine WP_seqr [⟨0, 0, []⟩, ⟨1, 0, []⟩, ⟨2, 0, []⟩, ⟨3, 1, []⟩, ⟨4, 0, []⟩, ⟨5, 0, []⟩, ⟨6, 0, []⟩, ⟨7, 0, []⟩] (by kernel_rfl) ?_
    refine ns_move rfl rfl ?_
    refine ns_nil rfl rfl rfl ?_
    refine ns_fld fo_87_2 rfl rfl rfl ?_
    refine ns_ldB pl_85 hs rfl rfl rfl (by rfl) ?_
    refine ns_pne true pt_85 rfl rfl rfl rfl rfl ?_
    refine ns_move rfl rfl ?_
    refine ns_no rfl rfl ?_
    refine ns_pick rfl rfl rfl ?_
    refine ns_done ?_
    refine WP_false rfl ?_ -- if1
    refine WP_skip ?_
    exact ⟨rfl, hs⟩
  rintro σ w ⟨g0, hs⟩
  obtain ⟨σ, rfl⟩ := rebase g0
  -- R2
  refine WP_seqr [⟨0, 0, []⟩, ⟨1, 0, []⟩, ⟨2, 0, []⟩, ⟨3, 0, []⟩, ⟨4, 2, []⟩, ⟨5, 0, []⟩, ⟨6, 0, []⟩, ⟨7, 2, []⟩] (by kernel_rfl) ?_
  refine ns_move rfl rfl ?_
  refine ns_move rfl rfl ?_
  refine ns_nil rfl rfl rfl ?_
  refine ns_fld fo_87_2 rfl rfl rfl ?_
  refine ns_st (.pointer none) pl_85 hs rfl rfl rfl rfl rfl (by simp) ?_
  refine fun w hs => ⟨trivial, ?_⟩
  try simp only [Nat.zero_add] at hs
  try simp only [List.setIfInBounds_toArray] at hs
  try simp only [List.set_cons_succ] at hs
  try simp only [List.set_cons_zero] at hs
  refine ns_nil rfl rfl rfl ?_
  refine ns_fld fo_87_1 rfl rfl rfl ?_
  refine ns_st (.int .i64 0) pl_3 hs rfl rfl rfl rfl rfl (by simp) ?_
  refine fun w hs => ⟨trivial, ?_⟩
  try simp only [Nat.zero_add] at hs
  try simp only [List.setIfInBounds_toArray] at hs
  try simp only [List.set_cons_succ] at hs
  try simp only [List.set_cons_zero] at hs
  refine ns_done ?_
  have hs := hs.fold (bt_nil2 c d b)
  exact ⟨_, res0, hs.out⟩
theorem f66_t (c fl d b h rb : Nat) (q : Bool) (t : Tr) (l : List It) (hg : Good d h t l) (hd2 : d ≤ 1000) : Tri Try.prog 66 #[ptr b, .bool q] (pts b (.cells #[.int .i64 d, .int .i64 l.length, ptr rb, ptr c] 87 (0, 0)) * (Tp c h t rb * Ctx c fl)) fun _ => BT c d b [] * Ctx c fl := by
  intro w0 F w hs
  simp only [mul_assoc'] at hs
  refine calls_WP 27 #[] Try.func66 rfl Try.ntmps66 rfl (Nat.le_of_ble_eq_true rfl) ?_
  refine WP_seq_cut (fun σ w => σ 0 = ptr b ∧ St w0 (pts b (.cells #[.int .i64 d, .int .i64 l.length, ptr rb, ptr c] 87 (0, 0)) * (Ctx c fl * F)) w) ?_ ?_ -- S1
  · refine WP_seq ?_
    -- R0
    refine WP_seqr [⟨0, 0, []⟩, ⟨1, 0, []⟩, ⟨2, 0, []⟩, ⟨3, 1, []⟩, ⟨4, 0, []⟩, ⟨5, 0, []⟩, ⟨6, 0, []⟩, ⟨7, 0, []⟩] (by kernel_rfl) ?_
    refine ns_move rfl rfl ?_
    refine ns_nil rfl rfl rfl ?_
    refine ns_fld fo_87_2 rfl rfl rfl ?_
    refine ns_ldB pl_85 hs rfl rfl rfl (by rfl) ?_
    refine ns_pne false pt_85 rfl rfl rfl rfl (by simp [cmpP]) ?_
    refine ns_move rfl rfl ?_
    refine ns_move rfl rfl ?_
    refine ns_pick rfl rfl rfl ?_
    refine ns_done ?_
    refine WP_if rfl (fun hif1 => ?_) (fun hif1 => ?_)
    · unfold Ctx CowP at hs
      simp only [mul_assoc'] at hs
      -- R1
      refine WP_net hs mix [0, 1, 3, 7, 0, 16, 48, 112, 255] [⟨0, 0, []⟩, ⟨1, 0, []⟩, ⟨2, 0, []⟩, ⟨3, 1, []⟩, ⟨4, 0, []⟩, ⟨5, 0, []⟩, ⟨6, 0, []⟩, ⟨7, 1, []⟩, ⟨8, 2, []⟩] (by kernel_rfl) ?_
      intro w hs
      refine ns_move rfl rfl ?_
      refine ns_nil rfl rfl rfl ?_
      refine ns_fld fo_87_2 rfl rfl rfl ?_
      refine ns_ldB pl_85 hs rfl rfl rfl (by rfl) ?_
      refine ns_move rfl rfl ?_
      refine ns_nil rfl rfl rfl ?_
      refine ns_fld fo_87_3 rfl rfl rfl ?_
      refine ns_ldB pl_82 hs rfl rfl rfl (by rfl) ?_
      have hs := hs.fold (ctx_fold c fl)
      refine ns_call (f79_ok c fl (d - 1) (2 * d - 1) (by omega) h rb t hg.1 hg.2.1) ck_79 (hs.foc (Tp c h t rb * Ctx c fl)) rfl rfl rfl rfl ?_
      intro v20 w hs
      replace hs := hs.ex
      obtain ⟨q2, hs⟩ := hs
      replace hs := hs.pu
      obtain ⟨rfl, hs⟩ := hs
      refine ns_done ?_
      exact ⟨rfl, hs.out⟩
    refine WP_skip ?_
    exact ⟨rfl, (hs.foc (Tp c h t rb)).drop⟩
  rintro σ w ⟨g0, hs⟩
  obtain ⟨σ, rfl⟩ := rebase g0
  -- R2
  refine WP_seqr [⟨0, 0, []⟩, ⟨1, 0, []⟩, ⟨2, 0, []⟩, ⟨3, 0, []⟩, ⟨4, 2, []⟩, ⟨5, 0, []⟩, ⟨6, 0, []⟩, ⟨7, 2, []⟩] (by kernel_rfl) ?_
  refine ns_move rfl rfl ?_
  refine ns_move rfl rfl ?_
  refine ns_nil rfl rfl rfl ?_
  refine ns_fld fo_87_2 rfl rfl rfl ?_
  refine ns_st (.pointer none) pl_85 hs rfl rfl rfl rfl rfl (by simp) ?_
  refine fun w hs => ⟨trivial, ?_⟩
  try simp only [Nat.zero_add] at hs
  try simp only [List.setIfInBounds_toArray] at hs
  try simp only [List.set_cons_succ] at hs
  try simp only [List.set_cons_zero] at hs
  refine ns_nil rfl rfl rfl ?_
  refine ns_fld fo_87_1 rfl rfl rfl ?_
  refine ns_st (.int .i64 0) pl_3 hs rfl rfl rfl rfl rfl (by simp) ?_
  refine fun w hs => ⟨trivial, ?_⟩
  try simp only [Nat.zero_add] at hs
  try simp only [List.setIfInBounds_toArray] at hs
  try simp only [List.set_cons_succ] at hs
  try simp only [List.set_cons_zero] at hs
  refine ns_done ?_
  have hs := hs.fold (bt_nil2 c d b)
  exact ⟨_, res0, hs.out⟩
theorem f66_ok (c fl d b : Nat) (q : Bool) (l : List It) (hd2 : d ≤ 1000) : Tri Try.prog 66 #[ptr b, .bool q] (BT c d b l * Ctx c fl) fun _ => BT c d b [] * Ctx c fl := by
  intro w0 F w hs
  rw [mul_assoc'] at hs
  replace hs := St.bt hs
  rcases hs with ⟨rfl, hs⟩ | ⟨h, t, rb, hg, hs⟩
  · exact f66_n c fl d b q w0 F w (hs.eq (by ac_rfl))
  · exact f66_t c fl d b h rb q t l hg hd2 w0 F w (hs.eq (by ac_rfl))
end Go.Proofs.Ytnnembkganlbpaa
/- Rules for building a struct. Over any program. -/
namespace Go.Wk
open Go Go.Sl Go.Net Go.RowKit
section
variable {P : Program} {ops : Array Oper} {Q : Slots → World → Prop} {σ : Slots} {w w0 : World} {H : HProp} {rest : Tre} {held : Nat → World → Prop} {i : Nat} {kp : List Nat}
variable {d : Option Tmp} {ty : TypeId} {ps : String} {af : Array Edge} {gd : Option (Nat × Bool)}
/-- the places of a struct's fields: offset and size -/
def placesOf (P : Program) (t : TypeId) : Option (List (Nat × Nat)) := match P.underlying t with
  | some (.struct fs) => if fs.toList.all (fun f => P.cellsOf f.type != 0) then some (fs.toList.map fun f => (f.offset, P.cellsOf f.type)) else none
  | _ => none
theorem run_places (fs : List Field) (h : fs.all (fun f => P.cellsOf f.type != 0) = true) (w : World) : (fs.mapM (m := Sem) fun f => Prod.mk f.offset <$> sizeOf f.type).run P w = .ok (fs.map fun f => (f.offset, P.cellsOf f.type)) w := by
  induction fs with
  | nil => simp
  | cons f fs ih =>
    simp only [List.all_cons, Bool.and_eq_true, bne_iff_ne, ne_eq] at h
    simp [run_sizeOf rfl h.1, ih h.2]
theorem ns_build {t : TypeId} {parts : Array (Nat × Operand)} {pl : List (Nat × Nat)} {zc : Array Value} (ps' : List (Nat × Value)) (cells : Array Value) (hp : placesOf P t = some pl) (hz : zeroC P t = some zc)
    (ho : ops[i]? = some ⟨d, .build t parts, ty, ps, af, gd⟩) (hw : Region.wanted ⟨d, .build t parts, ty, ps, af, gd⟩ (yieldS ops σ) = true)
    (hf : (parts.toList.map fun p => (p.1, evS σ p.2)) = ps') (hc : Instr.fill (fun i => pl.toArray[i]?) zc ps' = some cells)
    (h : NetS P ops Q rest held (updO σ d (.agg cells)) w) : NetS P ops Q (.cons ⟨i, 0, kp⟩ rest) held σ w := by
  obtain ⟨z, hz', rfl⟩ := zeroC_spec hz
  unfold placesOf at hp
  refine ns_val _ ho hw (fun w => ?_) h
  cases hu : P.underlying t with
  | none => rw [hu] at hp; cases hp
  | some de =>
    rw [hu] at hp
    cases de <;> simp only [reduceCtorEq] at hp
    case struct fs =>
      split at hp
      · rename_i hall
        cases hp
        have hm : (fs.mapM (m := Sem) fun f => Prod.mk f.offset <$> sizeOf f.type).run P w = .ok (fs.toList.map fun f => (f.offset, P.cellsOf f.type)).toArray w := by
          rw [Array.mapM_eq_mapM_toList]
          simp [run_places fs.toList hall w]
        have hc2 : Instr.fill (fun x => Option.map (fun f => (f.offset, P.cellsOf f.type)) fs[x]?) z.cells (parts.toList.map fun x => (x.1, evS σ x.2)) = some cells := by rw [hf]; simpa using hc
        simp [execOp, Instr.build, run_zero hz', run_underlying hu, hm, hc2]
      · cases hp
/-- a slice of room for n, none in it -/
theorem ns_make0 {t E : TypeId} {sz n : Nat} {z : Value} {by' : Nat} {l c : Operand} {k k2 : IntKind} (hT : sliceT P t E sz = true) (hz : zeroOf P E = some z) (hby : P.bytesOf E = by') (hb : by' * n ≤ 140737488355328) (hn : n ≠ 0) (hsz : sz ≠ 0)
    (hs : St w0 H w) (ho : ops[i]? = some ⟨d, .makeSlice t l c, ty, ps, af, gd⟩) (hw : Region.wanted ⟨d, .makeSlice t l c, ty, ps, af, gd⟩ (yieldS ops σ) = true) (hl : evS σ l = .int k 0) (hc : evS σ c = .int k2 n) (h63 : n ≤ 9223372036854775807)
    (h : ∀ b cs w', cs.size = n * sz → St w0 (pts b (.cells cs E (0, 0)) * H) w' → Ext w w' → keepAll held kp w' ∧ NetS P ops Q rest held (updO σ d (.slice (some ⟨b, 0, none⟩) 0 n)) w') : NetS P ops Q (.cons ⟨i, 2, kp⟩ rest) held σ w := by
  obtain ⟨hu, inf, hinf, rfl⟩ := sliceT_spec hT
  have hzi := info_zero hinf hz
  have hbi : inf.bytes = by' := by rw [← hby]; unfold Program.bytesOf; rw [hinf]; rfl
  subst hbi
  refine ns_eff ho hw ?_
  have wl : IntKind.i64.wrap 0 = 0 := by rw [IntKind.wrap_i64]; omega
  have wc : IntKind.i64.wrap (n : Int) = n := by rw [IntKind.wrap_i64]; omega
  have hb' : n * inf.bytes ≤ 140737488355328 := by rw [Nat.mul_comm]; exact hb
  have n2 : ¬ (281474976710656 < (inf.bytes : Int) * (n : Int)) := by
    have : ((inf.bytes * n : Nat) : Int) ≤ 140737488355328 := by omega
    rw [Int.natCast_mul] at this; omega
  have n1 : ¬ ((n : Int) < 0) := by omega
  have hnn : ¬ (n = 0 ∨ inf.size = 0) := by omega
  have hnn2 : ¬ (n * inf.size = 0) := by simpa [Nat.mul_eq_zero] using hnn
  have h2 := h w.heap.size ((Array.range (n * inf.size)).map (z.cells[· % z.cells.size]!)) _ (by simp) (hs.alloc (.cells ((Array.range (n * inf.size)).map (z.cells[· % z.cells.size]!)) E (0, 0))) (ext_alloc w _)
  have hr : (execOp (evS σ) ⟨d, .makeSlice t l c, ty, ps, af, gd⟩).run P w = .ok (.value (.slice (some ⟨w.heap.size, 0, none⟩) 0 n)) (w.alloc (.cells ((Array.range (n * inf.size)).map (z.cells[· % z.cells.size]!)) E (0, 0))) := by
    simp [execOp, hl, hc, Instr.makeSlice, run_underlying hu, asInt, asIntOf, typeInfo, hinf, sizeOf, zeroValue, hzi, wl, wc, n1, n2, hnn2, newRow, askRoom, roomBytes]
  rw [hr]
  exact h2
end
end Go.Wk
/- The walks of making: a free list, a tree; and the optional items. -/
namespace Go.Proofs.Ytnnembkganlbpaa
open Go Go.Sl Go.Net Go.Wk Go.Bt Go.RowKit

theorem zc_81 : zeroC Try.prog 81 = some #[.int .i32 0, .int .u32 0, .slice none 0 0] := by kernel_rfl
theorem pp_81 : placesOf Try.prog 81 = some [(0, 2), (2, 1)] := by kernel_rfl
theorem pp_84 : placesOf Try.prog 84 = some [(0, 1), (1, 1)] := by kernel_rfl
theorem pp_87 : placesOf Try.prog 87 = some [(0, 1), (1, 1), (2, 1), (3, 1)] := by kernel_rfl
theorem pp_116 : placesOf Try.prog 116 = some [(0, 2), (2, 1)] := by kernel_rfl
theorem fl_fold0 (fl : Nat) (v : Value) : Ent (pts fl (.cells #[.int .i32 0, .int .u32 0, v] 81 (0, 0)) * PArr v []) (FLP fl) := by
  have := fl_fold fl v []
  rw [List.map_nil, stars_nil, mul_one'] at this
  exact this
theorem f43_ok : Tri Try.prog 43 #[.int .i64 32] 1 fun v => ex fun fl => pu (v = ptr fl) * FLP fl := by
  intro w0 F w hs
  rw [one_mul'] at hs
  refine calls_WP 7 #[.tmp 2] Try.func43 rfl Try.ntmps43 rfl (Nat.le_of_ble_eq_true rfl) ?_
  refine WP_seq ?_
  -- R0
  refine WP_seqr [⟨0, 0, []⟩] (by kernel_rfl) ?_
  refine ns_asg rfl rfl ?_
  refine ns_done ?_
  refine WP_seq ?_
  -- R1
  refine WP_seqr [⟨0, 0, []⟩, ⟨1, 2, []⟩, ⟨2, 0, []⟩, ⟨3, 2, []⟩, ⟨4, 0, []⟩] (by kernel_rfl) ?_
  refine ns_move rfl rfl ?_
  refine ns_make0 (n := 32) sl_72 zr_85 by_85 (by decide) (by decide) (by decide) hs rfl rfl rfl rfl (by decide) ?_
  refine fun b4 cs4 w hcs4 hs hx => ⟨trivial, ?_⟩
  refine ns_build [(1, .slice (some ⟨b4, 0, none⟩) 0 32)] (#[.int .i32 0, .int .u32 0, .slice (some ⟨b4, 0, none⟩) 0 32]) pp_81 zc_81 rfl rfl rfl rfl ?_
  refine ns_box (#[.int .i32 0, .int .u32 0, .slice (some ⟨b4, 0, none⟩) 0 32]) hs rfl rfl rfl rfl ?_
  intro b6 w hs
  refine ns_asg rfl rfl ?_
  refine ns_done ?_
  refine WP_ret ?_
  have hs := (hs.foc (pts b4 (.cells cs4 85 (0, 0)))).mk_arr' (n := 0) (cap := 32) (sz := 1) (xs := []) (by decide) (by decide) hcs4 (by simp)
  have hs := hs.up (Ent.of_eq (PArr_eq (l := []) rfl rfl))
  have hs := hs.fold (fl_fold0 b6 (.slice (some ⟨b4, 0, none⟩) 0 32))
  exact ⟨_, res1 _, St.mk_ex b6 (St.mk_pu rfl hs)⟩
theorem f44_ok (fl d : Nat) (hd : 2 ≤ d) : Tri Try.prog 44 #[.int .i64 d, lessV, ptr fl] (FLP fl) fun v => ex fun p : Nat × Nat => pu (v = ptr p.1) * (BT p.2 d p.1 [] * Ctx p.2 fl) := by
  intro w0 F w hs
  refine calls_WP 17 #[.tmp 6] Try.func44 rfl Try.ntmps44 rfl (Nat.le_of_ble_eq_true rfl) ?_
  refine WP_seq ?_
  -- R0
  refine WP_seqr [⟨0, 0, []⟩] (by kernel_rfl) ?_
  refine ns_asg rfl rfl ?_
  refine ns_done ?_
  refine WP_seq ?_ -- S1
  refine WP_seq ?_
  -- R1
  refine WP_seqr [⟨0, 0, []⟩, ⟨1, 0, []⟩] (by kernel_rfl) ?_
  refine ns_move rfl rfl ?_
  refine ns_cmp false rfl rfl rfl rfl (by simp [cmpI]; omega) ?_
  refine ns_done ?_
  refine WP_false rfl ?_ -- if1
  refine WP_skip ?_
  refine WP_seq ?_
  -- R3
  refine WP_seqr [⟨0, 0, []⟩, ⟨1, 0, []⟩, ⟨2, 0, []⟩, ⟨3, 0, []⟩, ⟨4, 2, []⟩, ⟨5, 0, []⟩, ⟨6, 2, []⟩, ⟨7, 0, []⟩] (by kernel_rfl) ?_
  refine ns_move rfl rfl ?_
  refine ns_move rfl rfl ?_
  refine ns_move rfl rfl ?_
  refine ns_build [(0, ptr fl), (1, lessV)] (#[ptr fl, lessV]) pp_84 zc_84 rfl rfl rfl rfl ?_
  refine ns_box (#[ptr fl, lessV]) hs rfl rfl rfl rfl ?_
  intro b14 w hs
  refine ns_build [(0, .int .i64 d), (3, ptr b14)] (#[.int .i64 d, .int .i64 0, .pointer none, ptr b14]) pp_87 zc_87 rfl rfl rfl rfl ?_
  refine ns_box (#[.int .i64 d, .int .i64 0, .pointer none, ptr b14]) hs rfl rfl rfl rfl ?_
  intro b16 w hs
  refine ns_asg rfl rfl ?_
  refine ns_done ?_
  refine WP_ret ?_
  have hs := hs.fold (bt_nil2 b14 d b16)
  have hs := hs.fold (ctx_fold b14 fl)
  exact ⟨_, res1 _, St.mk_ex (b16, b14) (St.mk_pu rfl hs.out)⟩
theorem f39_ok (d : Nat) (hd : 2 ≤ d) : Tri Try.prog 39 #[.int .i64 d, lessV] 1 fun v => ex fun p : Nat × Nat × Nat => pu (v = ptr p.1) * (BT p.2.1 d p.1 [] * Ctx p.2.1 p.2.2) := by
  intro w0 F w hs
  refine calls_WP 9 #[.tmp 4] Try.func39 rfl Try.ntmps39 rfl (Nat.le_of_ble_eq_true rfl) ?_
  refine WP_seq ?_
  -- R0
  refine WP_seqr [⟨0, 0, []⟩] (by kernel_rfl) ?_
  refine ns_asg rfl rfl ?_
  refine ns_done ?_
  refine WP_seq ?_
  -- R1
  refine WP_seqr [⟨0, 0, []⟩, ⟨1, 0, []⟩, ⟨2, 2, []⟩, ⟨3, 2, []⟩, ⟨4, 0, []⟩] (by kernel_rfl) ?_
  refine ns_move rfl rfl ?_
  refine ns_move rfl rfl ?_
  refine ns_call f43_ok ck_43 hs rfl rfl rfl rfl ?_
  intro v7 w hs
  replace hs := hs.ex
  obtain ⟨fl, hs⟩ := hs
  replace hs := hs.pu
  obtain ⟨rfl, hs⟩ := hs
  refine ns_call (f44_ok fl d hd) ck_44 hs rfl rfl rfl rfl ?_
  intro v8 w hs
  replace hs := hs.ex
  obtain ⟨p, hs⟩ := hs
  replace hs := hs.pu
  obtain ⟨rfl, hs⟩ := hs
  refine ns_asg rfl rfl ?_
  refine ns_done ?_
  refine WP_ret ?_
  exact ⟨_, res1 _, St.mk_ex (p.1, p.2, fl) (St.mk_pu rfl hs)⟩
theorem f77_ok : Tri Try.prog 77 #[] 1 fun v => pu (v = .agg #[.int .i64 0, .int .i64 0, .bool false]) := by
  intro w0 F w hs
  rw [one_mul'] at hs
  refine calls_WP 2 #[.cell 0 116] Try.func77 rfl Try.ntmps77 rfl (Nat.le_of_ble_eq_true rfl) ?_
  refine WP_seq ?_
  -- R0
  refine WP_seqr [⟨0, 2, []⟩] (by kernel_rfl) ?_
  refine ns_alloc zc_116 hs rfl rfl ?_
  intro b0 w hs
  refine ns_done ?_
  refine WP_seq ?_
  -- R1
  refine WP_seqr [⟨0, 0, []⟩, ⟨1, 2, []⟩] (by kernel_rfl) ?_
  refine ns_build [] (#[.int .i64 0, .int .i64 0, .bool false]) pp_116 zc_116 rfl rfl rfl rfl ?_
  refine ns_stA (#[.int .i64 0, .int .i64 0, .bool false]) ag_116 rfl (by decide) hs rfl rfl rfl rfl (by intro u hu; simp at hu; rcases hu with rfl | rfl <;> rfl) (by simp) ?_
  refine fun w hs => ⟨trivial, ?_⟩
  refine ns_done ?_
  refine WP_ret ?_
  have hload := run_loadVarA (P := Try.prog) (t := 116) (n := 3) (ad := ⟨b0, 0, none⟩) (vs := [.int .i64 0, .int .i64 0, .bool false]) ag_116 rfl (by decide) w (St.cells (n := 3) hs (by rfl))
  exact ⟨_, resC 0 116 rfl hload, St.mk_pure rfl (hs.out (P := F))⟩
theorem f78_ok (x : It) : Tri Try.prog 78 #[itV x] 1 fun v => pu (v = .agg #[.int .i64 x.key, .int .i64 x.val, .bool true]) := by
  intro w0 F w hs
  rw [one_mul'] at hs
  refine calls_WP 5 #[.cell 2 116] Try.func78 rfl Try.ntmps78 rfl (Nat.le_of_ble_eq_true rfl) ?_
  refine WP_seq ?_
  -- R0
  refine WP_seqr [⟨0, 2, []⟩, ⟨1, 2, []⟩] (by kernel_rfl) ?_
  refine ns_box (#[.int .i64 x.key, .int .i64 x.val]) hs rfl rfl rfl rfl ?_
  intro b1 w hs
  refine ns_alloc zc_116 hs rfl rfl ?_
  intro b2 w hs
  refine ns_done ?_
  refine WP_seq ?_
  -- R1
  refine WP_seqr [⟨0, 1, []⟩, ⟨1, 0, []⟩, ⟨2, 2, []⟩] (by kernel_rfl) ?_
  refine ns_ldAB [.int .i64 x.key, .int .i64 x.val] ag_45 hs rfl rfl rfl (by rfl) (by rfl) (by decide) ?_
  refine ns_build [(0, itV x), (1, .bool true)] (#[.int .i64 x.key, .int .i64 x.val, .bool true]) pp_116 zc_116 rfl rfl rfl rfl ?_
  refine ns_stA (#[.int .i64 x.key, .int .i64 x.val, .bool true]) ag_116 rfl (by decide) hs rfl rfl rfl rfl (by intro u hu; simp at hu; rcases hu with rfl | rfl | rfl <;> rfl) (by simp) ?_
  refine fun w hs => ⟨trivial, ?_⟩
  refine ns_done ?_
  refine WP_ret ?_
  have hload := run_loadVarA (P := Try.prog) (t := 116) (n := 3) (ad := ⟨b2, 0, none⟩) (vs := [.int .i64 x.key, .int .i64 x.val, .bool true]) ag_116 rfl (by decide) w (St.cells (n := 3) hs (by rfl))
  exact ⟨_, resC 2 116 rfl hload, St.mk_pure rfl (hs.out (P := F))⟩
end Go.Proofs.Ytnnembkganlbpaa
/- The walk of the visitor: it takes one item more and tells whether it wants another. -/
namespace Go.Proofs.Ytnnembkganlbpaa
open Go Go.Sl Go.Net Go.Wk Go.Bt Go.RowKit

/-- the visitor at b has seen acc and wants no more than most (but one at least) -/
def VisP (b : Nat) (acc : List It) (most : Int) : HProp := ex fun v : Value => pts b (.cells #[v, .int .i64 most] 89 (0, 0)) * IArr v acc
theorem vis_fold (b : Nat) (v : Value) (acc : List It) (most : Int) : Ent (pts b (.cells #[v, .int .i64 most] 89 (0, 0)) * IArr v acc) (VisP b acc most) := fun _ h => ⟨v, h⟩
def seeV (b : Nat) : Value := .func (.func 58) #[ptr b] #[]
theorem f58_ok (b : Nat) (x : It) (acc : List It) (most : Int) (hl : acc.length < 1000000) :
    Tri Try.prog 58 #[ptr b, itV x] (VisP b acc most) fun v => pu (v = .bool (decide (((acc ++ [x]).length : Int) < most))) * VisP b (acc ++ [x]) most := by
  intro w0 F w hs
  obtain ⟨v0, hs⟩ := hs.ex
  simp only [mul_assoc'] at hs
  refine calls_WP 25 #[.tmp 4] Try.func58 rfl Try.ntmps58 rfl (Nat.le_of_ble_eq_true rfl) ?_
  refine WP_seq ?_
  -- R0
  refine WP_seqr [⟨0, 2, []⟩, ⟨1, 0, []⟩] (by kernel_rfl) ?_
  refine ns_box (#[.int .i64 x.key, .int .i64 x.val]) hs rfl rfl rfl rfl ?_
  intro b3 w hs
  refine ns_asg rfl rfl ?_
  refine ns_done ?_
  refine WP_seq ?_
  -- R1
  refine WP_net hs mix [0, 0, 2, 6, 14, 0, 32, 126, 255, 511, 1023] [⟨0, 0, []⟩, ⟨1, 0, []⟩, ⟨2, 0, []⟩, ⟨3, 0, []⟩, ⟨4, 1, []⟩, ⟨5, 1, []⟩, ⟨6, 2, [4]⟩, ⟨7, 2, []⟩, ⟨8, 0, []⟩, ⟨9, 0, []⟩, ⟨10, 2, []⟩] (by kernel_rfl) ?_
  intro w hs
  refine ns_move rfl rfl ?_
  refine ns_move rfl rfl ?_
  refine ns_nil rfl rfl rfl ?_
  refine ns_fld fo_89_0 rfl rfl rfl ?_
  have hk4 := hs.c b 0
  refine ns_ldB pl_34 hs rfl rfl rfl (by rfl) ?_
  refine ns_ldAB [.int .i64 x.key, .int .i64 x.val] ag_45 hs rfl rfl rfl (by rfl) (by rfl) (by decide) ?_
  refine ns_lit [itV x] [.int .i64 x.key, .int .i64 x.val] sl_34 zr_45 (by decide) (by decide) hs rfl rfl rfl rfl (by simp [Value.cells, itV]) rfl ?_
  refine fun b11 w hs hx => ⟨⟨hx _ _ hk4, trivial⟩, ?_⟩
  refine ns_app [.int .i64 x.key, .int .i64 x.val] sl_34 zr_45 by_45 rfl (by decide) (hs.foc (IArr v0 acc)) rfl rfl rfl rfl rfl (St.cells (n := 2) hs (by rfl)) (by intro u hu; simp at hu; rcases hu with rfl | rfl <;> rfl) (by simp only [maxLen]; omega) (by omega) ?_
  refine fun v12 w hs hv => ⟨trivial, ?_⟩
  have hs := hs.up (Ent.of_eq (IArr_eq (l := acc ++ [x]) (by simp) (by rw [encs_append]; rfl)))
  obtain ⟨a5, c5, rfl, _, _⟩ := hs.arr_form
  refine ns_nil rfl rfl rfl ?_
  refine ns_fld fo_89_0 rfl rfl rfl ?_
  refine ns_st (.slice a5 (acc ++ [x]).length c5) pl_34 hs rfl rfl rfl rfl rfl (by simp) ?_
  refine fun w hs => ⟨trivial, ?_⟩
  try simp only [Nat.zero_add] at hs
  try simp only [List.setIfInBounds_toArray] at hs
  try simp only [List.set_cons_succ] at hs
  try simp only [List.set_cons_zero] at hs
  refine ns_done ?_
  refine WP_seq ?_
  -- R2
  refine WP_net hs mix [0, 1, 3, 7, 15, 0, 32, 96, 224, 511, 1023] [⟨0, 0, []⟩, ⟨1, 0, []⟩, ⟨2, 0, []⟩, ⟨3, 1, []⟩, ⟨4, 0, []⟩, ⟨5, 0, []⟩, ⟨6, 0, []⟩, ⟨7, 0, []⟩, ⟨8, 1, []⟩, ⟨9, 0, []⟩, ⟨10, 0, []⟩] (by kernel_rfl) ?_
  intro w hs
  refine ns_move rfl rfl ?_
  refine ns_nil rfl rfl rfl ?_
  refine ns_fld fo_89_0 rfl rfl rfl ?_
  refine ns_ldB pl_34 hs rfl rfl rfl (by rfl) ?_
  refine ns_len sl_34 rfl rfl rfl ?_
  refine ns_move rfl rfl ?_
  refine ns_nil rfl rfl rfl ?_
  refine ns_fld fo_89_1 rfl rfl rfl ?_
  refine ns_ldB pl_2 hs rfl rfl rfl (by rfl) ?_
  refine ns_cmp _ rfl rfl rfl rfl rfl ?_
  refine ns_asg rfl rfl ?_
  refine ns_done ?_
  refine WP_ret ?_
  have hs := hs.fold (vis_fold b (.slice a5 (acc ++ [x]).length c5) (acc ++ [x]) most)
  exact ⟨_, res1 _, St.mk_pu rfl hs.out⟩
end Go.Proofs.Ytnnembkganlbpaa
/- The walk of one answer about one item. -/
namespace Go.Proofs.Ytnnembkganlbpaa
open Go Go.Sl Go.Net Go.Wk Go.Bt Go.RowKit

theorem pp_36 : placesOf Try.prog 36 = some [(0, 1), (1, 1), (2, 1)] := by kernel_rfl
/-- an answer: whether, how many, which -/
def AnsP (ok : Bool) (n : Int) (l : List It) (v : Value) : HProp := ex fun s : Value => pu (v = .agg #[.bool ok, .int .i64 n, s]) * IArr s l
theorem f47_no (x : It) : Tri Try.prog 47 #[itV x, .bool false] 1 (AnsP false 0 []) := by
  intro w0 F w hs
  rw [one_mul'] at hs
  refine calls_WP 11 #[.cell 4 36] Try.func47 rfl Try.ntmps47 rfl (Nat.le_of_ble_eq_true rfl) ?_
  refine WP_seq ?_
  -- R0
  refine WP_seqr [⟨0, 2, []⟩, ⟨1, 2, []⟩] (by kernel_rfl) ?_
  refine ns_box (#[.int .i64 x.key, .int .i64 x.val]) hs rfl rfl rfl rfl ?_
  intro b2 w hs
  refine ns_alloc zc_36 hs rfl rfl ?_
  intro b4 w hs
  refine ns_done ?_
  refine WP_seq ?_ -- S1
  refine WP_seq ?_
  -- R1
  refine WP_seqr [⟨0, 0, []⟩, ⟨1, 0, []⟩] (by kernel_rfl) ?_
  refine ns_move rfl rfl ?_
  refine ns_not rfl rfl rfl ?_
  refine ns_done ?_
  refine WP_true rfl ?_ -- if1
  refine WP_seq ?_
  -- R2
  refine WP_seqr [⟨0, 0, []⟩, ⟨1, 2, []⟩] (by kernel_rfl) ?_
  refine ns_build [] (#[.bool false, .int .i64 0, .slice none 0 0]) pp_36 zc_36 rfl rfl rfl rfl ?_
  refine ns_stA (#[.bool false, .int .i64 0, .slice none 0 0]) ag_36 rfl (by decide) hs rfl rfl rfl rfl (by intro u hu; simp at hu; rcases hu with rfl | rfl | rfl <;> rfl) (by simp) ?_
  refine fun w hs => ⟨trivial, ?_⟩
  refine ns_done ?_
  refine WP_ret ?_
  have hload := run_loadVarA (P := Try.prog) (t := 36) (n := 3) (ad := ⟨b4, 0, none⟩) (vs := [.bool false, .int .i64 0, .slice none 0 0]) ag_36 rfl (by decide) w (St.cells (n := 3) hs (by rfl))
  have hs : St w0 (IArr (.slice none 0 0) [] * F) w := hs.out (P := F) |>.eq (show F = IArr (.slice none 0 0) [] * F by rw [show (IArr (.slice none 0 0) [] : HProp) = 1 from Arr.nil 45 2, one_mul'])
  exact ⟨_, resC 4 36 rfl hload, St.mk_ex (.slice none 0 0) (St.mk_pu rfl hs)⟩
theorem f47_yes (x : It) : Tri Try.prog 47 #[itV x, .bool true] 1 (AnsP true 0 [x]) := by
  intro w0 F w hs
  rw [one_mul'] at hs
  refine calls_WP 11 #[.cell 4 36] Try.func47 rfl Try.ntmps47 rfl (Nat.le_of_ble_eq_true rfl) ?_
  refine WP_seq ?_
  -- R0
  refine WP_seqr [⟨0, 2, []⟩, ⟨1, 2, []⟩] (by kernel_rfl) ?_
  refine ns_box (#[.int .i64 x.key, .int .i64 x.val]) hs rfl rfl rfl rfl ?_
  intro b2 w hs
  refine ns_alloc zc_36 hs rfl rfl ?_
  intro b4 w hs
  refine ns_done ?_
  refine WP_seq ?_ -- S1
  refine WP_seq ?_
  -- R1
  refine WP_seqr [⟨0, 0, []⟩, ⟨1, 0, []⟩] (by kernel_rfl) ?_
  refine ns_move rfl rfl ?_
  refine ns_not rfl rfl rfl ?_
  refine ns_done ?_
  refine WP_false rfl ?_ -- if1
  refine WP_skip ?_
  refine WP_seq ?_
  -- R3
  refine WP_seqr [⟨0, 1, []⟩, ⟨1, 2, []⟩, ⟨2, 0, []⟩, ⟨3, 2, []⟩] (by kernel_rfl) ?_
  refine ns_ldAB [.int .i64 x.key, .int .i64 x.val] ag_45 hs rfl rfl rfl (by rfl) (by rfl) (by decide) ?_
  refine ns_lit [itV x] [.int .i64 x.key, .int .i64 x.val] sl_34 zr_45 (by decide) (by decide) hs rfl rfl rfl rfl (by simp [Value.cells, itV]) rfl ?_
  refine fun b9 w hs hx => ⟨trivial, ?_⟩
  refine ns_build [(0, .bool true), (2, .slice (some ⟨b9, 0, none⟩) 1 1)] (#[.bool true, .int .i64 0, .slice (some ⟨b9, 0, none⟩) 1 1]) pp_36 zc_36 rfl rfl rfl rfl ?_
  refine ns_stA (#[.bool true, .int .i64 0, .slice (some ⟨b9, 0, none⟩) 1 1]) ag_36 rfl (by decide) hs rfl rfl rfl rfl (by intro u hu; simp at hu; rcases hu with rfl | rfl | rfl <;> rfl) (by simp) ?_
  refine fun w hs => ⟨trivial, ?_⟩
  refine ns_done ?_
  refine WP_ret ?_
  have hload := run_loadVarA (P := Try.prog) (t := 36) (n := 3) (ad := ⟨b4, 0, none⟩) (vs := [.bool true, .int .i64 0, .slice (some ⟨b9, 0, none⟩) 1 1]) ag_36 rfl (by decide) w (St.cells (n := 3) hs (by rfl))
  have hs := (hs.foc (pts b9 (.cells [.int .i64 x.key, .int .i64 x.val].toArray 45 (0, 0)))).mk_arr' (n := 1) (cap := 1) (sz := 2) (xs := encs [x]) (by decide) (by decide) rfl rfl
  exact ⟨_, resC 4 36 rfl hload, St.mk_ex (.slice (some ⟨b9, 0, none⟩) 1 1) (St.mk_pu rfl (hs.out (P := IArr (.slice (some ⟨b9, 0, none⟩) [x].length 1) [x] * F)))⟩
end Go.Proofs.Ytnnembkganlbpaa
