/- The walk of deleteItem. -/
import Derived.Test.YtnnembkganlbpaaW10
namespace Go.Proofs.Ytnnembkganlbpaa
open Go Go.Sl Go.Net Go.Wk Go.Bt Go.RowKit

theorem bt_nil2 (c d b : Nat) : Ent (pts b (.cells #[.int .i64 d, .int .i64 0, .pointer none, ptr c] 87 (0, 0))) (BT c d b []) := bt_nil c d b
theorem srt_rml {l : List It} (hS : Srt l) (ty : Nat) (x : It) : Srt (rml ty l x) := by
  unfold rml
  split
  · exact srt_rem hS _
  · split
    · exact List.Pairwise.sublist (List.tail_sublist l) hS
    · exact List.Pairwise.sublist (List.dropLast_sublist l) hS
theorem rml_nil (ty : Nat) (x : It) : rml ty [] x = [] ∧ rmo ty [] x = none := by
  unfold rml rmo
  constructor
  · split
    · rfl
    · split <;> rfl
  · split
    · rfl
    · split <;> rfl
theorem len_rml {l : List It} (hS : Srt l) (ty : Nat) (x : It) : (rml ty l x).length = if (rmo ty l x).isSome = true then l.length - 1 else l.length := by
  unfold rml rmo
  split
  · rw [length_rem hS, get_some hS]
  · split
    · cases l <;> simp
    · cases hl : l.getLast? with
      | none => rw [List.getLast?_eq_none_iff.1 hl]; rfl
      | some y => simp
theorem f73_nil (c fl d b ty : Nat) (x : It) : Tri Try.prog 73 #[ptr b, itV x, .int .i64 ty] (BtN c d b * Ctx c fl) fun v => pu (v = ans none) * (BT c d b [] * Ctx c fl) := by
  intro w0 F w hs
  unfold BtN at hs
  simp only [mul_assoc'] at hs
  refine calls_WP 103 #[.cell 6 45, .tmp 7] Try.func73 rfl Try.ntmps73 rfl (Nat.le_of_ble_eq_true rfl) ?_
  refine WP_seq ?_
  -- R0
  refine WP_seqr [⟨0, 2, []⟩, ⟨1, 2, []⟩, ⟨2, 0, []⟩] (by kernel_rfl) ?_
  refine ns_box (#[.int .i64 x.key, .int .i64 x.val]) hs rfl rfl rfl rfl ?_
  intro b4 w hs
  refine ns_alloc zc_45 hs rfl rfl ?_
  intro b6 w hs
  refine ns_asg rfl rfl ?_
  refine ns_done ?_
  refine WP_seq ?_ -- S1
  refine WP_seq ?_
  -- R1
  refine WP_seqr [⟨0, 0, []⟩, ⟨1, 0, []⟩, ⟨2, 0, []⟩, ⟨3, 1, []⟩, ⟨4, 0, []⟩, ⟨5, 0, []⟩, ⟨6, 0, []⟩, ⟨7, 0, []⟩, ⟨8, 0, []⟩, ⟨9, 0, []⟩, ⟨10, 0, []⟩, ⟨11, 0, []⟩, ⟨12, 0, []⟩, ⟨13, 0, []⟩, ⟨14, 0, []⟩, ⟨15, 0, []⟩] (by kernel_rfl) ?_
  refine ns_move rfl rfl ?_
  refine ns_nil rfl rfl rfl ?_
  refine ns_fld fo_87_2 rfl rfl rfl ?_
  refine ns_ldB pl_85 hs rfl rfl rfl (by rfl) ?_
  refine ns_peq true pt_85 rfl rfl rfl rfl rfl ?_
  refine ns_move rfl rfl ?_
  refine ns_no rfl rfl ?_
  refine ns_no rfl rfl ?_
  refine ns_no rfl rfl ?_
  refine ns_no rfl rfl ?_
  refine ns_no rfl rfl ?_
  refine ns_no rfl rfl ?_
  refine ns_no rfl rfl ?_
  refine ns_no rfl rfl ?_
  refine ns_no rfl rfl ?_
  refine ns_pick rfl rfl rfl ?_
  refine ns_done ?_
  refine WP_true rfl ?_ -- if1
  refine WP_ret ?_
  have hload := run_loadVarA (P := Try.prog) (t := 45) (n := 2) (ad := ⟨b6, 0, none⟩) (vs := [.int .i64 zero.key, .int .i64 zero.val]) ag_45 rfl (by decide) w (St.cells (n := 2) hs (by rfl))
  have hs := hs.fold (bt_nil2 c d b)
  exact ⟨_, resCT 6 45 7 rfl hload, St.mk_pu rfl hs.out⟩
theorem f73_empty (c fl d b h rb ty : Nat) (x : It) (t : Tr) (hg : Good d h t []) (h0 : t.its.length = 0) :
    Tri Try.prog 73 #[ptr b, itV x, .int .i64 ty] (pts b (.cells #[.int .i64 d, .int .i64 0, ptr rb, ptr c] 87 (0, 0)) * (Tp c h t rb * Ctx c fl)) fun v => pu (v = ans none) * (BT c d b [] * Ctx c fl) := by
  intro w0 F w hs
  simp only [mul_assoc'] at hs
  refine calls_WP 103 #[.cell 6 45, .tmp 7] Try.func73 rfl Try.ntmps73 rfl (Nat.le_of_ble_eq_true rfl) ?_
  refine WP_seq ?_
  -- R0
  refine WP_seqr [⟨0, 2, []⟩, ⟨1, 2, []⟩, ⟨2, 0, []⟩] (by kernel_rfl) ?_
  refine ns_box (#[.int .i64 x.key, .int .i64 x.val]) hs rfl rfl rfl rfl ?_
  intro b4 w hs
  refine ns_alloc zc_45 hs rfl rfl ?_
  intro b6 w hs
  refine ns_asg rfl rfl ?_
  refine ns_done ?_
  refine WP_seq ?_ -- S1
  refine WP_seq ?_
  have hs0 := hs
  obtain ⟨bs, hlen, hs⟩ := St.tree (hs.foc (Tp c h t rb))
  obtain ⟨⟨v1, v2⟩, hs⟩ := (hs.foc (NodeP c rb (t.its) (bs))).ex
  simp only [mul_assoc'] at hs
  obtain ⟨a1, c1, rfl, hc1, hcm1⟩ := (hs.foc (IArr v1 t.its)).arr_form
  -- R1
  refine WP_seqr [⟨0, 0, []⟩, ⟨1, 0, []⟩, ⟨2, 0, []⟩, ⟨3, 1, []⟩, ⟨4, 0, []⟩, ⟨5, 0, []⟩, ⟨6, 0, []⟩, ⟨7, 0, []⟩, ⟨8, 0, []⟩, ⟨9, 1, []⟩, ⟨10, 0, []⟩, ⟨11, 0, []⟩, ⟨12, 1, []⟩, ⟨13, 0, []⟩, ⟨14, 0, []⟩, ⟨15, 0, []⟩] (by kernel_rfl) ?_
  refine ns_move rfl rfl ?_
  refine ns_nil rfl rfl rfl ?_
  refine ns_fld fo_87_2 rfl rfl rfl ?_
  refine ns_ldB pl_85 hs rfl rfl rfl (by rfl) ?_
  refine ns_peq false pt_85 rfl rfl rfl rfl (by simp [cmpP]) ?_
  refine ns_move rfl rfl ?_
  refine ns_move rfl rfl ?_
  refine ns_nil rfl rfl rfl ?_
  refine ns_fld fo_87_2 rfl rfl rfl ?_
  refine ns_ldB pl_85 hs rfl rfl rfl (by rfl) ?_
  refine ns_nil rfl rfl rfl ?_
  refine ns_fld fo_103_0 rfl rfl rfl ?_
  refine ns_ldB pl_100 hs rfl rfl rfl (by rfl) ?_
  refine ns_len sl_100 rfl rfl rfl ?_
  refine ns_cmp true rfl rfl rfl rfl (by simp [cmpI, h0]) ?_
  refine ns_pick rfl rfl rfl ?_
  refine ns_done ?_
  have hs := hs0
  refine WP_true rfl ?_ -- if1
  refine WP_ret ?_
  have hload := run_loadVarA (P := Try.prog) (t := 45) (n := 2) (ad := ⟨b6, 0, none⟩) (vs := [.int .i64 zero.key, .int .i64 zero.val]) ag_45 rfl (by decide) w (St.cells (n := 2) hs (by rfl))
  have hs := hs.fold (bt_tree (c := c) (b := b) (rb := rb) (n := 0) hg rfl)
  exact ⟨_, resCT 6 45 7 rfl hload, St.mk_pu rfl hs.out⟩
set_option maxHeartbeats 3200000 in
theorem f73_tree (c fl d b h rb ty : Nat) (x : It) (t : Tr) (l : List It) (hd : 2 ≤ d) (hd2 : d ≤ 1000) (hty : ty = 0 ∨ ty = 1 ∨ ty = 2) (hg : Good d h t l) (h0 : 1 ≤ t.its.length) (hll : l.length < 1000000) :
    Tri Try.prog 73 #[ptr b, itV x, .int .i64 ty] (pts b (.cells #[.int .i64 d, .int .i64 l.length, ptr rb, ptr c] 87 (0, 0)) * (Tp c h t rb * Ctx c fl)) fun v => pu (v = ans (rmo ty l x)) * (BT c d b (rml ty l x) * Ctx c fl) := by
  have gl := hg.2.1
  have hSr := srt_rml hg.2.2.2.1 ty x
  have hlp := len_rml hg.2.2.2.1 ty x
  intro w0 F w hs
  simp only [mul_assoc'] at hs
  refine calls_WP 103 #[.cell 6 45, .tmp 7] Try.func73 rfl Try.ntmps73 rfl (Nat.le_of_ble_eq_true rfl) ?_
  refine WP_seq ?_
  -- R0
  refine WP_seqr [⟨0, 2, []⟩, ⟨1, 2, []⟩, ⟨2, 0, []⟩] (by kernel_rfl) ?_
  refine ns_box (#[.int .i64 x.key, .int .i64 x.val]) hs rfl rfl rfl rfl ?_
  intro b4 w hs
  refine ns_alloc zc_45 hs rfl rfl ?_
  intro b6 w hs
  refine ns_asg rfl rfl ?_
  refine ns_done ?_
  refine WP_seq ?_ -- S1
  refine WP_seq ?_
  have hs0 := hs
  obtain ⟨bs, hlen, hs⟩ := St.tree (hs.foc (Tp c h t rb))
  obtain ⟨⟨v1, v2⟩, hs⟩ := (hs.foc (NodeP c rb (t.its) (bs))).ex
  simp only [mul_assoc'] at hs
  obtain ⟨a1, c1, rfl, hc1, hcm1⟩ := (hs.foc (IArr v1 t.its)).arr_form
  -- R1
  refine WP_seqr [⟨0, 0, []⟩, ⟨1, 0, []⟩, ⟨2, 0, []⟩, ⟨3, 1, []⟩, ⟨4, 0, []⟩, ⟨5, 0, []⟩, ⟨6, 0, []⟩, ⟨7, 0, []⟩, ⟨8, 0, []⟩, ⟨9, 1, []⟩, ⟨10, 0, []⟩, ⟨11, 0, []⟩, ⟨12, 1, []⟩, ⟨13, 0, []⟩, ⟨14, 0, []⟩, ⟨15, 0, []⟩] (by kernel_rfl) ?_
  refine ns_move rfl rfl ?_
  refine ns_nil rfl rfl rfl ?_
  refine ns_fld fo_87_2 rfl rfl rfl ?_
  refine ns_ldB pl_85 hs rfl rfl rfl (by rfl) ?_
  refine ns_peq false pt_85 rfl rfl rfl rfl (by simp [cmpP]) ?_
  refine ns_move rfl rfl ?_
  refine ns_move rfl rfl ?_
  refine ns_nil rfl rfl rfl ?_
  refine ns_fld fo_87_2 rfl rfl rfl ?_
  refine ns_ldB pl_85 hs rfl rfl rfl (by rfl) ?_
  refine ns_nil rfl rfl rfl ?_
  refine ns_fld fo_103_0 rfl rfl rfl ?_
  refine ns_ldB pl_100 hs rfl rfl rfl (by rfl) ?_
  refine ns_len sl_100 rfl rfl rfl ?_
  refine ns_cmp false rfl rfl rfl rfl (congrArg some (beq_eq_false_iff_ne.2 (by omega))) ?_
  refine ns_pick rfl rfl rfl ?_
  refine ns_done ?_
  have hs := hs0
  refine WP_false rfl ?_ -- if1
  refine WP_skip ?_
  refine WP_seq ?_
  obtain ⟨bs, hlen, hs⟩ := St.tree (hs.foc (Tp c h t rb))
  -- R2
  refine WP_net hs mix [0, 0, 2, 6, 14, 0, 32, 96, 224, 510, 1023, 2047, 4095] [⟨0, 0, []⟩, ⟨1, 0, []⟩, ⟨2, 0, []⟩, ⟨3, 0, []⟩, ⟨4, 1, []⟩, ⟨5, 0, []⟩, ⟨6, 0, []⟩, ⟨7, 0, []⟩, ⟨8, 1, []⟩, ⟨9, 2, []⟩, ⟨10, 0, []⟩, ⟨11, 0, []⟩, ⟨12, 2, []⟩] (by kernel_rfl) ?_
  intro w hs
  refine ns_move rfl rfl ?_
  refine ns_move rfl rfl ?_
  refine ns_nil rfl rfl rfl ?_
  refine ns_fld fo_87_2 rfl rfl rfl ?_
  refine ns_ldB pl_85 hs rfl rfl rfl (by rfl) ?_
  refine ns_move rfl rfl ?_
  refine ns_nil rfl rfl rfl ?_
  refine ns_fld fo_87_3 rfl rfl rfl ?_
  refine ns_ldB pl_82 hs rfl rfl rfl (by rfl) ?_
  refine ns_call (f68_ok c rb t.its bs) ck_68 (hs.foc (NodeP c rb t.its bs)) rfl rfl rfl rfl ?_
  intro v36 w hs
  replace hs := hs.pu
  obtain ⟨rfl, hs⟩ := hs
  refine ns_nil rfl rfl rfl ?_
  refine ns_fld fo_87_2 rfl rfl rfl ?_
  refine ns_st (ptr rb) pl_85 hs rfl rfl rfl rfl rfl (by simp) ?_
  refine fun w hs => ⟨trivial, ?_⟩
  try simp only [Nat.zero_add] at hs
  try simp only [List.setIfInBounds_toArray] at hs
  try simp only [List.set_cons_succ] at hs
  try simp only [List.set_cons_zero] at hs
  refine ns_done ?_
  have hs := hs.fold (tree_fold (c := c) (h := h) (b := rb) (its := t.its) (kids := t.kids) hlen)
  rw [Tr.eta] at hs
  refine WP_seq_cut (fun σ w => ∃ (b8 : Nat) (t2 : Tr), Ok (d - 1) (2 * d - 1) h t2 ∧ t.its.length ≤ t2.its.length + 1 ∧ t2.its.length ≤ t.its.length ∧ flat h t2 = rml ty l x ∧ σ 0 = ptr b ∧ σ 6 = .pointer (some ⟨b6, 0, none⟩) ∧ σ 8 = .pointer (some ⟨b8, 0, none⟩) ∧ σ 9 = .bool (rmo ty l x).isSome ∧ St w0 (pts b8 (.cells #[.int .i64 ((rmo ty l x).getD zero).key, .int .i64 ((rmo ty l x).getD zero).val] 45 (0, 0)) * (pts b6 (.cells #[.int .i64 0, .int .i64 0] 45 (0, 0)) * (pts b (.cells #[.int .i64 d, .int .i64 l.length, ptr rb, ptr c] 87 (0, 0)) * (Tp c h t2 rb * (Ctx c fl * F))))) w) ?_ ?_ -- R3.cut
  · -- R3
    refine WP_tre hs mix [0, 1, 3, 7, 0, 0, 32, 0, 255, 511, 1023, 1023, 0, 6143, 16383] (.cons ⟨0, 0, []⟩ (.cons ⟨1, 0, []⟩ (.cons ⟨2, 0, []⟩ (.cons ⟨3, 1, []⟩ (.cons ⟨4, 1, []⟩ (.cons ⟨5, 0, []⟩ (.cons ⟨7, 0, []⟩ (.fork ⟨6, 2, [3, 4]⟩ (.fork ⟨8, 2, []⟩ (.cons ⟨9, 0, []⟩ (.cons ⟨10, 0, []⟩ (.cons ⟨11, 0, []⟩ (.cons ⟨12, 2, []⟩ (.cons ⟨13, 2, []⟩ (.cons ⟨14, 0, []⟩ .nil)))))) ⟨12, 2, [3, 4]⟩ (.cons ⟨8, 2, []⟩ (.cons ⟨9, 0, []⟩ (.cons ⟨10, 0, []⟩ (.cons ⟨11, 0, []⟩ (.cons ⟨13, 2, []⟩ (.cons ⟨14, 0, []⟩ .nil))))))) ⟨12, 2, [3, 4]⟩ (.cons ⟨6, 2, [3, 4]⟩ (.cons ⟨8, 2, []⟩ (.cons ⟨9, 0, []⟩ (.cons ⟨10, 0, []⟩ (.cons ⟨11, 0, []⟩ (.cons ⟨13, 2, []⟩ (.cons ⟨14, 0, []⟩ .nil))))))))))))))) (by kernel_rfl) ?_
    intro w hs
    refine ns_move rfl rfl ?_
    refine ns_nil rfl rfl rfl ?_
    refine ns_fld fo_87_2 rfl rfl rfl ?_
    have hk3 := hs.c b 2
    have hk4 : Cells w ⟨b4, 0, none⟩ [.int .i64 x.key, .int .i64 x.val] := St.cells (n := 2) hs (by rfl)
    refine ns_ldB pl_85 hs rfl rfl rfl (by rfl) ?_
    refine ns_ldAB [.int .i64 x.key, .int .i64 x.val] ag_45 hs rfl rfl rfl (by rfl) (by rfl) (by decide) ?_
    refine ns_move rfl rfl ?_
    refine ns_move rfl rfl ?_
    refine ns_fork ?_ ?_
    · refine ns_callK (f88_ok b d (.int .i64 l.length) (ptr rb) (ptr c) (by omega) hd2) ck_88 (hs.foc (pts b (.cells #[.int .i64 d, .int .i64 l.length, ptr rb, ptr c] 87 (0, 0)))) rfl rfl rfl rfl ?_
      refine fun v46 w hs => ?_
      replace hs := hs.pu
      obtain ⟨rfl, hs⟩ := hs
      refine ⟨⟨hs.c b 2, St.cells (n := 2) hs (by rfl), trivial⟩, ?_⟩
      have hk3 := hs.c b 2
      have hk4 : Cells w ⟨b4, 0, none⟩ [.int .i64 x.key, .int .i64 x.val] := St.cells (n := 2) hs (by rfl)
      refine ns_fork ?_ ?_
      · refine ns_call (f87_ok c fl (d - 1) (2 * d - 1) (by omega) (by omega) (by omega) h ty rb t x hty hg.1 h0 hg.2.1 (by rw [hg.2.2.1]; exact hg.2.2.2.1)) ck_87 (hs.foc (Tp c h t rb * Ctx c fl)) rfl rfl rfl rfl ?_
        intro v48 w hs
        unfold RemP at hs
        rw [hg.2.2.1] at hs
        replace hs := hs.ex
        obtain ⟨t2, hs⟩ := hs
        replace hs := hs.pu
        obtain ⟨⟨rfl, q1, q2, q3, q4⟩, hs⟩ := hs
        simp only [mul_assoc'] at hs
        refine ns_move rfl rfl ?_
        refine ns_ext rfl rfl rfl rfl ?_
        refine ns_ext rfl rfl rfl rfl ?_
        refine ns_alloc zc_45 hs rfl rfl ?_
        intro b8 w hs
        refine ns_stA (#[.int .i64 ((rmo ty l x).getD zero).key, .int .i64 ((rmo ty l x).getD zero).val]) ag_45 rfl (by decide) hs rfl rfl rfl rfl (by intro u hu; simp at hu; rcases hu with rfl | rfl <;> rfl) (by simp) ?_
        refine fun w hs => ⟨trivial, ?_⟩
        rw [splice2] at hs
        refine ns_asg rfl rfl ?_
        refine ns_done ?_
        exact ⟨b8, t2, q1, q2, q3, q4, rfl, rfl, rfl, rfl, hs.out⟩
      · refine ns_allocK zc_45 hs rfl rfl ?_
        refine fun b8 w hs hx => ⟨⟨hx _ _ hk3, fun j v hj => hx _ _ (hk4 j v hj), trivial⟩, ?_⟩
        refine ns_call (f87_ok c fl (d - 1) (2 * d - 1) (by omega) (by omega) (by omega) h ty rb t x hty hg.1 h0 hg.2.1 (by rw [hg.2.2.1]; exact hg.2.2.2.1)) ck_87 (hs.foc (Tp c h t rb * Ctx c fl)) rfl rfl rfl rfl ?_
        intro v48 w hs
        unfold RemP at hs
        rw [hg.2.2.1] at hs
        replace hs := hs.ex
        obtain ⟨t2, hs⟩ := hs
        replace hs := hs.pu
        obtain ⟨⟨rfl, q1, q2, q3, q4⟩, hs⟩ := hs
        simp only [mul_assoc'] at hs
        refine ns_move rfl rfl ?_
        refine ns_ext rfl rfl rfl rfl ?_
        refine ns_ext rfl rfl rfl rfl ?_
        refine ns_stA (#[.int .i64 ((rmo ty l x).getD zero).key, .int .i64 ((rmo ty l x).getD zero).val]) ag_45 rfl (by decide) hs rfl rfl rfl rfl (by intro u hu; simp at hu; rcases hu with rfl | rfl <;> rfl) (by simp) ?_
        refine fun w hs => ⟨trivial, ?_⟩
        rw [splice2] at hs
        refine ns_asg rfl rfl ?_
        refine ns_done ?_
        exact ⟨b8, t2, q1, q2, q3, q4, rfl, rfl, rfl, rfl, hs.out⟩
    · refine ns_allocK zc_45 hs rfl rfl ?_
      refine fun b8 w hs hx => ⟨⟨hx _ _ hk3, fun j v hj => hx _ _ (hk4 j v hj), trivial⟩, ?_⟩
      refine ns_callK (f88_ok b d (.int .i64 l.length) (ptr rb) (ptr c) (by omega) hd2) ck_88 (hs.foc (pts b (.cells #[.int .i64 d, .int .i64 l.length, ptr rb, ptr c] 87 (0, 0)))) rfl rfl rfl rfl ?_
      refine fun v46 w hs => ?_
      replace hs := hs.pu
      obtain ⟨rfl, hs⟩ := hs
      refine ⟨⟨hs.c b 2, St.cells (n := 2) hs (by rfl), trivial⟩, ?_⟩
      have hk3 := hs.c b 2
      have hk4 : Cells w ⟨b4, 0, none⟩ [.int .i64 x.key, .int .i64 x.val] := St.cells (n := 2) hs (by rfl)
      refine ns_call (f87_ok c fl (d - 1) (2 * d - 1) (by omega) (by omega) (by omega) h ty rb t x hty hg.1 h0 hg.2.1 (by rw [hg.2.2.1]; exact hg.2.2.2.1)) ck_87 (hs.foc (Tp c h t rb * Ctx c fl)) rfl rfl rfl rfl ?_
      intro v48 w hs
      unfold RemP at hs
      rw [hg.2.2.1] at hs
      replace hs := hs.ex
      obtain ⟨t2, hs⟩ := hs
      replace hs := hs.pu
      obtain ⟨⟨rfl, q1, q2, q3, q4⟩, hs⟩ := hs
      simp only [mul_assoc'] at hs
      refine ns_move rfl rfl ?_
      refine ns_ext rfl rfl rfl rfl ?_
      refine ns_ext rfl rfl rfl rfl ?_
      refine ns_stA (#[.int .i64 ((rmo ty l x).getD zero).key, .int .i64 ((rmo ty l x).getD zero).val]) ag_45 rfl (by decide) hs rfl rfl rfl rfl (by intro u hu; simp at hu; rcases hu with rfl | rfl <;> rfl) (by simp) ?_
      refine fun w hs => ⟨trivial, ?_⟩
      rw [splice2] at hs
      refine ns_asg rfl rfl ?_
      refine ns_done ?_
      exact ⟨b8, t2, q1, q2, q3, q4, rfl, rfl, rfl, rfl, hs.out⟩
  rintro σ w ⟨b8, t2, q1, q2, q3, q4, g0, g6, g8, g9, hs⟩
  obtain ⟨σ, rfl⟩ := rebase g0
  obtain ⟨σ, rfl⟩ := rebase (σ := σ) g6
  obtain ⟨σ, rfl⟩ := rebase (σ := σ) g8
  obtain ⟨σ, rfl⟩ := rebase (σ := σ) g9
  clear g0 g6 g8 g9
  refine WP_seq_cut (fun σ w => σ 0 = ptr b ∧ σ 6 = .pointer (some ⟨b6, 0, none⟩) ∧ σ 8 = .pointer (some ⟨b8, 0, none⟩) ∧ σ 9 = .bool (rmo ty l x).isSome ∧ ∃ (h3 : Nat) (t3 : Tr) (rb3 : Nat), Good d h3 t3 (rml ty l x) ∧ St w0 (pts b8 (.cells #[.int .i64 ((rmo ty l x).getD zero).key, .int .i64 ((rmo ty l x).getD zero).val] 45 (0, 0)) * (pts b6 (.cells #[.int .i64 0, .int .i64 0] 45 (0, 0)) * (pts b (.cells #[.int .i64 d, .int .i64 l.length, ptr rb3, ptr c] 87 (0, 0)) * (Tp c h3 t3 rb3 * (Ctx c fl * F))))) w) ?_ ?_ -- S2
  · refine WP_seq_cut (fun σ w => ∃ q : Bool, σ 70 = .bool q ∧ (q = true → t2.its.length = 0 ∧ t2.kids.length ≠ 0) ∧ (q = false → h ≠ 0 → 1 ≤ t2.its.length) ∧ σ 0 = ptr b ∧ σ 6 = .pointer (some ⟨b6, 0, none⟩) ∧ σ 8 = .pointer (some ⟨b8, 0, none⟩) ∧ σ 9 = .bool (rmo ty l x).isSome ∧ St w0 (pts b8 (.cells #[.int .i64 ((rmo ty l x).getD zero).key, .int .i64 ((rmo ty l x).getD zero).val] 45 (0, 0)) * (pts b6 (.cells #[.int .i64 0, .int .i64 0] 45 (0, 0)) * (pts b (.cells #[.int .i64 d, .int .i64 l.length, ptr rb, ptr c] 87 (0, 0)) * (Tp c h t2 rb * (Ctx c fl * F))))) w) ?_ ?_ -- R4.cut
    · have hs0 := hs
      obtain ⟨bs, hlen, hs⟩ := St.tree (hs.foc (Tp c h t2 rb))
      obtain ⟨⟨v1, v2⟩, hs⟩ := (hs.foc (NodeP c rb t2.its bs)).ex
      simp only [mul_assoc'] at hs
      obtain ⟨a1, c1, rfl, hc1, hcm1⟩ := (hs.foc (IArr v1 t2.its)).arr_form
      obtain ⟨a2, c2, rfl, hc2, hcm2⟩ := (hs.foc (PArr v2 bs)).arr_form
      rcases Nat.eq_zero_or_pos t2.its.length with hz | hz
      · -- R4
        refine WP_seqr [⟨0, 0, []⟩, ⟨1, 0, []⟩, ⟨2, 0, []⟩, ⟨3, 1, []⟩, ⟨4, 0, []⟩, ⟨5, 0, []⟩, ⟨6, 1, []⟩, ⟨7, 0, []⟩, ⟨8, 0, []⟩, ⟨9, 0, []⟩, ⟨10, 0, []⟩, ⟨11, 0, []⟩, ⟨12, 0, []⟩, ⟨13, 1, []⟩, ⟨14, 0, []⟩, ⟨15, 0, []⟩, ⟨16, 1, []⟩, ⟨17, 0, []⟩, ⟨18, 0, []⟩, ⟨19, 0, []⟩] (by kernel_rfl) ?_
        refine ns_move rfl rfl ?_
        refine ns_nil rfl rfl rfl ?_
        refine ns_fld fo_87_2 rfl rfl rfl ?_
        refine ns_ldB pl_85 hs rfl rfl rfl (by rfl) ?_
        refine ns_nil rfl rfl rfl ?_
        refine ns_fld fo_103_0 rfl rfl rfl ?_
        refine ns_ldB pl_100 hs rfl rfl rfl (by rfl) ?_
        refine ns_len sl_100 rfl rfl rfl ?_
        refine ns_cmp true rfl rfl rfl rfl (by simp [cmpI, hz]) ?_
        refine ns_move rfl rfl ?_
        refine ns_move rfl rfl ?_
        refine ns_nil rfl rfl rfl ?_
        refine ns_fld fo_87_2 rfl rfl rfl ?_
        refine ns_ldB pl_85 hs rfl rfl rfl (by rfl) ?_
        refine ns_nil rfl rfl rfl ?_
        refine ns_fld fo_103_1 rfl rfl rfl ?_
        refine ns_ldB pl_101 hs rfl rfl rfl (by rfl) ?_
        refine ns_len sl_101 rfl rfl rfl ?_
        refine ns_cmp _ rfl rfl rfl rfl rfl ?_
        refine ns_pick rfl rfl rfl ?_
        refine ns_done ?_
        refine ⟨decide ((bs.length : Int) > 0), rfl, fun hq => ⟨hz, by have := of_decide_eq_true hq; omega⟩, fun hq hne => ?_, rfl, rfl, rfl, rfl, hs0⟩
        have hq := of_decide_eq_false hq
        have : t2.kids.length = 0 := by omega
        exact absurd (kids_zero q1 this) hne
      · -- R4
        refine WP_seqr [⟨0, 0, []⟩, ⟨1, 0, []⟩, ⟨2, 0, []⟩, ⟨3, 1, []⟩, ⟨4, 0, []⟩, ⟨5, 0, []⟩, ⟨6, 1, []⟩, ⟨7, 0, []⟩, ⟨8, 0, []⟩, ⟨9, 0, []⟩, ⟨10, 0, []⟩, ⟨11, 0, []⟩, ⟨12, 0, []⟩, ⟨13, 0, []⟩, ⟨14, 0, []⟩, ⟨15, 0, []⟩, ⟨16, 0, []⟩, ⟨17, 0, []⟩, ⟨18, 0, []⟩, ⟨19, 0, []⟩] (by kernel_rfl) ?_
        refine ns_move rfl rfl ?_
        refine ns_nil rfl rfl rfl ?_
        refine ns_fld fo_87_2 rfl rfl rfl ?_
        refine ns_ldB pl_85 hs rfl rfl rfl (by rfl) ?_
        refine ns_nil rfl rfl rfl ?_
        refine ns_fld fo_103_0 rfl rfl rfl ?_
        refine ns_ldB pl_100 hs rfl rfl rfl (by rfl) ?_
        refine ns_len sl_100 rfl rfl rfl ?_
        refine ns_cmp false rfl rfl rfl rfl (congrArg some (beq_eq_false_iff_ne.2 (by omega))) ?_
        refine ns_move rfl rfl ?_
        refine ns_no rfl rfl ?_
        refine ns_no rfl rfl ?_
        refine ns_no rfl rfl ?_
        refine ns_no rfl rfl ?_
        refine ns_no rfl rfl ?_
        refine ns_no rfl rfl ?_
        refine ns_no rfl rfl ?_
        refine ns_no rfl rfl ?_
        refine ns_no rfl rfl ?_
        refine ns_pick rfl rfl rfl ?_
        refine ns_done ?_
        exact ⟨false, rfl, (fun e => by cases e), (fun _ _ => hz), rfl, rfl, rfl, rfl, hs0⟩
    rintro σ w ⟨q, g70, e1, e2, g0, g6, g8, g9, hs⟩
    obtain ⟨σ, rfl⟩ := rebase g70
    obtain ⟨σ, rfl⟩ := rebase (σ := σ) g0
    obtain ⟨σ, rfl⟩ := rebase (σ := σ) g6
    obtain ⟨σ, rfl⟩ := rebase (σ := σ) g8
    obtain ⟨σ, rfl⟩ := rebase (σ := σ) g9
    clear g70 g0 g6 g8 g9
    refine WP_if rfl (fun hif2 => ?_) (fun hif2 => ?_)
    · refine WP_seq ?_
      obtain ⟨hz, hb0⟩ := e1 hif2
      obtain ⟨h, rfl⟩ : ∃ h', h = h' + 1 := by
        cases h with
        | zero => rw [show t2.kids = [] from q1] at hb0; exact absurd rfl hb0
        | succ h => exact ⟨h, rfl⟩
      obtain ⟨k, hk⟩ : ∃ k, t2.kids[0]? = some k := ⟨t2.kids[0]'(by omega), List.getElem?_eq_getElem (by omega)⟩
      obtain ⟨bs, hlen, hs⟩ := St.tree (hs.foc (Tp c (h + 1) t2 rb))
      obtain ⟨xb, hxb⟩ : ∃ xb, bs[0]? = some xb := ⟨bs[0]'(by omega), List.getElem?_eq_getElem (by omega)⟩
      rw [Ks_at hk hxb] at hs
      simp only [mul_assoc'] at hs
      -- R5
      refine WP_seqr [⟨0, 0, []⟩, ⟨1, 0, []⟩, ⟨2, 0, []⟩, ⟨3, 1, []⟩, ⟨4, 0, []⟩] (by kernel_rfl) ?_
      refine ns_move rfl rfl ?_
      refine ns_nil rfl rfl rfl ?_
      refine ns_fld fo_87_2 rfl rfl rfl ?_
      refine ns_ldB pl_85 hs rfl rfl rfl (by rfl) ?_
      refine ns_asg rfl rfl ?_
      refine ns_done ?_
      refine WP_seq ?_
      obtain ⟨⟨v1, v2⟩, hs⟩ := (hs.foc (NodeP c rb (t2.its) (bs))).ex
      simp only [mul_assoc'] at hs
      obtain ⟨_, hz, _⟩ | ⟨g, cap, cur, hv, hc, hcm, hsz, htk, hs⟩ := (hs.foc (PArr (v2) (bs))).arr
      · omega
      cases hv
      -- R6
      refine WP_seqr [⟨0, 0, []⟩, ⟨1, 0, []⟩, ⟨2, 0, []⟩, ⟨3, 0, []⟩, ⟨4, 1, []⟩, ⟨5, 0, []⟩, ⟨6, 0, []⟩, ⟨7, 1, []⟩, ⟨8, 0, []⟩, ⟨9, 1, []⟩, ⟨10, 0, []⟩, ⟨11, 0, []⟩, ⟨12, 2, []⟩] (by kernel_rfl) ?_
      refine ns_move rfl rfl ?_
      refine ns_move rfl rfl ?_
      refine ns_nil rfl rfl rfl ?_
      refine ns_fld fo_87_2 rfl rfl rfl ?_
      refine ns_ldB pl_85 hs rfl rfl rfl (by rfl) ?_
      refine ns_nil rfl rfl rfl ?_
      refine ns_fld fo_103_1 rfl rfl rfl ?_
      refine ns_ldB pl_101 hs rfl rfl rfl (by rfl) ?_
      refine ns_idx 0 sl_101 rfl rfl rfl rfl rfl (by omega) ?_
      refine ns_ld pl_85 rfl rfl rfl (ptr_cell hs htk _ hxb) ?_
      refine ns_nil rfl rfl rfl ?_
      refine ns_fld fo_87_2 rfl rfl rfl ?_
      refine ns_st (ptr xb) pl_85 hs rfl rfl rfl rfl rfl (by simp) ?_
      refine fun w hs => ⟨trivial, ?_⟩
      try simp only [Nat.zero_add] at hs
      try simp only [List.setIfInBounds_toArray] at hs
      try simp only [List.set_cons_succ] at hs
      try simp only [List.set_cons_zero] at hs
      refine ns_done ?_
      have hs := (hs.foc (pts g (.cells cur 85 (0, 0)))).mk_arr' hc hcm hsz htk
      have hs := hs.fold (node_fold c rb v1 (.slice (some ⟨g, 0, none⟩) bs.length cap) t2.its bs)
      -- R7
      refine WP_seqr [⟨0, 0, []⟩, ⟨1, 0, []⟩, ⟨2, 0, []⟩, ⟨3, 1, []⟩, ⟨4, 0, []⟩, ⟨5, 2, []⟩] (by kernel_rfl) ?_
      refine ns_move rfl rfl ?_
      refine ns_nil rfl rfl rfl ?_
      refine ns_fld fo_87_3 rfl rfl rfl ?_
      refine ns_ldB pl_82 hs rfl rfl rfl (by rfl) ?_
      refine ns_move rfl rfl ?_
      refine ns_call (f89_ok c fl rb t2.its bs) ck_89 (hs.foc (NodeP c rb t2.its bs * Ctx c fl)) rfl rfl rfl rfl ?_
      intro v92 w hs
      replace hs := hs.ex
      obtain ⟨kk, hs⟩ := hs
      replace hs := hs.pu
      obtain ⟨rfl, hs⟩ := hs
      refine ns_done ?_
      rw [show Tq c (h + 1) k xb = Tp c h k xb from rfl] at hs
      exact ⟨rfl, rfl, rfl, rfl, h, k, xb, root_drop hd q1 (List.eq_nil_of_length_eq_zero hz) hk q4 hSr, hs.out⟩
    refine WP_skip ?_
    exact ⟨rfl, rfl, rfl, rfl, h, t2, rb, ⟨q1, by omega, q4, hSr, e2 hif2⟩, hs⟩
  rintro σ w ⟨g0, g6, g8, g9, h3, t3, rb3, hg3, hs⟩
  obtain ⟨σ, rfl⟩ := rebase g0
  obtain ⟨σ, rfl⟩ := rebase (σ := σ) g6
  obtain ⟨σ, rfl⟩ := rebase (σ := σ) g8
  obtain ⟨σ, rfl⟩ := rebase (σ := σ) g9
  clear g0 g6 g8 g9
  refine WP_seq_cut (fun σ w => σ 0 = ptr b ∧ σ 6 = .pointer (some ⟨b6, 0, none⟩) ∧ σ 8 = .pointer (some ⟨b8, 0, none⟩) ∧ σ 9 = .bool (rmo ty l x).isSome ∧ St w0 (pts b8 (.cells #[.int .i64 ((rmo ty l x).getD zero).key, .int .i64 ((rmo ty l x).getD zero).val] 45 (0, 0)) * (pts b6 (.cells #[.int .i64 0, .int .i64 0] 45 (0, 0)) * (pts b (.cells #[.int .i64 d, .int .i64 (rml ty l x).length, ptr rb3, ptr c] 87 (0, 0)) * (Tp c h3 t3 rb3 * (Ctx c fl * F))))) w) ?_ ?_ -- S3
  · refine WP_seq ?_
    -- R8
    refine WP_seqr [⟨0, 0, []⟩] (by kernel_rfl) ?_
    refine ns_move rfl rfl ?_
    refine ns_done ?_
    refine WP_if rfl (fun hif3 => ?_) (fun hif3 => ?_)
    · have hn : (rmo ty l x).isSome = true := hif3
      rw [if_pos hn] at hlp
      have hpos : 1 ≤ l.length := by
        rcases Nat.eq_zero_or_pos l.length with e | e
        · rw [List.eq_nil_of_length_eq_zero e, (rml_nil ty x).2] at hn; cases hn
        · exact e
      -- R9
      refine WP_seqr [⟨0, 0, []⟩, ⟨1, 0, []⟩, ⟨2, 0, []⟩, ⟨3, 1, []⟩, ⟨4, 0, []⟩, ⟨5, 0, []⟩, ⟨6, 0, []⟩, ⟨7, 2, []⟩] (by kernel_rfl) ?_
      refine ns_move rfl rfl ?_
      refine ns_nil rfl rfl rfl ?_
      refine ns_fld fo_87_1 rfl rfl rfl ?_
      refine ns_ldB pl_3 hs rfl rfl rfl (by rfl) ?_
      refine ns_sub rfl rfl rfl rfl (by omega) (by omega) ?_
      refine ns_nil rfl rfl rfl ?_
      refine ns_fld fo_87_1 rfl rfl rfl ?_
      refine ns_st (.int .i64 ((l.length : Int) - 1)) pl_3 hs rfl rfl rfl rfl rfl (by simp) ?_
      refine fun w hs => ⟨trivial, ?_⟩
      try simp only [Nat.zero_add] at hs
      try simp only [List.setIfInBounds_toArray] at hs
      try simp only [List.set_cons_succ] at hs
      try simp only [List.set_cons_zero] at hs
      refine ns_done ?_
      rw [show ((l.length : Int) - 1) = (((rml ty l x).length : Nat) : Int) by omega] at hs
      exact ⟨rfl, rfl, rfl, rfl, hs.out⟩
    refine WP_skip ?_
    have hn : (rmo ty l x).isSome = false := hif3
    rw [hn] at hlp
    simp only [Bool.false_eq_true, if_false] at hlp
    rw [← hlp] at hs
    exact ⟨rfl, rfl, rfl, rfl, hs⟩
  rintro σ w ⟨g0, g6, g8, g9, hs⟩
  obtain ⟨σ, rfl⟩ := rebase g0
  obtain ⟨σ, rfl⟩ := rebase (σ := σ) g6
  obtain ⟨σ, rfl⟩ := rebase (σ := σ) g8
  obtain ⟨σ, rfl⟩ := rebase (σ := σ) g9
  clear g0 g6 g8 g9
  refine WP_seq ?_
  -- R10
  refine WP_seqr [⟨0, 1, []⟩, ⟨1, 0, []⟩, ⟨2, 2, []⟩, ⟨3, 0, []⟩] (by kernel_rfl) ?_
  refine ns_ldAB _ ag_45 hs rfl rfl rfl (by rfl) (by rfl) (by decide) ?_
  refine ns_move rfl rfl ?_
  refine ns_stA (#[.int .i64 ((rmo ty l x).getD zero).key, .int .i64 ((rmo ty l x).getD zero).val]) ag_45 rfl (by decide) hs rfl rfl rfl rfl (by intro u hu; simp at hu; rcases hu with rfl | rfl <;> rfl) (by simp) ?_
  refine fun w hs => ⟨trivial, ?_⟩
  refine ns_asg rfl rfl ?_
  refine ns_done ?_
  refine WP_ret ?_
  have hload := run_loadVarA (P := Try.prog) (t := 45) (n := 2) (ad := ⟨b6, 0, none⟩) (vs := [.int .i64 ((rmo ty l x).getD zero).key, .int .i64 ((rmo ty l x).getD zero).val]) ag_45 rfl (by decide) w (St.cells (n := 2) hs (by rfl))
  have hs := hs.fold (bt_tree (c := c) (b := b) (rb := rb3) (n := (rml ty l x).length) hg3 rfl)
  exact ⟨_, resCT 6 45 7 rfl hload, St.mk_pu rfl hs.out⟩
end Go.Proofs.Ytnnembkganlbpaa
