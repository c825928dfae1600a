/- The tree's own calls: put, take out, look, the ends, the length; over the list that it holds. -/
import Derived.Test.YtnnembkganlbpaaW11
namespace Go.Proofs.Ytnnembkganlbpaa
open Go Go.Sl Go.Net Go.Wk Go.Bt Go.RowKit

theorem f48_ok (c fl d b : Nat) (x : It) (l : List It) (hd : 2 ≤ d) (hd2 : d ≤ 1000) (hll : l.length < 1000000) :
    Tri Try.prog 48 #[ptr b, itV x] (BT c d b l * Ctx c fl) fun v => pu (v = ans (get l x.key)) * (BT c d b (put l x) * Ctx c fl) := by
  intro w0 F w hs
  rw [mul_assoc'] at hs
  replace hs := St.bt hs
  rcases hs with ⟨rfl, hs⟩ | ⟨h, t, rb, hg, hs⟩
  · exact f48_nil c fl d b x hd w0 F w (hs.eq (by ac_rfl))
  · exact f48_tree c fl d b h rb x t l hd hd2 hg hll w0 F w (hs.eq (by ac_rfl))
theorem f73_ok (c fl d b ty : Nat) (x : It) (l : List It) (hd : 2 ≤ d) (hd2 : d ≤ 1000) (hty : ty = 0 ∨ ty = 1 ∨ ty = 2) (hll : l.length < 1000000) :
    Tri Try.prog 73 #[ptr b, itV x, .int .i64 ty] (BT c d b l * Ctx c fl) fun v => pu (v = ans (rmo ty l x)) * (BT c d b (rml ty l x) * Ctx c fl) := by
  intro w0 F w hs
  rw [mul_assoc'] at hs
  replace hs := St.bt hs
  rcases hs with ⟨rfl, hs⟩ | ⟨h, t, rb, hg, hs⟩
  · rw [(rml_nil ty x).1, (rml_nil ty x).2]
    exact f73_nil c fl d b ty x w0 F w (hs.eq (by ac_rfl))
  · by_cases h0 : t.its.length = 0
    · have hh : h = 0 := by
        rcases Nat.eq_zero_or_pos h with e | e
        · exact e
        · have := hg.2.2.2.2 (by omega); omega
      subst hh
      have hl : l = [] := by
        rw [← hg.2.2.1]
        exact List.eq_nil_of_length_eq_zero h0
      subst hl
      rw [(rml_nil ty x).1, (rml_nil ty x).2]
      exact f73_empty c fl d b 0 rb ty x t hg h0 w0 F w (hs.eq (by ac_rfl))
    · exact f73_tree c fl d b h rb ty x t l hd hd2 hty hg (by omega) hll w0 F w (hs.eq (by ac_rfl))
theorem f49_n (c fl d b : Nat) (x : It) : Tri Try.prog 49 #[ptr b, itV x] (BtN c d b * Ctx c fl) fun v => pu (v = ans (get [] x.key)) * (BT c d b [] * Ctx c fl) := by
  intro w0 F w hs
  unfold BtN at hs
  simp only [mul_assoc'] at hs
  refine calls_WP 19 #[.cell 4 45, .tmp 5] Try.func49 rfl Try.ntmps49 rfl (Nat.le_of_ble_eq_true rfl) ?_
  refine WP_seq ?_
  -- R0
  refine WP_seqr [⟨0, 2, []⟩, ⟨1, 2, []⟩, ⟨2, 0, []⟩] (by kernel_rfl) ?_
  refine ns_box (#[.int .i64 x.key, .int .i64 x.val]) hs rfl rfl rfl rfl ?_
  intro b3 w hs
  refine ns_alloc zc_45 hs rfl rfl ?_
  intro b4 w hs
  refine ns_asg rfl rfl ?_
  refine ns_done ?_
  refine WP_seq ?_ -- S1
  refine WP_seq ?_
  -- R1
  refine WP_seqr [⟨0, 0, []⟩, ⟨1, 0, []⟩, ⟨2, 0, []⟩, ⟨3, 1, []⟩, ⟨4, 0, []⟩] (by kernel_rfl) ?_
  refine ns_move rfl rfl ?_
  refine ns_nil rfl rfl rfl ?_
  refine ns_fld fo_87_2 rfl rfl rfl ?_
  refine ns_ldB pl_85 hs rfl rfl rfl (by rfl) ?_
  refine ns_peq true pt_85 rfl rfl rfl rfl rfl ?_
  refine ns_done ?_
  refine WP_true rfl ?_ -- if1
  refine WP_ret ?_
  have hload := run_loadVarA (P := Try.prog) (t := 45) (n := 2) (ad := ⟨b4, 0, none⟩) (vs := [.int .i64 zero.key, .int .i64 zero.val]) ag_45 rfl (by decide) w (St.cells (n := 2) hs (by rfl))
  have hs := hs.fold (bt_nil2 c d b)
  exact ⟨_, resCT 4 45 5 rfl hload, St.mk_pu rfl hs.out⟩
theorem f49_t (c fl d b h rb : Nat) (x : It) (t : Tr) (l : List It) (hg : Good d h t l) (hd2 : d ≤ 1000) : Tri Try.prog 49 #[ptr b, itV x] (pts b (.cells #[.int .i64 d, .int .i64 l.length, ptr rb, ptr c] 87 (0, 0)) * (Tp c h t rb * Ctx c fl)) fun v => pu (v = ans (get l x.key)) * (BT c d b l * Ctx c fl) := by
  intro w0 F w hs
  simp only [mul_assoc'] at hs
  refine calls_WP 19 #[.cell 4 45, .tmp 5] Try.func49 rfl Try.ntmps49 rfl (Nat.le_of_ble_eq_true rfl) ?_
  refine WP_seq ?_
  -- R0
  refine WP_seqr [⟨0, 2, []⟩, ⟨1, 2, []⟩, ⟨2, 0, []⟩] (by kernel_rfl) ?_
  refine ns_box (#[.int .i64 x.key, .int .i64 x.val]) hs rfl rfl rfl rfl ?_
  intro b3 w hs
  refine ns_alloc zc_45 hs rfl rfl ?_
  intro b4 w hs
  refine ns_asg rfl rfl ?_
  refine ns_done ?_
  refine WP_seq ?_ -- S1
  refine WP_seq ?_
  -- R1
  refine WP_seqr [⟨0, 0, []⟩, ⟨1, 0, []⟩, ⟨2, 0, []⟩, ⟨3, 1, []⟩, ⟨4, 0, []⟩] (by kernel_rfl) ?_
  refine ns_move rfl rfl ?_
  refine ns_nil rfl rfl rfl ?_
  refine ns_fld fo_87_2 rfl rfl rfl ?_
  refine ns_ldB pl_85 hs rfl rfl rfl (by rfl) ?_
  refine ns_peq false pt_85 rfl rfl rfl rfl (by simp [cmpP]) ?_
  refine ns_done ?_
  refine WP_false rfl ?_ -- if1
  refine WP_skip ?_
  refine WP_seq ?_
  -- R2
  refine WP_net hs mix [0, 1, 3, 7, 0, 31, 63, 63, 255, 511] [⟨0, 0, []⟩, ⟨1, 0, []⟩, ⟨2, 0, []⟩, ⟨3, 1, []⟩, ⟨4, 1, []⟩, ⟨5, 2, []⟩, ⟨6, 0, []⟩, ⟨7, 0, []⟩, ⟨8, 2, []⟩, ⟨9, 0, []⟩] (by kernel_rfl) ?_
  intro w hs
  refine ns_move rfl rfl ?_
  refine ns_nil rfl rfl rfl ?_
  refine ns_fld fo_87_2 rfl rfl rfl ?_
  refine ns_ldB pl_85 hs rfl rfl rfl (by rfl) ?_
  refine ns_ldAB [.int .i64 x.key, .int .i64 x.val] ag_45 hs rfl rfl rfl (by rfl) (by rfl) (by decide) ?_
  refine ns_call (f72_ok c fl (d - 1) (2 * d - 1) x (by omega) h rb t hg.1 hg.2.1 (by rw [hg.2.2.1]; exact hg.2.2.2.1)) ck_72 (hs.foc (Tp c h t rb * Ctx c fl)) rfl rfl rfl rfl ?_
  intro v16 w hs
  rw [hg.2.2.1] at hs
  replace hs := hs.pu
  obtain ⟨rfl, hs⟩ := hs
  simp only [mul_assoc'] at hs
  refine ns_ext rfl rfl rfl rfl ?_
  refine ns_ext rfl rfl rfl rfl ?_
  refine ns_stA (#[.int .i64 ((get l x.key).getD zero).key, .int .i64 ((get l x.key).getD zero).val]) ag_45 rfl (by decide) hs rfl rfl rfl rfl (by intro u hu; simp at hu; rcases hu with rfl | rfl <;> rfl) (by simp) ?_
  refine fun w hs => ⟨trivial, ?_⟩
  refine ns_asg rfl rfl ?_
  refine ns_done ?_
  refine WP_ret ?_
  have hload := run_loadVarA (P := Try.prog) (t := 45) (n := 2) (ad := ⟨b4, 0, none⟩) (vs := [.int .i64 ((get l x.key).getD zero).key, .int .i64 ((get l x.key).getD zero).val]) ag_45 rfl (by decide) w (St.cells (n := 2) hs (by rfl))
  have hs := hs.fold (bt_tree (c := c) (b := b) (rb := rb) (n := l.length) hg rfl)
  exact ⟨_, resCT 4 45 5 rfl hload, St.mk_pu rfl hs.out⟩
theorem f49_ok (c fl d b : Nat) (x : It) (l : List It) (hd2 : d ≤ 1000) : Tri Try.prog 49 #[ptr b, itV x] (BT c d b l * Ctx c fl) fun v => pu (v = ans (get l x.key)) * (BT c d b l * Ctx c fl) := by
  intro w0 F w hs
  rw [mul_assoc'] at hs
  replace hs := St.bt hs
  rcases hs with ⟨rfl, hs⟩ | ⟨h, t, rb, hg, hs⟩
  · exact f49_n c fl d b x w0 F w (hs.eq (by ac_rfl))
  · exact f49_t c fl d b h rb x t l hg hd2 w0 F w (hs.eq (by ac_rfl))
theorem f50_ok (c fl d b : Nat) (x : It) (l : List It) (hd2 : d ≤ 1000) : Tri Try.prog 50 #[ptr b, itV x] (BT c d b l * Ctx c fl) fun v => pu (v = .bool (get l x.key).isSome) * (BT c d b l * Ctx c fl) := by
  intro w0 F w hs
  simp only [mul_assoc'] at hs
  refine calls_WP 14 #[.tmp 4] Try.func50 rfl Try.ntmps50 rfl (Nat.le_of_ble_eq_true rfl) ?_
  refine WP_seq ?_
  -- R0
  refine WP_seqr [⟨0, 2, []⟩, ⟨1, 0, []⟩] (by kernel_rfl) ?_
  refine ns_box (#[.int .i64 x.key, .int .i64 x.val]) hs rfl rfl rfl rfl ?_
  intro b3 w hs
  refine ns_asg rfl rfl ?_
  refine ns_done ?_
  refine WP_seq ?_
  -- R1
  refine WP_seqr [⟨0, 0, []⟩, ⟨1, 1, []⟩, ⟨2, 2, []⟩, ⟨3, 0, []⟩, ⟨4, 0, []⟩, ⟨5, 0, []⟩, ⟨6, 2, []⟩, ⟨7, 2, []⟩, ⟨8, 0, []⟩] (by kernel_rfl) ?_
  refine ns_move rfl rfl ?_
  refine ns_ldAB [.int .i64 x.key, .int .i64 x.val] ag_45 hs rfl rfl rfl (by rfl) (by rfl) (by decide) ?_
  refine ns_call (f49_ok c fl d b x l hd2) ck_49 (hs.foc (BT c d b l * Ctx c fl)) rfl rfl rfl rfl ?_
  intro v10 w hs
  replace hs := hs.pu
  obtain ⟨rfl, hs⟩ := hs
  simp only [mul_assoc'] at hs
  refine ns_move rfl rfl ?_
  refine ns_ext rfl rfl rfl rfl ?_
  refine ns_ext rfl rfl rfl rfl ?_
  refine ns_alloc zc_45 hs rfl rfl ?_
  intro b5 w hs
  refine ns_stA (#[.int .i64 ((get l x.key).getD zero).key, .int .i64 ((get l x.key).getD zero).val]) ag_45 rfl (by decide) hs rfl rfl rfl rfl (by intro u hu; simp at hu; rcases hu with rfl | rfl <;> rfl) (by simp) ?_
  refine fun w hs => ⟨trivial, ?_⟩
  refine ns_asg rfl rfl ?_
  refine ns_done ?_
  refine WP_seq ?_
  -- R2
  refine WP_seqr [⟨0, 0, []⟩, ⟨1, 0, []⟩] (by kernel_rfl) ?_
  refine ns_move rfl rfl ?_
  refine ns_asg rfl rfl ?_
  refine ns_done ?_
  refine WP_ret ?_
  exact ⟨_, res1 _, St.mk_pu rfl hs.out⟩
theorem f52_n (c fl d b : Nat) : Tri Try.prog 52 #[ptr b] (BtN c d b * Ctx c fl) fun v => pu (v = ans ([] : List It).head?) * (BT c d b [] * Ctx c fl) := by
  intro w0 F w hs
  unfold BtN at hs
  simp only [mul_assoc'] at hs
  refine calls_WP 11 #[.cell 2 45, .tmp 3] Try.func52 rfl Try.ntmps52 rfl (Nat.le_of_ble_eq_true rfl) ?_
  refine WP_seq ?_
  -- R0
  refine WP_seqr [⟨0, 2, []⟩, ⟨1, 0, []⟩] (by kernel_rfl) ?_
  refine ns_alloc zc_45 hs rfl rfl ?_
  intro b2 w hs
  refine ns_asg rfl rfl ?_
  refine ns_done ?_
  refine WP_seq ?_
  -- R1
  refine WP_seqr [⟨0, 0, []⟩, ⟨1, 0, []⟩, ⟨2, 0, []⟩, ⟨3, 1, []⟩, ⟨4, 2, []⟩, ⟨5, 0, []⟩, ⟨6, 0, []⟩, ⟨7, 2, []⟩, ⟨8, 0, []⟩] (by kernel_rfl) ?_
  refine ns_move rfl rfl ?_
  refine ns_nil rfl rfl rfl ?_
  refine ns_fld fo_87_2 rfl rfl rfl ?_
  refine ns_ldB pl_85 hs rfl rfl rfl (by rfl) ?_
  refine ns_call (f74_nil) ck_74 (hs.foc 1) rfl rfl rfl rfl ?_
  intro v8 w hs
  replace hs := hs.pure
  obtain ⟨rfl, hs⟩ := hs
  refine ns_ext rfl rfl rfl rfl ?_
  refine ns_ext rfl rfl rfl rfl ?_
  refine ns_stA (#[.int .i64 zero.key, .int .i64 zero.val]) ag_45 rfl (by decide) hs rfl rfl rfl rfl (by intro u hu; simp at hu; rcases hu with rfl | rfl <;> rfl) (by simp) ?_
  refine fun w hs => ⟨trivial, ?_⟩
  refine ns_asg rfl rfl ?_
  refine ns_done ?_
  refine WP_ret ?_
  have hload := run_loadVarA (P := Try.prog) (t := 45) (n := 2) (ad := ⟨b2, 0, none⟩) (vs := [.int .i64 zero.key, .int .i64 zero.val]) ag_45 rfl (by decide) w (St.cells (n := 2) hs (by rfl))
  have hs := hs.fold (bt_nil2 c d b)
  exact ⟨_, resCT 2 45 3 rfl hload, St.mk_pu rfl hs.out⟩
theorem f52_t (c fl d b h rb : Nat) (t : Tr) (l : List It) (hg : Good d h t l) (hd : 2 ≤ d) : Tri Try.prog 52 #[ptr b] (pts b (.cells #[.int .i64 d, .int .i64 l.length, ptr rb, ptr c] 87 (0, 0)) * (Tp c h t rb * Ctx c fl)) fun v => pu (v = ans l.head?) * (BT c d b l * Ctx c fl) := by
  intro w0 F w hs
  simp only [mul_assoc'] at hs
  refine calls_WP 11 #[.cell 2 45, .tmp 3] Try.func52 rfl Try.ntmps52 rfl (Nat.le_of_ble_eq_true rfl) ?_
  refine WP_seq ?_
  -- R0
  refine WP_seqr [⟨0, 2, []⟩, ⟨1, 0, []⟩] (by kernel_rfl) ?_
  refine ns_alloc zc_45 hs rfl rfl ?_
  intro b2 w hs
  refine ns_asg rfl rfl ?_
  refine ns_done ?_
  refine WP_seq ?_
  -- R1
  refine WP_seqr [⟨0, 0, []⟩, ⟨1, 0, []⟩, ⟨2, 0, []⟩, ⟨3, 1, []⟩, ⟨4, 2, []⟩, ⟨5, 0, []⟩, ⟨6, 0, []⟩, ⟨7, 2, []⟩, ⟨8, 0, []⟩] (by kernel_rfl) ?_
  refine ns_move rfl rfl ?_
  refine ns_nil rfl rfl rfl ?_
  refine ns_fld fo_87_2 rfl rfl rfl ?_
  refine ns_ldB pl_85 hs rfl rfl rfl (by rfl) ?_
  refine ns_call (f74_ok c (d - 1) (2 * d - 1) h rb t (by omega) hg.1 hg.2.1 (by rw [hg.2.2.1]; exact hg.2.2.2.1)) ck_74 (hs.foc (Tp c h t rb)) rfl rfl rfl rfl ?_
  intro v8 w hs
  rw [hg.2.2.1] at hs
  replace hs := hs.pu
  obtain ⟨rfl, hs⟩ := hs
  refine ns_ext rfl rfl rfl rfl ?_
  refine ns_ext rfl rfl rfl rfl ?_
  refine ns_stA (#[.int .i64 (l.head?.getD zero).key, .int .i64 (l.head?.getD zero).val]) ag_45 rfl (by decide) hs rfl rfl rfl rfl (by intro u hu; simp at hu; rcases hu with rfl | rfl <;> rfl) (by simp) ?_
  refine fun w hs => ⟨trivial, ?_⟩
  refine ns_asg rfl rfl ?_
  refine ns_done ?_
  refine WP_ret ?_
  have hload := run_loadVarA (P := Try.prog) (t := 45) (n := 2) (ad := ⟨b2, 0, none⟩) (vs := [.int .i64 (l.head?.getD zero).key, .int .i64 (l.head?.getD zero).val]) ag_45 rfl (by decide) w (St.cells (n := 2) hs (by rfl))
  have hs := hs.fold (bt_tree (c := c) (b := b) (rb := rb) (n := l.length) hg rfl)
  exact ⟨_, resCT 2 45 3 rfl hload, St.mk_pu rfl hs.out⟩
theorem f52_ok (c fl d b : Nat) (l : List It) (hd : 2 ≤ d) : Tri Try.prog 52 #[ptr b] (BT c d b l * Ctx c fl) fun v => pu (v = ans l.head?) * (BT c d b l * Ctx c fl) := by
  intro w0 F w hs
  rw [mul_assoc'] at hs
  replace hs := St.bt hs
  rcases hs with ⟨rfl, hs⟩ | ⟨h, t, rb, hg, hs⟩
  · exact f52_n c fl d b w0 F w (hs.eq (by ac_rfl))
  · exact f52_t c fl d b h rb t l hg hd w0 F w (hs.eq (by ac_rfl))
theorem f53_n (c fl d b : Nat) : Tri Try.prog 53 #[ptr b] (BtN c d b * Ctx c fl) fun v => pu (v = ans ([] : List It).getLast?) * (BT c d b [] * Ctx c fl) := by
  intro w0 F w hs
  unfold BtN at hs
  simp only [mul_assoc'] at hs
  refine calls_WP 11 #[.cell 2 45, .tmp 3] Try.func53 rfl Try.ntmps53 rfl (Nat.le_of_ble_eq_true rfl) ?_
  refine WP_seq ?_
  -- R0
  refine WP_seqr [⟨0, 2, []⟩, ⟨1, 0, []⟩] (by kernel_rfl) ?_
  refine ns_alloc zc_45 hs rfl rfl ?_
  intro b2 w hs
  refine ns_asg rfl rfl ?_
  refine ns_done ?_
  refine WP_seq ?_
  -- R1
  refine WP_seqr [⟨0, 0, []⟩, ⟨1, 0, []⟩, ⟨2, 0, []⟩, ⟨3, 1, []⟩, ⟨4, 2, []⟩, ⟨5, 0, []⟩, ⟨6, 0, []⟩, ⟨7, 2, []⟩, ⟨8, 0, []⟩] (by kernel_rfl) ?_
  refine ns_move rfl rfl ?_
  refine ns_nil rfl rfl rfl ?_
  refine ns_fld fo_87_2 rfl rfl rfl ?_
  refine ns_ldB pl_85 hs rfl rfl rfl (by rfl) ?_
  refine ns_call (f75_nil) ck_75 (hs.foc 1) rfl rfl rfl rfl ?_
  intro v8 w hs
  replace hs := hs.pure
  obtain ⟨rfl, hs⟩ := hs
  refine ns_ext rfl rfl rfl rfl ?_
  refine ns_ext rfl rfl rfl rfl ?_
  refine ns_stA (#[.int .i64 zero.key, .int .i64 zero.val]) ag_45 rfl (by decide) hs rfl rfl rfl rfl (by intro u hu; simp at hu; rcases hu with rfl | rfl <;> rfl) (by simp) ?_
  refine fun w hs => ⟨trivial, ?_⟩
  refine ns_asg rfl rfl ?_
  refine ns_done ?_
  refine WP_ret ?_
  have hload := run_loadVarA (P := Try.prog) (t := 45) (n := 2) (ad := ⟨b2, 0, none⟩) (vs := [.int .i64 zero.key, .int .i64 zero.val]) ag_45 rfl (by decide) w (St.cells (n := 2) hs (by rfl))
  have hs := hs.fold (bt_nil2 c d b)
  exact ⟨_, resCT 2 45 3 rfl hload, St.mk_pu rfl hs.out⟩
theorem f53_t (c fl d b h rb : Nat) (t : Tr) (l : List It) (hg : Good d h t l) (hd : 2 ≤ d) : Tri Try.prog 53 #[ptr b] (pts b (.cells #[.int .i64 d, .int .i64 l.length, ptr rb, ptr c] 87 (0, 0)) * (Tp c h t rb * Ctx c fl)) fun v => pu (v = ans l.getLast?) * (BT c d b l * Ctx c fl) := by
  intro w0 F w hs
  simp only [mul_assoc'] at hs
  refine calls_WP 11 #[.cell 2 45, .tmp 3] Try.func53 rfl Try.ntmps53 rfl (Nat.le_of_ble_eq_true rfl) ?_
  refine WP_seq ?_
  -- R0
  refine WP_seqr [⟨0, 2, []⟩, ⟨1, 0, []⟩] (by kernel_rfl) ?_
  refine ns_alloc zc_45 hs rfl rfl ?_
  intro b2 w hs
  refine ns_asg rfl rfl ?_
  refine ns_done ?_
  refine WP_seq ?_
  -- R1
  refine WP_seqr [⟨0, 0, []⟩, ⟨1, 0, []⟩, ⟨2, 0, []⟩, ⟨3, 1, []⟩, ⟨4, 2, []⟩, ⟨5, 0, []⟩, ⟨6, 0, []⟩, ⟨7, 2, []⟩, ⟨8, 0, []⟩] (by kernel_rfl) ?_
  refine ns_move rfl rfl ?_
  refine ns_nil rfl rfl rfl ?_
  refine ns_fld fo_87_2 rfl rfl rfl ?_
  refine ns_ldB pl_85 hs rfl rfl rfl (by rfl) ?_
  refine ns_call (f75_ok c (d - 1) (2 * d - 1) h rb t (by omega) hg.1 hg.2.1 (by rw [hg.2.2.1]; exact hg.2.2.2.1)) ck_75 (hs.foc (Tp c h t rb)) rfl rfl rfl rfl ?_
  intro v8 w hs
  rw [hg.2.2.1] at hs
  replace hs := hs.pu
  obtain ⟨rfl, hs⟩ := hs
  refine ns_ext rfl rfl rfl rfl ?_
  refine ns_ext rfl rfl rfl rfl ?_
  refine ns_stA (#[.int .i64 (l.getLast?.getD zero).key, .int .i64 (l.getLast?.getD zero).val]) ag_45 rfl (by decide) hs rfl rfl rfl rfl (by intro u hu; simp at hu; rcases hu with rfl | rfl <;> rfl) (by simp) ?_
  refine fun w hs => ⟨trivial, ?_⟩
  refine ns_asg rfl rfl ?_
  refine ns_done ?_
  refine WP_ret ?_
  have hload := run_loadVarA (P := Try.prog) (t := 45) (n := 2) (ad := ⟨b2, 0, none⟩) (vs := [.int .i64 (l.getLast?.getD zero).key, .int .i64 (l.getLast?.getD zero).val]) ag_45 rfl (by decide) w (St.cells (n := 2) hs (by rfl))
  have hs := hs.fold (bt_tree (c := c) (b := b) (rb := rb) (n := l.length) hg rfl)
  exact ⟨_, resCT 2 45 3 rfl hload, St.mk_pu rfl hs.out⟩
theorem f53_ok (c fl d b : Nat) (l : List It) (hd : 2 ≤ d) : Tri Try.prog 53 #[ptr b] (BT c d b l * Ctx c fl) fun v => pu (v = ans l.getLast?) * (BT c d b l * Ctx c fl) := by
  intro w0 F w hs
  rw [mul_assoc'] at hs
  replace hs := St.bt hs
  rcases hs with ⟨rfl, hs⟩ | ⟨h, t, rb, hg, hs⟩
  · exact f53_n c fl d b w0 F w (hs.eq (by ac_rfl))
  · exact f53_t c fl d b h rb t l hg hd w0 F w (hs.eq (by ac_rfl))
theorem f56_n (c fl d b : Nat) : Tri Try.prog 56 #[ptr b] (BtN c d b * Ctx c fl) fun v => pu (v = .int .i64 (([] : List It).length : Nat)) * (BT c d b [] * Ctx c fl) := by
  intro w0 F w hs
  unfold BtN at hs
  simp only [mul_assoc'] at hs
  refine calls_WP 7 #[.tmp 2] Try.func56 rfl Try.ntmps56 rfl (Nat.le_of_ble_eq_true rfl) ?_
  refine WP_seq ?_
  -- R0
  refine WP_seqr [⟨0, 0, []⟩] (by kernel_rfl) ?_
  refine ns_asg rfl rfl ?_
  refine ns_done ?_
  refine WP_seq ?_
  -- R1
  refine WP_seqr [⟨0, 0, []⟩, ⟨1, 0, []⟩, ⟨2, 0, []⟩, ⟨3, 1, []⟩, ⟨4, 0, []⟩] (by kernel_rfl) ?_
  refine ns_move rfl rfl ?_
  refine ns_nil rfl rfl rfl ?_
  refine ns_fld fo_87_1 rfl rfl rfl ?_
  refine ns_ldB pl_3 hs rfl rfl rfl (by rfl) ?_
  refine ns_asg rfl rfl ?_
  refine ns_done ?_
  refine WP_ret ?_
  have hs := hs.fold (bt_nil2 c d b)
  exact ⟨_, res1 _, St.mk_pu rfl hs.out⟩
theorem f56_t (c fl d b h rb : Nat) (t : Tr) (l : List It) (hg : Good d h t l) : Tri Try.prog 56 #[ptr b] (pts b (.cells #[.int .i64 d, .int .i64 l.length, ptr rb, ptr c] 87 (0, 0)) * (Tp c h t rb * Ctx c fl)) fun v => pu (v = .int .i64 (l.length : Nat)) * (BT c d b l * Ctx c fl) := by
  intro w0 F w hs
  simp only [mul_assoc'] at hs
  refine calls_WP 7 #[.tmp 2] Try.func56 rfl Try.ntmps56 rfl (Nat.le_of_ble_eq_true rfl) ?_
  refine WP_seq ?_
  -- R0
  refine WP_seqr [⟨0, 0, []⟩] (by kernel_rfl) ?_
  refine ns_asg rfl rfl ?_
  refine ns_done ?_
  refine WP_seq ?_
  -- R1
  refine WP_seqr [⟨0, 0, []⟩, ⟨1, 0, []⟩, ⟨2, 0, []⟩, ⟨3, 1, []⟩, ⟨4, 0, []⟩] (by kernel_rfl) ?_
  refine ns_move rfl rfl ?_
  refine ns_nil rfl rfl rfl ?_
  refine ns_fld fo_87_1 rfl rfl rfl ?_
  refine ns_ldB pl_3 hs rfl rfl rfl (by rfl) ?_
  refine ns_asg rfl rfl ?_
  refine ns_done ?_
  refine WP_ret ?_
  have hs := hs.fold (bt_tree (c := c) (b := b) (rb := rb) (n := l.length) hg rfl)
  exact ⟨_, res1 _, St.mk_pu rfl hs.out⟩
theorem f56_ok (c fl d b : Nat) (l : List It) : Tri Try.prog 56 #[ptr b] (BT c d b l * Ctx c fl) fun v => pu (v = .int .i64 (l.length : Nat)) * (BT c d b l * Ctx c fl) := by
  intro w0 F w hs
  rw [mul_assoc'] at hs
  replace hs := St.bt hs
  rcases hs with ⟨rfl, hs⟩ | ⟨h, t, rb, hg, hs⟩
  · exact f56_n c fl d b w0 F w (hs.eq (by ac_rfl))
  · exact f56_t c fl d b h rb t l hg w0 F w (hs.eq (by ac_rfl))
theorem f51_ok (c fl d b : Nat) (x : It) (l : List It) (hd : 2 ≤ d) (hd2 : d ≤ 1000) (hll : l.length < 1000000) : Tri Try.prog 51 #[ptr b, itV x] (BT c d b l * Ctx c fl) fun v => pu (v = ans (get l x.key)) * (BT c d b (rem l x.key) * Ctx c fl) := by
  intro w0 F w hs
  simp only [mul_assoc'] at hs
  refine calls_WP 11 #[.cell 4 45, .tmp 5] Try.func51 rfl Try.ntmps51 rfl (Nat.le_of_ble_eq_true rfl) ?_
  refine WP_seq ?_
  -- R0
  refine WP_seqr [⟨0, 2, []⟩, ⟨1, 2, []⟩, ⟨2, 0, []⟩] (by kernel_rfl) ?_
  refine ns_box (#[.int .i64 x.key, .int .i64 x.val]) hs rfl rfl rfl rfl ?_
  intro b3 w hs
  refine ns_alloc zc_45 hs rfl rfl ?_
  intro b4 w hs
  refine ns_asg rfl rfl ?_
  refine ns_done ?_
  refine WP_seq ?_
  -- R1
  refine WP_seqr [⟨0, 0, []⟩, ⟨1, 1, []⟩, ⟨2, 2, []⟩, ⟨3, 0, []⟩, ⟨4, 0, []⟩, ⟨5, 2, []⟩, ⟨6, 0, []⟩] (by kernel_rfl) ?_
  refine ns_move rfl rfl ?_
  refine ns_ldAB [.int .i64 x.key, .int .i64 x.val] ag_45 hs rfl rfl rfl (by rfl) (by rfl) (by decide) ?_
  refine ns_call (f73_ok c fl d b 0 x l hd hd2 (.inl rfl) hll) ck_73 (hs.foc (BT c d b l * Ctx c fl)) rfl rfl rfl rfl ?_
  intro v8 w hs
  replace hs := hs.pu
  obtain ⟨rfl, hs⟩ := hs
  simp only [mul_assoc'] at hs
  refine ns_ext rfl rfl rfl rfl ?_
  refine ns_ext rfl rfl rfl rfl ?_
  refine ns_stA (#[.int .i64 ((rmo 0 l x).getD zero).key, .int .i64 ((rmo 0 l x).getD zero).val]) ag_45 rfl (by decide) hs rfl rfl rfl rfl (by intro u hu; simp at hu; rcases hu with rfl | rfl <;> rfl) (by simp) ?_
  refine fun w hs => ⟨trivial, ?_⟩
  refine ns_asg rfl rfl ?_
  refine ns_done ?_
  refine WP_ret ?_
  have hload := run_loadVarA (P := Try.prog) (t := 45) (n := 2) (ad := ⟨b4, 0, none⟩) (vs := [.int .i64 ((rmo 0 l x).getD zero).key, .int .i64 ((rmo 0 l x).getD zero).val]) ag_45 rfl (by decide) w (St.cells (n := 2) hs (by rfl))
  exact ⟨_, resCT 4 45 5 rfl hload, St.mk_pu rfl (hs.out (P := BT c d b (rml 0 l x) * Ctx c fl * F))⟩
theorem f54_ok (c fl d b : Nat) (l : List It) (hd : 2 ≤ d) (hd2 : d ≤ 1000) (hll : l.length < 1000000) : Tri Try.prog 54 #[ptr b] (BT c d b l * Ctx c fl) fun v => pu (v = ans l.head?) * (BT c d b l.tail * Ctx c fl) := by
  intro w0 F w hs
  simp only [mul_assoc'] at hs
  refine calls_WP 10 #[.cell 2 45, .tmp 3] Try.func54 rfl Try.ntmps54 rfl (Nat.le_of_ble_eq_true rfl) ?_
  refine WP_seq ?_
  -- R0
  refine WP_seqr [⟨0, 2, []⟩, ⟨1, 0, []⟩] (by kernel_rfl) ?_
  refine ns_alloc zc_45 hs rfl rfl ?_
  intro b2 w hs
  refine ns_asg rfl rfl ?_
  refine ns_done ?_
  refine WP_seq ?_
  -- R1
  refine WP_seqr [⟨0, 2, []⟩] (by kernel_rfl) ?_
  refine ns_alloc zc_45 hs rfl rfl ?_
  intro b4 w hs
  refine ns_done ?_
  refine WP_seq ?_
  -- R2
  refine WP_seqr [⟨0, 0, []⟩, ⟨1, 1, []⟩, ⟨2, 2, []⟩, ⟨3, 0, []⟩, ⟨4, 0, []⟩, ⟨5, 2, []⟩, ⟨6, 0, []⟩] (by kernel_rfl) ?_
  refine ns_move rfl rfl ?_
  refine ns_ldAB [.int .i64 zero.key, .int .i64 zero.val] ag_45 hs rfl rfl rfl (by rfl) (by rfl) (by decide) ?_
  refine ns_call (f73_ok c fl d b 1 zero l hd hd2 (.inr (.inl rfl)) hll) ck_73 (hs.foc (BT c d b l * Ctx c fl)) rfl rfl rfl rfl ?_
  intro v7 w hs
  replace hs := hs.pu
  obtain ⟨rfl, hs⟩ := hs
  simp only [mul_assoc'] at hs
  refine ns_ext rfl rfl rfl rfl ?_
  refine ns_ext rfl rfl rfl rfl ?_
  refine ns_stA (#[.int .i64 ((rmo 1 l zero).getD zero).key, .int .i64 ((rmo 1 l zero).getD zero).val]) ag_45 rfl (by decide) hs rfl rfl rfl rfl (by intro u hu; simp at hu; rcases hu with rfl | rfl <;> rfl) (by simp) ?_
  refine fun w hs => ⟨trivial, ?_⟩
  refine ns_asg rfl rfl ?_
  refine ns_done ?_
  refine WP_ret ?_
  have hload := run_loadVarA (P := Try.prog) (t := 45) (n := 2) (ad := ⟨b2, 0, none⟩) (vs := [.int .i64 ((rmo 1 l zero).getD zero).key, .int .i64 ((rmo 1 l zero).getD zero).val]) ag_45 rfl (by decide) w (St.cells (n := 2) hs (by rfl))
  exact ⟨_, resCT 2 45 3 rfl hload, St.mk_pu rfl (hs.out (P := BT c d b (rml 1 l zero) * Ctx c fl * F))⟩
theorem f55_ok (c fl d b : Nat) (l : List It) (hd : 2 ≤ d) (hd2 : d ≤ 1000) (hll : l.length < 1000000) : Tri Try.prog 55 #[ptr b] (BT c d b l * Ctx c fl) fun v => pu (v = ans l.getLast?) * (BT c d b l.dropLast * Ctx c fl) := by
  intro w0 F w hs
  simp only [mul_assoc'] at hs
  refine calls_WP 10 #[.cell 2 45, .tmp 3] Try.func55 rfl Try.ntmps55 rfl (Nat.le_of_ble_eq_true rfl) ?_
  refine WP_seq ?_
  -- R0
  refine WP_seqr [⟨0, 2, []⟩, ⟨1, 0, []⟩] (by kernel_rfl) ?_
  refine ns_alloc zc_45 hs rfl rfl ?_
  intro b2 w hs
  refine ns_asg rfl rfl ?_
  refine ns_done ?_
  refine WP_seq ?_
  -- R1
  refine WP_seqr [⟨0, 2, []⟩] (by kernel_rfl) ?_
  refine ns_alloc zc_45 hs rfl rfl ?_
  intro b4 w hs
  refine ns_done ?_
  refine WP_seq ?_
  -- R2
  refine WP_seqr [⟨0, 0, []⟩, ⟨1, 1, []⟩, ⟨2, 2, []⟩, ⟨3, 0, []⟩, ⟨4, 0, []⟩, ⟨5, 2, []⟩, ⟨6, 0, []⟩] (by kernel_rfl) ?_
  refine ns_move rfl rfl ?_
  refine ns_ldAB [.int .i64 zero.key, .int .i64 zero.val] ag_45 hs rfl rfl rfl (by rfl) (by rfl) (by decide) ?_
  refine ns_call (f73_ok c fl d b 2 zero l hd hd2 (.inr (.inr rfl)) hll) ck_73 (hs.foc (BT c d b l * Ctx c fl)) rfl rfl rfl rfl ?_
  intro v7 w hs
  replace hs := hs.pu
  obtain ⟨rfl, hs⟩ := hs
  simp only [mul_assoc'] at hs
  refine ns_ext rfl rfl rfl rfl ?_
  refine ns_ext rfl rfl rfl rfl ?_
  refine ns_stA (#[.int .i64 ((rmo 2 l zero).getD zero).key, .int .i64 ((rmo 2 l zero).getD zero).val]) ag_45 rfl (by decide) hs rfl rfl rfl rfl (by intro u hu; simp at hu; rcases hu with rfl | rfl <;> rfl) (by simp) ?_
  refine fun w hs => ⟨trivial, ?_⟩
  refine ns_asg rfl rfl ?_
  refine ns_done ?_
  refine WP_ret ?_
  have hload := run_loadVarA (P := Try.prog) (t := 45) (n := 2) (ad := ⟨b2, 0, none⟩) (vs := [.int .i64 ((rmo 2 l zero).getD zero).key, .int .i64 ((rmo 2 l zero).getD zero).val]) ag_45 rfl (by decide) w (St.cells (n := 2) hs (by rfl))
  exact ⟨_, resCT 2 45 3 rfl hload, St.mk_pu rfl (hs.out (P := BT c d b (rml 2 l zero) * Ctx c fl * F))⟩
end Go.Proofs.Ytnnembkganlbpaa
