/- The walks of a whole tree: all of it, or between bounds, upwards and downwards. -/
import Derived.Test.YtnnembkganlbpaaW18
namespace Go.Proofs.Ytnnembkganlbpaa
open Go Go.Sl Go.Net Go.Wk Go.Bt Go.RowKit
theorem f57_n (c fl d b vb : Nat) (most : Int) (acc : List It) : Tri Try.prog 57 #[ptr b, seeV vb] (BtN c d b * (Ctx c fl * VisP vb acc most)) fun _ => BT c d b [] * (Ctx c fl * VisP vb acc most) := by
  intro w0 F w hs
  unfold BtN at hs
  simp only [mul_assoc'] at hs
  refine calls_WP 17 #[] Try.func57 rfl Try.ntmps57 rfl (Nat.le_of_ble_eq_true rfl) ?_
  refine WP_seq ?_ -- S1
  refine WP_seq ?_
  -- R0
  refine WP_seqr [⟨0, 0, []⟩, ⟨1, 0, []⟩, ⟨2, 0, []⟩, ⟨3, 1, []⟩, ⟨4, 0, []⟩] (by kernel_rfl) ?_
  refine ns_move rfl rfl ?_
  refine ns_nil rfl rfl rfl ?_
  refine ns_fld fo_87_2 rfl rfl rfl ?_
  refine ns_ldB pl_85 hs rfl rfl rfl (by rfl) ?_
  refine ns_peq true pt_85 rfl rfl rfl rfl rfl ?_
  refine ns_done ?_
  refine WP_true rfl ?_ -- if1
  refine WP_ret ?_
  have hs := hs.fold (bt_nil2 c d b)
  exact ⟨_, res0, hs.out⟩
theorem f57_t (c fl d b vb h rb : Nat) (most : Int) (acc : List It) (t : Tr) (l : List It) (hg : Good d h t l) (hd2 : d ≤ 1000) (hal : acc.length + l.length < 1000000) : Tri Try.prog 57 #[ptr b, seeV vb] (pts b (.cells #[.int .i64 d, .int .i64 l.length, ptr rb, ptr c] 87 (0, 0)) * (Tp c h t rb * (Ctx c fl * VisP vb acc most))) fun _ => BT c d b l * (Ctx c fl * VisP vb (feed most acc (sel none none l)).1 most) := by
  intro w0 F w hs
  simp only [mul_assoc'] at hs
  refine calls_WP 17 #[] Try.func57 rfl Try.ntmps57 rfl (Nat.le_of_ble_eq_true rfl) ?_
  refine WP_seq ?_ -- S1
  refine WP_seq ?_
  -- R0
  refine WP_seqr [⟨0, 0, []⟩, ⟨1, 0, []⟩, ⟨2, 0, []⟩, ⟨3, 1, []⟩, ⟨4, 0, []⟩] (by kernel_rfl) ?_
  refine ns_move rfl rfl ?_
  refine ns_nil rfl rfl rfl ?_
  refine ns_fld fo_87_2 rfl rfl rfl ?_
  refine ns_ldB pl_85 hs rfl rfl rfl (by rfl) ?_
  refine ns_peq false pt_85 rfl rfl rfl rfl (by simp [cmpP]) ?_
  refine ns_done ?_
  refine WP_false rfl ?_ -- if1
  refine WP_skip ?_
  -- R1
  refine WP_net hs mix [0, 1, 3, 7, 0, 16, 0, 127] [⟨0, 0, []⟩, ⟨1, 0, []⟩, ⟨2, 0, []⟩, ⟨3, 1, []⟩, ⟨6, 0, []⟩, ⟨4, 2, [3]⟩, ⟨5, 2, [3]⟩, ⟨7, 2, []⟩] (by kernel_rfl) ?_
  intro w hs
  refine ns_move rfl rfl ?_
  refine ns_nil rfl rfl rfl ?_
  refine ns_fld fo_87_2 rfl rfl rfl ?_
  refine ns_ldB pl_85 hs rfl rfl rfl (by rfl) ?_
  refine ns_move rfl rfl ?_
  refine ns_callK f77_ok ck_77 (hs.foc 1) rfl rfl rfl rfl ?_
  refine fun v13 w hs => ?_
  replace hs := hs.pure
  obtain ⟨rfl, hs⟩ := hs
  refine ⟨⟨hs.c b 2, trivial⟩, ?_⟩
  refine ns_callK f77_ok ck_77 (hs.foc 1) rfl rfl rfl rfl ?_
  refine fun v14 w hs => ?_
  replace hs := hs.pure
  obtain ⟨rfl, hs⟩ := hs
  refine ⟨⟨hs.c b 2, trivial⟩, ?_⟩
  refine ns_call (f76a_ok c fl (d - 1) (2 * d - 1) vb most none none false (by omega) (by simp) h rb t false acc hg.1 hg.2.1 (by rw [hg.2.2.1]; exact hg.2.2.2.1) (by rw [hg.2.2.1]; exact hal)) ck_76 (hs.foc (Tp c h t rb * (Ctx c fl * VisP vb acc most))) rfl rfl rfl rfl ?_
  intro v16 w hs
  unfold ItP at hs
  replace hs := hs.ex
  obtain ⟨⟨hit2, ok2, acc2⟩, hs⟩ := hs
  replace hs := hs.pu
  obtain ⟨⟨rfl, q1⟩, hs⟩ := hs
  rw [hg.2.2.1] at q1
  obtain rfl : acc2 = (feed most acc (sel none none l)).1 := q1.1
  simp only [mul_assoc'] at hs
  refine ns_done ?_
  have hs := hs.fold (bt_tree (c := c) (b := b) (rb := rb) (n := l.length) hg rfl)
  exact ⟨_, res0, hs.out⟩
theorem f57_ok (c fl d b vb : Nat) (most : Int) (acc : List It) (l : List It) (hd2 : d ≤ 1000) (hal : acc.length + l.length < 1000000) : Tri Try.prog 57 #[ptr b, seeV vb] (BT c d b l * (Ctx c fl * VisP vb acc most)) fun _ => BT c d b l * (Ctx c fl * VisP vb (feed most acc (sel none none l)).1 most) := by
  intro w0 F w hs
  rw [mul_assoc'] at hs
  replace hs := St.bt hs
  rcases hs with ⟨rfl, hs⟩ | ⟨h, t, rb, hg, hs⟩
  · exact f57_n c fl d b vb most acc w0 F w (hs.eq (by ac_rfl))
  · exact f57_t c fl d b vb h rb most acc t l hg hd2 hal w0 F w (hs.eq (by ac_rfl))
theorem f59_n (c fl d b vb : Nat) (p : It) (most : Int) (acc : List It) : Tri Try.prog 59 #[ptr b, itV p, seeV vb] (BtN c d b * (Ctx c fl * VisP vb acc most)) fun _ => BT c d b [] * (Ctx c fl * VisP vb acc most) := by
  intro w0 F w hs
  unfold BtN at hs
  simp only [mul_assoc'] at hs
  refine calls_WP 20 #[] Try.func59 rfl Try.ntmps59 rfl (Nat.le_of_ble_eq_true rfl) ?_
  refine WP_seq ?_
  -- R0
  refine WP_seqr [⟨0, 2, []⟩] (by kernel_rfl) ?_
  refine ns_box (#[.int .i64 p.key, .int .i64 p.val]) hs rfl rfl rfl rfl ?_
  intro b4 w hs
  refine ns_done ?_
  refine WP_seq ?_ -- S1
  refine WP_seq ?_
  -- R1
  refine WP_seqr [⟨0, 0, []⟩, ⟨1, 0, []⟩, ⟨2, 0, []⟩, ⟨3, 1, []⟩, ⟨4, 0, []⟩] (by kernel_rfl) ?_
  refine ns_move rfl rfl ?_
  refine ns_nil rfl rfl rfl ?_
  refine ns_fld fo_87_2 rfl rfl rfl ?_
  refine ns_ldB pl_85 hs rfl rfl rfl (by rfl) ?_
  refine ns_peq true pt_85 rfl rfl rfl rfl rfl ?_
  refine ns_done ?_
  refine WP_true rfl ?_ -- if1
  refine WP_ret ?_
  have hs := hs.fold (bt_nil2 c d b)
  exact ⟨_, res0, hs.out⟩
theorem f59_t (c fl d b vb h rb : Nat) (p : It) (most : Int) (acc : List It) (t : Tr) (l : List It) (hg : Good d h t l) (hd2 : d ≤ 1000) (hal : acc.length + l.length < 1000000) : Tri Try.prog 59 #[ptr b, itV p, seeV vb] (pts b (.cells #[.int .i64 d, .int .i64 l.length, ptr rb, ptr c] 87 (0, 0)) * (Tp c h t rb * (Ctx c fl * VisP vb acc most))) fun _ => BT c d b l * (Ctx c fl * VisP vb (feed most acc (sel (some p) none l)).1 most) := by
  intro w0 F w hs
  simp only [mul_assoc'] at hs
  refine calls_WP 20 #[] Try.func59 rfl Try.ntmps59 rfl (Nat.le_of_ble_eq_true rfl) ?_
  refine WP_seq ?_
  -- R0
  refine WP_seqr [⟨0, 2, []⟩] (by kernel_rfl) ?_
  refine ns_box (#[.int .i64 p.key, .int .i64 p.val]) hs rfl rfl rfl rfl ?_
  intro b4 w hs
  refine ns_done ?_
  refine WP_seq ?_ -- S1
  refine WP_seq ?_
  -- R1
  refine WP_seqr [⟨0, 0, []⟩, ⟨1, 0, []⟩, ⟨2, 0, []⟩, ⟨3, 1, []⟩, ⟨4, 0, []⟩] (by kernel_rfl) ?_
  refine ns_move rfl rfl ?_
  refine ns_nil rfl rfl rfl ?_
  refine ns_fld fo_87_2 rfl rfl rfl ?_
  refine ns_ldB pl_85 hs rfl rfl rfl (by rfl) ?_
  refine ns_peq false pt_85 rfl rfl rfl rfl (by simp [cmpP]) ?_
  refine ns_done ?_
  refine WP_false rfl ?_ -- if1
  refine WP_skip ?_
  -- R2
  refine WP_net hs mix [0, 1, 3, 7, 0, 16, 48, 0, 255] [⟨0, 0, []⟩, ⟨1, 0, []⟩, ⟨2, 0, []⟩, ⟨3, 1, []⟩, ⟨4, 1, []⟩, ⟨7, 0, []⟩, ⟨5, 2, [3]⟩, ⟨6, 2, [3]⟩, ⟨8, 2, []⟩] (by kernel_rfl) ?_
  intro w hs
  refine ns_move rfl rfl ?_
  refine ns_nil rfl rfl rfl ?_
  refine ns_fld fo_87_2 rfl rfl rfl ?_
  refine ns_ldB pl_85 hs rfl rfl rfl (by rfl) ?_
  refine ns_ldAB [.int .i64 p.key, .int .i64 p.val] ag_45 hs rfl rfl rfl (by rfl) (by rfl) (by decide) ?_
  refine ns_move rfl rfl ?_
  refine ns_callK (f78_ok p) ck_78 (hs.foc 1) rfl rfl rfl rfl ?_
  refine fun v16 w hs => ?_
  replace hs := hs.pure
  obtain ⟨rfl, hs⟩ := hs
  refine ⟨⟨hs.c b 2, trivial⟩, ?_⟩
  refine ns_callK f77_ok ck_77 (hs.foc 1) rfl rfl rfl rfl ?_
  refine fun v17 w hs => ?_
  replace hs := hs.pure
  obtain ⟨rfl, hs⟩ := hs
  refine ⟨⟨hs.c b 2, trivial⟩, ?_⟩
  refine ns_call (f76a_ok c fl (d - 1) (2 * d - 1) vb most (some p) none true (by omega) (by simp) h rb t false acc hg.1 hg.2.1 (by rw [hg.2.2.1]; exact hg.2.2.2.1) (by rw [hg.2.2.1]; exact hal)) ck_76 (hs.foc (Tp c h t rb * (Ctx c fl * VisP vb acc most))) rfl rfl rfl rfl ?_
  intro v19 w hs
  unfold ItP at hs
  replace hs := hs.ex
  obtain ⟨⟨hit2, ok2, acc2⟩, hs⟩ := hs
  replace hs := hs.pu
  obtain ⟨⟨rfl, q1⟩, hs⟩ := hs
  rw [hg.2.2.1] at q1
  obtain rfl : acc2 = (feed most acc (sel (some p) none l)).1 := q1.1
  simp only [mul_assoc'] at hs
  refine ns_done ?_
  have hs := hs.fold (bt_tree (c := c) (b := b) (rb := rb) (n := l.length) hg rfl)
  exact ⟨_, res0, hs.out⟩
theorem f59_ok (c fl d b vb : Nat) (p : It) (most : Int) (acc : List It) (l : List It) (hd2 : d ≤ 1000) (hal : acc.length + l.length < 1000000) : Tri Try.prog 59 #[ptr b, itV p, seeV vb] (BT c d b l * (Ctx c fl * VisP vb acc most)) fun _ => BT c d b l * (Ctx c fl * VisP vb (feed most acc (sel (some p) none l)).1 most) := by
  intro w0 F w hs
  rw [mul_assoc'] at hs
  replace hs := St.bt hs
  rcases hs with ⟨rfl, hs⟩ | ⟨h, t, rb, hg, hs⟩
  · exact f59_n c fl d b vb p most acc w0 F w (hs.eq (by ac_rfl))
  · exact f59_t c fl d b vb h rb p most acc t l hg hd2 hal w0 F w (hs.eq (by ac_rfl))
theorem f60_n (c fl d b vb : Nat) (p : It) (most : Int) (acc : List It) : Tri Try.prog 60 #[ptr b, itV p, seeV vb] (BtN c d b * (Ctx c fl * VisP vb acc most)) fun _ => BT c d b [] * (Ctx c fl * VisP vb acc most) := by
  intro w0 F w hs
  unfold BtN at hs
  simp only [mul_assoc'] at hs
  refine calls_WP 20 #[] Try.func60 rfl Try.ntmps60 rfl (Nat.le_of_ble_eq_true rfl) ?_
  refine WP_seq ?_
  -- R0
  refine WP_seqr [⟨0, 2, []⟩] (by kernel_rfl) ?_
  refine ns_box (#[.int .i64 p.key, .int .i64 p.val]) hs rfl rfl rfl rfl ?_
  intro b4 w hs
  refine ns_done ?_
  refine WP_seq ?_ -- S1
  refine WP_seq ?_
  -- R1
  refine WP_seqr [⟨0, 0, []⟩, ⟨1, 0, []⟩, ⟨2, 0, []⟩, ⟨3, 1, []⟩, ⟨4, 0, []⟩] (by kernel_rfl) ?_
  refine ns_move rfl rfl ?_
  refine ns_nil rfl rfl rfl ?_
  refine ns_fld fo_87_2 rfl rfl rfl ?_
  refine ns_ldB pl_85 hs rfl rfl rfl (by rfl) ?_
  refine ns_peq true pt_85 rfl rfl rfl rfl rfl ?_
  refine ns_done ?_
  refine WP_true rfl ?_ -- if1
  refine WP_ret ?_
  have hs := hs.fold (bt_nil2 c d b)
  exact ⟨_, res0, hs.out⟩
theorem f60_t (c fl d b vb h rb : Nat) (p : It) (most : Int) (acc : List It) (t : Tr) (l : List It) (hg : Good d h t l) (hd2 : d ≤ 1000) (hal : acc.length + l.length < 1000000) : Tri Try.prog 60 #[ptr b, itV p, seeV vb] (pts b (.cells #[.int .i64 d, .int .i64 l.length, ptr rb, ptr c] 87 (0, 0)) * (Tp c h t rb * (Ctx c fl * VisP vb acc most))) fun _ => BT c d b l * (Ctx c fl * VisP vb (feed most acc (sel none (some p) l)).1 most) := by
  intro w0 F w hs
  simp only [mul_assoc'] at hs
  refine calls_WP 20 #[] Try.func60 rfl Try.ntmps60 rfl (Nat.le_of_ble_eq_true rfl) ?_
  refine WP_seq ?_
  -- R0
  refine WP_seqr [⟨0, 2, []⟩] (by kernel_rfl) ?_
  refine ns_box (#[.int .i64 p.key, .int .i64 p.val]) hs rfl rfl rfl rfl ?_
  intro b4 w hs
  refine ns_done ?_
  refine WP_seq ?_ -- S1
  refine WP_seq ?_
  -- R1
  refine WP_seqr [⟨0, 0, []⟩, ⟨1, 0, []⟩, ⟨2, 0, []⟩, ⟨3, 1, []⟩, ⟨4, 0, []⟩] (by kernel_rfl) ?_
  refine ns_move rfl rfl ?_
  refine ns_nil rfl rfl rfl ?_
  refine ns_fld fo_87_2 rfl rfl rfl ?_
  refine ns_ldB pl_85 hs rfl rfl rfl (by rfl) ?_
  refine ns_peq false pt_85 rfl rfl rfl rfl (by simp [cmpP]) ?_
  refine ns_done ?_
  refine WP_false rfl ?_ -- if1
  refine WP_skip ?_
  -- R2
  refine WP_net hs mix [0, 1, 3, 7, 0, 0, 48, 0, 255] [⟨0, 0, []⟩, ⟨1, 0, []⟩, ⟨2, 0, []⟩, ⟨3, 1, []⟩, ⟨5, 1, []⟩, ⟨7, 0, []⟩, ⟨4, 2, [3, 5]⟩, ⟨6, 2, [3]⟩, ⟨8, 2, []⟩] (by kernel_rfl) ?_
  intro w hs
  refine ns_move rfl rfl ?_
  refine ns_nil rfl rfl rfl ?_
  refine ns_fld fo_87_2 rfl rfl rfl ?_
  refine ns_ldB pl_85 hs rfl rfl rfl (by rfl) ?_
  refine ns_ldAB [.int .i64 p.key, .int .i64 p.val] ag_45 hs rfl rfl rfl (by rfl) (by rfl) (by decide) ?_
  refine ns_move rfl rfl ?_
  refine ns_callK f77_ok ck_77 (hs.foc 1) rfl rfl rfl rfl ?_
  refine fun v15 w hs => ?_
  replace hs := hs.pure
  obtain ⟨rfl, hs⟩ := hs
  refine ⟨⟨hs.c b 2, St.cells (n := 2) (b := b4) (o := 0) hs (by rfl), trivial⟩, ?_⟩
  refine ns_callK (f78_ok p) ck_78 (hs.foc 1) rfl rfl rfl rfl ?_
  refine fun v17 w hs => ?_
  replace hs := hs.pure
  obtain ⟨rfl, hs⟩ := hs
  refine ⟨⟨hs.c b 2, trivial⟩, ?_⟩
  refine ns_call (f76a_ok c fl (d - 1) (2 * d - 1) vb most none (some p) false (by omega) (by simp) h rb t false acc hg.1 hg.2.1 (by rw [hg.2.2.1]; exact hg.2.2.2.1) (by rw [hg.2.2.1]; exact hal)) ck_76 (hs.foc (Tp c h t rb * (Ctx c fl * VisP vb acc most))) rfl rfl rfl rfl ?_
  intro v19 w hs
  unfold ItP at hs
  replace hs := hs.ex
  obtain ⟨⟨hit2, ok2, acc2⟩, hs⟩ := hs
  replace hs := hs.pu
  obtain ⟨⟨rfl, q1⟩, hs⟩ := hs
  rw [hg.2.2.1] at q1
  obtain rfl : acc2 = (feed most acc (sel none (some p) l)).1 := q1.1
  simp only [mul_assoc'] at hs
  refine ns_done ?_
  have hs := hs.fold (bt_tree (c := c) (b := b) (rb := rb) (n := l.length) hg rfl)
  exact ⟨_, res0, hs.out⟩
theorem f60_ok (c fl d b vb : Nat) (p : It) (most : Int) (acc : List It) (l : List It) (hd2 : d ≤ 1000) (hal : acc.length + l.length < 1000000) : Tri Try.prog 60 #[ptr b, itV p, seeV vb] (BT c d b l * (Ctx c fl * VisP vb acc most)) fun _ => BT c d b l * (Ctx c fl * VisP vb (feed most acc (sel none (some p) l)).1 most) := by
  intro w0 F w hs
  rw [mul_assoc'] at hs
  replace hs := St.bt hs
  rcases hs with ⟨rfl, hs⟩ | ⟨h, t, rb, hg, hs⟩
  · exact f60_n c fl d b vb p most acc w0 F w (hs.eq (by ac_rfl))
  · exact f60_t c fl d b vb h rb p most acc t l hg hd2 hal w0 F w (hs.eq (by ac_rfl))
theorem f61_n (c fl d b vb : Nat) (p : It) (q : It) (most : Int) (acc : List It) : Tri Try.prog 61 #[ptr b, itV p, itV q, seeV vb] (BtN c d b * (Ctx c fl * VisP vb acc most)) fun _ => BT c d b [] * (Ctx c fl * VisP vb acc most) := by
  intro w0 F w hs
  unfold BtN at hs
  simp only [mul_assoc'] at hs
  refine calls_WP 23 #[] Try.func61 rfl Try.ntmps61 rfl (Nat.le_of_ble_eq_true rfl) ?_
  refine WP_seq ?_
  -- R0
  refine WP_seqr [⟨0, 2, []⟩, ⟨1, 2, []⟩] (by kernel_rfl) ?_
  refine ns_box (#[.int .i64 p.key, .int .i64 p.val]) hs rfl rfl rfl rfl ?_
  intro b5 w hs
  refine ns_box (#[.int .i64 q.key, .int .i64 q.val]) hs rfl rfl rfl rfl ?_
  intro b6 w hs
  refine ns_done ?_
  refine WP_seq ?_ -- S1
  refine WP_seq ?_
  -- R1
  refine WP_seqr [⟨0, 0, []⟩, ⟨1, 0, []⟩, ⟨2, 0, []⟩, ⟨3, 1, []⟩, ⟨4, 0, []⟩] (by kernel_rfl) ?_
  refine ns_move rfl rfl ?_
  refine ns_nil rfl rfl rfl ?_
  refine ns_fld fo_87_2 rfl rfl rfl ?_
  refine ns_ldB pl_85 hs rfl rfl rfl (by rfl) ?_
  refine ns_peq true pt_85 rfl rfl rfl rfl rfl ?_
  refine ns_done ?_
  refine WP_true rfl ?_ -- if1
  refine WP_ret ?_
  have hs := hs.fold (bt_nil2 c d b)
  exact ⟨_, res0, hs.out⟩
theorem f61_t (c fl d b vb h rb : Nat) (p : It) (q : It) (most : Int) (acc : List It) (t : Tr) (l : List It) (hg : Good d h t l) (hd2 : d ≤ 1000) (hal : acc.length + l.length < 1000000) : Tri Try.prog 61 #[ptr b, itV p, itV q, seeV vb] (pts b (.cells #[.int .i64 d, .int .i64 l.length, ptr rb, ptr c] 87 (0, 0)) * (Tp c h t rb * (Ctx c fl * VisP vb acc most))) fun _ => BT c d b l * (Ctx c fl * VisP vb (feed most acc (sel (some p) (some q) l)).1 most) := by
  intro w0 F w hs
  simp only [mul_assoc'] at hs
  refine calls_WP 23 #[] Try.func61 rfl Try.ntmps61 rfl (Nat.le_of_ble_eq_true rfl) ?_
  refine WP_seq ?_
  -- R0
  refine WP_seqr [⟨0, 2, []⟩, ⟨1, 2, []⟩] (by kernel_rfl) ?_
  refine ns_box (#[.int .i64 p.key, .int .i64 p.val]) hs rfl rfl rfl rfl ?_
  intro b5 w hs
  refine ns_box (#[.int .i64 q.key, .int .i64 q.val]) hs rfl rfl rfl rfl ?_
  intro b6 w hs
  refine ns_done ?_
  refine WP_seq ?_ -- S1
  refine WP_seq ?_
  -- R1
  refine WP_seqr [⟨0, 0, []⟩, ⟨1, 0, []⟩, ⟨2, 0, []⟩, ⟨3, 1, []⟩, ⟨4, 0, []⟩] (by kernel_rfl) ?_
  refine ns_move rfl rfl ?_
  refine ns_nil rfl rfl rfl ?_
  refine ns_fld fo_87_2 rfl rfl rfl ?_
  refine ns_ldB pl_85 hs rfl rfl rfl (by rfl) ?_
  refine ns_peq false pt_85 rfl rfl rfl rfl (by simp [cmpP]) ?_
  refine ns_done ?_
  refine WP_false rfl ?_ -- if1
  refine WP_skip ?_
  -- R2
  refine WP_net hs mix [0, 1, 3, 7, 0, 16, 0, 112, 0, 511] [⟨0, 0, []⟩, ⟨1, 0, []⟩, ⟨2, 0, []⟩, ⟨3, 1, []⟩, ⟨4, 1, []⟩, ⟨6, 1, []⟩, ⟨8, 0, []⟩, ⟨5, 2, [3, 6]⟩, ⟨7, 2, [3]⟩, ⟨9, 2, []⟩] (by kernel_rfl) ?_
  intro w hs
  refine ns_move rfl rfl ?_
  refine ns_nil rfl rfl rfl ?_
  refine ns_fld fo_87_2 rfl rfl rfl ?_
  refine ns_ldB pl_85 hs rfl rfl rfl (by rfl) ?_
  refine ns_ldAB [.int .i64 p.key, .int .i64 p.val] ag_45 hs rfl rfl rfl (by rfl) (by rfl) (by decide) ?_
  refine ns_ldAB [.int .i64 q.key, .int .i64 q.val] ag_45 hs rfl rfl rfl (by rfl) (by rfl) (by decide) ?_
  refine ns_move rfl rfl ?_
  refine ns_callK (f78_ok p) ck_78 (hs.foc 1) rfl rfl rfl rfl ?_
  refine fun v18 w hs => ?_
  replace hs := hs.pure
  obtain ⟨rfl, hs⟩ := hs
  refine ⟨⟨hs.c b 2, St.cells (n := 2) (b := b6) (o := 0) hs (by rfl), trivial⟩, ?_⟩
  refine ns_callK (f78_ok q) ck_78 (hs.foc 1) rfl rfl rfl rfl ?_
  refine fun v20 w hs => ?_
  replace hs := hs.pure
  obtain ⟨rfl, hs⟩ := hs
  refine ⟨⟨hs.c b 2, trivial⟩, ?_⟩
  refine ns_call (f76a_ok c fl (d - 1) (2 * d - 1) vb most (some p) (some q) true (by omega) (by simp) h rb t false acc hg.1 hg.2.1 (by rw [hg.2.2.1]; exact hg.2.2.2.1) (by rw [hg.2.2.1]; exact hal)) ck_76 (hs.foc (Tp c h t rb * (Ctx c fl * VisP vb acc most))) rfl rfl rfl rfl ?_
  intro v22 w hs
  unfold ItP at hs
  replace hs := hs.ex
  obtain ⟨⟨hit2, ok2, acc2⟩, hs⟩ := hs
  replace hs := hs.pu
  obtain ⟨⟨rfl, q1⟩, hs⟩ := hs
  rw [hg.2.2.1] at q1
  obtain rfl : acc2 = (feed most acc (sel (some p) (some q) l)).1 := q1.1
  simp only [mul_assoc'] at hs
  refine ns_done ?_
  have hs := hs.fold (bt_tree (c := c) (b := b) (rb := rb) (n := l.length) hg rfl)
  exact ⟨_, res0, hs.out⟩
theorem f61_ok (c fl d b vb : Nat) (p : It) (q : It) (most : Int) (acc : List It) (l : List It) (hd2 : d ≤ 1000) (hal : acc.length + l.length < 1000000) : Tri Try.prog 61 #[ptr b, itV p, itV q, seeV vb] (BT c d b l * (Ctx c fl * VisP vb acc most)) fun _ => BT c d b l * (Ctx c fl * VisP vb (feed most acc (sel (some p) (some q) l)).1 most) := by
  intro w0 F w hs
  rw [mul_assoc'] at hs
  replace hs := St.bt hs
  rcases hs with ⟨rfl, hs⟩ | ⟨h, t, rb, hg, hs⟩
  · exact f61_n c fl d b vb p q most acc w0 F w (hs.eq (by ac_rfl))
  · exact f61_t c fl d b vb h rb p q most acc t l hg hd2 hal w0 F w (hs.eq (by ac_rfl))
theorem f62_n (c fl d b vb : Nat) (most : Int) (acc : List It) : Tri Try.prog 62 #[ptr b, seeV vb] (BtN c d b * (Ctx c fl * VisP vb acc most)) fun _ => BT c d b [] * (Ctx c fl * VisP vb acc most) := by
  intro w0 F w hs
  unfold BtN at hs
  simp only [mul_assoc'] at hs
  refine calls_WP 17 #[] Try.func62 rfl Try.ntmps62 rfl (Nat.le_of_ble_eq_true rfl) ?_
  refine WP_seq ?_ -- S1
  refine WP_seq ?_
  -- R0
  refine WP_seqr [⟨0, 0, []⟩, ⟨1, 0, []⟩, ⟨2, 0, []⟩, ⟨3, 1, []⟩, ⟨4, 0, []⟩] (by kernel_rfl) ?_
  refine ns_move rfl rfl ?_
  refine ns_nil rfl rfl rfl ?_
  refine ns_fld fo_87_2 rfl rfl rfl ?_
  refine ns_ldB pl_85 hs rfl rfl rfl (by rfl) ?_
  refine ns_peq true pt_85 rfl rfl rfl rfl rfl ?_
  refine ns_done ?_
  refine WP_true rfl ?_ -- if1
  refine WP_ret ?_
  have hs := hs.fold (bt_nil2 c d b)
  exact ⟨_, res0, hs.out⟩
theorem f62_t (c fl d b vb h rb : Nat) (most : Int) (acc : List It) (t : Tr) (l : List It) (hg : Good d h t l) (hd2 : d ≤ 1000) (hal : acc.length + l.length < 1000000) : Tri Try.prog 62 #[ptr b, seeV vb] (pts b (.cells #[.int .i64 d, .int .i64 l.length, ptr rb, ptr c] 87 (0, 0)) * (Tp c h t rb * (Ctx c fl * VisP vb acc most))) fun _ => BT c d b l * (Ctx c fl * VisP vb (feed most acc (selD none none l.reverse)).1 most) := by
  intro w0 F w hs
  simp only [mul_assoc'] at hs
  refine calls_WP 17 #[] Try.func62 rfl Try.ntmps62 rfl (Nat.le_of_ble_eq_true rfl) ?_
  refine WP_seq ?_ -- S1
  refine WP_seq ?_
  -- R0
  refine WP_seqr [⟨0, 0, []⟩, ⟨1, 0, []⟩, ⟨2, 0, []⟩, ⟨3, 1, []⟩, ⟨4, 0, []⟩] (by kernel_rfl) ?_
  refine ns_move rfl rfl ?_
  refine ns_nil rfl rfl rfl ?_
  refine ns_fld fo_87_2 rfl rfl rfl ?_
  refine ns_ldB pl_85 hs rfl rfl rfl (by rfl) ?_
  refine ns_peq false pt_85 rfl rfl rfl rfl (by simp [cmpP]) ?_
  refine ns_done ?_
  refine WP_false rfl ?_ -- if1
  refine WP_skip ?_
  -- R1
  refine WP_net hs mix [0, 1, 3, 7, 0, 16, 0, 127] [⟨0, 0, []⟩, ⟨1, 0, []⟩, ⟨2, 0, []⟩, ⟨3, 1, []⟩, ⟨6, 0, []⟩, ⟨4, 2, [3]⟩, ⟨5, 2, [3]⟩, ⟨7, 2, []⟩] (by kernel_rfl) ?_
  intro w hs
  refine ns_move rfl rfl ?_
  refine ns_nil rfl rfl rfl ?_
  refine ns_fld fo_87_2 rfl rfl rfl ?_
  refine ns_ldB pl_85 hs rfl rfl rfl (by rfl) ?_
  refine ns_move rfl rfl ?_
  refine ns_callK f77_ok ck_77 (hs.foc 1) rfl rfl rfl rfl ?_
  refine fun v13 w hs => ?_
  replace hs := hs.pure
  obtain ⟨rfl, hs⟩ := hs
  refine ⟨⟨hs.c b 2, trivial⟩, ?_⟩
  refine ns_callK f77_ok ck_77 (hs.foc 1) rfl rfl rfl rfl ?_
  refine fun v14 w hs => ?_
  replace hs := hs.pure
  obtain ⟨rfl, hs⟩ := hs
  refine ⟨⟨hs.c b 2, trivial⟩, ?_⟩
  refine ns_call (f76d_ok c fl (d - 1) (2 * d - 1) vb most none none false (by omega) (by simp) h rb t false acc hg.1 hg.2.1 (by rw [hg.2.2.1]; exact hg.2.2.2.1) (by rw [hg.2.2.1]; exact hal) (fun e => by cases e)) ck_76 (hs.foc (Tp c h t rb * (Ctx c fl * VisP vb acc most))) rfl rfl rfl rfl ?_
  intro v16 w hs
  unfold ItQ at hs
  replace hs := hs.ex
  obtain ⟨⟨hit2, ok2, acc2⟩, hs⟩ := hs
  replace hs := hs.pu
  obtain ⟨⟨rfl, q1⟩, hs⟩ := hs
  rw [hg.2.2.1] at q1
  obtain rfl : acc2 = (feed most acc (selD none none l.reverse)).1 := q1.1
  simp only [mul_assoc'] at hs
  refine ns_done ?_
  have hs := hs.fold (bt_tree (c := c) (b := b) (rb := rb) (n := l.length) hg rfl)
  exact ⟨_, res0, hs.out⟩
theorem f62_ok (c fl d b vb : Nat) (most : Int) (acc : List It) (l : List It) (hd2 : d ≤ 1000) (hal : acc.length + l.length < 1000000) : Tri Try.prog 62 #[ptr b, seeV vb] (BT c d b l * (Ctx c fl * VisP vb acc most)) fun _ => BT c d b l * (Ctx c fl * VisP vb (feed most acc (selD none none l.reverse)).1 most) := by
  intro w0 F w hs
  rw [mul_assoc'] at hs
  replace hs := St.bt hs
  rcases hs with ⟨rfl, hs⟩ | ⟨h, t, rb, hg, hs⟩
  · exact f62_n c fl d b vb most acc w0 F w (hs.eq (by ac_rfl))
  · exact f62_t c fl d b vb h rb most acc t l hg hd2 hal w0 F w (hs.eq (by ac_rfl))
theorem f63_n (c fl d b vb : Nat) (p : It) (most : Int) (acc : List It) : Tri Try.prog 63 #[ptr b, itV p, seeV vb] (BtN c d b * (Ctx c fl * VisP vb acc most)) fun _ => BT c d b [] * (Ctx c fl * VisP vb acc most) := by
  intro w0 F w hs
  unfold BtN at hs
  simp only [mul_assoc'] at hs
  refine calls_WP 20 #[] Try.func63 rfl Try.ntmps63 rfl (Nat.le_of_ble_eq_true rfl) ?_
  refine WP_seq ?_
  -- R0
  refine WP_seqr [⟨0, 2, []⟩] (by kernel_rfl) ?_
  refine ns_box (#[.int .i64 p.key, .int .i64 p.val]) hs rfl rfl rfl rfl ?_
  intro b4 w hs
  refine ns_done ?_
  refine WP_seq ?_ -- S1
  refine WP_seq ?_
  -- R1
  refine WP_seqr [⟨0, 0, []⟩, ⟨1, 0, []⟩, ⟨2, 0, []⟩, ⟨3, 1, []⟩, ⟨4, 0, []⟩] (by kernel_rfl) ?_
  refine ns_move rfl rfl ?_
  refine ns_nil rfl rfl rfl ?_
  refine ns_fld fo_87_2 rfl rfl rfl ?_
  refine ns_ldB pl_85 hs rfl rfl rfl (by rfl) ?_
  refine ns_peq true pt_85 rfl rfl rfl rfl rfl ?_
  refine ns_done ?_
  refine WP_true rfl ?_ -- if1
  refine WP_ret ?_
  have hs := hs.fold (bt_nil2 c d b)
  exact ⟨_, res0, hs.out⟩
theorem f63_t (c fl d b vb h rb : Nat) (p : It) (most : Int) (acc : List It) (t : Tr) (l : List It) (hg : Good d h t l) (hd2 : d ≤ 1000) (hal : acc.length + l.length < 1000000) : Tri Try.prog 63 #[ptr b, itV p, seeV vb] (pts b (.cells #[.int .i64 d, .int .i64 l.length, ptr rb, ptr c] 87 (0, 0)) * (Tp c h t rb * (Ctx c fl * VisP vb acc most))) fun _ => BT c d b l * (Ctx c fl * VisP vb (feed most acc (selD (some p) none l.reverse)).1 most) := by
  intro w0 F w hs
  simp only [mul_assoc'] at hs
  refine calls_WP 20 #[] Try.func63 rfl Try.ntmps63 rfl (Nat.le_of_ble_eq_true rfl) ?_
  refine WP_seq ?_
  -- R0
  refine WP_seqr [⟨0, 2, []⟩] (by kernel_rfl) ?_
  refine ns_box (#[.int .i64 p.key, .int .i64 p.val]) hs rfl rfl rfl rfl ?_
  intro b4 w hs
  refine ns_done ?_
  refine WP_seq ?_ -- S1
  refine WP_seq ?_
  -- R1
  refine WP_seqr [⟨0, 0, []⟩, ⟨1, 0, []⟩, ⟨2, 0, []⟩, ⟨3, 1, []⟩, ⟨4, 0, []⟩] (by kernel_rfl) ?_
  refine ns_move rfl rfl ?_
  refine ns_nil rfl rfl rfl ?_
  refine ns_fld fo_87_2 rfl rfl rfl ?_
  refine ns_ldB pl_85 hs rfl rfl rfl (by rfl) ?_
  refine ns_peq false pt_85 rfl rfl rfl rfl (by simp [cmpP]) ?_
  refine ns_done ?_
  refine WP_false rfl ?_ -- if1
  refine WP_skip ?_
  -- R2
  refine WP_net hs mix [0, 1, 3, 7, 0, 16, 48, 0, 255] [⟨0, 0, []⟩, ⟨1, 0, []⟩, ⟨2, 0, []⟩, ⟨3, 1, []⟩, ⟨4, 1, []⟩, ⟨7, 0, []⟩, ⟨5, 2, [3]⟩, ⟨6, 2, [3]⟩, ⟨8, 2, []⟩] (by kernel_rfl) ?_
  intro w hs
  refine ns_move rfl rfl ?_
  refine ns_nil rfl rfl rfl ?_
  refine ns_fld fo_87_2 rfl rfl rfl ?_
  refine ns_ldB pl_85 hs rfl rfl rfl (by rfl) ?_
  refine ns_ldAB [.int .i64 p.key, .int .i64 p.val] ag_45 hs rfl rfl rfl (by rfl) (by rfl) (by decide) ?_
  refine ns_move rfl rfl ?_
  refine ns_callK (f78_ok p) ck_78 (hs.foc 1) rfl rfl rfl rfl ?_
  refine fun v16 w hs => ?_
  replace hs := hs.pure
  obtain ⟨rfl, hs⟩ := hs
  refine ⟨⟨hs.c b 2, trivial⟩, ?_⟩
  refine ns_callK f77_ok ck_77 (hs.foc 1) rfl rfl rfl rfl ?_
  refine fun v17 w hs => ?_
  replace hs := hs.pure
  obtain ⟨rfl, hs⟩ := hs
  refine ⟨⟨hs.c b 2, trivial⟩, ?_⟩
  refine ns_call (f76d_ok c fl (d - 1) (2 * d - 1) vb most (some p) none true (by omega) (by simp) h rb t false acc hg.1 hg.2.1 (by rw [hg.2.2.1]; exact hg.2.2.2.1) (by rw [hg.2.2.1]; exact hal) (fun e => by cases e)) ck_76 (hs.foc (Tp c h t rb * (Ctx c fl * VisP vb acc most))) rfl rfl rfl rfl ?_
  intro v19 w hs
  unfold ItQ at hs
  replace hs := hs.ex
  obtain ⟨⟨hit2, ok2, acc2⟩, hs⟩ := hs
  replace hs := hs.pu
  obtain ⟨⟨rfl, q1⟩, hs⟩ := hs
  rw [hg.2.2.1] at q1
  obtain rfl : acc2 = (feed most acc (selD (some p) none l.reverse)).1 := q1.1
  simp only [mul_assoc'] at hs
  refine ns_done ?_
  have hs := hs.fold (bt_tree (c := c) (b := b) (rb := rb) (n := l.length) hg rfl)
  exact ⟨_, res0, hs.out⟩
theorem f63_ok (c fl d b vb : Nat) (p : It) (most : Int) (acc : List It) (l : List It) (hd2 : d ≤ 1000) (hal : acc.length + l.length < 1000000) : Tri Try.prog 63 #[ptr b, itV p, seeV vb] (BT c d b l * (Ctx c fl * VisP vb acc most)) fun _ => BT c d b l * (Ctx c fl * VisP vb (feed most acc (selD (some p) none l.reverse)).1 most) := by
  intro w0 F w hs
  rw [mul_assoc'] at hs
  replace hs := St.bt hs
  rcases hs with ⟨rfl, hs⟩ | ⟨h, t, rb, hg, hs⟩
  · exact f63_n c fl d b vb p most acc w0 F w (hs.eq (by ac_rfl))
  · exact f63_t c fl d b vb h rb p most acc t l hg hd2 hal w0 F w (hs.eq (by ac_rfl))
theorem f64_n (c fl d b vb : Nat) (p : It) (most : Int) (acc : List It) : Tri Try.prog 64 #[ptr b, itV p, seeV vb] (BtN c d b * (Ctx c fl * VisP vb acc most)) fun _ => BT c d b [] * (Ctx c fl * VisP vb acc most) := by
  intro w0 F w hs
  unfold BtN at hs
  simp only [mul_assoc'] at hs
  refine calls_WP 20 #[] Try.func64 rfl Try.ntmps64 rfl (Nat.le_of_ble_eq_true rfl) ?_
  refine WP_seq ?_
  -- R0
  refine WP_seqr [⟨0, 2, []⟩] (by kernel_rfl) ?_
  refine ns_box (#[.int .i64 p.key, .int .i64 p.val]) hs rfl rfl rfl rfl ?_
  intro b4 w hs
  refine ns_done ?_
  refine WP_seq ?_ -- S1
  refine WP_seq ?_
  -- R1
  refine WP_seqr [⟨0, 0, []⟩, ⟨1, 0, []⟩, ⟨2, 0, []⟩, ⟨3, 1, []⟩, ⟨4, 0, []⟩] (by kernel_rfl) ?_
  refine ns_move rfl rfl ?_
  refine ns_nil rfl rfl rfl ?_
  refine ns_fld fo_87_2 rfl rfl rfl ?_
  refine ns_ldB pl_85 hs rfl rfl rfl (by rfl) ?_
  refine ns_peq true pt_85 rfl rfl rfl rfl rfl ?_
  refine ns_done ?_
  refine WP_true rfl ?_ -- if1
  refine WP_ret ?_
  have hs := hs.fold (bt_nil2 c d b)
  exact ⟨_, res0, hs.out⟩
theorem f64_t (c fl d b vb h rb : Nat) (p : It) (most : Int) (acc : List It) (t : Tr) (l : List It) (hg : Good d h t l) (hd2 : d ≤ 1000) (hal : acc.length + l.length < 1000000) : Tri Try.prog 64 #[ptr b, itV p, seeV vb] (pts b (.cells #[.int .i64 d, .int .i64 l.length, ptr rb, ptr c] 87 (0, 0)) * (Tp c h t rb * (Ctx c fl * VisP vb acc most))) fun _ => BT c d b l * (Ctx c fl * VisP vb (feed most acc (selD none (some p) l.reverse)).1 most) := by
  intro w0 F w hs
  simp only [mul_assoc'] at hs
  refine calls_WP 20 #[] Try.func64 rfl Try.ntmps64 rfl (Nat.le_of_ble_eq_true rfl) ?_
  refine WP_seq ?_
  -- R0
  refine WP_seqr [⟨0, 2, []⟩] (by kernel_rfl) ?_
  refine ns_box (#[.int .i64 p.key, .int .i64 p.val]) hs rfl rfl rfl rfl ?_
  intro b4 w hs
  refine ns_done ?_
  refine WP_seq ?_ -- S1
  refine WP_seq ?_
  -- R1
  refine WP_seqr [⟨0, 0, []⟩, ⟨1, 0, []⟩, ⟨2, 0, []⟩, ⟨3, 1, []⟩, ⟨4, 0, []⟩] (by kernel_rfl) ?_
  refine ns_move rfl rfl ?_
  refine ns_nil rfl rfl rfl ?_
  refine ns_fld fo_87_2 rfl rfl rfl ?_
  refine ns_ldB pl_85 hs rfl rfl rfl (by rfl) ?_
  refine ns_peq false pt_85 rfl rfl rfl rfl (by simp [cmpP]) ?_
  refine ns_done ?_
  refine WP_false rfl ?_ -- if1
  refine WP_skip ?_
  -- R2
  refine WP_net hs mix [0, 1, 3, 7, 0, 0, 48, 0, 255] [⟨0, 0, []⟩, ⟨1, 0, []⟩, ⟨2, 0, []⟩, ⟨3, 1, []⟩, ⟨5, 1, []⟩, ⟨7, 0, []⟩, ⟨4, 2, [3, 5]⟩, ⟨6, 2, [3]⟩, ⟨8, 2, []⟩] (by kernel_rfl) ?_
  intro w hs
  refine ns_move rfl rfl ?_
  refine ns_nil rfl rfl rfl ?_
  refine ns_fld fo_87_2 rfl rfl rfl ?_
  refine ns_ldB pl_85 hs rfl rfl rfl (by rfl) ?_
  refine ns_ldAB [.int .i64 p.key, .int .i64 p.val] ag_45 hs rfl rfl rfl (by rfl) (by rfl) (by decide) ?_
  refine ns_move rfl rfl ?_
  refine ns_callK f77_ok ck_77 (hs.foc 1) rfl rfl rfl rfl ?_
  refine fun v15 w hs => ?_
  replace hs := hs.pure
  obtain ⟨rfl, hs⟩ := hs
  refine ⟨⟨hs.c b 2, St.cells (n := 2) (b := b4) (o := 0) hs (by rfl), trivial⟩, ?_⟩
  refine ns_callK (f78_ok p) ck_78 (hs.foc 1) rfl rfl rfl rfl ?_
  refine fun v17 w hs => ?_
  replace hs := hs.pure
  obtain ⟨rfl, hs⟩ := hs
  refine ⟨⟨hs.c b 2, trivial⟩, ?_⟩
  refine ns_call (f76d_ok c fl (d - 1) (2 * d - 1) vb most none (some p) false (by omega) (by simp) h rb t false acc hg.1 hg.2.1 (by rw [hg.2.2.1]; exact hg.2.2.2.1) (by rw [hg.2.2.1]; exact hal) (fun e => by cases e)) ck_76 (hs.foc (Tp c h t rb * (Ctx c fl * VisP vb acc most))) rfl rfl rfl rfl ?_
  intro v19 w hs
  unfold ItQ at hs
  replace hs := hs.ex
  obtain ⟨⟨hit2, ok2, acc2⟩, hs⟩ := hs
  replace hs := hs.pu
  obtain ⟨⟨rfl, q1⟩, hs⟩ := hs
  rw [hg.2.2.1] at q1
  obtain rfl : acc2 = (feed most acc (selD none (some p) l.reverse)).1 := q1.1
  simp only [mul_assoc'] at hs
  refine ns_done ?_
  have hs := hs.fold (bt_tree (c := c) (b := b) (rb := rb) (n := l.length) hg rfl)
  exact ⟨_, res0, hs.out⟩
theorem f64_ok (c fl d b vb : Nat) (p : It) (most : Int) (acc : List It) (l : List It) (hd2 : d ≤ 1000) (hal : acc.length + l.length < 1000000) : Tri Try.prog 64 #[ptr b, itV p, seeV vb] (BT c d b l * (Ctx c fl * VisP vb acc most)) fun _ => BT c d b l * (Ctx c fl * VisP vb (feed most acc (selD none (some p) l.reverse)).1 most) := by
  intro w0 F w hs
  rw [mul_assoc'] at hs
  replace hs := St.bt hs
  rcases hs with ⟨rfl, hs⟩ | ⟨h, t, rb, hg, hs⟩
  · exact f64_n c fl d b vb p most acc w0 F w (hs.eq (by ac_rfl))
  · exact f64_t c fl d b vb h rb p most acc t l hg hd2 hal w0 F w (hs.eq (by ac_rfl))
theorem f65_n (c fl d b vb : Nat) (p : It) (q : It) (most : Int) (acc : List It) : Tri Try.prog 65 #[ptr b, itV p, itV q, seeV vb] (BtN c d b * (Ctx c fl * VisP vb acc most)) fun _ => BT c d b [] * (Ctx c fl * VisP vb acc most) := by
  intro w0 F w hs
  unfold BtN at hs
  simp only [mul_assoc'] at hs
  refine calls_WP 23 #[] Try.func65 rfl Try.ntmps65 rfl (Nat.le_of_ble_eq_true rfl) ?_
  refine WP_seq ?_
  -- R0
  refine WP_seqr [⟨0, 2, []⟩, ⟨1, 2, []⟩] (by kernel_rfl) ?_
  refine ns_box (#[.int .i64 p.key, .int .i64 p.val]) hs rfl rfl rfl rfl ?_
  intro b5 w hs
  refine ns_box (#[.int .i64 q.key, .int .i64 q.val]) hs rfl rfl rfl rfl ?_
  intro b6 w hs
  refine ns_done ?_
  refine WP_seq ?_ -- S1
  refine WP_seq ?_
  -- R1
  refine WP_seqr [⟨0, 0, []⟩, ⟨1, 0, []⟩, ⟨2, 0, []⟩, ⟨3, 1, []⟩, ⟨4, 0, []⟩] (by kernel_rfl) ?_
  refine ns_move rfl rfl ?_
  refine ns_nil rfl rfl rfl ?_
  refine ns_fld fo_87_2 rfl rfl rfl ?_
  refine ns_ldB pl_85 hs rfl rfl rfl (by rfl) ?_
  refine ns_peq true pt_85 rfl rfl rfl rfl rfl ?_
  refine ns_done ?_
  refine WP_true rfl ?_ -- if1
  refine WP_ret ?_
  have hs := hs.fold (bt_nil2 c d b)
  exact ⟨_, res0, hs.out⟩
theorem f65_t (c fl d b vb h rb : Nat) (p : It) (q : It) (most : Int) (acc : List It) (t : Tr) (l : List It) (hg : Good d h t l) (hd2 : d ≤ 1000) (hal : acc.length + l.length < 1000000) : Tri Try.prog 65 #[ptr b, itV p, itV q, seeV vb] (pts b (.cells #[.int .i64 d, .int .i64 l.length, ptr rb, ptr c] 87 (0, 0)) * (Tp c h t rb * (Ctx c fl * VisP vb acc most))) fun _ => BT c d b l * (Ctx c fl * VisP vb (feed most acc (selD (some p) (some q) l.reverse)).1 most) := by
  intro w0 F w hs
  simp only [mul_assoc'] at hs
  refine calls_WP 23 #[] Try.func65 rfl Try.ntmps65 rfl (Nat.le_of_ble_eq_true rfl) ?_
  refine WP_seq ?_
  -- R0
  refine WP_seqr [⟨0, 2, []⟩, ⟨1, 2, []⟩] (by kernel_rfl) ?_
  refine ns_box (#[.int .i64 p.key, .int .i64 p.val]) hs rfl rfl rfl rfl ?_
  intro b5 w hs
  refine ns_box (#[.int .i64 q.key, .int .i64 q.val]) hs rfl rfl rfl rfl ?_
  intro b6 w hs
  refine ns_done ?_
  refine WP_seq ?_ -- S1
  refine WP_seq ?_
  -- R1
  refine WP_seqr [⟨0, 0, []⟩, ⟨1, 0, []⟩, ⟨2, 0, []⟩, ⟨3, 1, []⟩, ⟨4, 0, []⟩] (by kernel_rfl) ?_
  refine ns_move rfl rfl ?_
  refine ns_nil rfl rfl rfl ?_
  refine ns_fld fo_87_2 rfl rfl rfl ?_
  refine ns_ldB pl_85 hs rfl rfl rfl (by rfl) ?_
  refine ns_peq false pt_85 rfl rfl rfl rfl (by simp [cmpP]) ?_
  refine ns_done ?_
  refine WP_false rfl ?_ -- if1
  refine WP_skip ?_
  -- R2
  refine WP_net hs mix [0, 1, 3, 7, 0, 16, 0, 112, 0, 511] [⟨0, 0, []⟩, ⟨1, 0, []⟩, ⟨2, 0, []⟩, ⟨3, 1, []⟩, ⟨4, 1, []⟩, ⟨6, 1, []⟩, ⟨8, 0, []⟩, ⟨5, 2, [3, 6]⟩, ⟨7, 2, [3]⟩, ⟨9, 2, []⟩] (by kernel_rfl) ?_
  intro w hs
  refine ns_move rfl rfl ?_
  refine ns_nil rfl rfl rfl ?_
  refine ns_fld fo_87_2 rfl rfl rfl ?_
  refine ns_ldB pl_85 hs rfl rfl rfl (by rfl) ?_
  refine ns_ldAB [.int .i64 p.key, .int .i64 p.val] ag_45 hs rfl rfl rfl (by rfl) (by rfl) (by decide) ?_
  refine ns_ldAB [.int .i64 q.key, .int .i64 q.val] ag_45 hs rfl rfl rfl (by rfl) (by rfl) (by decide) ?_
  refine ns_move rfl rfl ?_
  refine ns_callK (f78_ok p) ck_78 (hs.foc 1) rfl rfl rfl rfl ?_
  refine fun v18 w hs => ?_
  replace hs := hs.pure
  obtain ⟨rfl, hs⟩ := hs
  refine ⟨⟨hs.c b 2, St.cells (n := 2) (b := b6) (o := 0) hs (by rfl), trivial⟩, ?_⟩
  refine ns_callK (f78_ok q) ck_78 (hs.foc 1) rfl rfl rfl rfl ?_
  refine fun v20 w hs => ?_
  replace hs := hs.pure
  obtain ⟨rfl, hs⟩ := hs
  refine ⟨⟨hs.c b 2, trivial⟩, ?_⟩
  refine ns_call (f76d_ok c fl (d - 1) (2 * d - 1) vb most (some p) (some q) true (by omega) (by simp) h rb t false acc hg.1 hg.2.1 (by rw [hg.2.2.1]; exact hg.2.2.2.1) (by rw [hg.2.2.1]; exact hal) (fun e => by cases e)) ck_76 (hs.foc (Tp c h t rb * (Ctx c fl * VisP vb acc most))) rfl rfl rfl rfl ?_
  intro v22 w hs
  unfold ItQ at hs
  replace hs := hs.ex
  obtain ⟨⟨hit2, ok2, acc2⟩, hs⟩ := hs
  replace hs := hs.pu
  obtain ⟨⟨rfl, q1⟩, hs⟩ := hs
  rw [hg.2.2.1] at q1
  obtain rfl : acc2 = (feed most acc (selD (some p) (some q) l.reverse)).1 := q1.1
  simp only [mul_assoc'] at hs
  refine ns_done ?_
  have hs := hs.fold (bt_tree (c := c) (b := b) (rb := rb) (n := l.length) hg rfl)
  exact ⟨_, res0, hs.out⟩
theorem f65_ok (c fl d b vb : Nat) (p : It) (q : It) (most : Int) (acc : List It) (l : List It) (hd2 : d ≤ 1000) (hal : acc.length + l.length < 1000000) : Tri Try.prog 65 #[ptr b, itV p, itV q, seeV vb] (BT c d b l * (Ctx c fl * VisP vb acc most)) fun _ => BT c d b l * (Ctx c fl * VisP vb (feed most acc (selD (some p) (some q) l.reverse)).1 most) := by
  intro w0 F w hs
  rw [mul_assoc'] at hs
  replace hs := St.bt hs
  rcases hs with ⟨rfl, hs⟩ | ⟨h, t, rb, hg, hs⟩
  · exact f65_n c fl d b vb p q most acc w0 F w (hs.eq (by ac_rfl))
  · exact f65_t c fl d b vb h rb p q most acc t l hg hd2 hal w0 F w (hs.eq (by ac_rfl))
end Go.Proofs.Ytnnembkganlbpaa
