/- The walks of making: a free list, a tree; and the optional items. -/
import Derived.Test.YtnnembkganlbpaaW13
import Derived.Test.YtnnembkganlbpaaRo
namespace Go.Proofs.Ytnnembkganlbpaa
open Go Go.Sl Go.Net Go.Wk Go.Bt Go.RowKit

theorem zc_81 : zeroC Try.prog 81 = some #[.int .i32 0, .int .u32 0, .slice none 0 0] := by kernel_rfl
theorem pp_81 : placesOf Try.prog 81 = some [(0, 2), (2, 1)] := by kernel_rfl
theorem pp_84 : placesOf Try.prog 84 = some [(0, 1), (1, 1)] := by kernel_rfl
theorem pp_87 : placesOf Try.prog 87 = some [(0, 1), (1, 1), (2, 1), (3, 1)] := by kernel_rfl
theorem pp_116 : placesOf Try.prog 116 = some [(0, 2), (2, 1)] := by kernel_rfl
theorem fl_fold0 (fl : Nat) (v : Value) : Ent (pts fl (.cells #[.int .i32 0, .int .u32 0, v] 81 (0, 0)) * PArr v []) (FLP fl) := by
  have := fl_fold fl v []
  rw [List.map_nil, stars_nil, mul_one'] at this
  exact this
theorem f43_ok : Tri Try.prog 43 #[.int .i64 32] 1 fun v => ex fun fl => pu (v = ptr fl) * FLP fl := by
  intro w0 F w hs
  rw [one_mul'] at hs
  refine calls_WP 7 #[.tmp 2] Try.func43 rfl Try.ntmps43 rfl (Nat.le_of_ble_eq_true rfl) ?_
  refine WP_seq ?_
  -- R0
  refine WP_seqr [⟨0, 0, []⟩] (by kernel_rfl) ?_
  refine ns_asg rfl rfl ?_
  refine ns_done ?_
  refine WP_seq ?_
  -- R1
  refine WP_seqr [⟨0, 0, []⟩, ⟨1, 2, []⟩, ⟨2, 0, []⟩, ⟨3, 2, []⟩, ⟨4, 0, []⟩] (by kernel_rfl) ?_
  refine ns_move rfl rfl ?_
  refine ns_make0 (n := 32) sl_72 zr_85 by_85 (by decide) (by decide) (by decide) hs rfl rfl rfl rfl (by decide) ?_
  refine fun b4 cs4 w hcs4 hs hx => ⟨trivial, ?_⟩
  refine ns_build [(1, .slice (some ⟨b4, 0, none⟩) 0 32)] (#[.int .i32 0, .int .u32 0, .slice (some ⟨b4, 0, none⟩) 0 32]) pp_81 zc_81 rfl rfl rfl rfl ?_
  refine ns_box (#[.int .i32 0, .int .u32 0, .slice (some ⟨b4, 0, none⟩) 0 32]) hs rfl rfl rfl rfl ?_
  intro b6 w hs
  refine ns_asg rfl rfl ?_
  refine ns_done ?_
  refine WP_ret ?_
  have hs := (hs.foc (pts b4 (.cells cs4 85 (0, 0)))).mk_arr' (n := 0) (cap := 32) (sz := 1) (xs := []) (by decide) (by decide) hcs4 (by simp)
  have hs := hs.up (Ent.of_eq (PArr_eq (l := []) rfl rfl))
  have hs := hs.fold (fl_fold0 b6 (.slice (some ⟨b4, 0, none⟩) 0 32))
  exact ⟨_, res1 _, St.mk_ex b6 (St.mk_pu rfl hs)⟩
theorem f44_ok (fl d : Nat) (hd : 2 ≤ d) : Tri Try.prog 44 #[.int .i64 d, lessV, ptr fl] (FLP fl) fun v => ex fun p : Nat × Nat => pu (v = ptr p.1) * (BT p.2 d p.1 [] * Ctx p.2 fl) := by
  intro w0 F w hs
  refine calls_WP 17 #[.tmp 6] Try.func44 rfl Try.ntmps44 rfl (Nat.le_of_ble_eq_true rfl) ?_
  refine WP_seq ?_
  -- R0
  refine WP_seqr [⟨0, 0, []⟩] (by kernel_rfl) ?_
  refine ns_asg rfl rfl ?_
  refine ns_done ?_
  refine WP_seq ?_ -- S1
  refine WP_seq ?_
  -- R1
  refine WP_seqr [⟨0, 0, []⟩, ⟨1, 0, []⟩] (by kernel_rfl) ?_
  refine ns_move rfl rfl ?_
  refine ns_cmp false rfl rfl rfl rfl (by simp [cmpI]; omega) ?_
  refine ns_done ?_
  refine WP_false rfl ?_ -- if1
  refine WP_skip ?_
  refine WP_seq ?_
  -- R3
  refine WP_seqr [⟨0, 0, []⟩, ⟨1, 0, []⟩, ⟨2, 0, []⟩, ⟨3, 0, []⟩, ⟨4, 2, []⟩, ⟨5, 0, []⟩, ⟨6, 2, []⟩, ⟨7, 0, []⟩] (by kernel_rfl) ?_
  refine ns_move rfl rfl ?_
  refine ns_move rfl rfl ?_
  refine ns_move rfl rfl ?_
  refine ns_build [(0, ptr fl), (1, lessV)] (#[ptr fl, lessV]) pp_84 zc_84 rfl rfl rfl rfl ?_
  refine ns_box (#[ptr fl, lessV]) hs rfl rfl rfl rfl ?_
  intro b14 w hs
  refine ns_build [(0, .int .i64 d), (3, ptr b14)] (#[.int .i64 d, .int .i64 0, .pointer none, ptr b14]) pp_87 zc_87 rfl rfl rfl rfl ?_
  refine ns_box (#[.int .i64 d, .int .i64 0, .pointer none, ptr b14]) hs rfl rfl rfl rfl ?_
  intro b16 w hs
  refine ns_asg rfl rfl ?_
  refine ns_done ?_
  refine WP_ret ?_
  have hs := hs.fold (bt_nil2 b14 d b16)
  have hs := hs.fold (ctx_fold b14 fl)
  exact ⟨_, res1 _, St.mk_ex (b16, b14) (St.mk_pu rfl hs.out)⟩
theorem f39_ok (d : Nat) (hd : 2 ≤ d) : Tri Try.prog 39 #[.int .i64 d, lessV] 1 fun v => ex fun p : Nat × Nat × Nat => pu (v = ptr p.1) * (BT p.2.1 d p.1 [] * Ctx p.2.1 p.2.2) := by
  intro w0 F w hs
  refine calls_WP 9 #[.tmp 4] Try.func39 rfl Try.ntmps39 rfl (Nat.le_of_ble_eq_true rfl) ?_
  refine WP_seq ?_
  -- R0
  refine WP_seqr [⟨0, 0, []⟩] (by kernel_rfl) ?_
  refine ns_asg rfl rfl ?_
  refine ns_done ?_
  refine WP_seq ?_
  -- R1
  refine WP_seqr [⟨0, 0, []⟩, ⟨1, 0, []⟩, ⟨2, 2, []⟩, ⟨3, 2, []⟩, ⟨4, 0, []⟩] (by kernel_rfl) ?_
  refine ns_move rfl rfl ?_
  refine ns_move rfl rfl ?_
  refine ns_call f43_ok ck_43 hs rfl rfl rfl rfl ?_
  intro v7 w hs
  replace hs := hs.ex
  obtain ⟨fl, hs⟩ := hs
  replace hs := hs.pu
  obtain ⟨rfl, hs⟩ := hs
  refine ns_call (f44_ok fl d hd) ck_44 hs rfl rfl rfl rfl ?_
  intro v8 w hs
  replace hs := hs.ex
  obtain ⟨p, hs⟩ := hs
  replace hs := hs.pu
  obtain ⟨rfl, hs⟩ := hs
  refine ns_asg rfl rfl ?_
  refine ns_done ?_
  refine WP_ret ?_
  exact ⟨_, res1 _, St.mk_ex (p.1, p.2, fl) (St.mk_pu rfl hs)⟩
theorem f77_ok : Tri Try.prog 77 #[] 1 fun v => pu (v = .agg #[.int .i64 0, .int .i64 0, .bool false]) := by
  intro w0 F w hs
  rw [one_mul'] at hs
  refine calls_WP 2 #[.cell 0 116] Try.func77 rfl Try.ntmps77 rfl (Nat.le_of_ble_eq_true rfl) ?_
  refine WP_seq ?_
  -- R0
  refine WP_seqr [⟨0, 2, []⟩] (by kernel_rfl) ?_
  refine ns_alloc zc_116 hs rfl rfl ?_
  intro b0 w hs
  refine ns_done ?_
  refine WP_seq ?_
  -- R1
  refine WP_seqr [⟨0, 0, []⟩, ⟨1, 2, []⟩] (by kernel_rfl) ?_
  refine ns_build [] (#[.int .i64 0, .int .i64 0, .bool false]) pp_116 zc_116 rfl rfl rfl rfl ?_
  refine ns_stA (#[.int .i64 0, .int .i64 0, .bool false]) ag_116 rfl (by decide) hs rfl rfl rfl rfl (by intro u hu; simp at hu; rcases hu with rfl | rfl <;> rfl) (by simp) ?_
  refine fun w hs => ⟨trivial, ?_⟩
  refine ns_done ?_
  refine WP_ret ?_
  have hload := run_loadVarA (P := Try.prog) (t := 116) (n := 3) (ad := ⟨b0, 0, none⟩) (vs := [.int .i64 0, .int .i64 0, .bool false]) ag_116 rfl (by decide) w (St.cells (n := 3) hs (by rfl))
  exact ⟨_, resC 0 116 rfl hload, St.mk_pure rfl (hs.out (P := F))⟩
theorem f78_ok (x : It) : Tri Try.prog 78 #[itV x] 1 fun v => pu (v = .agg #[.int .i64 x.key, .int .i64 x.val, .bool true]) := by
  intro w0 F w hs
  rw [one_mul'] at hs
  refine calls_WP 5 #[.cell 2 116] Try.func78 rfl Try.ntmps78 rfl (Nat.le_of_ble_eq_true rfl) ?_
  refine WP_seq ?_
  -- R0
  refine WP_seqr [⟨0, 2, []⟩, ⟨1, 2, []⟩] (by kernel_rfl) ?_
  refine ns_box (#[.int .i64 x.key, .int .i64 x.val]) hs rfl rfl rfl rfl ?_
  intro b1 w hs
  refine ns_alloc zc_116 hs rfl rfl ?_
  intro b2 w hs
  refine ns_done ?_
  refine WP_seq ?_
  -- R1
  refine WP_seqr [⟨0, 1, []⟩, ⟨1, 0, []⟩, ⟨2, 2, []⟩] (by kernel_rfl) ?_
  refine ns_ldAB [.int .i64 x.key, .int .i64 x.val] ag_45 hs rfl rfl rfl (by rfl) (by rfl) (by decide) ?_
  refine ns_build [(0, itV x), (1, .bool true)] (#[.int .i64 x.key, .int .i64 x.val, .bool true]) pp_116 zc_116 rfl rfl rfl rfl ?_
  refine ns_stA (#[.int .i64 x.key, .int .i64 x.val, .bool true]) ag_116 rfl (by decide) hs rfl rfl rfl rfl (by intro u hu; simp at hu; rcases hu with rfl | rfl | rfl <;> rfl) (by simp) ?_
  refine fun w hs => ⟨trivial, ?_⟩
  refine ns_done ?_
  refine WP_ret ?_
  have hload := run_loadVarA (P := Try.prog) (t := 116) (n := 3) (ad := ⟨b2, 0, none⟩) (vs := [.int .i64 x.key, .int .i64 x.val, .bool true]) ag_116 rfl (by decide) w (St.cells (n := 3) hs (by rfl))
  exact ⟨_, resC 2 116 rfl hload, St.mk_pure rfl (hs.out (P := F))⟩
end Go.Proofs.Ytnnembkganlbpaa
