/- The walk of one answer about one item. -/
import Derived.Test.YtnnembkganlbpaaW15
import Derived.Test.YtnnembkganlbpaaTf
namespace Go.Proofs.Ytnnembkganlbpaa
open Go Go.Sl Go.Net Go.Wk Go.Bt Go.RowKit

theorem pp_36 : placesOf Try.prog 36 = some [(0, 1), (1, 1), (2, 1)] := by kernel_rfl
/-- an answer: whether, how many, which -/
def AnsP (ok : Bool) (n : Int) (l : List It) (v : Value) : HProp := ex fun s : Value => pu (v = .agg #[.bool ok, .int .i64 n, s]) * IArr s l
theorem f47_no (x : It) : Tri Try.prog 47 #[itV x, .bool false] 1 (AnsP false 0 []) := by
  intro w0 F w hs
  rw [one_mul'] at hs
  refine calls_WP 11 #[.cell 4 36] Try.func47 rfl Try.ntmps47 rfl (Nat.le_of_ble_eq_true rfl) ?_
  refine WP_seq ?_
  -- R0
  refine WP_seqr [⟨0, 2, []⟩, ⟨1, 2, []⟩] (by kernel_rfl) ?_
  refine ns_box (#[.int .i64 x.key, .int .i64 x.val]) hs rfl rfl rfl rfl ?_
  intro b2 w hs
  refine ns_alloc zc_36 hs rfl rfl ?_
  intro b4 w hs
  refine ns_done ?_
  refine WP_seq ?_ -- S1
  refine WP_seq ?_
  -- R1
  refine WP_seqr [⟨0, 0, []⟩, ⟨1, 0, []⟩] (by kernel_rfl) ?_
  refine ns_move rfl rfl ?_
  refine ns_not rfl rfl rfl ?_
  refine ns_done ?_
  refine WP_true rfl ?_ -- if1
  refine WP_seq ?_
  -- R2
  refine WP_seqr [⟨0, 0, []⟩, ⟨1, 2, []⟩] (by kernel_rfl) ?_
  refine ns_build [] (#[.bool false, .int .i64 0, .slice none 0 0]) pp_36 zc_36 rfl rfl rfl rfl ?_
  refine ns_stA (#[.bool false, .int .i64 0, .slice none 0 0]) ag_36 rfl (by decide) hs rfl rfl rfl rfl (by intro u hu; simp at hu; rcases hu with rfl | rfl | rfl <;> rfl) (by simp) ?_
  refine fun w hs => ⟨trivial, ?_⟩
  refine ns_done ?_
  refine WP_ret ?_
  have hload := run_loadVarA (P := Try.prog) (t := 36) (n := 3) (ad := ⟨b4, 0, none⟩) (vs := [.bool false, .int .i64 0, .slice none 0 0]) ag_36 rfl (by decide) w (St.cells (n := 3) hs (by rfl))
  have hs : St w0 (IArr (.slice none 0 0) [] * F) w := hs.out (P := F) |>.eq (show F = IArr (.slice none 0 0) [] * F by rw [show (IArr (.slice none 0 0) [] : HProp) = 1 from Arr.nil 45 2, one_mul'])
  exact ⟨_, resC 4 36 rfl hload, St.mk_ex (.slice none 0 0) (St.mk_pu rfl hs)⟩
theorem f47_yes (x : It) : Tri Try.prog 47 #[itV x, .bool true] 1 (AnsP true 0 [x]) := by
  intro w0 F w hs
  rw [one_mul'] at hs
  refine calls_WP 11 #[.cell 4 36] Try.func47 rfl Try.ntmps47 rfl (Nat.le_of_ble_eq_true rfl) ?_
  refine WP_seq ?_
  -- R0
  refine WP_seqr [⟨0, 2, []⟩, ⟨1, 2, []⟩] (by kernel_rfl) ?_
  refine ns_box (#[.int .i64 x.key, .int .i64 x.val]) hs rfl rfl rfl rfl ?_
  intro b2 w hs
  refine ns_alloc zc_36 hs rfl rfl ?_
  intro b4 w hs
  refine ns_done ?_
  refine WP_seq ?_ -- S1
  refine WP_seq ?_
  -- R1
  refine WP_seqr [⟨0, 0, []⟩, ⟨1, 0, []⟩] (by kernel_rfl) ?_
  refine ns_move rfl rfl ?_
  refine ns_not rfl rfl rfl ?_
  refine ns_done ?_
  refine WP_false rfl ?_ -- if1
  refine WP_skip ?_
  refine WP_seq ?_
  -- R3
  refine WP_seqr [⟨0, 1, []⟩, ⟨1, 2, []⟩, ⟨2, 0, []⟩, ⟨3, 2, []⟩] (by kernel_rfl) ?_
  refine ns_ldAB [.int .i64 x.key, .int .i64 x.val] ag_45 hs rfl rfl rfl (by rfl) (by rfl) (by decide) ?_
  refine ns_lit [itV x] [.int .i64 x.key, .int .i64 x.val] sl_34 zr_45 (by decide) (by decide) hs rfl rfl rfl rfl (by simp [Value.cells, itV]) rfl ?_
  refine fun b9 w hs hx => ⟨trivial, ?_⟩
  refine ns_build [(0, .bool true), (2, .slice (some ⟨b9, 0, none⟩) 1 1)] (#[.bool true, .int .i64 0, .slice (some ⟨b9, 0, none⟩) 1 1]) pp_36 zc_36 rfl rfl rfl rfl ?_
  refine ns_stA (#[.bool true, .int .i64 0, .slice (some ⟨b9, 0, none⟩) 1 1]) ag_36 rfl (by decide) hs rfl rfl rfl rfl (by intro u hu; simp at hu; rcases hu with rfl | rfl | rfl <;> rfl) (by simp) ?_
  refine fun w hs => ⟨trivial, ?_⟩
  refine ns_done ?_
  refine WP_ret ?_
  have hload := run_loadVarA (P := Try.prog) (t := 36) (n := 3) (ad := ⟨b4, 0, none⟩) (vs := [.bool true, .int .i64 0, .slice (some ⟨b9, 0, none⟩) 1 1]) ag_36 rfl (by decide) w (St.cells (n := 3) hs (by rfl))
  have hs := (hs.foc (pts b9 (.cells [.int .i64 x.key, .int .i64 x.val].toArray 45 (0, 0)))).mk_arr' (n := 1) (cap := 1) (sz := 2) (xs := encs [x]) (by decide) (by decide) rfl rfl
  exact ⟨_, resC 4 36 rfl hload, St.mk_ex (.slice (some ⟨b9, 0, none⟩) 1 1) (St.mk_pu rfl (hs.out (P := IArr (.slice (some ⟨b9, 0, none⟩) [x].length 1) [x] * F)))⟩
end Go.Proofs.Ytnnembkganlbpaa
