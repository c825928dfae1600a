/- The walk of the visitor: it takes one item more and tells whether it wants another. -/
import Derived.Test.YtnnembkganlbpaaW14
namespace Go.Proofs.Ytnnembkganlbpaa
open Go Go.Sl Go.Net Go.Wk Go.Bt Go.RowKit

/-- the visitor at b has seen acc and wants no more than most (but one at least) -/
def VisP (b : Nat) (acc : List It) (most : Int) : HProp := ex fun v : Value => pts b (.cells #[v, .int .i64 most] 89 (0, 0)) * IArr v acc
theorem vis_fold (b : Nat) (v : Value) (acc : List It) (most : Int) : Ent (pts b (.cells #[v, .int .i64 most] 89 (0, 0)) * IArr v acc) (VisP b acc most) := fun _ h => ⟨v, h⟩
def seeV (b : Nat) : Value := .func (.func 58) #[ptr b] #[]
theorem f58_ok (b : Nat) (x : It) (acc : List It) (most : Int) (hl : acc.length < 1000000) :
    Tri Try.prog 58 #[ptr b, itV x] (VisP b acc most) fun v => pu (v = .bool (decide (((acc ++ [x]).length : Int) < most))) * VisP b (acc ++ [x]) most := by
  intro w0 F w hs
  obtain ⟨v0, hs⟩ := hs.ex
  simp only [mul_assoc'] at hs
  refine calls_WP 25 #[.tmp 4] Try.func58 rfl Try.ntmps58 rfl (Nat.le_of_ble_eq_true rfl) ?_
  refine WP_seq ?_
  -- R0
  refine WP_seqr [⟨0, 2, []⟩, ⟨1, 0, []⟩] (by kernel_rfl) ?_
  refine ns_box (#[.int .i64 x.key, .int .i64 x.val]) hs rfl rfl rfl rfl ?_
  intro b3 w hs
  refine ns_asg rfl rfl ?_
  refine ns_done ?_
  refine WP_seq ?_
  -- R1
  refine WP_net hs mix [0, 0, 2, 6, 14, 0, 32, 126, 255, 511, 1023] [⟨0, 0, []⟩, ⟨1, 0, []⟩, ⟨2, 0, []⟩, ⟨3, 0, []⟩, ⟨4, 1, []⟩, ⟨5, 1, []⟩, ⟨6, 2, [4]⟩, ⟨7, 2, []⟩, ⟨8, 0, []⟩, ⟨9, 0, []⟩, ⟨10, 2, []⟩] (by kernel_rfl) ?_
  intro w hs
  refine ns_move rfl rfl ?_
  refine ns_move rfl rfl ?_
  refine ns_nil rfl rfl rfl ?_
  refine ns_fld fo_89_0 rfl rfl rfl ?_
  have hk4 := hs.c b 0
  refine ns_ldB pl_34 hs rfl rfl rfl (by rfl) ?_
  refine ns_ldAB [.int .i64 x.key, .int .i64 x.val] ag_45 hs rfl rfl rfl (by rfl) (by rfl) (by decide) ?_
  refine ns_lit [itV x] [.int .i64 x.key, .int .i64 x.val] sl_34 zr_45 (by decide) (by decide) hs rfl rfl rfl rfl (by simp [Value.cells, itV]) rfl ?_
  refine fun b11 w hs hx => ⟨⟨hx _ _ hk4, trivial⟩, ?_⟩
  refine ns_app [.int .i64 x.key, .int .i64 x.val] sl_34 zr_45 by_45 rfl (by decide) (hs.foc (IArr v0 acc)) rfl rfl rfl rfl rfl (St.cells (n := 2) hs (by rfl)) (by intro u hu; simp at hu; rcases hu with rfl | rfl <;> rfl) (by simp only [maxLen]; omega) (by omega) ?_
  refine fun v12 w hs hv => ⟨trivial, ?_⟩
  have hs := hs.up (Ent.of_eq (IArr_eq (l := acc ++ [x]) (by simp) (by rw [encs_append]; rfl)))
  obtain ⟨a5, c5, rfl, _, _⟩ := hs.arr_form
  refine ns_nil rfl rfl rfl ?_
  refine ns_fld fo_89_0 rfl rfl rfl ?_
  refine ns_st (.slice a5 (acc ++ [x]).length c5) pl_34 hs rfl rfl rfl rfl rfl (by simp) ?_
  refine fun w hs => ⟨trivial, ?_⟩
  try simp only [Nat.zero_add] at hs
  try simp only [List.setIfInBounds_toArray] at hs
  try simp only [List.set_cons_succ] at hs
  try simp only [List.set_cons_zero] at hs
  refine ns_done ?_
  refine WP_seq ?_
  -- R2
  refine WP_net hs mix [0, 1, 3, 7, 15, 0, 32, 96, 224, 511, 1023] [⟨0, 0, []⟩, ⟨1, 0, []⟩, ⟨2, 0, []⟩, ⟨3, 1, []⟩, ⟨4, 0, []⟩, ⟨5, 0, []⟩, ⟨6, 0, []⟩, ⟨7, 0, []⟩, ⟨8, 1, []⟩, ⟨9, 0, []⟩, ⟨10, 0, []⟩] (by kernel_rfl) ?_
  intro w hs
  refine ns_move rfl rfl ?_
  refine ns_nil rfl rfl rfl ?_
  refine ns_fld fo_89_0 rfl rfl rfl ?_
  refine ns_ldB pl_34 hs rfl rfl rfl (by rfl) ?_
  refine ns_len sl_34 rfl rfl rfl ?_
  refine ns_move rfl rfl ?_
  refine ns_nil rfl rfl rfl ?_
  refine ns_fld fo_89_1 rfl rfl rfl ?_
  refine ns_ldB pl_2 hs rfl rfl rfl (by rfl) ?_
  refine ns_cmp _ rfl rfl rfl rfl rfl ?_
  refine ns_asg rfl rfl ?_
  refine ns_done ?_
  refine WP_ret ?_
  have hs := hs.fold (vis_fold b (.slice a5 (acc ++ [x]).length c5) (acc ++ [x]) most)
  exact ⟨_, res1 _, St.mk_pu rfl hs.out⟩
end Go.Proofs.Ytnnembkganlbpaa
