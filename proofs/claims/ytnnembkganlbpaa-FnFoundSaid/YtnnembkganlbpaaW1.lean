/- The walks of the free list and of the context: a node is handed out, a node is taken back. -/
import Derived.Test.YtnnembkganlbpaaDe
namespace Go.Proofs.Ytnnembkganlbpaa
open Go Go.Sl Go.Net Go.Wk Go.Bt Go.RowKit

theorem free_new (b : Nat) : Ent (pts b (.cells #[.slice none 0 0, .slice none 0 0, .pointer none] 103 (0, 0))) (FreeP b) := fun h hp => by
  refine ⟨(.slice none 0 0, .slice none 0 0), ?_⟩
  show (_ * (Arr 45 2 (.slice none 0 0) 0 [] * Arr 85 1 (.slice none 0 0) 0 [])) h
  rw [Arr.nil, Arr.nil, one_mul', mul_one']
  exact hp
theorem fl_fold (fl : Nat) (v : Value) (l : List Nat) : Ent (pts fl (.cells #[.int .i32 0, .int .u32 0, v] 81 (0, 0)) * (PArr v l * stars (l.map FreeP))) (FLP fl) := fun _ hp => ⟨(v, l), hp⟩
theorem free_fold (b : Nat) (v1 v2 : Value) : Ent (pts b (.cells #[v1, v2, .pointer none] 103 (0, 0)) * (IArr v1 [] * PArr v2 [])) (FreeP b) := fun _ hp => ⟨(v1, v2), hp⟩
theorem node_fold (c b : Nat) (v1 v2 : Value) (its : List It) (bs : List Nat) : Ent (pts b (.cells #[v1, v2, ptr c] 103 (0, 0)) * (IArr v1 its * PArr v2 bs)) (NodeP c b its bs) := fun _ hp => ⟨(v1, v2), hp⟩
theorem f80_ok (fl : Nat) : Tri Try.prog 80 #[ptr fl] (FLP fl) fun v => ex fun b => pu (v = ptr b) * (FreeP b * FLP fl) := by
  intro w0 F w hs
  obtain ⟨⟨vf, free⟩, hs⟩ := hs.ex
  simp only [mul_assoc'] at hs
  obtain ⟨a, c, rfl, hc, hcm⟩ := (hs.foc (PArr vf free)).arr_form
  simp only [maxLen] at hcm
  refine calls_WP 47 #[.tmp 2] Try.func80 rfl Try.ntmps80 rfl (Nat.le_of_ble_eq_true rfl) ?_
  refine WP_seq ?_
  -- R0
  refine WP_seqr [⟨0, 0, []⟩] (by kernel_rfl) ?_
  refine ns_asg rfl rfl ?_
  refine ns_done ?_
  refine WP_seq ?_
  -- R1
  refine WP_seqr [⟨0, 0, []⟩, ⟨1, 0, []⟩, ⟨2, 0, []⟩, ⟨3, 2, []⟩] (by kernel_rfl) ?_
  refine ns_move rfl rfl ?_
  refine ns_nil rfl rfl rfl ?_
  refine ns_fld fo_81_0 rfl rfl rfl ?_
  refine ns_call (lock_ok fl _ _) ck_90 hs rfl rfl rfl rfl ?_
  intro v7 w hs
  refine ns_done ?_
  refine WP_seq ?_
  -- R2
  refine WP_seqr [⟨0, 0, []⟩, ⟨1, 0, []⟩, ⟨2, 0, []⟩, ⟨3, 1, []⟩, ⟨4, 0, []⟩, ⟨5, 0, []⟩, ⟨6, 0, []⟩] (by kernel_rfl) ?_
  refine ns_move rfl rfl ?_
  refine ns_nil rfl rfl rfl ?_
  refine ns_fld fo_81_1 rfl rfl rfl ?_
  refine ns_ldB pl_72 hs rfl rfl rfl (by rfl) ?_
  refine ns_len sl_72 rfl rfl rfl ?_
  refine ns_sub rfl rfl rfl rfl (by omega) (by omega) ?_
  refine ns_asg rfl rfl ?_
  refine ns_done ?_
  refine WP_seq ?_ -- S1
  refine WP_seq ?_
  -- R3
  refine WP_seqr [⟨0, 0, []⟩, ⟨1, 0, []⟩] (by kernel_rfl) ?_
  refine ns_move rfl rfl ?_
  refine ns_cmp _ rfl rfl rfl rfl rfl ?_
  refine ns_done ?_
  refine WP_if rfl (fun hif1 => ?_) (fun hif1 => ?_)
  · refine WP_seq ?_
    -- R4
    refine WP_seqr [⟨0, 0, []⟩, ⟨1, 0, []⟩, ⟨2, 0, []⟩, ⟨3, 2, []⟩] (by kernel_rfl) ?_
    refine ns_move rfl rfl ?_
    refine ns_nil rfl rfl rfl ?_
    refine ns_fld fo_81_0 rfl rfl rfl ?_
    refine ns_call (unlock_ok fl _ _) ck_91 hs rfl rfl rfl rfl ?_
    intro v19 w hs
    refine ns_done ?_
    refine WP_seq ?_
    -- R5
    refine WP_seqr [⟨0, 2, []⟩, ⟨1, 0, []⟩] (by kernel_rfl) ?_
    refine ns_alloc zc_103 hs rfl rfl ?_
    intro b20 w hs
    refine ns_asg rfl rfl ?_
    refine ns_done ?_
    refine WP_ret ?_
    have hs := hs.fold (free_new b20)
    have hs := hs.fold (fl_fold fl (.slice a free.length c) free)
    exact ⟨_, res1 _, St.mk_ex b20 (St.mk_pu rfl (hs.foc (FreeP b20 * FLP fl)))⟩
  have hne : free.length ≠ 0 := by simp only [decide_eq_false_iff_not] at hif1; omega
  obtain ⟨g, c, e, hc2, hcm2, hcell⟩ := (hs.foc (PArr (.slice a free.length c) free)).arr_slice hne
  cases e
  obtain ⟨k, hk⟩ : ∃ k, free.length = k + 1 := ⟨free.length - 1, by omega⟩
  obtain ⟨l, x, rfl⟩ : ∃ l x, free = l ++ [x] := ⟨free.dropLast, free.getLast (by intro h; simp [h] at hne), (List.dropLast_concat_getLast _).symm⟩
  have hkl : k = l.length := by simp at hk; omega
  subst hkl
  have ek : (((l ++ [x]).length : Int) - 1) = (l.length : Int) := by simp
  refine WP_skip ?_
  refine WP_seq ?_
  -- R6
  refine WP_seqr [⟨0, 0, []⟩, ⟨1, 0, []⟩, ⟨2, 0, []⟩, ⟨3, 1, []⟩, ⟨4, 0, []⟩, ⟨5, 0, []⟩, ⟨6, 1, []⟩, ⟨7, 0, []⟩] (by kernel_rfl) ?_
  refine ns_move rfl rfl ?_
  refine ns_nil rfl rfl rfl ?_
  refine ns_fld fo_81_1 rfl rfl rfl ?_
  refine ns_ldB pl_72 hs rfl rfl rfl (by rfl) ?_
  refine ns_move rfl rfl ?_
  refine ns_idx l.length sl_72 rfl rfl rfl rfl ek (by simp) ?_
  refine ns_ld pl_85 rfl rfl rfl (hcell (0 + l.length * 1) (ptr x) (by simp)) ?_
  refine ns_asg rfl rfl ?_
  refine ns_done ?_
  refine WP_seq ?_
  -- R7
  refine WP_seqr [⟨0, 0, []⟩, ⟨1, 0, []⟩, ⟨2, 0, []⟩, ⟨3, 1, []⟩, ⟨4, 0, []⟩, ⟨5, 0, []⟩, ⟨6, 2, []⟩] (by kernel_rfl) ?_
  refine ns_move rfl rfl ?_
  refine ns_nil rfl rfl rfl ?_
  refine ns_fld fo_81_1 rfl rfl rfl ?_
  refine ns_ldB pl_72 hs rfl rfl rfl (by rfl) ?_
  refine ns_move rfl rfl ?_
  refine ns_idx l.length sl_72 rfl rfl rfl rfl ek (by simp) ?_
  obtain ⟨h0, g2, c2, cur, e, _, _, hsz, htk, hs⟩ | ⟨g2, c2, cur, e, _, _, hsz, htk, hs⟩ := (hs.foc (PArr (.slice (some ⟨g, 0, none⟩) (l ++ [x]).length c) (l ++ [x]))).arr
  · cases h0
  cases e
  have hlt : l.length < cur.size := by rw [hsz]; simp at hc2; omega
  refine ns_st (.pointer none) pl_85 hs rfl rfl rfl rfl rfl (by simpa using hlt) ?_
  refine fun w hs => ⟨trivial, ?_⟩
  have hs := hs.mk_arr' (n := l.length) (xs := l.map ptr) (by simp at hc2; omega) hcm2 (sz := 1) (E := 85) (cap := c) (by simpa using hsz) (by
    have := congrArg (List.take l.length) htk
    rw [List.take_take] at this
    simp at this
    simpa [List.take_set_of_le] using this)
  refine ns_done ?_
  refine WP_seq ?_
  -- R8
  refine WP_seqr [⟨0, 0, []⟩, ⟨1, 0, []⟩, ⟨2, 0, []⟩, ⟨3, 0, []⟩, ⟨4, 1, []⟩, ⟨5, 0, []⟩, ⟨6, 0, []⟩, ⟨7, 0, []⟩, ⟨8, 0, []⟩, ⟨9, 2, []⟩] (by kernel_rfl) ?_
  refine ns_move rfl rfl ?_
  refine ns_move rfl rfl ?_
  refine ns_nil rfl rfl rfl ?_
  refine ns_fld fo_81_1 rfl rfl rfl ?_
  refine ns_ldB pl_72 hs rfl rfl rfl (by rfl) ?_
  refine ns_move rfl rfl ?_
  refine ns_sliceHi l.length sl_72 rfl rfl rfl rfl ek (by simp at hc2; omega) ?_
  refine ns_nil rfl rfl rfl ?_
  refine ns_fld fo_81_1 rfl rfl rfl ?_
  refine ns_st (.slice (some ⟨g, 0, none⟩) l.length c) pl_72 hs rfl rfl rfl rfl rfl (by simp) ?_
  refine fun w hs => ⟨trivial, ?_⟩
  try simp only [List.setIfInBounds_toArray, List.set_cons_zero, List.set_cons_succ, Nat.zero_add] at hs
  refine ns_done ?_
  refine WP_seq ?_
  -- R9
  refine WP_seqr [⟨0, 0, []⟩, ⟨1, 0, []⟩, ⟨2, 0, []⟩, ⟨3, 2, []⟩] (by kernel_rfl) ?_
  refine ns_move rfl rfl ?_
  refine ns_nil rfl rfl rfl ?_
  refine ns_fld fo_81_0 rfl rfl rfl ?_
  refine ns_call (unlock_ok fl (.int .u32 0) (.slice (some ⟨g, 0, none⟩) l.length c)) ck_91 (hs.foc _) rfl rfl rfl rfl ?_
  intro v46 w hs
  refine ns_done ?_
  refine WP_ret ?_
  rw [List.map_append, stars_append] at hs
  simp only [mul_assoc'] at hs
  have hs := hs.fold (fl_fold fl (.slice (some ⟨g, 0, none⟩) l.length c) l)
  refine ⟨_, res1 _, St.mk_ex x (St.mk_pu rfl ?_)⟩
  exact hs.mono (Ent.of_eq (by simp only [List.map_cons, List.map_nil, stars_cons, stars_nil, mul_one']; ac_rfl))
end Go.Proofs.Ytnnembkganlbpaa
