/- The walk of growing a kid: a neighbour gives, or two kids become one; then the taking out goes on. -/
import Derived.Test.YtnnembkganlbpaaTg
import Derived.Test.YtnnembkganlbpaaW8
namespace Go.Proofs.Ytnnembkganlbpaa
open Go Go.Sl Go.Net Go.Wk Go.Bt Go.RowKit
set_option maxHeartbeats 6400000 in
theorem f97_ok (c fl mn mx h b ty i : Nat) (x : It) (t k : Tr) (hmn : 1 ≤ mn) (hmx : mx = 2 * mn + 1) (hm : mx < 10000) (hO : Ok mn mx (h + 1) t) (hl1 : 1 ≤ t.its.length) (hl2 : t.its.length ≤ mx) (hS : Srt (flat (h + 1) t))
    (hp : plc ty t x = i) (hk : t.kids[i]? = some k) (hsm : k.its.length ≤ mn)
    (hrec : ∀ t1 : Tr, Grown mn mx h ty x t t1 → Tri Try.prog 87 #[ptr b, itV x, .int .i64 mn, .int .i64 ty] (Tp c (h + 1) t1 b * Ctx c fl) (RemP c fl mn mx (h + 1) b t1 x ty 0)) :
    Tri Try.prog 97 #[ptr b, .int .i64 i, itV x, .int .i64 mn, .int .i64 ty] (Tp c (h + 1) t b * Ctx c fl) (RemP c fl mn mx (h + 1) b t x ty 1) := by
  have hkl := hO.1
  have hle : i ≤ t.its.length := by have := plc_le ty t x; omega
  have hko := kid_ok hO hk
  intro w0 F w hs
  simp only [mul_assoc'] at hs
  refine calls_WP 230 #[.cell 10 45, .tmp 11] Try.func97 rfl Try.ntmps97 rfl (Nat.le_of_ble_eq_true rfl) ?_
  refine WP_seq ?_
  -- R0
  refine WP_seqr [⟨0, 2, []⟩, ⟨1, 2, []⟩, ⟨2, 0, []⟩] (by kernel_rfl) ?_
  refine ns_box (#[.int .i64 x.key, .int .i64 x.val]) hs rfl rfl rfl rfl ?_
  intro b7 w hs
  refine ns_alloc zc_45 hs rfl rfl ?_
  intro b10 w hs
  refine ns_asg rfl rfl ?_
  refine ns_done ?_
  have hs := (hs.foc (pts b7 (.cells #[.int .i64 x.key, .int .i64 x.val] 45 (0, 0)) * (pts b10 (.cells #[.int .i64 0, .int .i64 0] 45 (0, 0)) * (Tp c (h + 1) t b * (Ctx c fl * F))))).fst
  refine WP_seq_cut (fun σ w => ∃ t1 : Tr, σ 0 = ptr b ∧ σ 3 = .int .i64 mn ∧ σ 4 = .int .i64 ty ∧ σ 7 = .pointer (some ⟨b7, 0, none⟩) ∧ σ 10 = .pointer (some ⟨b10, 0, none⟩) ∧ Grown mn mx h ty x t t1 ∧ St w0 (pts b7 (.cells #[.int .i64 x.key, .int .i64 x.val] 45 (0, 0)) * (pts b10 (.cells #[.int .i64 0, .int .i64 0] 45 (0, 0)) * (Tp c (h + 1) t1 b * (Ctx c fl * F)))) w) ?_ ?_ -- S1
  · refine WP_seq_cut (fun σ w => ∃ q : Bool, σ 38 = .bool q ∧ (q = true → ∃ p L, i = p + 1 ∧ t.kids[p]? = some L ∧ mn < L.its.length) ∧ (q = false → ∀ p L, i = p + 1 → t.kids[p]? = some L → L.its.length ≤ mn) ∧ σ 0 = ptr b ∧ σ 1 = .int .i64 i ∧ σ 3 = .int .i64 mn ∧ σ 4 = .int .i64 ty ∧ σ 7 = .pointer (some ⟨b7, 0, none⟩) ∧ σ 10 = .pointer (some ⟨b10, 0, none⟩) ∧ St w0 (pts b7 (.cells #[.int .i64 x.key, .int .i64 x.val] 45 (0, 0)) * (pts b10 (.cells #[.int .i64 0, .int .i64 0] 45 (0, 0)) * (Tp c (h + 1) t b * (Ctx c fl * F)))) w) ?_ ?_ -- R1.cut
    · rcases Nat.eq_zero_or_pos i with h0 | h0
      · -- R1
        refine WP_seqr [⟨0, 0, []⟩, ⟨1, 0, []⟩, ⟨2, 0, []⟩, ⟨3, 0, []⟩, ⟨4, 0, []⟩, ⟨5, 0, []⟩, ⟨6, 0, []⟩, ⟨7, 0, []⟩, ⟨8, 0, []⟩, ⟨9, 0, []⟩, ⟨10, 0, []⟩, ⟨11, 0, []⟩, ⟨12, 0, []⟩, ⟨13, 0, []⟩, ⟨14, 0, []⟩, ⟨15, 0, []⟩, ⟨16, 0, []⟩, ⟨17, 0, []⟩] (by kernel_rfl) ?_
        refine ns_move rfl rfl ?_
        refine ns_cmp false rfl rfl rfl rfl (by simp [cmpI]; omega) ?_
        refine ns_move rfl rfl ?_
        refine ns_no rfl rfl ?_
        refine ns_no rfl rfl ?_
        refine ns_no rfl rfl ?_
        refine ns_no rfl rfl ?_
        refine ns_no rfl rfl ?_
        refine ns_no rfl rfl ?_
        refine ns_no rfl rfl ?_
        refine ns_no rfl rfl ?_
        refine ns_no rfl rfl ?_
        refine ns_no rfl rfl ?_
        refine ns_no rfl rfl ?_
        refine ns_no rfl rfl ?_
        refine ns_no rfl rfl ?_
        refine ns_no rfl rfl ?_
        refine ns_pick rfl rfl rfl ?_
        refine ns_done ?_
        exact ⟨false, rfl, (fun e => by cases e), (fun _ p L e => by omega), rfl, rfl, rfl, rfl, rfl, rfl, hs⟩
      · have hs0 := hs
        obtain ⟨p, rfl⟩ : ∃ p, i = p + 1 := ⟨i - 1, by omega⟩
        obtain ⟨L, hL⟩ : ∃ L, t.kids[p]? = some L := ⟨t.kids[p]'(by omega), List.getElem?_eq_getElem (by omega)⟩
        have hkoL := kid_ok hO hL
        obtain ⟨bs, hlen, hs⟩ := St.tree (hs.foc (Tp c (h + 1) t b))
        obtain ⟨yb, hyb⟩ : ∃ yb, bs[p]? = some yb := ⟨bs[p]'(by omega), List.getElem?_eq_getElem (by omega)⟩
        rw [Ks_at hL hyb] at hs
        simp only [mul_assoc'] at hs
        obtain ⟨bsL, hlenL, hs⟩ := St.tree (hs.foc (Tq c (h + 1) L yb))
        obtain ⟨⟨v1, v2⟩, hs⟩ := (hs.foc (NodeP c b (t.its) (bs))).ex
        simp only [mul_assoc'] at hs
        obtain ⟨_, hz, _⟩ | ⟨g, cap, cur, hv, hc, hcm, hsz, htk, hs⟩ := (hs.foc (PArr (v2) (bs))).arr
        · omega
        cases hv
        obtain ⟨⟨u1, u2⟩, hs⟩ := (hs.foc (NodeP c yb (L.its) (bsL))).ex
        simp only [mul_assoc'] at hs
        obtain ⟨a3, c3, rfl, hc3, hcm3⟩ := (hs.foc (IArr u1 L.its)).arr_form
        -- R1
        refine WP_seqr [⟨0, 0, []⟩, ⟨1, 0, []⟩, ⟨2, 0, []⟩, ⟨3, 0, []⟩, ⟨4, 0, []⟩, ⟨5, 0, []⟩, ⟨6, 1, []⟩, ⟨7, 0, []⟩, ⟨8, 0, []⟩, ⟨9, 0, []⟩, ⟨10, 1, []⟩, ⟨11, 0, []⟩, ⟨12, 0, []⟩, ⟨13, 1, []⟩, ⟨14, 0, []⟩, ⟨15, 0, []⟩, ⟨16, 0, []⟩, ⟨17, 0, []⟩] (by kernel_rfl) ?_
        refine ns_move rfl rfl ?_
        refine ns_cmp true rfl rfl rfl rfl (by simp [cmpI]) ?_
        refine ns_move rfl rfl ?_
        refine ns_move rfl rfl ?_
        refine ns_nil rfl rfl rfl ?_
        refine ns_fld fo_103_1 rfl rfl rfl ?_
        refine ns_ldB pl_101 hs rfl rfl rfl (by rfl) ?_
        refine ns_move rfl rfl ?_
        refine ns_sub rfl rfl rfl rfl (by omega) (by omega) ?_
        refine ns_idx p sl_101 rfl rfl rfl rfl (by omega) (by omega) ?_
        refine ns_ld pl_85 rfl rfl rfl (ptr_cell hs htk _ hyb) ?_
        refine ns_nil rfl rfl rfl ?_
        refine ns_fld fo_103_0 rfl rfl rfl ?_
        refine ns_ldB pl_100 hs rfl rfl rfl (by rfl) ?_
        refine ns_len sl_100 rfl rfl rfl ?_
        refine ns_move rfl rfl ?_
        refine ns_cmp _ rfl rfl rfl rfl rfl ?_
        refine ns_pick rfl rfl rfl ?_
        refine ns_done ?_
        refine ⟨decide ((L.its.length : Int) > (mn : Int)), rfl, fun hq => ⟨p, L, rfl, hL, by have := of_decide_eq_true hq; omega⟩, fun hq p' L' e hL' => ?_, rfl, rfl, rfl, rfl, rfl, rfl, hs0⟩
        obtain rfl : p' = p := by omega
        rw [hL] at hL'
        cases hL'
        have := of_decide_eq_false hq
        omega
    rintro σ w ⟨q, g38, q1, q2, g0, g1, g3, g4, g7, g10, hs⟩
    obtain ⟨σ, rfl⟩ := rebase g38
    obtain ⟨σ, rfl⟩ := rebase (σ := σ) g0
    obtain ⟨σ, rfl⟩ := rebase (σ := σ) g1
    obtain ⟨σ, rfl⟩ := rebase (σ := σ) g3
    obtain ⟨σ, rfl⟩ := rebase (σ := σ) g4
    obtain ⟨σ, rfl⟩ := rebase (σ := σ) g7
    obtain ⟨σ, rfl⟩ := rebase (σ := σ) g10
    clear g38 g0 g1 g3 g4 g7 g10
    refine WP_if rfl (fun hif1 => ?_) (fun hif1 => ?_)
    · refine WP_seq ?_
      obtain ⟨p, L, rfl, hL, hbig⟩ := q1 hif1
      have hkoL := kid_ok hO hL
      have hkoR := hko
      have hpk : p + 1 < t.kids.length := (List.getElem?_eq_some_iff.1 hk).1
      have hpl : p < t.its.length := by omega
      obtain ⟨wi, hw⟩ : ∃ wi, t.its[p]? = some wi := ⟨t.its[p]'(by omega), List.getElem?_eq_getElem (by omega)⟩
      obtain ⟨l, z, e⟩ : ∃ l z, L.its = l ++ [z] := ⟨L.its.dropLast, L.its.getLast (ne_of_len (by omega)), (List.dropLast_concat_getLast _).symm⟩
      have hGr := grown_left (ty := ty) hO hS hmx hp hw hL hk e hbig hsm
      obtain ⟨bs, hlen, hs⟩ := St.tree (hs.foc (Tp c (h + 1) t b))
      obtain ⟨yb, hyb⟩ : ∃ yb, bs[p]? = some yb := ⟨bs[p]'(by omega), List.getElem?_eq_getElem (by omega)⟩
      obtain ⟨xb, hxb⟩ : ∃ xb, bs[p + 1]? = some xb := ⟨bs[p + 1]'(by omega), List.getElem?_eq_getElem (by omega)⟩
      rw [Ks_pair hL hk hyb hxb] at hs
      simp only [mul_assoc'] at hs
      obtain ⟨bsL, hlenL, hs⟩ := St.tree (hs.foc (Tq c (h + 1) L yb))
      obtain ⟨bsR, hlenR, hs⟩ := St.tree (hs.foc (Tq c (h + 1) k xb))
      have hbL : bsL.length < 1000000 := by
        by_cases h0 : L.kids.length = 0
        · omega
        · have := kids_len hkoL.2.2 h0; omega
      have hbR : bsR.length < 1000000 := by
        by_cases h0 : k.kids.length = 0
        · omega
        · have := kids_len hkoR.2.2 h0; omega
      have hbs : bs.length < 1000000 := by omega
      -- R2
      refine WP_seqr [⟨0, 0, []⟩, ⟨1, 0, []⟩, ⟨2, 2, []⟩, ⟨3, 0, []⟩] (by kernel_rfl) ?_
      refine ns_move rfl rfl ?_
      refine ns_move rfl rfl ?_
      refine ns_call (f86_ok c b (p + 1) xb t.its k.its bs bsR hxb) ck_86 (hs.foc (NodeP c b t.its bs * NodeP c xb k.its bsR)) rfl rfl rfl rfl ?_
      intro v41 w hs
      replace hs := hs.pu
      obtain ⟨rfl, hs⟩ := hs
      simp only [mul_assoc'] at hs
      refine ns_asg rfl rfl ?_
      refine ns_done ?_
      refine WP_seq ?_
      -- R3
      refine WP_seqr [⟨0, 0, []⟩, ⟨1, 0, []⟩, ⟨2, 0, []⟩, ⟨3, 2, []⟩, ⟨4, 0, []⟩] (by kernel_rfl) ?_
      refine ns_move rfl rfl ?_
      refine ns_move rfl rfl ?_
      refine ns_sub rfl rfl rfl rfl (by omega) (by omega) ?_
      refine ns_call (f86_ok c b p yb t.its L.its bs bsL hyb) ck_86 (hs.foc (NodeP c b t.its bs * NodeP c yb L.its bsL)) rfl rfl rfl (congrArg (fun z : Int => [ptr b, Value.int .i64 z]) (show ((p + 1 : Nat) : Int) - 1 = (p : Int) by omega)) ?_
      intro v45 w hs
      replace hs := hs.pu
      obtain ⟨rfl, hs⟩ := hs
      simp only [mul_assoc'] at hs
      refine ns_asg rfl rfl ?_
      refine ns_done ?_
      refine WP_seq ?_
      rw [e] at hs
      -- R4
      refine WP_seqr [⟨0, 0, []⟩, ⟨1, 0, []⟩, ⟨2, 0, []⟩, ⟨3, 2, []⟩, ⟨4, 2, []⟩, ⟨5, 2, []⟩] (by kernel_rfl) ?_
      refine ns_move rfl rfl ?_
      refine ns_nil rfl rfl rfl ?_
      refine ns_fld fo_103_0 rfl rfl rfl ?_
      refine ns_call (f95_ok c yb z l bsL) ck_95 (hs.foc (NodeP c yb (l ++ [z]) bsL)) rfl rfl rfl rfl ?_
      intro v49 w hs
      replace hs := hs.pu
      obtain ⟨rfl, hs⟩ := hs
      refine ns_alloc zc_45 hs rfl rfl ?_
      intro b14 w hs
      refine ns_stA (#[.int .i64 z.key, .int .i64 z.val]) ag_45 rfl (by decide) hs rfl rfl rfl rfl (by intro u hu; simp at hu; rcases hu with rfl | rfl <;> rfl) (by simp) ?_
      refine fun w hs => ⟨trivial, ?_⟩
      rw [splice2] at hs
      refine ns_done ?_
      refine WP_seq ?_
      obtain ⟨⟨v1, v2⟩, hs⟩ := (hs.foc (NodeP c b (t.its) (bs))).ex
      simp only [mul_assoc'] at hs
      obtain ⟨_, hz, _⟩ | ⟨g, cap, cur, hv, hc, hcm, hsz, htk, hs⟩ := (hs.foc (IArr (v1) (t.its))).arr
      · omega
      cases hv
      -- R5
      refine WP_net hs mix [0, 1, 3, 0, 8, 24, 56, 0, 128, 504, 1016, 2047] [⟨0, 0, []⟩, ⟨1, 0, []⟩, ⟨2, 0, []⟩, ⟨3, 0, []⟩, ⟨4, 0, []⟩, ⟨5, 0, []⟩, ⟨6, 1, []⟩, ⟨7, 0, []⟩, ⟨8, 0, []⟩, ⟨9, 0, []⟩, ⟨10, 1, []⟩, ⟨11, 2, []⟩] (by kernel_rfl) ?_
      intro w hs
      refine ns_move rfl rfl ?_
      refine ns_nil rfl rfl rfl ?_
      refine ns_fld fo_103_0 rfl rfl rfl ?_
      refine ns_move rfl rfl ?_
      refine ns_nil rfl rfl rfl ?_
      refine ns_fld fo_103_0 rfl rfl rfl ?_
      refine ns_ldB pl_100 hs rfl rfl rfl (by rfl) ?_
      refine ns_move rfl rfl ?_
      refine ns_sub rfl rfl rfl rfl (by omega) (by omega) ?_
      refine ns_idx p sl_100 rfl rfl rfl rfl (by omega) hpl ?_
      refine ns_ldA [.int .i64 wi.key, .int .i64 wi.val] ag_45 rfl rfl rfl rfl (by decide) (it_cells hs htk _ hw) ?_
      refine ns_call (f84_ok c xb 0 wi k.its bsR (Nat.zero_le _) (by omega)) ck_84 (hs.foc (NodeP c xb k.its bsR)) rfl rfl rfl rfl ?_
      intro v61 w hs
      refine ns_done ?_
      refine WP_seq ?_
      -- R6
      refine WP_net hs mix [0, 1, 3, 7, 0, 16, 0, 127, 255] [⟨0, 0, []⟩, ⟨1, 0, []⟩, ⟨2, 0, []⟩, ⟨3, 1, []⟩, ⟨4, 0, []⟩, ⟨5, 0, []⟩, ⟨6, 1, []⟩, ⟨7, 0, []⟩, ⟨8, 2, []⟩] (by kernel_rfl) ?_
      intro w hs
      refine ns_move rfl rfl ?_
      refine ns_nil rfl rfl rfl ?_
      refine ns_fld fo_103_0 rfl rfl rfl ?_
      refine ns_ldB pl_100 hs rfl rfl rfl (by rfl) ?_
      refine ns_move rfl rfl ?_
      refine ns_sub rfl rfl rfl rfl (by omega) (by omega) ?_
      refine ns_ldAB [.int .i64 z.key, .int .i64 z.val] ag_45 hs rfl rfl rfl (by rfl) (by rfl) (by decide) ?_
      refine ns_idx p sl_100 rfl rfl rfl rfl (by omega) hpl ?_
      refine ns_stA (#[.int .i64 z.key, .int .i64 z.val]) ag_45 rfl (by decide) hs rfl rfl rfl rfl (by intro u hu; simp at hu; rcases hu with rfl | rfl <;> rfl) (by rw [hsz]; omega) ?_
      refine fun w hs => ⟨trivial, ?_⟩
      rw [Nat.zero_add] at hs
      refine ns_done ?_
      have hset := set_cells (i := p) (c := enc z) hsz (encs_len t.its) rfl hc hpl htk
      rw [← encs_set t.its p z hpl] at hset
      have hs := (hs.foc (pts g (.cells (splice cur (p * 2) #[.int .i64 z.key, .int .i64 z.val].toList) 45 (0, 0)))).mk_arr' (n := t.its.length) (cap := cap) hc hcm (by rw [splice_size (by rw [hsz]; simp; omega), hsz]) hset
      have e9 : t.its.length = (t.its.set p z).length := by rw [List.length_set]
      rw [e9] at hs
      have hs := hs.fold (node_fold c b (.slice (some ⟨g, 0, none⟩) (t.its.set p z).length cap) v2 (t.its.set p z) bs)
      refine WP_seq ?_
      obtain ⟨⟨u1, u2⟩, hs⟩ := (hs.foc (NodeP c yb (l) (bsL))).ex
      simp only [mul_assoc'] at hs
      obtain ⟨a4, c4, rfl, hc4, hcm4⟩ := (hs.foc (PArr u2 bsL)).arr_form
      -- R7
      refine WP_seqr [⟨0, 0, []⟩, ⟨1, 0, []⟩, ⟨2, 0, []⟩, ⟨3, 1, []⟩, ⟨4, 0, []⟩, ⟨5, 0, []⟩] (by kernel_rfl) ?_
      refine ns_move rfl rfl ?_
      refine ns_nil rfl rfl rfl ?_
      refine ns_fld fo_103_1 rfl rfl rfl ?_
      refine ns_ldB pl_101 hs rfl rfl rfl (by rfl) ?_
      refine ns_len sl_101 rfl rfl rfl ?_
      refine ns_cmp _ rfl rfl rfl rfl rfl ?_
      refine ns_done ?_
      have hs := hs.fold (node_fold c yb u1 (.slice a4 bsL.length c4) l bsL)
      rw [List.insertIdx_zero] at hs
      refine WP_if rfl (fun hif2 => ?_) (fun hif2 => ?_)
      · have hne : bsL ≠ [] := by intro e0; rw [e0] at hif2; simp at hif2
        obtain ⟨bl, qb, rfl⟩ : ∃ bl qb, bsL = bl ++ [qb] := ⟨bsL.dropLast, bsL.getLast hne, (List.dropLast_concat_getLast _).symm⟩
        -- R8
        refine WP_net hs mix [0, 1, 3, 0, 8, 24, 56, 127] [⟨0, 0, []⟩, ⟨1, 0, []⟩, ⟨2, 0, []⟩, ⟨3, 0, []⟩, ⟨4, 0, []⟩, ⟨5, 0, []⟩, ⟨6, 2, []⟩, ⟨7, 2, []⟩] (by kernel_rfl) ?_
        intro w hs
        refine ns_move rfl rfl ?_
        refine ns_nil rfl rfl rfl ?_
        refine ns_fld fo_103_1 rfl rfl rfl ?_
        refine ns_move rfl rfl ?_
        refine ns_nil rfl rfl rfl ?_
        refine ns_fld fo_103_1 rfl rfl rfl ?_
        refine ns_call (f101_ok c yb qb l bl) ck_101 (hs.foc (NodeP c yb l (bl ++ [qb]))) rfl rfl rfl rfl ?_
        intro v82 w hs
        replace hs := hs.pu
        obtain ⟨rfl, hs⟩ := hs
        refine ns_call (f94_ok c xb 0 qb (wi :: k.its) bsR (Nat.zero_le _) hbR) ck_94 (hs.foc (NodeP c xb (wi :: k.its) bsR)) rfl rfl rfl rfl ?_
        intro v83 w hs
        refine ns_done ?_
        rw [List.insertIdx_zero] at hs
        have hs := hs.fold (giveL_fold (c := c) (h := h) (L := L) (R := k) (bsR := bsR) (yb := yb) (xb := xb) (qb := qb) (bl := bl) (l := l) (w := wi) hlenL hlenR)
        simp only [mul_assoc'] at hs
        have hs := hs.fold (pair_fold (c := c) (h := h) (b := b) (p := p) (t := t) (bs := bs) (yb := yb) (xb := xb) (t.its.set p z) (giveL L l) (takeL L k wi) hlen hpk hyb hxb)
        exact ⟨_, rfl, rfl, rfl, rfl, rfl, hGr, hs.out⟩
      refine WP_skip ?_
      have h0 : bsL.length = 0 := by simp at hif2; rw [hif2]; rfl
      have hs := hs.fold (giveL_fold0 (c := c) (h := h) (L := L) (R := k) (bsL := bsL) (bsR := bsR) (yb := yb) (xb := xb) (l := l) (w := wi) hlenL hlenR h0)
      simp only [mul_assoc'] at hs
      have hs := hs.fold (pair_fold (c := c) (h := h) (b := b) (p := p) (t := t) (bs := bs) (yb := yb) (xb := xb) (t.its.set p z) (giveL L l) (takeL L k wi) hlen hpk hyb hxb)
      exact ⟨_, rfl, rfl, rfl, rfl, rfl, hGr, hs.out⟩
    refine WP_seq_cut (fun σ w => ∃ q : Bool, σ 106 = .bool q ∧ (q = true → ∃ R, i < t.its.length ∧ t.kids[i + 1]? = some R ∧ mn < R.its.length) ∧ (q = false → ∀ R, i < t.its.length → t.kids[i + 1]? = some R → R.its.length ≤ mn) ∧ σ 0 = ptr b ∧ σ 1 = .int .i64 i ∧ σ 3 = .int .i64 mn ∧ σ 4 = .int .i64 ty ∧ σ 7 = .pointer (some ⟨b7, 0, none⟩) ∧ σ 10 = .pointer (some ⟨b10, 0, none⟩) ∧ St w0 (pts b7 (.cells #[.int .i64 x.key, .int .i64 x.val] 45 (0, 0)) * (pts b10 (.cells #[.int .i64 0, .int .i64 0] 45 (0, 0)) * (Tp c (h + 1) t b * (Ctx c fl * F)))) w) ?_ ?_ -- R9.cut
    · rcases Nat.lt_or_ge i t.its.length with h1 | h1
      · have hs0 := hs
        obtain ⟨R, hR⟩ : ∃ R, t.kids[i + 1]? = some R := ⟨t.kids[i + 1]'(by omega), List.getElem?_eq_getElem (by omega)⟩
        obtain ⟨bs, hlen, hs⟩ := St.tree (hs.foc (Tp c (h + 1) t b))
        obtain ⟨xb, hxb⟩ : ∃ xb, bs[i + 1]? = some xb := ⟨bs[i + 1]'(by omega), List.getElem?_eq_getElem (by omega)⟩
        rw [Ks_at hR hxb] at hs
        simp only [mul_assoc'] at hs
        obtain ⟨bsR, hlenR, hs⟩ := St.tree (hs.foc (Tq c (h + 1) R xb))
        obtain ⟨⟨v1, v2⟩, hs⟩ := (hs.foc (NodeP c b (t.its) (bs))).ex
        simp only [mul_assoc'] at hs
        obtain ⟨a1, c1, rfl, hc1, hcm1⟩ := (hs.foc (IArr v1 t.its)).arr_form
        obtain ⟨_, hz, _⟩ | ⟨g, cap, cur, hv, hc, hcm, hsz, htk, hs⟩ := (hs.foc (PArr (v2) (bs))).arr
        · omega
        cases hv
        obtain ⟨⟨u1, u2⟩, hs⟩ := (hs.foc (NodeP c xb (R.its) (bsR))).ex
        simp only [mul_assoc'] at hs
        obtain ⟨a3, c3, rfl, hc3, hcm3⟩ := (hs.foc (IArr u1 R.its)).arr_form
        -- R9
        refine WP_seqr [⟨0, 0, []⟩, ⟨1, 0, []⟩, ⟨2, 0, []⟩, ⟨3, 0, []⟩, ⟨4, 1, []⟩, ⟨5, 0, []⟩, ⟨6, 0, []⟩, ⟨7, 0, []⟩, ⟨8, 0, []⟩, ⟨9, 0, []⟩, ⟨10, 0, []⟩, ⟨11, 1, []⟩, ⟨12, 0, []⟩, ⟨13, 0, []⟩, ⟨14, 0, []⟩, ⟨15, 1, []⟩, ⟨16, 0, []⟩, ⟨17, 0, []⟩, ⟨18, 1, []⟩, ⟨19, 0, []⟩, ⟨20, 0, []⟩, ⟨21, 0, []⟩, ⟨22, 0, []⟩] (by kernel_rfl) ?_
        refine ns_move rfl rfl ?_
        refine ns_move rfl rfl ?_
        refine ns_nil rfl rfl rfl ?_
        refine ns_fld fo_103_0 rfl rfl rfl ?_
        refine ns_ldB pl_100 hs rfl rfl rfl (by rfl) ?_
        refine ns_len sl_100 rfl rfl rfl ?_
        refine ns_cmp true rfl rfl rfl rfl (by simp [cmpI]; omega) ?_
        refine ns_move rfl rfl ?_
        refine ns_move rfl rfl ?_
        refine ns_nil rfl rfl rfl ?_
        refine ns_fld fo_103_1 rfl rfl rfl ?_
        refine ns_ldB pl_101 hs rfl rfl rfl (by rfl) ?_
        refine ns_move rfl rfl ?_
        refine ns_add rfl rfl rfl rfl (by omega) (by omega) ?_
        refine ns_idx (i + 1) sl_101 rfl rfl rfl rfl (by omega) (by omega) ?_
        refine ns_ld pl_85 rfl rfl rfl (ptr_cell hs htk _ hxb) ?_
        refine ns_nil rfl rfl rfl ?_
        refine ns_fld fo_103_0 rfl rfl rfl ?_
        refine ns_ldB pl_100 hs rfl rfl rfl (by rfl) ?_
        refine ns_len sl_100 rfl rfl rfl ?_
        refine ns_move rfl rfl ?_
        refine ns_cmp _ rfl rfl rfl rfl rfl ?_
        refine ns_pick rfl rfl rfl ?_
        refine ns_done ?_
        refine ⟨decide ((R.its.length : Int) > (mn : Int)), rfl, fun hq => ⟨R, h1, hR, by have := of_decide_eq_true hq; omega⟩, fun hq R' _ hR' => ?_, rfl, rfl, rfl, rfl, rfl, rfl, hs0⟩
        rw [hR] at hR'
        cases hR'
        have := of_decide_eq_false hq
        omega
      · have hs0 := hs
        obtain ⟨bs, hlen, hs⟩ := St.tree (hs.foc (Tp c (h + 1) t b))
        obtain ⟨⟨v1, v2⟩, hs⟩ := (hs.foc (NodeP c b (t.its) (bs))).ex
        simp only [mul_assoc'] at hs
        obtain ⟨a1, c1, rfl, hc1, hcm1⟩ := (hs.foc (IArr v1 t.its)).arr_form
        -- R9
        refine WP_seqr [⟨0, 0, []⟩, ⟨1, 0, []⟩, ⟨2, 0, []⟩, ⟨3, 0, []⟩, ⟨4, 1, []⟩, ⟨5, 0, []⟩, ⟨6, 0, []⟩, ⟨7, 0, []⟩, ⟨8, 0, []⟩, ⟨9, 0, []⟩, ⟨10, 0, []⟩, ⟨11, 0, []⟩, ⟨12, 0, []⟩, ⟨13, 0, []⟩, ⟨14, 0, []⟩, ⟨15, 0, []⟩, ⟨16, 0, []⟩, ⟨17, 0, []⟩, ⟨18, 0, []⟩, ⟨19, 0, []⟩, ⟨20, 0, []⟩, ⟨21, 0, []⟩, ⟨22, 0, []⟩] (by kernel_rfl) ?_
        refine ns_move rfl rfl ?_
        refine ns_move rfl rfl ?_
        refine ns_nil rfl rfl rfl ?_
        refine ns_fld fo_103_0 rfl rfl rfl ?_
        refine ns_ldB pl_100 hs rfl rfl rfl (by rfl) ?_
        refine ns_len sl_100 rfl rfl rfl ?_
        refine ns_cmp false rfl rfl rfl rfl (by simp [cmpI]; omega) ?_
        refine ns_move rfl rfl ?_
        refine ns_no rfl rfl ?_
        refine ns_no rfl rfl ?_
        refine ns_no rfl rfl ?_
        refine ns_no rfl rfl ?_
        refine ns_no rfl rfl ?_
        refine ns_no rfl rfl ?_
        refine ns_no rfl rfl ?_
        refine ns_no rfl rfl ?_
        refine ns_no rfl rfl ?_
        refine ns_no rfl rfl ?_
        refine ns_no rfl rfl ?_
        refine ns_no rfl rfl ?_
        refine ns_no rfl rfl ?_
        refine ns_no rfl rfl ?_
        refine ns_pick rfl rfl rfl ?_
        refine ns_done ?_
        exact ⟨false, rfl, (fun e => by cases e), (fun _ R e => by omega), rfl, rfl, rfl, rfl, rfl, rfl, hs0⟩
    rintro σ w ⟨q, g106, q3, q4, g0, g1, g3, g4, g7, g10, hs⟩
    obtain ⟨σ, rfl⟩ := rebase g106
    obtain ⟨σ, rfl⟩ := rebase (σ := σ) g0
    obtain ⟨σ, rfl⟩ := rebase (σ := σ) g1
    obtain ⟨σ, rfl⟩ := rebase (σ := σ) g3
    obtain ⟨σ, rfl⟩ := rebase (σ := σ) g4
    obtain ⟨σ, rfl⟩ := rebase (σ := σ) g7
    obtain ⟨σ, rfl⟩ := rebase (σ := σ) g10
    clear g106 g0 g1 g3 g4 g7 g10
    refine WP_if rfl (fun hif3 => ?_) (fun hif3 => ?_)
    · refine WP_seq ?_
      obtain ⟨R, hpl, hR, hbig⟩ := q3 hif3
      obtain ⟨p, rfl⟩ : ∃ p, i = p := ⟨i, rfl⟩
      have hkoL := hko
      have hkoR := kid_ok hO hR
      have hpk : i + 1 < t.kids.length := (List.getElem?_eq_some_iff.1 hR).1
      obtain ⟨wi, hw⟩ : ∃ wi, t.its[i]? = some wi := ⟨t.its[i]'(by omega), List.getElem?_eq_getElem (by omega)⟩
      obtain ⟨z, r, e⟩ : ∃ z r, R.its = z :: r := by
        cases hh : R.its with
        | nil => rw [hh] at hbig; simp at hbig
        | cons z r => exact ⟨z, r, rfl⟩
      have hGr := grown_right (ty := ty) hO hS hmx hp hw hk hR e hbig hsm
      obtain ⟨bs, hlen, hs⟩ := St.tree (hs.foc (Tp c (h + 1) t b))
      obtain ⟨yb, hyb⟩ : ∃ yb, bs[i]? = some yb := ⟨bs[i]'(by omega), List.getElem?_eq_getElem (by omega)⟩
      obtain ⟨xb, hxb⟩ : ∃ xb, bs[i + 1]? = some xb := ⟨bs[i + 1]'(by omega), List.getElem?_eq_getElem (by omega)⟩
      rw [Ks_pair hk hR hyb hxb] at hs
      simp only [mul_assoc'] at hs
      obtain ⟨bsL, hlenL, hs⟩ := St.tree (hs.foc (Tq c (h + 1) k yb))
      obtain ⟨bsR, hlenR, hs⟩ := St.tree (hs.foc (Tq c (h + 1) R xb))
      have hbL : bsL.length < 1000000 := by
        by_cases h0 : k.kids.length = 0
        · omega
        · have := kids_len hkoL.2.2 h0; omega
      have hbR : bsR.length < 1000000 := by
        by_cases h0 : R.kids.length = 0
        · omega
        · have := kids_len hkoR.2.2 h0; omega
      have hbs : bs.length < 1000000 := by omega
      -- R10
      refine WP_seqr [⟨0, 0, []⟩, ⟨1, 0, []⟩, ⟨2, 2, []⟩, ⟨3, 0, []⟩] (by kernel_rfl) ?_
      refine ns_move rfl rfl ?_
      refine ns_move rfl rfl ?_
      refine ns_call (f86_ok c b i yb t.its k.its bs bsL hyb) ck_86 (hs.foc (NodeP c b t.its bs * NodeP c yb k.its bsL)) rfl rfl rfl rfl ?_
      intro v109 w hs
      replace hs := hs.pu
      obtain ⟨rfl, hs⟩ := hs
      simp only [mul_assoc'] at hs
      refine ns_asg rfl rfl ?_
      refine ns_done ?_
      refine WP_seq ?_
      -- R11
      refine WP_seqr [⟨0, 0, []⟩, ⟨1, 0, []⟩, ⟨2, 0, []⟩, ⟨3, 2, []⟩, ⟨4, 0, []⟩] (by kernel_rfl) ?_
      refine ns_move rfl rfl ?_
      refine ns_move rfl rfl ?_
      refine ns_add rfl rfl rfl rfl (by omega) (by omega) ?_
      refine ns_call (f86_ok c b (i + 1) xb t.its R.its bs bsR hxb) ck_86 (hs.foc (NodeP c b t.its bs * NodeP c xb R.its bsR)) rfl rfl rfl rfl ?_
      intro v113 w hs
      replace hs := hs.pu
      obtain ⟨rfl, hs⟩ := hs
      simp only [mul_assoc'] at hs
      refine ns_asg rfl rfl ?_
      refine ns_done ?_
      refine WP_seq ?_
      -- R12
      refine WP_seqr [⟨0, 0, []⟩, ⟨1, 0, []⟩, ⟨2, 0, []⟩, ⟨3, 2, []⟩, ⟨4, 2, []⟩, ⟨5, 2, []⟩] (by kernel_rfl) ?_
      refine ns_move rfl rfl ?_
      refine ns_nil rfl rfl rfl ?_
      refine ns_fld fo_103_0 rfl rfl rfl ?_
      refine ns_call (f96_ok c xb 0 z R.its bsR (by rw [e]; rfl)) ck_96 (hs.foc (NodeP c xb R.its bsR)) rfl rfl rfl rfl ?_
      intro v117 w hs
      replace hs := hs.pu
      obtain ⟨rfl, hs⟩ := hs
      rw [show R.its.eraseIdx 0 = r from by rw [e]; rfl] at hs
      refine ns_alloc zc_45 hs rfl rfl ?_
      intro b17 w hs
      refine ns_stA (#[.int .i64 z.key, .int .i64 z.val]) ag_45 rfl (by decide) hs rfl rfl rfl rfl (by intro u hu; simp at hu; rcases hu with rfl | rfl <;> rfl) (by simp) ?_
      refine fun w hs => ⟨trivial, ?_⟩
      rw [splice2] at hs
      refine ns_done ?_
      refine WP_seq ?_
      obtain ⟨⟨v1, v2⟩, hs⟩ := (hs.foc (NodeP c b (t.its) (bs))).ex
      simp only [mul_assoc'] at hs
      obtain ⟨_, hz, _⟩ | ⟨g, cap, cur, hv, hc, hcm, hsz, htk, hs⟩ := (hs.foc (IArr (v1) (t.its))).arr
      · omega
      cases hv
      obtain ⟨⟨u1, u2⟩, hs⟩ := (hs.foc (NodeP c yb (k.its) (bsL))).ex
      simp only [mul_assoc'] at hs
      -- R13
      refine WP_net hs mix [0, 0, 2, 6, 14, 0, 32, 96, 224, 0, 992, 2016, 4064, 8190, 16383, 32767, 65535] [⟨0, 0, []⟩, ⟨1, 0, []⟩, ⟨2, 0, []⟩, ⟨3, 0, []⟩, ⟨4, 1, []⟩, ⟨5, 0, []⟩, ⟨6, 0, []⟩, ⟨7, 0, []⟩, ⟨8, 1, []⟩, ⟨9, 0, []⟩, ⟨10, 0, []⟩, ⟨11, 1, []⟩, ⟨12, 2, [4]⟩, ⟨13, 2, []⟩, ⟨14, 0, []⟩, ⟨15, 0, []⟩, ⟨16, 2, []⟩] (by kernel_rfl) ?_
      intro w hs
      refine ns_move rfl rfl ?_
      refine ns_move rfl rfl ?_
      refine ns_nil rfl rfl rfl ?_
      refine ns_fld fo_103_0 rfl rfl rfl ?_
      have hk4 := hs.c yb 0
      refine ns_ldB pl_100 hs rfl rfl rfl (by rfl) ?_
      refine ns_move rfl rfl ?_
      refine ns_nil rfl rfl rfl ?_
      refine ns_fld fo_103_0 rfl rfl rfl ?_
      refine ns_ldB pl_100 hs rfl rfl rfl (by rfl) ?_
      refine ns_move rfl rfl ?_
      refine ns_idx i sl_100 rfl rfl rfl rfl rfl hpl ?_
      refine ns_ldA [.int .i64 wi.key, .int .i64 wi.val] ag_45 rfl rfl rfl rfl (by decide) (it_cells hs htk _ hw) ?_
      refine ns_lit [itV wi] [.int .i64 wi.key, .int .i64 wi.val] sl_100 zr_45 (by decide) (by decide) hs rfl rfl rfl rfl (by simp [Value.cells, itV]) rfl ?_
      refine fun b130 w hs hx => ⟨⟨hx _ _ hk4, trivial⟩, ?_⟩
      refine ns_app [.int .i64 wi.key, .int .i64 wi.val] sl_100 zr_45 by_45 rfl (by decide) (hs.foc (IArr u1 k.its)) rfl rfl rfl rfl rfl (St.cells (n := 2) hs (by rfl)) (by intro u hu; simp at hu; rcases hu with rfl | rfl <;> rfl) (by simp only [maxLen]; omega) (by omega) ?_
      refine fun v131 w hs hv => ⟨trivial, ?_⟩
      have hs := hs.up (Ent.of_eq (IArr_eq (l := k.its ++ [wi]) (by simp) (by rw [encs_append]; rfl)))
      obtain ⟨a5, c5, rfl, _, _⟩ := hs.arr_form
      refine ns_nil rfl rfl rfl ?_
      refine ns_fld fo_103_0 rfl rfl rfl ?_
      refine ns_st (.slice a5 (k.its ++ [wi]).length c5) pl_100 hs rfl rfl rfl rfl rfl (by simp) ?_
      refine fun w hs => ⟨trivial, ?_⟩
      try simp only [Nat.zero_add] at hs
      try simp only [List.setIfInBounds_toArray] at hs
      try simp only [List.set_cons_succ] at hs
      try simp only [List.set_cons_zero] at hs
      refine ns_done ?_
      have hs := hs.fold (node_fold c yb (.slice a5 (k.its ++ [wi]).length c5) u2 (k.its ++ [wi]) bsL)
      refine WP_seq ?_
      -- R14
      refine WP_net hs mix [0, 1, 3, 7, 0, 0, 63, 127] [⟨0, 0, []⟩, ⟨1, 0, []⟩, ⟨2, 0, []⟩, ⟨3, 1, []⟩, ⟨4, 0, []⟩, ⟨5, 1, []⟩, ⟨6, 0, []⟩, ⟨7, 2, []⟩] (by kernel_rfl) ?_
      intro w hs
      refine ns_move rfl rfl ?_
      refine ns_nil rfl rfl rfl ?_
      refine ns_fld fo_103_0 rfl rfl rfl ?_
      refine ns_ldB pl_100 hs rfl rfl rfl (by rfl) ?_
      refine ns_move rfl rfl ?_
      refine ns_ldAB [.int .i64 z.key, .int .i64 z.val] ag_45 hs rfl rfl rfl (by rfl) (by rfl) (by decide) ?_
      refine ns_idx i sl_100 rfl rfl rfl rfl rfl hpl ?_
      refine ns_stA (#[.int .i64 z.key, .int .i64 z.val]) ag_45 rfl (by decide) hs rfl rfl rfl rfl (by intro u hu; simp at hu; rcases hu with rfl | rfl <;> rfl) (by rw [hsz]; omega) ?_
      refine fun w hs => ⟨trivial, ?_⟩
      rw [Nat.zero_add] at hs
      refine ns_done ?_
      have hset := set_cells (i := i) (c := enc z) hsz (encs_len t.its) rfl hc hpl htk
      rw [← encs_set t.its i z hpl] at hset
      have hs := (hs.foc (pts g (.cells (splice cur (i * 2) #[.int .i64 z.key, .int .i64 z.val].toList) 45 (0, 0)))).mk_arr' (n := t.its.length) (cap := cap) hc hcm (by rw [splice_size (by rw [hsz]; simp; omega), hsz]) hset
      have e9 : t.its.length = (t.its.set i z).length := by rw [List.length_set]
      rw [e9] at hs
      have hs := hs.fold (node_fold c b (.slice (some ⟨g, 0, none⟩) (t.its.set i z).length cap) v2 (t.its.set i z) bs)
      refine WP_seq ?_
      obtain ⟨⟨u3, u4⟩, hs⟩ := (hs.foc (NodeP c xb (r) (bsR))).ex
      simp only [mul_assoc'] at hs
      obtain ⟨a4, c4, rfl, hc4, hcm4⟩ := (hs.foc (PArr u4 bsR)).arr_form
      -- R15
      refine WP_seqr [⟨0, 0, []⟩, ⟨1, 0, []⟩, ⟨2, 0, []⟩, ⟨3, 1, []⟩, ⟨4, 0, []⟩, ⟨5, 0, []⟩] (by kernel_rfl) ?_
      refine ns_move rfl rfl ?_
      refine ns_nil rfl rfl rfl ?_
      refine ns_fld fo_103_1 rfl rfl rfl ?_
      refine ns_ldB pl_101 hs rfl rfl rfl (by rfl) ?_
      refine ns_len sl_101 rfl rfl rfl ?_
      refine ns_cmp _ rfl rfl rfl rfl rfl ?_
      refine ns_done ?_
      have hs := hs.fold (node_fold c xb u3 (.slice a4 bsR.length c4) r bsR)
      refine WP_if rfl (fun hif4 => ?_) (fun hif4 => ?_)
      · obtain ⟨qb, br, rfl⟩ : ∃ qb br, bsR = qb :: br := by
          cases hh : bsR with
          | nil => rw [hh] at hif4; simp at hif4
          | cons q r => exact ⟨q, r, rfl⟩
        obtain ⟨⟨p1, p2⟩, hs⟩ := (hs.foc (NodeP c yb (k.its ++ [wi]) (bsL))).ex
        simp only [mul_assoc'] at hs
        -- R16
        refine WP_net hs mix [0, 0, 2, 6, 14, 0, 32, 96, 224, 480, 1022, 2047, 4095, 8191] [⟨0, 0, []⟩, ⟨1, 0, []⟩, ⟨2, 0, []⟩, ⟨3, 0, []⟩, ⟨4, 1, []⟩, ⟨5, 0, []⟩, ⟨6, 0, []⟩, ⟨7, 0, []⟩, ⟨8, 2, [4]⟩, ⟨9, 2, [4]⟩, ⟨10, 2, []⟩, ⟨11, 0, []⟩, ⟨12, 0, []⟩, ⟨13, 2, []⟩] (by kernel_rfl) ?_
        intro w hs
        refine ns_move rfl rfl ?_
        refine ns_move rfl rfl ?_
        refine ns_nil rfl rfl rfl ?_
        refine ns_fld fo_103_1 rfl rfl rfl ?_
        refine ns_ldB pl_101 hs rfl rfl rfl (by rfl) ?_
        refine ns_move rfl rfl ?_
        refine ns_nil rfl rfl rfl ?_
        refine ns_fld fo_103_1 rfl rfl rfl ?_
        refine ns_callK (f102_ok c xb 0 qb r (qb :: br) rfl) ck_102 (hs.foc (NodeP c xb r (qb :: br))) rfl rfl rfl rfl ?_
        refine fun v155 w hs => ⟨⟨hs.c yb 1, trivial⟩, ?_⟩
        replace hs := hs.pu
        obtain ⟨rfl, hs⟩ := hs
        rw [show (qb :: br).eraseIdx 0 = br from rfl] at hs
        have hk4 := hs.c yb 1
        refine ns_lit [ptr qb] [ptr qb] sl_101 zr_85 (by decide) (by decide) hs rfl rfl rfl rfl (by simp [Value.cells, ptr]) rfl ?_
        refine fun b156 w hs hx => ⟨⟨hx _ _ hk4, trivial⟩, ?_⟩
        refine ns_app [ptr qb] sl_101 zr_85 by_85 rfl (by decide) (hs.foc (PArr p2 bsL)) rfl rfl rfl rfl rfl (St.cells (n := 1) hs (by rfl)) (by intro u hu; simp at hu; subst hu; rfl) (by simp only [maxLen]; omega) (by omega) ?_
        refine fun v157 w hs hv => ⟨trivial, ?_⟩
        have hs := hs.up (Ent.of_eq (PArr_eq (l := bsL ++ [qb]) (by simp) (by simp)))
        obtain ⟨a6, c6, rfl, _, _⟩ := hs.arr_form
        refine ns_nil rfl rfl rfl ?_
        refine ns_fld fo_103_1 rfl rfl rfl ?_
        refine ns_st (.slice a6 (bsL ++ [qb]).length c6) pl_101 hs rfl rfl rfl rfl rfl (by simp) ?_
        refine fun w hs => ⟨trivial, ?_⟩
        try simp only [Nat.zero_add] at hs
        try simp only [List.setIfInBounds_toArray] at hs
        try simp only [List.set_cons_succ] at hs
        try simp only [List.set_cons_zero] at hs
        refine ns_done ?_
        have hs := hs.fold (node_fold c yb p1 (.slice a6 (bsL ++ [qb]).length c6) (k.its ++ [wi]) (bsL ++ [qb]))
        have hs := hs.fold (giveR_fold (c := c) (h := h) (L := k) (R := R) (bsL := bsL) (yb := yb) (xb := xb) (qb := qb) (br := br) (r := r) (w := wi) hlenL hlenR)
        simp only [mul_assoc'] at hs
        have hs := hs.fold (pair_fold (c := c) (h := h) (b := b) (p := i) (t := t) (bs := bs) (yb := yb) (xb := xb) (t.its.set i z) (takeR k R wi) (giveR R r) hlen hpk hyb hxb)
        exact ⟨_, rfl, rfl, rfl, rfl, rfl, hGr, hs.out⟩
      refine WP_skip ?_
      have h0 : bsR.length = 0 := by simp at hif4; rw [hif4]; rfl
      have hs := hs.fold (giveR_fold0 (c := c) (h := h) (L := k) (R := R) (bsL := bsL) (bsR := bsR) (yb := yb) (xb := xb) (r := r) (w := wi) hlenL hlenR h0)
      simp only [mul_assoc'] at hs
      have hs := hs.fold (pair_fold (c := c) (h := h) (b := b) (p := i) (t := t) (bs := bs) (yb := yb) (xb := xb) (t.its.set i z) (takeR k R wi) (giveR R r) hlen hpk hyb hxb)
      exact ⟨_, rfl, rfl, rfl, rfl, rfl, hGr, hs.out⟩
    refine WP_seq_cut (fun σ w => ∃ p : Nat, (p = i ∨ (i = p + 1 ∧ t.its.length = p + 1)) ∧ p + 1 ≤ t.its.length ∧ σ 0 = ptr b ∧ σ 1 = .int .i64 p ∧ σ 3 = .int .i64 mn ∧ σ 4 = .int .i64 ty ∧ σ 7 = .pointer (some ⟨b7, 0, none⟩) ∧ σ 10 = .pointer (some ⟨b10, 0, none⟩) ∧ St w0 (pts b7 (.cells #[.int .i64 x.key, .int .i64 x.val] 45 (0, 0)) * (pts b10 (.cells #[.int .i64 0, .int .i64 0] 45 (0, 0)) * (Tp c (h + 1) t b * (Ctx c fl * F)))) w) ?_ ?_ -- S2
    · refine WP_seq ?_
      have hs0 := hs
      obtain ⟨bs, hlen, hs⟩ := St.tree (hs.foc (Tp c (h + 1) t b))
      obtain ⟨⟨v1, v2⟩, hs⟩ := (hs.foc (NodeP c b (t.its) (bs))).ex
      simp only [mul_assoc'] at hs
      obtain ⟨a1, c1, rfl, hc1, hcm1⟩ := (hs.foc (IArr v1 t.its)).arr_form
      -- R17
      refine WP_seqr [⟨0, 0, []⟩, ⟨1, 0, []⟩, ⟨2, 0, []⟩, ⟨3, 0, []⟩, ⟨4, 1, []⟩, ⟨5, 0, []⟩, ⟨6, 0, []⟩] (by kernel_rfl) ?_
      refine ns_move rfl rfl ?_
      refine ns_move rfl rfl ?_
      refine ns_nil rfl rfl rfl ?_
      refine ns_fld fo_103_0 rfl rfl rfl ?_
      refine ns_ldB pl_100 hs rfl rfl rfl (by rfl) ?_
      refine ns_len sl_100 rfl rfl rfl ?_
      refine ns_cmp _ rfl rfl rfl rfl rfl ?_
      refine ns_done ?_
      refine WP_if rfl (fun hif5 => ?_) (fun hif5 => ?_)
      · -- R18
        refine WP_seqr [⟨0, 0, []⟩, ⟨1, 0, []⟩, ⟨2, 0, []⟩] (by kernel_rfl) ?_
        refine ns_move rfl rfl ?_
        refine ns_sub rfl rfl rfl rfl (by omega) (by omega) ?_
        refine ns_asg rfl rfl ?_
        refine ns_done ?_
        have h5 := of_decide_eq_true hif5
        exact ⟨i - 1, .inr ⟨by omega, by omega⟩, by omega, rfl, congrArg (Value.int .i64) (by omega), rfl, rfl, rfl, rfl, hs0⟩
      refine WP_skip ?_
      have h5 := of_decide_eq_false hif5
      exact ⟨i, .inl rfl, by omega, rfl, rfl, rfl, rfl, rfl, rfl, hs0⟩
    rintro σ w ⟨p, hpi, hpl, g0, g1, g3, g4, g7, g10, hs⟩
    obtain ⟨σ, rfl⟩ := rebase g0
    obtain ⟨σ, rfl⟩ := rebase (σ := σ) g1
    obtain ⟨σ, rfl⟩ := rebase (σ := σ) g3
    obtain ⟨σ, rfl⟩ := rebase (σ := σ) g4
    obtain ⟨σ, rfl⟩ := rebase (σ := σ) g7
    obtain ⟨σ, rfl⟩ := rebase (σ := σ) g10
    clear g0 g1 g3 g4 g7 g10
    obtain ⟨L, hL⟩ : ∃ L, t.kids[p]? = some L := ⟨t.kids[p]'(by omega), List.getElem?_eq_getElem (by omega)⟩
    obtain ⟨R, hR⟩ : ∃ R, t.kids[p + 1]? = some R := ⟨t.kids[p + 1]'(by omega), List.getElem?_eq_getElem (by omega)⟩
    have hkoL := kid_ok hO hL
    have hkoR := kid_ok hO hR
    have hpk : p + 1 < t.kids.length := (List.getElem?_eq_some_iff.1 hR).1
    obtain ⟨wi, hw⟩ : ∃ wi, t.its[p]? = some wi := ⟨t.its[p]'(by omega), List.getElem?_eq_getElem (by omega)⟩
    have hsml : L.its.length ≤ mn ∧ R.its.length ≤ mn := by
      rcases hpi with rfl | ⟨rfl, e⟩
      · rw [hk] at hL
        cases hL
        exact ⟨hsm, q4 hif3 R (by omega) hR⟩
      · rw [hk] at hR
        cases hR
        exact ⟨q2 hif1 p L rfl hL, hsm⟩
    have hGr := grown_join (ty := ty) (x := x) hO hS hmx (by rw [hp]; exact hpi.imp Eq.symm id) hw hL hR hsml.1 hsml.2
    obtain ⟨bs, hlen, hs⟩ := St.tree (hs.foc (Tp c (h + 1) t b))
    obtain ⟨yb, hyb⟩ : ∃ yb, bs[p]? = some yb := ⟨bs[p]'(by omega), List.getElem?_eq_getElem (by omega)⟩
    obtain ⟨xb, hxb⟩ : ∃ xb, bs[p + 1]? = some xb := ⟨bs[p + 1]'(by omega), List.getElem?_eq_getElem (by omega)⟩
    rw [Ks_pair hL hR hyb hxb] at hs
    simp only [mul_assoc'] at hs
    obtain ⟨bsL, hlenL, hs⟩ := St.tree (hs.foc (Tq c (h + 1) L yb))
    obtain ⟨bsR, hlenR, hs⟩ := St.tree (hs.foc (Tq c (h + 1) R xb))
    have hbL : bsL.length < 1000000 := by
      by_cases h0 : L.kids.length = 0
      · omega
      · have := kids_len hkoL.2.2 h0; omega
    have hbR : bsR.length < 1000000 := by
      by_cases h0 : R.kids.length = 0
      · omega
      · have := kids_len hkoR.2.2 h0; omega
    have hbs : bs.length < 1000000 := by omega
    refine WP_seq ?_
    -- R19
    refine WP_seqr [⟨0, 0, []⟩, ⟨1, 0, []⟩, ⟨2, 2, []⟩, ⟨3, 0, []⟩] (by kernel_rfl) ?_
    refine ns_move rfl rfl ?_
    refine ns_move rfl rfl ?_
    refine ns_call (f86_ok c b p yb t.its L.its bs bsL hyb) ck_86 (hs.foc (NodeP c b t.its bs * NodeP c yb L.its bsL)) rfl rfl rfl rfl ?_
    intro v171 w hs
    replace hs := hs.pu
    obtain ⟨rfl, hs⟩ := hs
    simp only [mul_assoc'] at hs
    refine ns_asg rfl rfl ?_
    refine ns_done ?_
    refine WP_seq ?_
    -- R20
    refine WP_seqr [⟨0, 0, []⟩, ⟨1, 0, []⟩, ⟨2, 0, []⟩, ⟨3, 0, []⟩, ⟨4, 2, []⟩, ⟨5, 2, []⟩, ⟨6, 2, []⟩] (by kernel_rfl) ?_
    refine ns_move rfl rfl ?_
    refine ns_nil rfl rfl rfl ?_
    refine ns_fld fo_103_0 rfl rfl rfl ?_
    refine ns_move rfl rfl ?_
    refine ns_call (f96_ok c b p wi t.its bs hw) ck_96 (hs.foc (NodeP c b t.its bs)) rfl rfl rfl rfl ?_
    intro v176 w hs
    replace hs := hs.pu
    obtain ⟨rfl, hs⟩ := hs
    refine ns_alloc zc_45 hs rfl rfl ?_
    intro b19 w hs
    refine ns_stA (#[.int .i64 wi.key, .int .i64 wi.val]) ag_45 rfl (by decide) hs rfl rfl rfl rfl (by intro u hu; simp at hu; rcases hu with rfl | rfl <;> rfl) (by simp) ?_
    refine fun w hs => ⟨trivial, ?_⟩
    rw [splice2] at hs
    refine ns_done ?_
    refine WP_seq ?_
    -- R21
    refine WP_seqr [⟨0, 0, []⟩, ⟨1, 0, []⟩, ⟨2, 0, []⟩, ⟨3, 0, []⟩, ⟨4, 0, []⟩, ⟨5, 2, []⟩, ⟨6, 0, []⟩] (by kernel_rfl) ?_
    refine ns_move rfl rfl ?_
    refine ns_nil rfl rfl rfl ?_
    refine ns_fld fo_103_1 rfl rfl rfl ?_
    refine ns_move rfl rfl ?_
    refine ns_add rfl rfl rfl rfl (by omega) (by omega) ?_
    refine ns_call (f102_ok c b (p + 1) xb (t.its.eraseIdx p) bs hxb) ck_102 (hs.foc (NodeP c b (t.its.eraseIdx p) bs)) rfl rfl rfl rfl ?_
    intro v182 w hs
    replace hs := hs.pu
    obtain ⟨rfl, hs⟩ := hs
    refine ns_asg rfl rfl ?_
    refine ns_done ?_
    refine WP_seq ?_
    obtain ⟨⟨u1, u2⟩, hs⟩ := (hs.foc (NodeP c yb (L.its) (bsL))).ex
    simp only [mul_assoc'] at hs
    -- R22
    refine WP_net hs mix [0, 0, 2, 6, 14, 0, 32, 126, 255, 511, 1023] [⟨0, 0, []⟩, ⟨1, 0, []⟩, ⟨2, 0, []⟩, ⟨3, 0, []⟩, ⟨4, 1, []⟩, ⟨5, 1, []⟩, ⟨6, 2, [4]⟩, ⟨7, 2, []⟩, ⟨8, 0, []⟩, ⟨9, 0, []⟩, ⟨10, 2, []⟩] (by kernel_rfl) ?_
    intro w hs
    refine ns_move rfl rfl ?_
    refine ns_move rfl rfl ?_
    refine ns_nil rfl rfl rfl ?_
    refine ns_fld fo_103_0 rfl rfl rfl ?_
    have hk4 := hs.c yb 0
    refine ns_ldB pl_100 hs rfl rfl rfl (by rfl) ?_
    refine ns_ldAB [.int .i64 wi.key, .int .i64 wi.val] ag_45 hs rfl rfl rfl (by rfl) (by rfl) (by decide) ?_
    refine ns_lit [itV wi] [.int .i64 wi.key, .int .i64 wi.val] sl_100 zr_45 (by decide) (by decide) hs rfl rfl rfl rfl (by simp [Value.cells, itV]) rfl ?_
    refine fun b189 w hs hx => ⟨⟨hx _ _ hk4, trivial⟩, ?_⟩
    refine ns_app [.int .i64 wi.key, .int .i64 wi.val] sl_100 zr_45 by_45 rfl (by decide) (hs.foc (IArr u1 L.its)) rfl rfl rfl rfl rfl (St.cells (n := 2) hs (by rfl)) (by intro u hu; simp at hu; rcases hu with rfl | rfl <;> rfl) (by simp only [maxLen]; omega) (by omega) ?_
    refine fun v190 w hs hv => ⟨trivial, ?_⟩
    have hs := hs.up (Ent.of_eq (IArr_eq (l := L.its ++ [wi]) (by simp) (by rw [encs_append]; rfl)))
    obtain ⟨a5, c5, rfl, _, _⟩ := hs.arr_form
    refine ns_nil rfl rfl rfl ?_
    refine ns_fld fo_103_0 rfl rfl rfl ?_
    refine ns_st (.slice a5 (L.its ++ [wi]).length c5) pl_100 hs rfl rfl rfl rfl rfl (by simp) ?_
    refine fun w hs => ⟨trivial, ?_⟩
    try simp only [Nat.zero_add] at hs
    try simp only [List.setIfInBounds_toArray] at hs
    try simp only [List.set_cons_succ] at hs
    try simp only [List.set_cons_zero] at hs
    refine ns_done ?_
    refine WP_seq ?_
    obtain ⟨⟨u3, u4⟩, hs⟩ := (hs.foc (NodeP c xb (R.its) (bsR))).ex
    simp only [mul_assoc'] at hs
    obtain ⟨_, hz3, _⟩ | ⟨g3, cap3, cur3, hv3, hc3, hcm3, hsz3, htk3, hs⟩ := (hs.foc (IArr (u3) (R.its))).arr
    · omega
    cases hv3
    have hlw : (L.its ++ [wi]).length = L.its.length + 1 := by simp
    -- R23
    refine WP_net hs mix [0, 0, 2, 6, 14, 0, 32, 96, 224, 510, 1023, 2047, 4095] [⟨0, 0, []⟩, ⟨1, 0, []⟩, ⟨2, 0, []⟩, ⟨3, 0, []⟩, ⟨4, 1, []⟩, ⟨5, 0, []⟩, ⟨6, 0, []⟩, ⟨7, 0, []⟩, ⟨8, 1, []⟩, ⟨9, 2, []⟩, ⟨10, 0, []⟩, ⟨11, 0, []⟩, ⟨12, 2, []⟩] (by kernel_rfl) ?_
    intro w hs
    refine ns_move rfl rfl ?_
    refine ns_move rfl rfl ?_
    refine ns_nil rfl rfl rfl ?_
    refine ns_fld fo_103_0 rfl rfl rfl ?_
    refine ns_ldB pl_100 hs rfl rfl rfl (by rfl) ?_
    refine ns_move rfl rfl ?_
    refine ns_nil rfl rfl rfl ?_
    refine ns_fld fo_103_0 rfl rfl rfl ?_
    refine ns_ldB pl_100 hs rfl rfl rfl (by rfl) ?_
    refine ns_app (encs R.its) sl_100 zr_45 by_45 rfl (by decide) (hs.foc (IArr (.slice a5 (L.its ++ [wi]).length c5) (L.its ++ [wi]))) rfl rfl rfl rfl (encs_len R.its) (row_cells hs htk3 0 (encs R.its).length (by simp)) (fun u hu => encs_one R.its u hu) (by simp only [maxLen]; omega) (by omega) ?_
    refine fun v202 w hs hv => ⟨trivial, ?_⟩
    have hs := hs.up (Ent.of_eq (IArr_eq (l := L.its ++ wi :: R.its) (by simp; omega) (by rw [← encs_append]; simp)))
    obtain ⟨a7, c7, rfl, _, _⟩ := hs.arr_form
    refine ns_nil rfl rfl rfl ?_
    refine ns_fld fo_103_0 rfl rfl rfl ?_
    refine ns_st (.slice a7 (L.its ++ wi :: R.its).length c7) pl_100 hs rfl rfl rfl rfl rfl (by simp) ?_
    refine fun w hs => ⟨trivial, ?_⟩
    try simp only [Nat.zero_add] at hs
    try simp only [List.setIfInBounds_toArray] at hs
    try simp only [List.set_cons_succ] at hs
    try simp only [List.set_cons_zero] at hs
    refine ns_done ?_
    refine WP_seq_cut (fun σ w => σ 0 = ptr b ∧ σ 3 = .int .i64 mn ∧ σ 4 = .int .i64 ty ∧ σ 7 = .pointer (some ⟨b7, 0, none⟩) ∧ σ 10 = .pointer (some ⟨b10, 0, none⟩) ∧ σ 20 = ptr xb ∧ St w0 (NodeP c xb R.its bsR * (Ctx c fl * (NodeP c b (t.its.eraseIdx p) (bs.eraseIdx (p + 1)) * (NodeP c yb (L.its ++ wi :: R.its) (bsL ++ bsR) * (Ks c h L.kids bsL * (Ks c h R.kids bsR * (Kr c (h + 1) t.kids bs p * (pts b7 (.cells #[.int .i64 x.key, .int .i64 x.val] 45 (0, 0)) * (pts b10 (.cells #[.int .i64 0, .int .i64 0] 45 (0, 0)) * F))))))))) w) ?_ ?_ -- R24.cut
    · have hs := (hs.foc (pts g3 (.cells cur3 45 (0, 0)))).mk_arr' hc3 hcm3 hsz3 htk3
      rcases (hs.foc (PArr u4 bsR)).arr with ⟨e1, e2, e3, hs⟩ | ⟨g4, cap4, cur4, e1, hc4, hcm4, hsz4, htk4, hs⟩ <;> subst e1
      · -- R24
        refine WP_net hs mix [0, 0, 2, 6, 14, 0, 32, 96, 224, 510, 1023, 2047, 4095] [⟨0, 0, []⟩, ⟨1, 0, []⟩, ⟨2, 0, []⟩, ⟨3, 0, []⟩, ⟨4, 1, []⟩, ⟨5, 0, []⟩, ⟨6, 0, []⟩, ⟨7, 0, []⟩, ⟨8, 1, []⟩, ⟨9, 2, []⟩, ⟨10, 0, []⟩, ⟨11, 0, []⟩, ⟨12, 2, []⟩] (by kernel_rfl) ?_
        intro w hs
        refine ns_move rfl rfl ?_
        refine ns_move rfl rfl ?_
        refine ns_nil rfl rfl rfl ?_
        refine ns_fld fo_103_1 rfl rfl rfl ?_
        refine ns_ldB pl_101 hs rfl rfl rfl (by rfl) ?_
        refine ns_move rfl rfl ?_
        refine ns_nil rfl rfl rfl ?_
        refine ns_fld fo_103_1 rfl rfl rfl ?_
        refine ns_ldB pl_101 hs rfl rfl rfl (by rfl) ?_
        refine ns_app0 sl_101 (hs.foc (PArr u2 bsL)) rfl rfl rfl rfl ?_
        refine ⟨trivial, ?_⟩
        obtain ⟨a8, c8, rfl, _, _⟩ := (hs.foc (PArr u2 bsL)).arr_form
        refine ns_nil rfl rfl rfl ?_
        refine ns_fld fo_103_1 rfl rfl rfl ?_
        refine ns_st (.slice a8 bsL.length c8) pl_101 hs rfl rfl rfl rfl rfl (by simp) ?_
        refine fun w hs => ⟨trivial, ?_⟩
        try simp only [Nat.zero_add] at hs
        try simp only [List.setIfInBounds_toArray] at hs
        try simp only [List.set_cons_succ] at hs
        try simp only [List.set_cons_zero] at hs
        refine ns_done ?_
        have hz : bsR = [] := List.eq_nil_of_length_eq_zero e2
        subst hz
        have hs := hs.fold (node_fold c yb (.slice a7 (L.its ++ wi :: R.its).length c7) (.slice a8 bsL.length c8) (L.its ++ wi :: R.its) bsL)
        have hs : St w0 (PArr (.slice none 0 0) [] * _) w := hs.eq (show _ = (PArr (.slice none 0 0) [] : HProp) * _ by rw [show (PArr (.slice none 0 0) [] : HProp) = 1 from Arr.nil 85 1, one_mul'])
        have hs := hs.fold (node_fold c xb (.slice (some ⟨g3, 0, none⟩) R.its.length cap3) (.slice none 0 0) R.its [])
        rw [List.append_nil]
        exact ⟨rfl, rfl, rfl, rfl, rfl, rfl, hs.out⟩
      · -- R24
        refine WP_net hs mix [0, 0, 2, 6, 14, 0, 32, 96, 224, 510, 1023, 2047, 4095] [⟨0, 0, []⟩, ⟨1, 0, []⟩, ⟨2, 0, []⟩, ⟨3, 0, []⟩, ⟨4, 1, []⟩, ⟨5, 0, []⟩, ⟨6, 0, []⟩, ⟨7, 0, []⟩, ⟨8, 1, []⟩, ⟨9, 2, []⟩, ⟨10, 0, []⟩, ⟨11, 0, []⟩, ⟨12, 2, []⟩] (by kernel_rfl) ?_
        intro w hs
        refine ns_move rfl rfl ?_
        refine ns_move rfl rfl ?_
        refine ns_nil rfl rfl rfl ?_
        refine ns_fld fo_103_1 rfl rfl rfl ?_
        refine ns_ldB pl_101 hs rfl rfl rfl (by rfl) ?_
        refine ns_move rfl rfl ?_
        refine ns_nil rfl rfl rfl ?_
        refine ns_fld fo_103_1 rfl rfl rfl ?_
        refine ns_ldB pl_101 hs rfl rfl rfl (by rfl) ?_
        refine ns_app (bsR.map ptr) sl_101 zr_85 by_85 rfl (by decide) (hs.foc (PArr u2 bsL)) rfl rfl rfl rfl (by rw [List.length_map, Nat.mul_one]) (row_cells hs htk4 0 (bsR.map ptr).length (List.take_of_length_le (Nat.le_refl _))) (fun u hu => ptrs_one bsR u hu) (by simp only [maxLen]; omega) (by omega) ?_
        refine fun v214 w hs hv => ⟨trivial, ?_⟩
        have hs := hs.up (Ent.of_eq (PArr_eq (l := bsL ++ bsR) (by simp) (by simp)))
        obtain ⟨a8, c8, rfl, _, _⟩ := hs.arr_form
        refine ns_nil rfl rfl rfl ?_
        refine ns_fld fo_103_1 rfl rfl rfl ?_
        refine ns_st (.slice a8 (bsL ++ bsR).length c8) pl_101 hs rfl rfl rfl rfl rfl (by simp) ?_
        refine fun w hs => ⟨trivial, ?_⟩
        try simp only [Nat.zero_add] at hs
        try simp only [List.setIfInBounds_toArray] at hs
        try simp only [List.set_cons_succ] at hs
        try simp only [List.set_cons_zero] at hs
        refine ns_done ?_
        have hs := (hs.foc (pts g4 (.cells cur4 85 (0, 0)))).mk_arr' hc4 hcm4 hsz4 htk4
        have hs := hs.fold (node_fold c yb (.slice a7 (L.its ++ wi :: R.its).length c7) (.slice a8 (bsL ++ bsR).length c8) (L.its ++ wi :: R.its) (bsL ++ bsR))
        have hs := hs.fold (node_fold c xb (.slice (some ⟨g3, 0, none⟩) R.its.length cap3) (.slice (some ⟨g4, 0, none⟩) bsR.length cap4) R.its bsR)
        exact ⟨rfl, rfl, rfl, rfl, rfl, rfl, hs.out⟩
    rintro σ w ⟨g0, g3, g4, g7, g10, g20, hs⟩
    obtain ⟨σ, rfl⟩ := rebase g0
    obtain ⟨σ, rfl⟩ := rebase (σ := σ) g3
    obtain ⟨σ, rfl⟩ := rebase (σ := σ) g4
    obtain ⟨σ, rfl⟩ := rebase (σ := σ) g7
    obtain ⟨σ, rfl⟩ := rebase (σ := σ) g10
    obtain ⟨σ, rfl⟩ := rebase (σ := σ) g20
    clear g0 g3 g4 g7 g10 g20
    obtain ⟨⟨v1, v2⟩, hs⟩ := (hs.foc (NodeP c b (t.its.eraseIdx p) (bs.eraseIdx (p + 1)))).ex
    simp only [mul_assoc'] at hs
    -- R25
    refine WP_seqr [⟨0, 0, []⟩, ⟨1, 0, []⟩, ⟨2, 0, []⟩, ⟨3, 1, []⟩, ⟨4, 0, []⟩, ⟨5, 2, []⟩] (by kernel_rfl) ?_
    refine ns_move rfl rfl ?_
    refine ns_nil rfl rfl rfl ?_
    refine ns_fld fo_103_2 rfl rfl rfl ?_
    refine ns_ldB pl_82 hs rfl rfl rfl (by rfl) ?_
    refine ns_move rfl rfl ?_
    refine ns_call (f89_ok c fl xb R.its bsR) ck_89 (hs.foc (NodeP c xb R.its bsR * Ctx c fl)) rfl rfl rfl rfl ?_
    intro v222 w hs
    replace hs := hs.ex
    obtain ⟨kk, hs⟩ := hs
    replace hs := hs.pu
    obtain ⟨rfl, hs⟩ := hs
    refine ns_done ?_
    have hs := hs.fold (node_fold c b v1 v2 (t.its.eraseIdx p) (bs.eraseIdx (p + 1)))
    have hs := hs.fold (join_fold (c := c) (h := h) (L := L) (R := R) (bsL := bsL) (bsR := bsR) (yb := yb) (w := wi) hlenL hlenR)
    have hs := hs.fold (merge_fold (c := c) (h := h) (b := b) (p := p) (t := t) (bs := bs) (yb := yb) (t.its.eraseIdx p) (joinT L R wi) hlen hpk hyb)
    exact ⟨_, rfl, rfl, rfl, rfl, rfl, hGr, hs.out⟩
  rintro σ w ⟨t1, g0, g3, g4, g7, g10, hGr, hs⟩
  obtain ⟨σ, rfl⟩ := rebase g0
  obtain ⟨σ, rfl⟩ := rebase (σ := σ) g3
  obtain ⟨σ, rfl⟩ := rebase (σ := σ) g4
  obtain ⟨σ, rfl⟩ := rebase (σ := σ) g7
  obtain ⟨σ, rfl⟩ := rebase (σ := σ) g10
  clear g0 g3 g4 g7 g10
  refine WP_seq ?_
  -- R26
  refine WP_seqr [⟨0, 0, []⟩, ⟨1, 1, []⟩, ⟨2, 0, []⟩, ⟨3, 0, []⟩, ⟨4, 2, []⟩, ⟨5, 0, []⟩, ⟨6, 0, []⟩, ⟨7, 2, []⟩, ⟨8, 0, []⟩] (by kernel_rfl) ?_
  refine ns_move rfl rfl ?_
  refine ns_ldAB [.int .i64 x.key, .int .i64 x.val] ag_45 hs rfl rfl rfl (by rfl) (by rfl) (by decide) ?_
  refine ns_move rfl rfl ?_
  refine ns_move rfl rfl ?_
  refine ns_call (hrec t1 hGr) ck_87 (hs.foc (Tp c (h + 1) t1 b * Ctx c fl)) rfl rfl rfl rfl ?_
  intro v227 w hs
  unfold RemP at hs
  replace hs := hs.ex
  obtain ⟨t2, hs⟩ := hs
  replace hs := hs.pu
  obtain ⟨⟨rfl, r1, r2, r3, r4⟩, hs⟩ := hs
  simp only [mul_assoc'] at hs
  refine ns_ext rfl rfl rfl rfl ?_
  refine ns_ext rfl rfl rfl rfl ?_
  refine ns_stA (#[.int .i64 ((rmo ty (flat (h + 1) t1) x).getD zero).key, .int .i64 ((rmo ty (flat (h + 1) t1) x).getD zero).val]) ag_45 rfl (by decide) hs rfl rfl rfl rfl (by intro u hu; simp at hu; rcases hu with rfl | rfl <;> rfl) (by simp) ?_
  refine fun w hs => ⟨trivial, ?_⟩
  refine ns_asg rfl rfl ?_
  refine ns_done ?_
  refine WP_ret ?_
  have hload := run_loadVarA (P := Try.prog) (t := 45) (n := 2) (ad := ⟨b10, 0, none⟩) (vs := [.int .i64 ((rmo ty (flat (h + 1) t1) x).getD zero).key, .int .i64 ((rmo ty (flat (h + 1) t1) x).getD zero).val]) ag_45 rfl (by decide) w (St.cells (n := 2) hs (by rfl))
  obtain ⟨_, hF, h1, h2, _⟩ := hGr
  rw [hF] at r4
  have hv := congrArg (fun l => ans (rmo ty l x)) hF
  exact ⟨_, resCT 10 45 11 rfl hload, St.mk_ex t2 (St.mk_pu ⟨hv, r1, by omega, by omega, r4⟩ hs.out)⟩
/-- taking out where the kid that is gone into can give -/
theorem f87_big (c fl mn mx h b ty : Nat) (x : It) (t : Tr) (hmn : 1 ≤ mn) (hm : mx < 10000) (hty : ty = 0 ∨ ty = 1 ∨ ty = 2) (hO : Ok mn mx (h + 1) t) (hl : t.its.length ≤ mx) (hS : Srt (flat (h + 1) t))
    (hbig : ∀ k : Tr, t.kids[plc ty t x]? = some k → mn < k.its.length)
    (hkid : ∀ (ty' : Nat) (k : Tr) (xb : Nat) (x' : It), (ty' = 0 ∨ ty' = 1 ∨ ty' = 2) → Ok mn mx h k → mn < k.its.length → k.its.length ≤ mx → Srt (flat h k) → Tri Try.prog 87 #[ptr xb, itV x', .int .i64 mn, .int .i64 ty'] (Tp c h k xb * Ctx c fl) (RemP c fl mn mx h xb k x' ty' 1)) :
    Tri Try.prog 87 #[ptr b, itV x, .int .i64 mn, .int .i64 ty] (Tp c (h + 1) t b * Ctx c fl) (RemP c fl mn mx (h + 1) b t x ty 0) :=
  f87_step c fl mn mx (h + 1) b ty 0 x t hmn hm hty hO hl hS (fun e => by cases e) (fun h' ty' k xb x' e => by cases e; exact hkid ty' k xb x') fun k hk hle => absurd (hbig k hk) (by omega)
theorem f87_ok (c fl mn mx : Nat) (hmn : 1 ≤ mn) (hmx : mx = 2 * mn + 1) (hm : mx < 10000) : ∀ (h ty b : Nat) (t : Tr) (x : It), (ty = 0 ∨ ty = 1 ∨ ty = 2) → Ok mn mx h t → 1 ≤ t.its.length → t.its.length ≤ mx → Srt (flat h t) →
    Tri Try.prog 87 #[ptr b, itV x, .int .i64 mn, .int .i64 ty] (Tp c h t b * Ctx c fl) (RemP c fl mn mx h b t x ty 1) := by
  intro h
  induction h with
  | zero =>
    exact fun ty b t x hty hO h1 hl hS => f87_step c fl mn mx 0 b ty 1 x t hmn hm hty hO hl hS (fun _ => ⟨h1, rfl⟩) (fun h' ty' k xb x' e => by cases e) fun k hk => by rw [show t.kids = [] from hO] at hk; simp at hk
  | succ h ih =>
    intro ty b t x hty hO h1 hl hS
    have hkid : ∀ (ty' : Nat) (k : Tr) (xb : Nat) (x' : It), (ty' = 0 ∨ ty' = 1 ∨ ty' = 2) → Ok mn mx h k → mn < k.its.length → k.its.length ≤ mx → Srt (flat h k) → Tri Try.prog 87 #[ptr xb, itV x', .int .i64 mn, .int .i64 ty'] (Tp c h k xb * Ctx c fl) (RemP c fl mn mx h xb k x' ty' 1) :=
      fun ty' k xb x' ht hk hb hkl hkS => ih ty' xb k x' ht hk (by omega) hkl hkS
    refine f87_step c fl mn mx (h + 1) b ty 1 x t hmn hm hty hO hl hS (fun e => by cases e) (fun h' ty' k xb x' e => by cases e; exact hkid ty' k xb x') fun k hk hsm => ?_
    refine f97_ok c fl mn mx h b ty (plc ty t x) x t k hmn hmx hm hO h1 hl hS rfl hk hsm fun t1 hG => ?_
    obtain ⟨g1, g2, g3, g4, g5⟩ := hG
    exact f87_big c fl mn mx h b ty x t1 hmn hm hty g1 (by omega) (by rw [g2]; exact hS) g5 hkid
end Go.Proofs.Ytnnembkganlbpaa
