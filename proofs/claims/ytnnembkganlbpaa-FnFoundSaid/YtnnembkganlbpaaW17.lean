/- The walk within bounds, ascending. -/
import Derived.Test.YtnnembkganlbpaaW16
import Derived.Test.YtnnembkganlbpaaTw
namespace Go.Proofs.Ytnnembkganlbpaa
open Go Go.Sl Go.Net Go.Wk Go.Bt Go.RowKit

/-- an optional item as a value -/
def ov (o : Option It) : Value := .agg #[.int .i64 (o.getD zero).key, .int .i64 (o.getD zero).val, .bool o.isSome]
def ovC (o : Option It) : Array Value := #[.int .i64 (o.getD zero).key, .int .i64 (o.getD zero).val, .bool o.isSome]
/-- what an ascending walk over the tree leaves -/
def ItP (c fl vb h b : Nat) (t : Tr) (most : Int) (st sp : Option It) (acc : List It) (v : Value) : HProp := ex fun r : Bool × Bool × List It =>
  pu (v = .tuple #[.bool r.1, .bool r.2.1] ∧ ItA most st sp (flat h t) acc r.2.2 r.2.1) * (Tp c h t b * (Ctx c fl * VisP vb r.2.2 most))
theorem kidL_at {mn mx h i : Nat} {t k : Tr} (_hO : Ok mn mx (h + 1) t) (hk : t.kids[i]? = some k) : kidL (h + 1) t i = flat h k := by
  show ((t.kids[i]?).map (flat h)).getD [] = _
  rw [hk]; rfl
theorem ItA_len {most : Int} {st sp : Option It} {l acc acc2 : List It} {ok : Bool} (h : ItA most st sp l acc acc2 ok) : acc2.length ≤ acc.length + l.length := by
  rw [h.1]
  have h1 := feed_len most (sel st sp l) acc
  have h2 : (sel st sp l).length ≤ l.length := List.length_filter_le ..
  omega
set_option maxHeartbeats 6400000 in
theorem f76_asc (c fl mn mx vb h b : Nat) (t : Tr) (most : Int) (st sp : Option It) (inc hit : Bool) (acc : List It) (hm : mx < 10000) (hO : Ok mn mx h t) (hl : t.its.length ≤ mx) (hS : Srt (flat h t)) (hinc : st ≠ none → inc = true) (hal : acc.length + (flat h t).length < 1000000)
    (hkid : ∀ (h' : Nat) (k : Tr) (xb : Nat) (hit' : Bool) (acc' : List It), h = h' + 1 → Ok mn mx h' k → k.its.length ≤ mx → Srt (flat h' k) → acc'.length + (flat h' k).length < 1000000 → Tri Try.prog 76 #[ptr xb, .int .i64 1, ov st, ov sp, .bool inc, .bool hit', seeV vb] (Tp c h' k xb * (Ctx c fl * VisP vb acc' most)) (ItP c fl vb h' xb k most st sp acc')) :
    Tri Try.prog 76 #[ptr b, .int .i64 1, ov st, ov sp, .bool inc, .bool hit, seeV vb] (Tp c h t b * (Ctx c fl * VisP vb acc most)) (ItP c fl vb h b t most st sp acc) := by
  have hSi := srt_its hO hS
  intro w0 F w hs
  simp only [mul_assoc'] at hs
  refine calls_WP 343 #[.tmp 14, .tmp 15] Try.func76 rfl Try.ntmps76 rfl (Nat.le_of_ble_eq_true rfl) ?_
  refine WP_seq ?_
  -- R0
  refine WP_seqr [⟨0, 2, []⟩, ⟨1, 2, []⟩, ⟨2, 0, []⟩, ⟨3, 0, []⟩] (by kernel_rfl) ?_
  refine ns_box (ovC st) hs rfl rfl rfl rfl ?_
  intro b9 w hs
  refine ns_box (ovC sp) hs rfl rfl rfl rfl ?_
  intro b10 w hs
  refine ns_asg rfl rfl ?_
  refine ns_asg rfl rfl ?_
  refine ns_done ?_
  have hs := (hs.foc (pts b9 (.cells (ovC st) 116 (0, 0)) * (pts b10 (.cells (ovC sp) 116 (0, 0)) * (Tp c h t b * (Ctx c fl * (VisP vb acc most * F)))))).fst
  refine WP_seq ?_
  -- R1
  refine WP_seqr [⟨0, 0, []⟩, ⟨1, 0, []⟩] (by kernel_rfl) ?_
  refine ns_asg rfl rfl ?_
  refine ns_asg rfl rfl ?_
  refine ns_done ?_
  refine WP_seq ?_
  -- R2
  refine WP_seqr [⟨0, 0, []⟩] (by kernel_rfl) ?_
  refine ns_asg rfl rfl ?_
  refine ns_done ?_
  refine WP_seq_cut (fun σ w => ∃ (hit2 : Bool) (acc2 : List It), σ 5 = .bool hit2 ∧ ItA most st sp (flat h t) acc acc2 true ∧ St w0 (pts b9 (.cells (ovC st) 116 (0, 0)) * (pts b10 (.cells (ovC sp) 116 (0, 0)) * (Tp c h t b * (Ctx c fl * (VisP vb acc2 most * F))))) w) ?_ ?_ -- S1
  · refine WP_seq ?_
    -- R3
    refine WP_seqr [⟨0, 0, []⟩] (by kernel_rfl) ?_
    refine ns_move rfl rfl ?_
    refine ns_done ?_
    refine WP_block ?_
    refine WP_seq ?_
    -- R4
    refine WP_seqr [⟨0, 0, []⟩, ⟨1, 0, []⟩] (by kernel_rfl) ?_
    refine ns_cmp true rfl rfl rfl rfl rfl ?_
    refine ns_asg rfl rfl ?_
    refine ns_done ?_
    refine WP_true rfl ?_ -- if1
    refine WP_seq_cut (fun σ w => ∃ i0 : Nat, i0 ≤ t.its.length ∧ (∃ A, flat h t = A ++ rst h t i0 ∧ ∀ a ∈ A, geS st a = false) ∧ (∀ j y, i0 ≤ j → t.its[j]? = some y → geS st y = true) ∧ σ 18 = .int .i64 i0 ∧ σ 0 = ptr b ∧ σ 1 = .int .i64 1 ∧ σ 4 = .bool inc ∧ σ 5 = .bool hit ∧ σ 6 = seeV vb ∧ σ 9 = .pointer (some ⟨b9, 0, none⟩) ∧ σ 10 = .pointer (some ⟨b10, 0, none⟩) ∧ St w0 (pts b9 (.cells (ovC st) 116 (0, 0)) * (pts b10 (.cells (ovC sp) 116 (0, 0)) * (Tp c h t b * (Ctx c fl * (VisP vb acc most * F))))) w) ?_ ?_ -- S2
    · refine WP_seq ?_
      -- R5
      refine WP_seqr [⟨0, 0, []⟩, ⟨1, 1, []⟩] (by kernel_rfl) ?_
      refine ns_fld fo_116_1 rfl rfl rfl ?_
      refine ns_ldB pl_4 hs rfl rfl rfl (by rfl) ?_
      refine ns_done ?_
      refine WP_if rfl (fun hif2 => ?_) (fun hif2 => ?_)
      · obtain ⟨s, rfl⟩ : ∃ s, st = some s := by
          cases st with
          | none => cases hif2
          | some s => exact ⟨s, rfl⟩
        obtain ⟨bs, hlen, hs⟩ := St.tree (hs.foc (Tp c h t b))
        obtain ⟨⟨v1, v2⟩, hs⟩ := hs.ex
        simp only [mul_assoc'] at hs
        obtain ⟨a1, c1, rfl, hc1, hcm1⟩ := (hs.foc (IArr v1 t.its)).arr_form
        obtain ⟨a2, c2, rfl, hc2, hcm2⟩ := (hs.foc (PArr v2 bs)).arr_form
        unfold Ctx CowP at hs
        simp only [mul_assoc'] at hs
        -- R6
        refine WP_net hs mix [0, 1, 3, 7, 0, 16, 0, 64, 192, 448, 960, 1984, 4032, 8191, 16383, 32767, 32767, 65535] [⟨0, 0, []⟩, ⟨1, 0, []⟩, ⟨2, 0, []⟩, ⟨3, 1, []⟩, ⟨4, 0, []⟩, ⟨5, 1, []⟩, ⟨6, 0, []⟩, ⟨7, 0, []⟩, ⟨8, 0, []⟩, ⟨9, 1, []⟩, ⟨10, 0, []⟩, ⟨11, 0, []⟩, ⟨12, 1, []⟩, ⟨13, 2, []⟩, ⟨14, 0, []⟩, ⟨15, 0, []⟩, ⟨16, 0, []⟩, ⟨17, 0, []⟩] (by kernel_rfl) ?_
        intro w hs
        refine ns_move rfl rfl ?_
        refine ns_nil rfl rfl rfl ?_
        refine ns_fld fo_103_0 rfl rfl rfl ?_
        refine ns_ldB pl_100 hs rfl rfl rfl (by rfl) ?_
        refine ns_fld fo_116_0 rfl rfl rfl ?_
        refine ns_ldAB [.int .i64 s.key, .int .i64 s.val] ag_45 hs rfl rfl rfl (by rfl) (by rfl) (by decide) ?_
        refine ns_move rfl rfl ?_
        refine ns_nil rfl rfl rfl ?_
        refine ns_fld fo_103_2 rfl rfl rfl ?_
        refine ns_ldB pl_82 hs rfl rfl rfl (by rfl) ?_
        refine ns_nil rfl rfl rfl ?_
        refine ns_fld fo_84_1 rfl rfl rfl ?_
        refine ns_ldB pl_69 hs rfl rfl rfl (by rfl) ?_
        refine ns_call (f83_ok (.slice a1 t.its.length c1) t.its s hSi (by omega)) ck_83 (hs.foc (IArr (.slice a1 t.its.length c1) t.its)) rfl rfl rfl rfl ?_
        intro v40 w hs
        replace hs := hs.pu
        obtain ⟨rfl, hs⟩ := hs
        refine ns_move rfl rfl ?_
        refine ns_ext rfl rfl rfl rfl ?_
        refine ns_ext rfl rfl rfl rfl ?_
        refine ns_asg rfl rfl ?_
        refine ns_done ?_
        have hs := hs.fold (ctx_fold c fl)
        have hs := hs.fold (node_fold c b (.slice a1 t.its.length c1) (.slice a2 bs.length c2) t.its bs)
        have hs := hs.fold (tree_fold (c := c) (h := h) (b := b) (its := t.its) (kids := t.kids) hlen)
        rw [Tr.eta] at hs
        have hle := lb_le t.its s.key
        obtain ⟨A, eA, hA⟩ := rst_pre hO hS (lb t.its s.key) hle
        refine ⟨lb t.its s.key, hle, ⟨A, eA, fun a ha => ?_⟩, fun j y hj hy => ?_, rfl, rfl, rfl, rfl, rfl, rfl, rfl, rfl, hs.out⟩
        · have := hA s.key (fun j y hj hy => lb_below hSi hj hy) a ha
          simp [geS]; omega
        · have : ¬ y.key < s.key := by rw [lb_lt hSi hy]; omega
          simp [geS]; omega
      refine WP_skip ?_
      have hst : st = none := by
        cases st with
        | none => rfl
        | some s => cases hif2
      subst hst
      exact ⟨0, Nat.zero_le _, ⟨[], by rw [rst_zero]; rfl, fun a ha => by cases ha⟩, fun _ _ _ _ => rfl, rfl, rfl, rfl, rfl, rfl, rfl, rfl, rfl, hs⟩
    rintro σ w ⟨i0, hi0, ⟨A, eA, hA⟩, hge, g18, g0, g1, g4, g5, g6, g9, g10, hs⟩
    obtain ⟨σ, rfl⟩ := rebase g18
    obtain ⟨σ, rfl⟩ := rebase (σ := σ) g0
    obtain ⟨σ, rfl⟩ := rebase (σ := σ) g1
    obtain ⟨σ, rfl⟩ := rebase (σ := σ) g4
    obtain ⟨σ, rfl⟩ := rebase (σ := σ) g5
    obtain ⟨σ, rfl⟩ := rebase (σ := σ) g6
    obtain ⟨σ, rfl⟩ := rebase (σ := σ) g9
    obtain ⟨σ, rfl⟩ := rebase (σ := σ) g10
    clear g18 g0 g1 g4 g5 g6 g9 g10
    refine WP_seq_cut (fun σ w => ∃ (hhit : Bool) (acc2 dn : List It), flat h t = dn ++ rst h t t.its.length ∧ ItA most st sp dn acc acc2 true ∧ σ 0 = ptr b ∧ σ 1 = .int .i64 1 ∧ σ 4 = .bool inc ∧ σ 5 = .bool hhit ∧ σ 6 = seeV vb ∧ σ 9 = .pointer (some ⟨b9, 0, none⟩) ∧ σ 10 = .pointer (some ⟨b10, 0, none⟩) ∧ St w0 (pts b9 (.cells (ovC st) 116 (0, 0)) * (pts b10 (.cells (ovC sp) 116 (0, 0)) * (Tp c h t b * (Ctx c fl * (VisP vb acc2 most * F))))) w) ?_ ?_ -- S3
    · refine WP_seq ?_
      -- R7
      refine WP_seqr [⟨0, 0, []⟩, ⟨1, 0, []⟩] (by kernel_rfl) ?_
      refine ns_move rfl rfl ?_
      refine ns_asg rfl rfl ?_
      refine ns_done ?_
      refine WP_block ?_
      refine WP_loop (fun m σ w => ∃ (i : Nat) (hhit : Bool) (acc2 dn : List It), m = t.its.length - i ∧ i0 ≤ i ∧ i ≤ t.its.length ∧ flat h t = dn ++ rst h t i ∧ ItA most st sp dn acc acc2 true ∧ σ 19 = .int .i64 i ∧ σ 0 = ptr b ∧ σ 1 = .int .i64 1 ∧ σ 4 = .bool inc ∧ σ 5 = .bool hhit ∧ σ 6 = seeV vb ∧ σ 9 = .pointer (some ⟨b9, 0, none⟩) ∧ σ 10 = .pointer (some ⟨b10, 0, none⟩) ∧ St w0 (pts b9 (.cells (ovC st) 116 (0, 0)) * (pts b10 (.cells (ovC sp) 116 (0, 0)) * (Tp c h t b * (Ctx c fl * (VisP vb acc2 most * F))))) w) (t.its.length - i0) ?_ ?_ -- L1
      · exact ⟨i0, hit, acc, A, rfl, Nat.le_refl _, hi0, eA, ItA.below hA, rfl, rfl, rfl, rfl, rfl, rfl, rfl, rfl, hs⟩
      rintro m σ w ⟨i, hhit, acc2, dn, rfl, hi1, hi2, eD, hD, g19, g0, g1, g4, g5, g6, g9, g10, hs⟩
      obtain ⟨σ, rfl⟩ := rebase g19
      obtain ⟨σ, rfl⟩ := rebase (σ := σ) g0
      obtain ⟨σ, rfl⟩ := rebase (σ := σ) g1
      obtain ⟨σ, rfl⟩ := rebase (σ := σ) g4
      obtain ⟨σ, rfl⟩ := rebase (σ := σ) g5
      obtain ⟨σ, rfl⟩ := rebase (σ := σ) g6
      obtain ⟨σ, rfl⟩ := rebase (σ := σ) g9
      obtain ⟨σ, rfl⟩ := rebase (σ := σ) g10
      clear g19 g0 g1 g4 g5 g6 g9 g10
      refine WP_seq ?_ -- S4
      refine WP_seq ?_
      have hs0 := hs
      obtain ⟨bs, hlen, hs⟩ := St.tree (hs.foc (Tp c h t b))
      obtain ⟨⟨v1, v2⟩, hs⟩ := hs.ex
      simp only [mul_assoc'] at hs
      obtain ⟨a1, c1, rfl, hc1, hcm1⟩ := (hs.foc (IArr v1 t.its)).arr_form
      obtain ⟨a2, c2, rfl, hc2, hcm2⟩ := (hs.foc (PArr v2 bs)).arr_form
      -- R8
      refine WP_seqr [⟨0, 0, []⟩, ⟨1, 0, []⟩, ⟨2, 0, []⟩, ⟨3, 0, []⟩, ⟨4, 1, []⟩, ⟨5, 0, []⟩, ⟨6, 0, []⟩] (by kernel_rfl) ?_
      refine ns_move rfl rfl ?_
      refine ns_move rfl rfl ?_
      refine ns_nil rfl rfl rfl ?_
      refine ns_fld fo_103_0 rfl rfl rfl ?_
      refine ns_ldB pl_100 hs rfl rfl rfl (by rfl) ?_
      refine ns_len sl_100 rfl rfl rfl ?_
      refine ns_cmp _ rfl rfl rfl rfl rfl ?_
      refine ns_done ?_
      have hs := hs0
      refine WP_if' rfl (fun hif3 => ?_) (fun hif3 => ?_)
      · refine WP_exit ?_
        have hi : i = t.its.length := by have := of_decide_eq_false hif3; omega
        subst hi
        exact ⟨hhit, acc2, dn, eD, hD, rfl, rfl, rfl, rfl, rfl, rfl, rfl, hs⟩
      refine WP_skip ?_
      have hi : i < t.its.length := by have := of_decide_eq_true hif3; omega
      obtain ⟨x, hx⟩ : ∃ x, t.its[i]? = some x := ⟨t.its[i]'hi, List.getElem?_eq_getElem hi⟩
      have hst := rst_step hO hx
      rw [hst] at eD
      have hlenD := congrArg List.length eD
      simp only [List.length_append, List.length_cons] at hlenD
      have hxge := hge i x hi1 hx
      have hSD := hS
      rw [eD] at hSD
      have hDl := ItA_len hD
      refine WP_seq ?_ -- S5
      refine WP_block ?_
      refine WP_seq_cut (fun σ w => ∃ (hhit : Bool) (acc3 : List It), ItA most st sp (dn ++ kidL h t i) acc acc3 true ∧ σ 19 = .int .i64 i ∧ σ 0 = ptr b ∧ σ 1 = .int .i64 1 ∧ σ 4 = .bool inc ∧ σ 5 = .bool hhit ∧ σ 6 = seeV vb ∧ σ 9 = .pointer (some ⟨b9, 0, none⟩) ∧ σ 10 = .pointer (some ⟨b10, 0, none⟩) ∧ St w0 (pts b9 (.cells (ovC st) 116 (0, 0)) * (pts b10 (.cells (ovC sp) 116 (0, 0)) * (Tp c h t b * (Ctx c fl * (VisP vb acc3 most * F))))) w) ?_ ?_ -- S6
      · refine WP_seq ?_
        have hs0 := hs
        obtain ⟨bs, hlen, hs⟩ := St.tree (hs.foc (Tp c h t b))
        obtain ⟨⟨v1, v2⟩, hs⟩ := hs.ex
        simp only [mul_assoc'] at hs
        obtain ⟨a1, c1, rfl, hc1, hcm1⟩ := (hs.foc (IArr v1 t.its)).arr_form
        obtain ⟨a2, c2, rfl, hc2, hcm2⟩ := (hs.foc (PArr v2 bs)).arr_form
        -- R10
        refine WP_seqr [⟨0, 0, []⟩, ⟨1, 0, []⟩, ⟨2, 0, []⟩, ⟨3, 1, []⟩, ⟨4, 0, []⟩, ⟨5, 0, []⟩] (by kernel_rfl) ?_
        refine ns_move rfl rfl ?_
        refine ns_nil rfl rfl rfl ?_
        refine ns_fld fo_103_1 rfl rfl rfl ?_
        refine ns_ldB pl_101 hs rfl rfl rfl (by rfl) ?_
        refine ns_len sl_101 rfl rfl rfl ?_
        refine ns_cmp _ rfl rfl rfl rfl rfl ?_
        refine ns_done ?_
        have hs := hs0
        refine WP_if rfl (fun hif4 => ?_) (fun hif4 => ?_)
        · refine WP_seq ?_
          have hb0 : t.kids.length ≠ 0 := by have := of_decide_eq_true hif4; omega
          have hkl := kids_len hO hb0
          obtain ⟨k, hk⟩ : ∃ k, t.kids[i]? = some k := ⟨t.kids[i]'(by omega), List.getElem?_eq_getElem (by omega)⟩
          obtain ⟨h, rfl⟩ : ∃ h', h = h' + 1 := by
            cases h with
            | zero => rw [show t.kids = [] from hO] at hk; simp at hk
            | succ h => exact ⟨h, rfl⟩
          have hko := kid_ok hO hk
          have hkS : Srt (flat h k) := kid_srt hO hS hk
          have hkL := kidL_at hO hk
          obtain ⟨bs, hlen, hs⟩ := St.tree (hs.foc (Tp c (h + 1) t b))
          obtain ⟨xb, hxb⟩ : ∃ xb, bs[i]? = some xb := ⟨bs[i]'(by omega), List.getElem?_eq_getElem (by omega)⟩
          rw [Ks_at hk hxb] at hs
          simp only [mul_assoc'] at hs
          obtain ⟨⟨v1, v2⟩, hs⟩ := (hs.foc (NodeP c b t.its bs)).ex
          simp only [mul_assoc'] at hs
          obtain ⟨_, hz, _⟩ | ⟨g, cap, cur, hv, hc, hcm, hsz, htk, hs⟩ := (hs.foc (PArr (v2) (bs))).arr
          · omega
          cases hv
          -- R11
          refine WP_net hs mix [0, 1, 3, 7, 0, 31, 63, 0, 0, 0, 0, 0, 0, 8191, 16383, 32767, 32767, 65535, 262143] [⟨0, 0, []⟩, ⟨1, 0, []⟩, ⟨2, 0, []⟩, ⟨3, 1, []⟩, ⟨4, 0, []⟩, ⟨5, 0, []⟩, ⟨6, 1, []⟩, ⟨7, 0, []⟩, ⟨8, 1, []⟩, ⟨9, 1, []⟩, ⟨10, 0, []⟩, ⟨11, 0, []⟩, ⟨12, 0, []⟩, ⟨13, 2, []⟩, ⟨14, 0, []⟩, ⟨15, 0, []⟩, ⟨16, 0, []⟩, ⟨17, 0, []⟩, ⟨18, 0, []⟩] (by kernel_rfl) ?_
          intro w hs
          refine ns_move rfl rfl ?_
          refine ns_nil rfl rfl rfl ?_
          refine ns_fld fo_103_1 rfl rfl rfl ?_
          refine ns_ldB pl_101 hs rfl rfl rfl (by rfl) ?_
          refine ns_move rfl rfl ?_
          refine ns_idx i sl_101 rfl rfl rfl rfl rfl (by omega) ?_
          refine ns_ld pl_85 rfl rfl rfl (ptr_cell hs htk _ hxb) ?_
          refine ns_move rfl rfl ?_
          refine ns_ldAB (ovC st).toList ag_116 hs rfl rfl rfl (by rfl) (by rfl) (by decide) ?_
          refine ns_ldAB (ovC sp).toList ag_116 hs rfl rfl rfl (by rfl) (by rfl) (by decide) ?_
          refine ns_move rfl rfl ?_
          refine ns_move rfl rfl ?_
          refine ns_move rfl rfl ?_
          refine ns_call (hkid h k xb hhit acc2 rfl hko.2.2 hko.2.1 hkS (by rw [← hkL]; omega)) ck_76 (hs.foc (Tq c (h + 1) k xb * (Ctx c fl * VisP vb acc2 most))) rfl rfl rfl rfl ?_
          intro v73 w hs
          unfold ItP at hs
          replace hs := hs.ex
          obtain ⟨⟨hit3, ok3, acc3⟩, hs⟩ := hs
          replace hs := hs.pu
          obtain ⟨⟨rfl, q1⟩, hs⟩ := hs
          simp only [mul_assoc'] at hs
          rw [← hkL] at q1
          refine ns_move rfl rfl ?_
          refine ns_ext rfl rfl rfl rfl ?_
          refine ns_ext rfl rfl rfl rfl ?_
          refine ns_asg rfl rfl ?_
          refine ns_asg rfl rfl ?_
          refine ns_done ?_
          have hs := (hs.foc (pts g (.cells cur 85 (0, 0)))).mk_arr' hc hcm hsz htk
          have hs := hs.fold (node_fold c b v1 (.slice (some ⟨g, 0, none⟩) bs.length cap) t.its bs)
          rw [show Tp c h k xb = Tq c (h + 1) k xb from rfl] at hs
          have hs := hs.fold (Ent.of_eq (Ks_at (c := c) (h := h + 1) hk hxb).symm)
          have hs := hs.fold (tree_fold (c := c) (h := h + 1) (b := b) (its := t.its) (kids := t.kids) hlen)
          rw [Tr.eta] at hs
          refine WP_seq ?_
          -- R12
          refine WP_seqr [⟨0, 0, []⟩, ⟨1, 0, []⟩] (by kernel_rfl) ?_
          refine ns_move rfl rfl ?_
          refine ns_not rfl rfl rfl ?_
          refine ns_done ?_
          refine WP_if rfl (fun hif5 => ?_) (fun hif5 => ?_)
          · refine WP_seq ?_
            -- R13
            refine WP_seqr [⟨0, 0, []⟩, ⟨1, 0, []⟩, ⟨2, 0, []⟩] (by kernel_rfl) ?_
            refine ns_move rfl rfl ?_
            refine ns_asg rfl rfl ?_
            refine ns_asg rfl rfl ?_
            refine ns_done ?_
            refine WP_ret ?_
            have hok : ok3 = false := by simpa using hif5
            subst hok
            have q2 := (ItA.go hD q1).stop (b := x :: rst (h + 1) t (i + 1)) (by rw [List.append_assoc]; exact hSD)
            rw [List.append_assoc, ← eD] at q2
            exact ⟨_, res2 _ _, St.mk_ex (hit3, false, acc3) (St.mk_pu ⟨rfl, q2⟩ hs.out)⟩
          refine WP_skip ?_
          have hok : ok3 = true := by simpa using hif5
          subst hok
          exact ⟨hit3, acc3, ItA.go hD q1, rfl, rfl, rfl, rfl, rfl, rfl, rfl, rfl, hs.out⟩
        refine WP_skip ?_
        have hb0 : t.kids.length = 0 := by have := of_decide_eq_false hif4; omega
        obtain rfl := kids_zero hO hb0
        exact ⟨hhit, acc2, by rw [show kidL 0 t i = [] from rfl, List.append_nil]; exact hD, rfl, rfl, rfl, rfl, rfl, rfl, rfl, rfl, hs⟩
      rintro σ w ⟨hhit, acc3, hD3, g19, g0, g1, g4, g5, g6, g9, g10, hs⟩
      obtain ⟨σ, rfl⟩ := rebase g19
      obtain ⟨σ, rfl⟩ := rebase (σ := σ) g0
      obtain ⟨σ, rfl⟩ := rebase (σ := σ) g1
      obtain ⟨σ, rfl⟩ := rebase (σ := σ) g4
      obtain ⟨σ, rfl⟩ := rebase (σ := σ) g5
      obtain ⟨σ, rfl⟩ := rebase (σ := σ) g6
      obtain ⟨σ, rfl⟩ := rebase (σ := σ) g9
      obtain ⟨σ, rfl⟩ := rebase (σ := σ) g10
      clear g19 g0 g1 g4 g5 g6 g9 g10
      refine WP_seq ?_ -- S7
      refine WP_seq_cut (fun σ w => σ 108 = .bool false ∧ σ 19 = .int .i64 i ∧ σ 0 = ptr b ∧ σ 1 = .int .i64 1 ∧ σ 4 = .bool inc ∧ σ 5 = .bool hhit ∧ σ 6 = seeV vb ∧ σ 9 = .pointer (some ⟨b9, 0, none⟩) ∧ σ 10 = .pointer (some ⟨b10, 0, none⟩) ∧ St w0 (pts b9 (.cells (ovC st) 116 (0, 0)) * (pts b10 (.cells (ovC sp) 116 (0, 0)) * (Tp c h t b * (Ctx c fl * (VisP vb acc3 most * F))))) w) ?_ ?_ -- R14.cut
      · rcases (show inc = true ∨ (inc = false ∧ hhit = true) ∨ (inc = false ∧ hhit = false ∧ st = none) from by
          cases inc
          · cases hhit
            · exact .inr (.inr ⟨rfl, rfl, by
                cases st with
                | none => rfl
                | some s => exact absurd (hinc (by simp)) (by simp)⟩)
            · exact .inr (.inl ⟨rfl, rfl⟩)
          · exact .inl rfl) with rfl | ⟨rfl, rfl⟩ | ⟨rfl, rfl, rfl⟩
        · -- R14
          refine WP_net hs mix [0, 1, 3, 7, 15, 31, 63, 127, 255, 511, 1023, 2047, 4095, 8191, 16383, 32767, 65535, 131071, 2047, 264191, 2047, 1050623, 3147775, 7342079, 2047, 32507903, 66062335, 134217727, 268435455, 536870911] [⟨0, 0, []⟩, ⟨1, 0, []⟩, ⟨2, 0, []⟩, ⟨3, 0, []⟩, ⟨4, 0, []⟩, ⟨5, 0, []⟩, ⟨6, 0, []⟩, ⟨7, 0, []⟩, ⟨8, 0, []⟩, ⟨9, 0, []⟩, ⟨10, 0, []⟩, ⟨11, 0, []⟩, ⟨12, 0, []⟩, ⟨13, 0, []⟩, ⟨14, 0, []⟩, ⟨15, 0, []⟩, ⟨16, 0, []⟩, ⟨17, 0, []⟩, ⟨18, 0, []⟩, ⟨19, 0, []⟩, ⟨20, 0, []⟩, ⟨21, 0, []⟩, ⟨22, 0, []⟩, ⟨23, 0, []⟩, ⟨24, 0, []⟩, ⟨25, 0, []⟩, ⟨26, 0, []⟩, ⟨27, 0, []⟩, ⟨28, 0, []⟩, ⟨29, 0, []⟩] (by kernel_rfl) ?_
          intro w hs
          refine ns_move rfl rfl ?_
          refine ns_not rfl rfl rfl ?_
          refine ns_move rfl rfl ?_
          refine ns_no rfl rfl ?_
          refine ns_no rfl rfl ?_
          refine ns_pick rfl rfl rfl ?_
          refine ns_move rfl rfl ?_
          refine ns_no rfl rfl ?_
          refine ns_no rfl rfl ?_
          refine ns_pick rfl rfl rfl ?_
          refine ns_move rfl rfl ?_
          refine ns_no rfl rfl ?_
          refine ns_no rfl rfl ?_
          refine ns_no rfl rfl ?_
          refine ns_no rfl rfl ?_
          refine ns_no rfl rfl ?_
          refine ns_no rfl rfl ?_
          refine ns_no rfl rfl ?_
          refine ns_no rfl rfl ?_
          refine ns_no rfl rfl ?_
          refine ns_no rfl rfl ?_
          refine ns_no rfl rfl ?_
          refine ns_no rfl rfl ?_
          refine ns_no rfl rfl ?_
          refine ns_no rfl rfl ?_
          refine ns_no rfl rfl ?_
          refine ns_no rfl rfl ?_
          refine ns_no rfl rfl ?_
          refine ns_no rfl rfl ?_
          refine ns_pick rfl rfl rfl ?_
          refine ns_done ?_
          exact ⟨rfl, rfl, rfl, rfl, rfl, rfl, rfl, rfl, rfl, hs⟩
        · -- R14
          refine WP_net hs mix [0, 1, 3, 7, 15, 31, 63, 127, 255, 511, 1023, 2047, 4095, 8191, 16383, 32767, 65535, 131071, 2047, 264191, 2047, 1050623, 3147775, 7342079, 2047, 32507903, 66062335, 134217727, 268435455, 536870911] [⟨0, 0, []⟩, ⟨1, 0, []⟩, ⟨2, 0, []⟩, ⟨3, 0, []⟩, ⟨4, 0, []⟩, ⟨5, 0, []⟩, ⟨6, 0, []⟩, ⟨7, 0, []⟩, ⟨8, 0, []⟩, ⟨9, 0, []⟩, ⟨10, 0, []⟩, ⟨11, 0, []⟩, ⟨12, 0, []⟩, ⟨13, 0, []⟩, ⟨14, 0, []⟩, ⟨15, 0, []⟩, ⟨16, 0, []⟩, ⟨17, 0, []⟩, ⟨18, 0, []⟩, ⟨19, 0, []⟩, ⟨20, 0, []⟩, ⟨21, 0, []⟩, ⟨22, 0, []⟩, ⟨23, 0, []⟩, ⟨24, 0, []⟩, ⟨25, 0, []⟩, ⟨26, 0, []⟩, ⟨27, 0, []⟩, ⟨28, 0, []⟩, ⟨29, 0, []⟩] (by kernel_rfl) ?_
          intro w hs
          refine ns_move rfl rfl ?_
          refine ns_not rfl rfl rfl ?_
          refine ns_move rfl rfl ?_
          refine ns_move rfl rfl ?_
          refine ns_not rfl rfl rfl ?_
          refine ns_pick rfl rfl rfl ?_
          refine ns_move rfl rfl ?_
          refine ns_no rfl rfl ?_
          refine ns_no rfl rfl ?_
          refine ns_pick rfl rfl rfl ?_
          refine ns_move rfl rfl ?_
          refine ns_no rfl rfl ?_
          refine ns_no rfl rfl ?_
          refine ns_no rfl rfl ?_
          refine ns_no rfl rfl ?_
          refine ns_no rfl rfl ?_
          refine ns_no rfl rfl ?_
          refine ns_no rfl rfl ?_
          refine ns_no rfl rfl ?_
          refine ns_no rfl rfl ?_
          refine ns_no rfl rfl ?_
          refine ns_no rfl rfl ?_
          refine ns_no rfl rfl ?_
          refine ns_no rfl rfl ?_
          refine ns_no rfl rfl ?_
          refine ns_no rfl rfl ?_
          refine ns_no rfl rfl ?_
          refine ns_no rfl rfl ?_
          refine ns_no rfl rfl ?_
          refine ns_pick rfl rfl rfl ?_
          refine ns_done ?_
          exact ⟨rfl, rfl, rfl, rfl, rfl, rfl, rfl, rfl, rfl, hs⟩
        · -- R14
          refine WP_net hs mix [0, 1, 3, 7, 15, 31, 63, 127, 255, 511, 1023, 2047, 4095, 8191, 16383, 32767, 65535, 131071, 2047, 264191, 2047, 1050623, 3147775, 7342079, 2047, 32507903, 66062335, 134217727, 268435455, 536870911] [⟨0, 0, []⟩, ⟨1, 0, []⟩, ⟨2, 0, []⟩, ⟨3, 0, []⟩, ⟨4, 0, []⟩, ⟨5, 0, []⟩, ⟨6, 0, []⟩, ⟨7, 0, []⟩, ⟨8, 1, []⟩, ⟨9, 0, []⟩, ⟨10, 0, []⟩, ⟨11, 0, []⟩, ⟨12, 0, []⟩, ⟨13, 0, []⟩, ⟨14, 0, []⟩, ⟨15, 0, []⟩, ⟨16, 0, []⟩, ⟨17, 0, []⟩, ⟨18, 0, []⟩, ⟨19, 0, []⟩, ⟨20, 0, []⟩, ⟨21, 0, []⟩, ⟨22, 0, []⟩, ⟨23, 0, []⟩, ⟨24, 0, []⟩, ⟨25, 0, []⟩, ⟨26, 0, []⟩, ⟨27, 0, []⟩, ⟨28, 0, []⟩, ⟨29, 0, []⟩] (by kernel_rfl) ?_
          intro w hs
          refine ns_move rfl rfl ?_
          refine ns_not rfl rfl rfl ?_
          refine ns_move rfl rfl ?_
          refine ns_move rfl rfl ?_
          refine ns_not rfl rfl rfl ?_
          refine ns_pick rfl rfl rfl ?_
          refine ns_move rfl rfl ?_
          refine ns_fld fo_116_1 rfl rfl rfl ?_
          refine ns_ldB pl_4 hs rfl rfl rfl (by rfl) ?_
          refine ns_pick rfl rfl rfl ?_
          refine ns_move rfl rfl ?_
          refine ns_no rfl rfl ?_
          refine ns_no rfl rfl ?_
          refine ns_no rfl rfl ?_
          refine ns_no rfl rfl ?_
          refine ns_no rfl rfl ?_
          refine ns_no rfl rfl ?_
          refine ns_no rfl rfl ?_
          refine ns_no rfl rfl ?_
          refine ns_no rfl rfl ?_
          refine ns_no rfl rfl ?_
          refine ns_no rfl rfl ?_
          refine ns_no rfl rfl ?_
          refine ns_no rfl rfl ?_
          refine ns_no rfl rfl ?_
          refine ns_no rfl rfl ?_
          refine ns_no rfl rfl ?_
          refine ns_no rfl rfl ?_
          refine ns_no rfl rfl ?_
          refine ns_pick rfl rfl rfl ?_
          refine ns_done ?_
          exact ⟨rfl, rfl, rfl, rfl, rfl, rfl, rfl, rfl, rfl, hs⟩
      rintro σ w ⟨g108, g19, g0, g1, g4, g5, g6, g9, g10, hs⟩
      obtain ⟨σ, rfl⟩ := rebase g108
      obtain ⟨σ, rfl⟩ := rebase (σ := σ) g19
      obtain ⟨σ, rfl⟩ := rebase (σ := σ) g0
      obtain ⟨σ, rfl⟩ := rebase (σ := σ) g1
      obtain ⟨σ, rfl⟩ := rebase (σ := σ) g4
      obtain ⟨σ, rfl⟩ := rebase (σ := σ) g5
      obtain ⟨σ, rfl⟩ := rebase (σ := σ) g6
      obtain ⟨σ, rfl⟩ := rebase (σ := σ) g9
      obtain ⟨σ, rfl⟩ := rebase (σ := σ) g10
      clear g108 g19 g0 g1 g4 g5 g6 g9 g10
      refine WP_false rfl ?_ -- if6
      refine WP_skip ?_
      refine WP_seq ?_
      -- R16
      refine WP_seqr [⟨0, 0, []⟩] (by kernel_rfl) ?_
      refine ns_asg rfl rfl ?_
      refine ns_done ?_
      refine WP_seq ?_ -- S8
      refine WP_seq_cut (fun σ w => σ 130 = .bool (!ltS sp x) ∧ σ 19 = .int .i64 i ∧ σ 0 = ptr b ∧ σ 1 = .int .i64 1 ∧ σ 4 = .bool inc ∧ σ 5 = .bool true ∧ σ 6 = seeV vb ∧ σ 9 = .pointer (some ⟨b9, 0, none⟩) ∧ σ 10 = .pointer (some ⟨b10, 0, none⟩) ∧ St w0 (pts b9 (.cells (ovC st) 116 (0, 0)) * (pts b10 (.cells (ovC sp) 116 (0, 0)) * (Tp c h t b * (Ctx c fl * (VisP vb acc3 most * F))))) w) ?_ ?_ -- R17.cut
      · rcases (show sp = none ∨ ∃ s, sp = some s from by
          cases sp with
          | none => exact .inl rfl
          | some s => exact .inr ⟨s, rfl⟩) with rfl | ⟨s, rfl⟩
        · -- R17
          refine WP_net hs mix [0, 1, 3, 7, 15, 31, 63, 127, 255, 511, 7, 1031, 3079, 7175, 7, 31751, 64519, 7, 131079, 524287, 1048575, 2097151] [⟨0, 0, []⟩, ⟨1, 1, []⟩, ⟨2, 0, []⟩, ⟨3, 0, []⟩, ⟨4, 0, []⟩, ⟨5, 0, []⟩, ⟨6, 0, []⟩, ⟨7, 0, []⟩, ⟨8, 0, []⟩, ⟨9, 0, []⟩, ⟨10, 0, []⟩, ⟨11, 0, []⟩, ⟨12, 0, []⟩, ⟨13, 0, []⟩, ⟨14, 0, []⟩, ⟨15, 0, []⟩, ⟨16, 0, []⟩, ⟨17, 0, []⟩, ⟨18, 0, []⟩, ⟨19, 0, []⟩, ⟨20, 0, []⟩, ⟨21, 0, []⟩] (by kernel_rfl) ?_
          intro w hs
          refine ns_fld fo_116_1 rfl rfl rfl ?_
          refine ns_ldB pl_4 hs rfl rfl rfl (by rfl) ?_
          refine ns_move rfl rfl ?_
          refine ns_no rfl rfl ?_
          refine ns_no rfl rfl ?_
          refine ns_no rfl rfl ?_
          refine ns_no rfl rfl ?_
          refine ns_no rfl rfl ?_
          refine ns_no rfl rfl ?_
          refine ns_no rfl rfl ?_
          refine ns_no rfl rfl ?_
          refine ns_no rfl rfl ?_
          refine ns_no rfl rfl ?_
          refine ns_no rfl rfl ?_
          refine ns_no rfl rfl ?_
          refine ns_no rfl rfl ?_
          refine ns_no rfl rfl ?_
          refine ns_no rfl rfl ?_
          refine ns_no rfl rfl ?_
          refine ns_no rfl rfl ?_
          refine ns_no rfl rfl ?_
          refine ns_pick rfl rfl rfl ?_
          refine ns_done ?_
          exact ⟨rfl, rfl, rfl, rfl, rfl, rfl, rfl, rfl, rfl, hs⟩
        · obtain ⟨bs, hlen, hs⟩ := St.tree (hs.foc (Tp c h t b))
          obtain ⟨⟨v1, v2⟩, hs⟩ := hs.ex
          simp only [mul_assoc'] at hs
          obtain ⟨a1, c1, rfl, hc1, hcm1⟩ := (hs.foc (IArr v1 t.its)).arr_form
          obtain ⟨a2, c2, rfl, hc2, hcm2⟩ := (hs.foc (PArr v2 bs)).arr_form
          unfold Ctx CowP at hs
          simp only [mul_assoc'] at hs
          obtain ⟨_, hz, _⟩ | ⟨g, cap, cur, hv, hc, hcm, hsz, htk, hs⟩ := (hs.foc (IArr (.slice a1 t.its.length c1) (t.its))).arr
          · omega
          cases hv
          -- R17
          refine WP_net hs mix [0, 1, 3, 7, 15, 31, 63, 127, 255, 511, 7, 1031, 3079, 7175, 7, 31751, 64519, 7, 131079, 524287, 1048575, 2097151] [⟨0, 0, []⟩, ⟨1, 1, []⟩, ⟨2, 0, []⟩, ⟨3, 0, []⟩, ⟨4, 0, []⟩, ⟨5, 0, []⟩, ⟨6, 1, []⟩, ⟨7, 0, []⟩, ⟨8, 0, []⟩, ⟨9, 1, []⟩, ⟨10, 0, []⟩, ⟨11, 0, []⟩, ⟨12, 0, []⟩, ⟨13, 1, []⟩, ⟨14, 0, []⟩, ⟨15, 0, []⟩, ⟨16, 1, []⟩, ⟨17, 0, []⟩, ⟨18, 1, []⟩, ⟨19, 2, []⟩, ⟨20, 0, []⟩, ⟨21, 0, []⟩] (by kernel_rfl) ?_
          intro w hs
          refine ns_fld fo_116_1 rfl rfl rfl ?_
          refine ns_ldB pl_4 hs rfl rfl rfl (by rfl) ?_
          refine ns_move rfl rfl ?_
          refine ns_move rfl rfl ?_
          refine ns_nil rfl rfl rfl ?_
          refine ns_fld fo_103_2 rfl rfl rfl ?_
          refine ns_ldB pl_82 hs rfl rfl rfl (by rfl) ?_
          refine ns_nil rfl rfl rfl ?_
          refine ns_fld fo_84_1 rfl rfl rfl ?_
          refine ns_ldB pl_69 hs rfl rfl rfl (by rfl) ?_
          refine ns_move rfl rfl ?_
          refine ns_nil rfl rfl rfl ?_
          refine ns_fld fo_103_0 rfl rfl rfl ?_
          refine ns_ldB pl_100 hs rfl rfl rfl (by rfl) ?_
          refine ns_move rfl rfl ?_
          refine ns_idx i sl_100 rfl rfl rfl rfl rfl hi ?_
          refine ns_ldA [.int .i64 x.key, .int .i64 x.val] ag_45 rfl rfl rfl rfl (by decide) (it_cells hs htk _ hx) ?_
          refine ns_fld fo_116_0 rfl rfl rfl ?_
          refine ns_ldAB [.int .i64 s.key, .int .i64 s.val] ag_45 hs rfl rfl rfl (by rfl) (by rfl) (by decide) ?_
          refine ns_call (f40_ok x s) ck_40 (hs.foc 1) rfl rfl rfl rfl ?_
          intro v128 w hs
          replace hs := hs.pure
          obtain ⟨rfl, hs⟩ := hs
          refine ns_not rfl rfl rfl ?_
          refine ns_pick rfl rfl rfl ?_
          refine ns_done ?_
          have hs := (hs.foc (pts g (.cells cur 45 (0, 0)))).mk_arr' hc hcm hsz htk
          have hs := hs.fold (ctx_fold c fl)
          have hs := hs.fold (node_fold c b (.slice (some ⟨g, 0, none⟩) t.its.length c1) (.slice a2 bs.length c2) t.its bs)
          have hs := hs.fold (tree_fold (c := c) (h := h) (b := b) (its := t.its) (kids := t.kids) hlen)
          rw [Tr.eta] at hs
          exact ⟨rfl, rfl, rfl, rfl, rfl, rfl, rfl, rfl, rfl, hs.out⟩
      rintro σ w ⟨g130, g19, g0, g1, g4, g5, g6, g9, g10, hs⟩
      obtain ⟨σ, rfl⟩ := rebase g130
      obtain ⟨σ, rfl⟩ := rebase (σ := σ) g19
      obtain ⟨σ, rfl⟩ := rebase (σ := σ) g0
      obtain ⟨σ, rfl⟩ := rebase (σ := σ) g1
      obtain ⟨σ, rfl⟩ := rebase (σ := σ) g4
      obtain ⟨σ, rfl⟩ := rebase (σ := σ) g5
      obtain ⟨σ, rfl⟩ := rebase (σ := σ) g6
      obtain ⟨σ, rfl⟩ := rebase (σ := σ) g9
      obtain ⟨σ, rfl⟩ := rebase (σ := σ) g10
      clear g130 g19 g0 g1 g4 g5 g6 g9 g10
      refine WP_if rfl (fun hif7 => ?_) (fun hif7 => ?_)
      · refine WP_seq ?_
        -- R18
        refine WP_seqr [⟨0, 0, []⟩, ⟨1, 0, []⟩, ⟨2, 0, []⟩] (by kernel_rfl) ?_
        refine ns_move rfl rfl ?_
        refine ns_asg rfl rfl ?_
        refine ns_asg rfl rfl ?_
        refine ns_done ?_
        refine WP_ret ?_
        have hlt : ltS sp x = false := by simpa using hif7
        have q2 := (ItA.go hD3 (ItA.one_stop (st := st) (acc := acc3) (most := most) hlt)).stop (b := rst h t (i + 1)) (by simpa using hSD)
        have e2 : dn ++ kidL h t i ++ [x] ++ rst h t (i + 1) = flat h t := by rw [eD]; simp
        rw [e2] at q2
        exact ⟨_, res2 _ _, St.mk_ex (true, false, acc3) (St.mk_pu ⟨rfl, q2⟩ hs.out)⟩
      refine WP_skip ?_
      have hlt : ltS sp x = true := by simpa using hif7
      have hD3l := ItA_len hD3
      simp only [List.length_append] at hD3l
      refine WP_seq ?_
      obtain ⟨bs, hlen, hs⟩ := St.tree (hs.foc (Tp c h t b))
      obtain ⟨⟨v1, v2⟩, hs⟩ := hs.ex
      simp only [mul_assoc'] at hs
      obtain ⟨a1, c1, rfl, hc1, hcm1⟩ := (hs.foc (IArr v1 t.its)).arr_form
      obtain ⟨a2, c2, rfl, hc2, hcm2⟩ := (hs.foc (PArr v2 bs)).arr_form
      obtain ⟨_, hz, _⟩ | ⟨g, cap, cur, hv, hc, hcm, hsz, htk, hs⟩ := (hs.foc (IArr (.slice a1 t.its.length c1) (t.its))).arr
      · omega
      cases hv
      -- R19
      refine WP_seqr [⟨0, 0, []⟩, ⟨1, 0, []⟩, ⟨2, 0, []⟩, ⟨3, 0, []⟩, ⟨4, 1, []⟩, ⟨5, 0, []⟩, ⟨6, 0, []⟩, ⟨7, 1, []⟩, ⟨8, 2, []⟩, ⟨9, 0, []⟩] (by kernel_rfl) ?_
      refine ns_move rfl rfl ?_
      refine ns_move rfl rfl ?_
      refine ns_nil rfl rfl rfl ?_
      refine ns_fld fo_103_0 rfl rfl rfl ?_
      refine ns_ldB pl_100 hs rfl rfl rfl (by rfl) ?_
      refine ns_move rfl rfl ?_
      refine ns_idx i sl_100 rfl rfl rfl rfl rfl hi ?_
      refine ns_ldA [.int .i64 x.key, .int .i64 x.val] ag_45 rfl rfl rfl rfl (by decide) (it_cells hs htk _ hx) ?_
      refine ns_call (f58_ok vb x acc3 most (by omega)) ck_58 (hs.foc (VisP vb acc3 most)) rfl rfl rfl rfl ?_
      intro v140 w hs
      replace hs := hs.pu
      obtain ⟨rfl, hs⟩ := hs
      refine ns_not rfl rfl rfl ?_
      refine ns_done ?_
      have hs := (hs.foc (pts g (.cells cur 45 (0, 0)))).mk_arr' hc hcm hsz htk
      have hs := hs.fold (node_fold c b (.slice (some ⟨g, 0, none⟩) t.its.length c1) (.slice a2 bs.length c2) t.its bs)
      have hs := hs.fold (tree_fold (c := c) (h := h) (b := b) (its := t.its) (kids := t.kids) hlen)
      rw [Tr.eta] at hs
      have hone := ItA.one (most := most) (acc := acc3) hxge hlt
      have e2 : dn ++ kidL h t i ++ [x] ++ rst h t (i + 1) = flat h t := by rw [eD]; simp
      refine WP_if rfl (fun hif8 => ?_) (fun hif8 => ?_)
      · refine WP_seq ?_
        -- R20
        refine WP_seqr [⟨0, 0, []⟩, ⟨1, 0, []⟩, ⟨2, 0, []⟩] (by kernel_rfl) ?_
        refine ns_move rfl rfl ?_
        refine ns_asg rfl rfl ?_
        refine ns_asg rfl rfl ?_
        refine ns_done ?_
        refine WP_ret ?_
        have hok : decide (((acc3 ++ [x]).length : Int) < most) = false := by simpa using hif8
        rw [hok] at hone
        have q2 := (ItA.go hD3 hone).stop (b := rst h t (i + 1)) (by rw [e2]; exact hS)
        rw [e2] at q2
        exact ⟨_, res2 _ _, St.mk_ex (true, false, acc3 ++ [x]) (St.mk_pu ⟨rfl, q2⟩ hs.out)⟩
      refine WP_skip ?_
      have hok : decide (((acc3 ++ [x]).length : Int) < most) = true := by simpa using hif8
      rw [hok] at hone
      -- R9
      refine WP_seqr [⟨0, 0, []⟩, ⟨1, 0, []⟩, ⟨2, 0, []⟩] (by kernel_rfl) ?_
      refine ns_move rfl rfl ?_
      refine ns_add rfl rfl rfl rfl (by omega) (by omega) ?_
      refine ns_asg rfl rfl ?_
      refine ns_done ?_
      exact ⟨t.its.length - (i + 1), by omega, i + 1, true, acc3 ++ [x], dn ++ kidL h t i ++ [x], rfl, by omega, by omega, e2.symm, ItA.go hD3 hone, congrArg (Value.int .i64) (by omega : ((i : Int) + 1) = ((i + 1 : Nat) : Int)), rfl, rfl, rfl, rfl, rfl, rfl, rfl, hs.out⟩
      
    rintro σ w ⟨hhit, acc2, dn, eD, hD, g0, g1, g4, g5, g6, g9, g10, hs⟩
    obtain ⟨σ, rfl⟩ := rebase g0
    obtain ⟨σ, rfl⟩ := rebase (σ := σ) g1
    obtain ⟨σ, rfl⟩ := rebase (σ := σ) g4
    obtain ⟨σ, rfl⟩ := rebase (σ := σ) g5
    obtain ⟨σ, rfl⟩ := rebase (σ := σ) g6
    obtain ⟨σ, rfl⟩ := rebase (σ := σ) g9
    obtain ⟨σ, rfl⟩ := rebase (σ := σ) g10
    clear g0 g1 g4 g5 g6 g9 g10
    rw [rst_last hO] at eD
    have hlenD := congrArg List.length eD
    simp only [List.length_append] at hlenD
    have hDl := ItA_len hD
    refine WP_seq ?_
    have hs0 := hs
    obtain ⟨bs, hlen, hs⟩ := St.tree (hs.foc (Tp c h t b))
    obtain ⟨⟨v1, v2⟩, hs⟩ := hs.ex
    simp only [mul_assoc'] at hs
    obtain ⟨a1, c1, rfl, hc1, hcm1⟩ := (hs.foc (IArr v1 t.its)).arr_form
    obtain ⟨a2, c2, rfl, hc2, hcm2⟩ := (hs.foc (PArr v2 bs)).arr_form
    -- R21
    refine WP_seqr [⟨0, 0, []⟩, ⟨1, 0, []⟩, ⟨2, 0, []⟩, ⟨3, 1, []⟩, ⟨4, 0, []⟩, ⟨5, 0, []⟩] (by kernel_rfl) ?_
    refine ns_move rfl rfl ?_
    refine ns_nil rfl rfl rfl ?_
    refine ns_fld fo_103_1 rfl rfl rfl ?_
    refine ns_ldB pl_101 hs rfl rfl rfl (by rfl) ?_
    refine ns_len sl_101 rfl rfl rfl ?_
    refine ns_cmp _ rfl rfl rfl rfl rfl ?_
    refine ns_done ?_
    have hs := hs0
    refine WP_if rfl (fun hif9 => ?_) (fun hif9 => ?_)
    · refine WP_seq ?_
      have hb0 : t.kids.length ≠ 0 := by have := of_decide_eq_true hif9; omega
      have hkl := kids_len hO hb0
      obtain ⟨k, hk⟩ : ∃ k, t.kids[t.its.length]? = some k := ⟨t.kids[t.its.length]'(by omega), List.getElem?_eq_getElem (by omega)⟩
      obtain ⟨h, rfl⟩ : ∃ h', h = h' + 1 := by
        cases h with
        | zero => rw [show t.kids = [] from hO] at hk; simp at hk
        | succ h => exact ⟨h, rfl⟩
      have hko := kid_ok hO hk
      have hkS : Srt (flat h k) := kid_srt hO hS hk
      have hkL := kidL_at hO hk
      obtain ⟨bs, hlen, hs⟩ := St.tree (hs.foc (Tp c (h + 1) t b))
      obtain ⟨xb, hxb⟩ : ∃ xb, bs[t.its.length]? = some xb := ⟨bs[t.its.length]'(by omega), List.getElem?_eq_getElem (by omega)⟩
      rw [Ks_at hk hxb] at hs
      simp only [mul_assoc'] at hs
      obtain ⟨⟨v1, v2⟩, hs⟩ := (hs.foc (NodeP c b t.its bs)).ex
      simp only [mul_assoc'] at hs
      obtain ⟨_, hz, _⟩ | ⟨g, cap, cur, hv, hc, hcm, hsz, htk, hs⟩ := (hs.foc (PArr (v2) (bs))).arr
      · omega
      cases hv
      -- R22
      refine WP_net hs mix [0, 1, 3, 7, 0, 16, 48, 112, 240, 496, 1023, 2047, 0, 0, 0, 0, 0, 0, 262143, 524287, 1048575, 1048575, 2097151, 8388607] [⟨0, 0, []⟩, ⟨1, 0, []⟩, ⟨2, 0, []⟩, ⟨3, 1, []⟩, ⟨4, 0, []⟩, ⟨5, 0, []⟩, ⟨6, 0, []⟩, ⟨7, 1, []⟩, ⟨8, 0, []⟩, ⟨9, 0, []⟩, ⟨10, 0, []⟩, ⟨11, 1, []⟩, ⟨12, 0, []⟩, ⟨13, 1, []⟩, ⟨14, 1, []⟩, ⟨15, 0, []⟩, ⟨16, 0, []⟩, ⟨17, 0, []⟩, ⟨18, 2, []⟩, ⟨19, 0, []⟩, ⟨20, 0, []⟩, ⟨21, 0, []⟩, ⟨22, 0, []⟩, ⟨23, 0, []⟩] (by kernel_rfl) ?_
      intro w hs
      refine ns_move rfl rfl ?_
      refine ns_nil rfl rfl rfl ?_
      refine ns_fld fo_103_1 rfl rfl rfl ?_
      refine ns_ldB pl_101 hs rfl rfl rfl (by rfl) ?_
      refine ns_move rfl rfl ?_
      refine ns_nil rfl rfl rfl ?_
      refine ns_fld fo_103_1 rfl rfl rfl ?_
      refine ns_ldB pl_101 hs rfl rfl rfl (by rfl) ?_
      refine ns_len sl_101 rfl rfl rfl ?_
      refine ns_sub rfl rfl rfl rfl (by omega) (by omega) ?_
      refine ns_idx t.its.length sl_101 rfl rfl rfl rfl (by omega) (by omega) ?_
      refine ns_ld pl_85 rfl rfl rfl (ptr_cell hs htk _ hxb) ?_
      refine ns_move rfl rfl ?_
      refine ns_ldAB (ovC st).toList ag_116 hs rfl rfl rfl (by rfl) (by rfl) (by decide) ?_
      refine ns_ldAB (ovC sp).toList ag_116 hs rfl rfl rfl (by rfl) (by rfl) (by decide) ?_
      refine ns_move rfl rfl ?_
      refine ns_move rfl rfl ?_
      refine ns_move rfl rfl ?_
      refine ns_call (hkid h k xb hhit acc2 rfl hko.2.2 hko.2.1 hkS (by rw [← hkL]; omega)) ck_76 (hs.foc (Tq c (h + 1) k xb * (Ctx c fl * VisP vb acc2 most))) rfl rfl rfl rfl ?_
      intro v168 w hs
      unfold ItP at hs
      replace hs := hs.ex
      obtain ⟨⟨hit3, ok3, acc3⟩, hs⟩ := hs
      replace hs := hs.pu
      obtain ⟨⟨rfl, q1⟩, hs⟩ := hs
      simp only [mul_assoc'] at hs
      rw [← hkL] at q1
      refine ns_move rfl rfl ?_
      refine ns_ext rfl rfl rfl rfl ?_
      refine ns_ext rfl rfl rfl rfl ?_
      refine ns_asg rfl rfl ?_
      refine ns_asg rfl rfl ?_
      refine ns_done ?_
      have hs := (hs.foc (pts g (.cells cur 85 (0, 0)))).mk_arr' hc hcm hsz htk
      have hs := hs.fold (node_fold c b v1 (.slice (some ⟨g, 0, none⟩) bs.length cap) t.its bs)
      rw [show Tp c h k xb = Tq c (h + 1) k xb from rfl] at hs
      have hs := hs.fold (Ent.of_eq (Ks_at (c := c) (h := h + 1) hk hxb).symm)
      have hs := hs.fold (tree_fold (c := c) (h := h + 1) (b := b) (its := t.its) (kids := t.kids) hlen)
      rw [Tr.eta] at hs
      refine WP_seq ?_
      -- R23
      refine WP_seqr [⟨0, 0, []⟩, ⟨1, 0, []⟩] (by kernel_rfl) ?_
      refine ns_move rfl rfl ?_
      refine ns_not rfl rfl rfl ?_
      refine ns_done ?_
      refine WP_if rfl (fun hif10 => ?_) (fun hif10 => ?_)
      · refine WP_seq ?_
        -- R24
        refine WP_seqr [⟨0, 0, []⟩, ⟨1, 0, []⟩, ⟨2, 0, []⟩] (by kernel_rfl) ?_
        refine ns_move rfl rfl ?_
        refine ns_asg rfl rfl ?_
        refine ns_asg rfl rfl ?_
        refine ns_done ?_
        refine WP_ret ?_
        have hok : ok3 = false := by simpa using hif10
        subst hok
        have q2 := ItA.go hD q1
        rw [← eD] at q2
        exact ⟨_, res2 _ _, St.mk_ex (hit3, false, acc3) (St.mk_pu ⟨rfl, q2⟩ hs.out)⟩
      refine WP_skip ?_
      have hok : ok3 = true := by simpa using hif10
      subst hok
      have q2 := ItA.go hD q1
      rw [← eD] at q2
      exact ⟨hit3, acc3, rfl, q2, hs.out⟩
    refine WP_skip ?_
    have hb0 : t.kids.length = 0 := by have := of_decide_eq_false hif9; omega
    obtain rfl := kids_zero hO hb0
    rw [show kidL 0 t t.its.length = [] from rfl, List.append_nil] at eD
    rw [← eD] at hD
    exact ⟨hhit, acc2, rfl, hD, hs⟩
  rintro σ w ⟨hit2, acc2, g5, hD, hs⟩
  obtain ⟨σ, rfl⟩ := rebase g5
  refine WP_seq ?_
  -- R49
  refine WP_seqr [⟨0, 0, []⟩, ⟨1, 0, []⟩, ⟨2, 0, []⟩] (by kernel_rfl) ?_
  refine ns_move rfl rfl ?_
  refine ns_asg rfl rfl ?_
  refine ns_asg rfl rfl ?_
  refine ns_done ?_
  refine WP_ret ?_
  exact ⟨_, res2 _ _, St.mk_ex (hit2, true, acc2) (St.mk_pu ⟨rfl, hD⟩ hs.out)⟩
theorem f76a_ok (c fl mn mx vb : Nat) (most : Int) (st sp : Option It) (inc : Bool) (hm : mx < 10000) (hinc : st ≠ none → inc = true) : ∀ (h b : Nat) (t : Tr) (hit : Bool) (acc : List It), Ok mn mx h t → t.its.length ≤ mx → Srt (flat h t) → acc.length + (flat h t).length < 1000000 →
    Tri Try.prog 76 #[ptr b, .int .i64 1, ov st, ov sp, .bool inc, .bool hit, seeV vb] (Tp c h t b * (Ctx c fl * VisP vb acc most)) (ItP c fl vb h b t most st sp acc) := by
  intro h
  induction h with
  | zero => exact fun b t hit acc hO hl hS ha => f76_asc c fl mn mx vb 0 b t most st sp inc hit acc hm hO hl hS hinc ha fun h' k xb hit' acc' e => by cases e
  | succ h ih => exact fun b t hit acc hO hl hS ha => f76_asc c fl mn mx vb (h + 1) b t most st sp inc hit acc hm hO hl hS hinc ha fun h' k xb hit' acc' e hO' hl' hS' ha' => by cases e; exact ih xb k hit' acc' hO' hl' hS' ha'
end Go.Proofs.Ytnnembkganlbpaa
