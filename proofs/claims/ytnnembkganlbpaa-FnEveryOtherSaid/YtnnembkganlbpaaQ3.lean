/- Part 3 of the ground on which the laws stand: W17 W18 W19 W20 Rq Rd W21 Re W22 W23. -/
import Derived.Test.YtnnembkganlbpaaQ2
import Derived.Test.YtnnembkganlbpaaTw
import Derived.Test.YtnnembkganlbpaaTx
import Derived.Test.YtnnembkganlbpaaMo
import Derived.Test.YtnnembkganlbpaaFa
/- The walk within bounds, ascending. -/
namespace Go.Proofs.Ytnnembkganlbpaa
open Go Go.Sl Go.Net Go.Wk Go.Bt Go.RowKit

/-- an optional item as a value -/
def ov (o : Option It) : Value := .agg #[.int .i64 (o.getD zero).key, .int .i64 (o.getD zero).val, .bool o.isSome]
def ovC (o : Option It) : Array Value := #[.int .i64 (o.getD zero).key, .int .i64 (o.getD zero).val, .bool o.isSome]
/-- what an ascending walk over the tree leaves -/
def ItP (c fl vb h b : Nat) (t : Tr) (most : Int) (st sp : Option It) (acc : List It) (v : Value) : HProp := ex fun r : Bool × Bool × List It =>
  pu (v = .tuple #[.bool r.1, .bool r.2.1] ∧ ItA most st sp (flat h t) acc r.2.2 r.2.1) * (Tp c h t b * (Ctx c fl * VisP vb r.2.2 most))
theorem kidL_at {mn mx h i : Nat} {t k : Tr} (_hO : Ok mn mx (h + 1) t) (hk : t.kids[i]? = some k) : kidL (h + 1) t i = flat h k := by
  show ((t.kids[i]?).map (flat h)).getD [] = _
  rw [hk]; rfl
theorem ItA_len {most : Int} {st sp : Option It} {l acc acc2 : List It} {ok : Bool} (h : ItA most st sp l acc acc2 ok) : acc2.length ≤ acc.length + l.length := by
  rw [h.1]
  have h1 := feed_len most (sel st sp l) acc
  have h2 : (sel st sp l).length ≤ l.length := List.length_filter_le ..
  omega
set_option maxHeartbeats 6400000 in
theorem f76_asc (c fl mn mx vb h b : Nat) (t : Tr) (most : Int) (st sp : Option It) (inc hit : Bool) (acc : List It) (hm : mx < 10000) (hO : Ok mn mx h t) (hl : t.its.length ≤ mx) (hS : Srt (flat h t)) (hinc : st ≠ none → inc = true) (hal : acc.length + (flat h t).length < 1000000)
    (hkid : ∀ (h' : Nat) (k : Tr) (xb : Nat) (hit' : Bool) (acc' : List It), h = h' + 1 → Ok mn mx h' k → k.its.length ≤ mx → Srt (flat h' k) → acc'.length + (flat h' k).length < 1000000 → Tri Try.prog 76 #[ptr xb, .int .i64 1, ov st, ov sp, .bool inc, .bool hit', seeV vb] (Tp c h' k xb * (Ctx c fl * VisP vb acc' most)) (ItP c fl vb h' xb k most st sp acc')) :
    Tri Try.prog 76 #[ptr b, .int .i64 1, ov st, ov sp, .bool inc, .bool hit, seeV vb] (Tp c h t b * (Ctx c fl * VisP vb acc most)) (ItP c fl vb h b t most st sp acc) := by
  have hSi := srt_its hO hS
  intro w0 F w hs
  simp only [mul_assoc'] at hs
  refine calls_WP 343 #[.tmp 14, .tmp 15] Try.func76 rfl Try.ntmps76 rfl (Nat.le_of_ble_eq_true rfl) ?_
  refine WP_seq ?_
  -- R0
  refine WP_seqr [⟨0, 2, []⟩, ⟨1, 2, []⟩, ⟨2, 0, []⟩, ⟨3, 0, []⟩] (by kernel_rfl) ?_
  refine ns_box (ovC st) hs rfl rfl rfl rfl ?_
  intro b9 w hs
  refine ns_box (ovC sp) hs rfl rfl rfl rfl ?_
  intro b10 w hs
  refine ns_asg rfl rfl ?_
  refine ns_asg rfl rfl ?_
  refine ns_done ?_
  have hs := (hs.foc (pts b9 (.cells (ovC st) 116 (0, 0)) * (pts b10 (.cells (ovC sp) 116 (0, 0)) * (Tp c h t b * (Ctx c fl * (VisP vb acc most * F)))))).fst
  refine WP_seq ?_
  -- R1
  refine WP_seqr [⟨0, 0, []⟩, ⟨1, 0, []⟩] (by kernel_rfl) ?_
  refine ns_asg rfl rfl ?_
  refine ns_asg rfl rfl ?_
  refine ns_done ?_
  refine WP_seq ?_
  -- R2
  refine WP_seqr [⟨0, 0, []⟩] (by kernel_rfl) ?_
  refine ns_asg rfl rfl ?_
  refine ns_done ?_
  refine WP_seq_cut (fun σ w => ∃ (hit2 : Bool) (acc2 : List It), σ 5 = .bool hit2 ∧ ItA most st sp (flat h t) acc acc2 true ∧ St w0 (pts b9 (.cells (ovC st) 116 (0, 0)) * (pts b10 (.cells (ovC sp) 116 (0, 0)) * (Tp c h t b * (Ctx c fl * (VisP vb acc2 most * F))))) w) ?_ ?_ -- S1
  · refine WP_seq ?_
    -- R3
    refine WP_seqr [⟨0, 0, []⟩] (by kernel_rfl) ?_
    refine ns_move rfl rfl ?_
    refine ns_done ?_
    refine WP_block ?_
    refine WP_seq ?_
    -- R4
    refine WP_seqr [⟨0, 0, []⟩, ⟨1, 0, []⟩] (by kernel_rfl) ?_
    refine ns_cmp true rfl rfl rfl rfl rfl ?_
    refine ns_asg rfl rfl ?_
    refine ns_done ?_
    refine WP_true rfl ?_ -- if1
    refine WP_seq_cut (fun σ w => ∃ i0 : Nat, i0 ≤ t.its.length ∧ (∃ A, flat h t = A ++ rst h t i0 ∧ ∀ a ∈ A, geS st a = false) ∧ (∀ j y, i0 ≤ j → t.its[j]? = some y → geS st y = true) ∧ σ 18 = .int .i64 i0 ∧ σ 0 = ptr b ∧ σ 1 = .int .i64 1 ∧ σ 4 = .bool inc ∧ σ 5 = .bool hit ∧ σ 6 = seeV vb ∧ σ 9 = .pointer (some ⟨b9, 0, none⟩) ∧ σ 10 = .pointer (some ⟨b10, 0, none⟩) ∧ St w0 (pts b9 (.cells (ovC st) 116 (0, 0)) * (pts b10 (.cells (ovC sp) 116 (0, 0)) * (Tp c h t b * (Ctx c fl * (VisP vb acc most * F))))) w) ?_ ?_ -- S2
    · refine WP_seq ?_
      -- R5
      refine WP_seqr [⟨0, 0, []⟩, ⟨1, 1, []⟩] (by kernel_rfl) ?_
      refine ns_fld fo_116_1 rfl rfl rfl ?_
      refine ns_ldB pl_4 hs rfl rfl rfl (by rfl) ?_
      refine ns_done ?_
      refine WP_if rfl (fun hif2 => ?_) (fun hif2 => ?_)
      · obtain ⟨s, rfl⟩ : ∃ s, st = some s := by
          cases st with
          | none => cases hif2
          | some s => exact ⟨s, rfl⟩
        obtain ⟨bs, hlen, hs⟩ := St.tree (hs.foc (Tp c h t b))
        obtain ⟨⟨v1, v2⟩, hs⟩ := hs.ex
        simp only [mul_assoc'] at hs
        obtain ⟨a1, c1, rfl, hc1, hcm1⟩ := (hs.foc (IArr v1 t.its)).arr_form
        obtain ⟨a2, c2, rfl, hc2, hcm2⟩ := (hs.foc (PArr v2 bs)).arr_form
        unfold Ctx CowP at hs
        simp only [mul_assoc'] at hs
        -- R6
        refine WP_net hs mix [0, 1, 3, 7, 0, 16, 0, 64, 192, 448, 960, 1984, 4032, 8191, 16383, 32767, 32767, 65535] [⟨0, 0, []⟩, ⟨1, 0, []⟩, ⟨2, 0, []⟩, ⟨3, 1, []⟩, ⟨4, 0, []⟩, ⟨5, 1, []⟩, ⟨6, 0, []⟩, ⟨7, 0, []⟩, ⟨8, 0, []⟩, ⟨9, 1, []⟩, ⟨10, 0, []⟩, ⟨11, 0, []⟩, ⟨12, 1, []⟩, ⟨13, 2, []⟩, ⟨14, 0, []⟩, ⟨15, 0, []⟩, ⟨16, 0, []⟩, ⟨17, 0, []⟩] (by kernel_rfl) ?_
        intro w hs
        refine ns_move rfl rfl ?_
        refine ns_nil rfl rfl rfl ?_
        refine ns_fld fo_103_0 rfl rfl rfl ?_
        refine ns_ldB pl_100 hs rfl rfl rfl (by rfl) ?_
        refine ns_fld fo_116_0 rfl rfl rfl ?_
        refine ns_ldAB [.int .i64 s.key, .int .i64 s.val] ag_45 hs rfl rfl rfl (by rfl) (by rfl) (by decide) ?_
        refine ns_move rfl rfl ?_
        refine ns_nil rfl rfl rfl ?_
        refine ns_fld fo_103_2 rfl rfl rfl ?_
        refine ns_ldB pl_82 hs rfl rfl rfl (by rfl) ?_
        refine ns_nil rfl rfl rfl ?_
        refine ns_fld fo_84_1 rfl rfl rfl ?_
        refine ns_ldB pl_69 hs rfl rfl rfl (by rfl) ?_
        refine ns_call (f83_ok (.slice a1 t.its.length c1) t.its s hSi (by omega)) ck_83 (hs.foc (IArr (.slice a1 t.its.length c1) t.its)) rfl rfl rfl rfl ?_
        intro v40 w hs
        replace hs := hs.pu
        obtain ⟨rfl, hs⟩ := hs
        refine ns_move rfl rfl ?_
        refine ns_ext rfl rfl rfl rfl ?_
        refine ns_ext rfl rfl rfl rfl ?_
        refine ns_asg rfl rfl ?_
        refine ns_done ?_
        have hs := hs.fold (ctx_fold c fl)
        have hs := hs.fold (node_fold c b (.slice a1 t.its.length c1) (.slice a2 bs.length c2) t.its bs)
        have hs := hs.fold (tree_fold (c := c) (h := h) (b := b) (its := t.its) (kids := t.kids) hlen)
        rw [Tr.eta] at hs
        have hle := lb_le t.its s.key
        obtain ⟨A, eA, hA⟩ := rst_pre hO hS (lb t.its s.key) hle
        refine ⟨lb t.its s.key, hle, ⟨A, eA, fun a ha => ?_⟩, fun j y hj hy => ?_, rfl, rfl, rfl, rfl, rfl, rfl, rfl, rfl, hs.out⟩
        · have := hA s.key (fun j y hj hy => lb_below hSi hj hy) a ha
          simp [geS]; omega
        · have : ¬ y.key < s.key := by rw [lb_lt hSi hy]; omega
          simp [geS]; omega
      refine WP_skip ?_
      have hst : st = none := by
        cases st with
        | none => rfl
        | some s => cases hif2
      subst hst
      exact ⟨0, Nat.zero_le _, ⟨[], by rw [rst_zero]; rfl, fun a ha => by cases ha⟩, fun _ _ _ _ => rfl, rfl, rfl, rfl, rfl, rfl, rfl, rfl, rfl, hs⟩
    rintro σ w ⟨i0, hi0, ⟨A, eA, hA⟩, hge, g18, g0, g1, g4, g5, g6, g9, g10, hs⟩
    obtain ⟨σ, rfl⟩ := rebase g18
    obtain ⟨σ, rfl⟩ := rebase (σ := σ) g0
    obtain ⟨σ, rfl⟩ := rebase (σ := σ) g1
    obtain ⟨σ, rfl⟩ := rebase (σ := σ) g4
    obtain ⟨σ, rfl⟩ := rebase (σ := σ) g5
    obtain ⟨σ, rfl⟩ := rebase (σ := σ) g6
    obtain ⟨σ, rfl⟩ := rebase (σ := σ) g9
    obtain ⟨σ, rfl⟩ := rebase (σ := σ) g10
    clear g18 g0 g1 g4 g5 g6 g9 g10
    refine WP_seq_cut (fun σ w => ∃ (hhit : Bool) (acc2 dn : List It), flat h t = dn ++ rst h t t.its.length ∧ ItA most st sp dn acc acc2 true ∧ σ 0 = ptr b ∧ σ 1 = .int .i64 1 ∧ σ 4 = .bool inc ∧ σ 5 = .bool hhit ∧ σ 6 = seeV vb ∧ σ 9 = .pointer (some ⟨b9, 0, none⟩) ∧ σ 10 = .pointer (some ⟨b10, 0, none⟩) ∧ St w0 (pts b9 (.cells (ovC st) 116 (0, 0)) * (pts b10 (.cells (ovC sp) 116 (0, 0)) * (Tp c h t b * (Ctx c fl * (VisP vb acc2 most * F))))) w) ?_ ?_ -- S3
    · refine WP_seq ?_
      -- R7
      refine WP_seqr [⟨0, 0, []⟩, ⟨1, 0, []⟩] (by kernel_rfl) ?_
      refine ns_move rfl rfl ?_
      refine ns_asg rfl rfl ?_
      refine ns_done ?_
      refine WP_block ?_
      refine WP_loop (fun m σ w => ∃ (i : Nat) (hhit : Bool) (acc2 dn : List It), m = t.its.length - i ∧ i0 ≤ i ∧ i ≤ t.its.length ∧ flat h t = dn ++ rst h t i ∧ ItA most st sp dn acc acc2 true ∧ σ 19 = .int .i64 i ∧ σ 0 = ptr b ∧ σ 1 = .int .i64 1 ∧ σ 4 = .bool inc ∧ σ 5 = .bool hhit ∧ σ 6 = seeV vb ∧ σ 9 = .pointer (some ⟨b9, 0, none⟩) ∧ σ 10 = .pointer (some ⟨b10, 0, none⟩) ∧ St w0 (pts b9 (.cells (ovC st) 116 (0, 0)) * (pts b10 (.cells (ovC sp) 116 (0, 0)) * (Tp c h t b * (Ctx c fl * (VisP vb acc2 most * F))))) w) (t.its.length - i0) ?_ ?_ -- L1
      · exact ⟨i0, hit, acc, A, rfl, Nat.le_refl _, hi0, eA, ItA.below hA, rfl, rfl, rfl, rfl, rfl, rfl, rfl, rfl, hs⟩
      rintro m σ w ⟨i, hhit, acc2, dn, rfl, hi1, hi2, eD, hD, g19, g0, g1, g4, g5, g6, g9, g10, hs⟩
      obtain ⟨σ, rfl⟩ := rebase g19
      obtain ⟨σ, rfl⟩ := rebase (σ := σ) g0
      obtain ⟨σ, rfl⟩ := rebase (σ := σ) g1
      obtain ⟨σ, rfl⟩ := rebase (σ := σ) g4
      obtain ⟨σ, rfl⟩ := rebase (σ := σ) g5
      obtain ⟨σ, rfl⟩ := rebase (σ := σ) g6
      obtain ⟨σ, rfl⟩ := rebase (σ := σ) g9
      obtain ⟨σ, rfl⟩ := rebase (σ := σ) g10
      clear g19 g0 g1 g4 g5 g6 g9 g10
      refine WP_seq ?_ -- S4
      refine WP_seq ?_
      have hs0 := hs
      obtain ⟨bs, hlen, hs⟩ := St.tree (hs.foc (Tp c h t b))
      obtain ⟨⟨v1, v2⟩, hs⟩ := hs.ex
      simp only [mul_assoc'] at hs
      obtain ⟨a1, c1, rfl, hc1, hcm1⟩ := (hs.foc (IArr v1 t.its)).arr_form
      obtain ⟨a2, c2, rfl, hc2, hcm2⟩ := (hs.foc (PArr v2 bs)).arr_form
      -- R8
      refine WP_seqr [⟨0, 0, []⟩, ⟨1, 0, []⟩, ⟨2, 0, []⟩, ⟨3, 0, []⟩, ⟨4, 1, []⟩, ⟨5, 0, []⟩, ⟨6, 0, []⟩] (by kernel_rfl) ?_
      refine ns_move rfl rfl ?_
      refine ns_move rfl rfl ?_
      refine ns_nil rfl rfl rfl ?_
      refine ns_fld fo_103_0 rfl rfl rfl ?_
      refine ns_ldB pl_100 hs rfl rfl rfl (by rfl) ?_
      refine ns_len sl_100 rfl rfl rfl ?_
      refine ns_cmp _ rfl rfl rfl rfl rfl ?_
      refine ns_done ?_
      have hs := hs0
      refine WP_if' rfl (fun hif3 => ?_) (fun hif3 => ?_)
      · refine WP_exit ?_
        have hi : i = t.its.length := by have := of_decide_eq_false hif3; omega
        subst hi
        exact ⟨hhit, acc2, dn, eD, hD, rfl, rfl, rfl, rfl, rfl, rfl, rfl, hs⟩
      refine WP_skip ?_
      have hi : i < t.its.length := by have := of_decide_eq_true hif3; omega
      obtain ⟨x, hx⟩ : ∃ x, t.its[i]? = some x := ⟨t.its[i]'hi, List.getElem?_eq_getElem hi⟩
      have hst := rst_step hO hx
      rw [hst] at eD
      have hlenD := congrArg List.length eD
      simp only [List.length_append, List.length_cons] at hlenD
      have hxge := hge i x hi1 hx
      have hSD := hS
      rw [eD] at hSD
      have hDl := ItA_len hD
      refine WP_seq ?_ -- S5
      refine WP_block ?_
      refine WP_seq_cut (fun σ w => ∃ (hhit : Bool) (acc3 : List It), ItA most st sp (dn ++ kidL h t i) acc acc3 true ∧ σ 19 = .int .i64 i ∧ σ 0 = ptr b ∧ σ 1 = .int .i64 1 ∧ σ 4 = .bool inc ∧ σ 5 = .bool hhit ∧ σ 6 = seeV vb ∧ σ 9 = .pointer (some ⟨b9, 0, none⟩) ∧ σ 10 = .pointer (some ⟨b10, 0, none⟩) ∧ St w0 (pts b9 (.cells (ovC st) 116 (0, 0)) * (pts b10 (.cells (ovC sp) 116 (0, 0)) * (Tp c h t b * (Ctx c fl * (VisP vb acc3 most * F))))) w) ?_ ?_ -- S6
      · refine WP_seq ?_
        have hs0 := hs
        obtain ⟨bs, hlen, hs⟩ := St.tree (hs.foc (Tp c h t b))
        obtain ⟨⟨v1, v2⟩, hs⟩ := hs.ex
        simp only [mul_assoc'] at hs
        obtain ⟨a1, c1, rfl, hc1, hcm1⟩ := (hs.foc (IArr v1 t.its)).arr_form
        obtain ⟨a2, c2, rfl, hc2, hcm2⟩ := (hs.foc (PArr v2 bs)).arr_form
        -- R10
        refine WP_seqr [⟨0, 0, []⟩, ⟨1, 0, []⟩, ⟨2, 0, []⟩, ⟨3, 1, []⟩, ⟨4, 0, []⟩, ⟨5, 0, []⟩] (by kernel_rfl) ?_
        refine ns_move rfl rfl ?_
        refine ns_nil rfl rfl rfl ?_
        refine ns_fld fo_103_1 rfl rfl rfl ?_
        refine ns_ldB pl_101 hs rfl rfl rfl (by rfl) ?_
        refine ns_len sl_101 rfl rfl rfl ?_
        refine ns_cmp _ rfl rfl rfl rfl rfl ?_
        refine ns_done ?_
        have hs := hs0
        refine WP_if rfl (fun hif4 => ?_) (fun hif4 => ?_)
        · refine WP_seq ?_
          have hb0 : t.kids.length ≠ 0 := by have := of_decide_eq_true hif4; omega
          have hkl := kids_len hO hb0
          obtain ⟨k, hk⟩ : ∃ k, t.kids[i]? = some k := ⟨t.kids[i]'(by omega), List.getElem?_eq_getElem (by omega)⟩
          obtain ⟨h, rfl⟩ : ∃ h', h = h' + 1 := by
            cases h with
            | zero => rw [show t.kids = [] from hO] at hk; simp at hk
            | succ h => exact ⟨h, rfl⟩
          have hko := kid_ok hO hk
          have hkS : Srt (flat h k) := kid_srt hO hS hk
          have hkL := kidL_at hO hk
          obtain ⟨bs, hlen, hs⟩ := St.tree (hs.foc (Tp c (h + 1) t b))
          obtain ⟨xb, hxb⟩ : ∃ xb, bs[i]? = some xb := ⟨bs[i]'(by omega), List.getElem?_eq_getElem (by omega)⟩
          rw [Ks_at hk hxb] at hs
          simp only [mul_assoc'] at hs
          obtain ⟨⟨v1, v2⟩, hs⟩ := (hs.foc (NodeP c b t.its bs)).ex
          simp only [mul_assoc'] at hs
          obtain ⟨_, hz, _⟩ | ⟨g, cap, cur, hv, hc, hcm, hsz, htk, hs⟩ := (hs.foc (PArr (v2) (bs))).arr
          · omega
          cases hv
          -- R11
          refine WP_net hs mix [0, 1, 3, 7, 0, 31, 63, 0, 0, 0, 0, 0, 0, 8191, 16383, 32767, 32767, 65535, 262143] [⟨0, 0, []⟩, ⟨1, 0, []⟩, ⟨2, 0, []⟩, ⟨3, 1, []⟩, ⟨4, 0, []⟩, ⟨5, 0, []⟩, ⟨6, 1, []⟩, ⟨7, 0, []⟩, ⟨8, 1, []⟩, ⟨9, 1, []⟩, ⟨10, 0, []⟩, ⟨11, 0, []⟩, ⟨12, 0, []⟩, ⟨13, 2, []⟩, ⟨14, 0, []⟩, ⟨15, 0, []⟩, ⟨16, 0, []⟩, ⟨17, 0, []⟩, ⟨18, 0, []⟩] (by kernel_rfl) ?_
          intro w hs
          refine ns_move rfl rfl ?_
          refine ns_nil rfl rfl rfl ?_
          refine ns_fld fo_103_1 rfl rfl rfl ?_
          refine ns_ldB pl_101 hs rfl rfl rfl (by rfl) ?_
          refine ns_move rfl rfl ?_
          refine ns_idx i sl_101 rfl rfl rfl rfl rfl (by omega) ?_
          refine ns_ld pl_85 rfl rfl rfl (ptr_cell hs htk _ hxb) ?_
          refine ns_move rfl rfl ?_
          refine ns_ldAB (ovC st).toList ag_116 hs rfl rfl rfl (by rfl) (by rfl) (by decide) ?_
          refine ns_ldAB (ovC sp).toList ag_116 hs rfl rfl rfl (by rfl) (by rfl) (by decide) ?_
          refine ns_move rfl rfl ?_
          refine ns_move rfl rfl ?_
          refine ns_move rfl rfl ?_
          refine ns_call (hkid h k xb hhit acc2 rfl hko.2.2 hko.2.1 hkS (by rw [← hkL]; omega)) ck_76 (hs.foc (Tq c (h + 1) k xb * (Ctx c fl * VisP vb acc2 most))) rfl rfl rfl rfl ?_
          intro v73 w hs
          unfold ItP at hs
          replace hs := hs.ex
          obtain ⟨⟨hit3, ok3, acc3⟩, hs⟩ := hs
          replace hs := hs.pu
          obtain ⟨⟨rfl, q1⟩, hs⟩ := hs
          simp only [mul_assoc'] at hs
          rw [← hkL] at q1
          refine ns_move rfl rfl ?_
          refine ns_ext rfl rfl rfl rfl ?_
          refine ns_ext rfl rfl rfl rfl ?_
          refine ns_asg rfl rfl ?_
          refine ns_asg rfl rfl ?_
          refine ns_done ?_
          have hs := (hs.foc (pts g (.cells cur 85 (0, 0)))).mk_arr' hc hcm hsz htk
          have hs := hs.fold (node_fold c b v1 (.slice (some ⟨g, 0, none⟩) bs.length cap) t.its bs)
          rw [show Tp c h k xb = Tq c (h + 1) k xb from rfl] at hs
          have hs := hs.fold (Ent.of_eq (Ks_at (c := c) (h := h + 1) hk hxb).symm)
          have hs := hs.fold (tree_fold (c := c) (h := h + 1) (b := b) (its := t.its) (kids := t.kids) hlen)
          rw [Tr.eta] at hs
          refine WP_seq ?_
          -- R12
          refine WP_seqr [⟨0, 0, []⟩, ⟨1, 0, []⟩] (by kernel_rfl) ?_
          refine ns_move rfl rfl ?_
          refine ns_not rfl rfl rfl ?_
          refine ns_done ?_
          refine WP_if rfl (fun hif5 => ?_) (fun hif5 => ?_)
          · refine WP_seq ?_
            -- R13
            refine WP_seqr [⟨0, 0, []⟩, ⟨1, 0, []⟩, ⟨2, 0, []⟩] (by kernel_rfl) ?_
            refine ns_move rfl rfl ?_
            refine ns_asg rfl rfl ?_
            refine ns_asg rfl rfl ?_
            refine ns_done ?_
            refine WP_ret ?_
            have hok : ok3 = false := by simpa using hif5
            subst hok
            have q2 := (ItA.go hD q1).stop (b := x :: rst (h + 1) t (i + 1)) (by rw [List.append_assoc]; exact hSD)
            rw [List.append_assoc, ← eD] at q2
            exact ⟨_, res2 _ _, St.mk_ex (hit3, false, acc3) (St.mk_pu ⟨rfl, q2⟩ hs.out)⟩
          refine WP_skip ?_
          have hok : ok3 = true := by simpa using hif5
          subst hok
          exact ⟨hit3, acc3, ItA.go hD q1, rfl, rfl, rfl, rfl, rfl, rfl, rfl, rfl, hs.out⟩
        refine WP_skip ?_
        have hb0 : t.kids.length = 0 := by have := of_decide_eq_false hif4; omega
        obtain rfl := kids_zero hO hb0
        exact ⟨hhit, acc2, by rw [show kidL 0 t i = [] from rfl, List.append_nil]; exact hD, rfl, rfl, rfl, rfl, rfl, rfl, rfl, rfl, hs⟩
      rintro σ w ⟨hhit, acc3, hD3, g19, g0, g1, g4, g5, g6, g9, g10, hs⟩
      obtain ⟨σ, rfl⟩ := rebase g19
      obtain ⟨σ, rfl⟩ := rebase (σ := σ) g0
      obtain ⟨σ, rfl⟩ := rebase (σ := σ) g1
      obtain ⟨σ, rfl⟩ := rebase (σ := σ) g4
      obtain ⟨σ, rfl⟩ := rebase (σ := σ) g5
      obtain ⟨σ, rfl⟩ := rebase (σ := σ) g6
      obtain ⟨σ, rfl⟩ := rebase (σ := σ) g9
      obtain ⟨σ, rfl⟩ := rebase (σ := σ) g10
      clear g19 g0 g1 g4 g5 g6 g9 g10
      refine WP_seq ?_ -- S7
      refine WP_seq_cut (fun σ w => σ 108 = .bool false ∧ σ 19 = .int .i64 i ∧ σ 0 = ptr b ∧ σ 1 = .int .i64 1 ∧ σ 4 = .bool inc ∧ σ 5 = .bool hhit ∧ σ 6 = seeV vb ∧ σ 9 = .pointer (some ⟨b9, 0, none⟩) ∧ σ 10 = .pointer (some ⟨b10, 0, none⟩) ∧ St w0 (pts b9 (.cells (ovC st) 116 (0, 0)) * (pts b10 (.cells (ovC sp) 116 (0, 0)) * (Tp c h t b * (Ctx c fl * (VisP vb acc3 most * F))))) w) ?_ ?_ -- R14.cut
      · rcases (show inc = true ∨ (inc = false ∧ hhit = true) ∨ (inc = false ∧ hhit = false ∧ st = none) from by
          cases inc
          · cases hhit
            · exact .inr (.inr ⟨rfl, rfl, by
                cases st with
                | none => rfl
                | some s => exact absurd (hinc (by simp)) (by simp)⟩)
            · exact .inr (.inl ⟨rfl, rfl⟩)
          · exact .inl rfl) with rfl | ⟨rfl, rfl⟩ | ⟨rfl, rfl, rfl⟩
        · -- R14
          refine WP_net hs mix [0, 1, 3, 7, 15, 31, 63, 127, 255, 511, 1023, 2047, 4095, 8191, 16383, 32767, 65535, 131071, 2047, 264191, 2047, 1050623, 3147775, 7342079, 2047, 32507903, 66062335, 134217727, 268435455, 536870911] [⟨0, 0, []⟩, ⟨1, 0, []⟩, ⟨2, 0, []⟩, ⟨3, 0, []⟩, ⟨4, 0, []⟩, ⟨5, 0, []⟩, ⟨6, 0, []⟩, ⟨7, 0, []⟩, ⟨8, 0, []⟩, ⟨9, 0, []⟩, ⟨10, 0, []⟩, ⟨11, 0, []⟩, ⟨12, 0, []⟩, ⟨13, 0, []⟩, ⟨14, 0, []⟩, ⟨15, 0, []⟩, ⟨16, 0, []⟩, ⟨17, 0, []⟩, ⟨18, 0, []⟩, ⟨19, 0, []⟩, ⟨20, 0, []⟩, ⟨21, 0, []⟩, ⟨22, 0, []⟩, ⟨23, 0, []⟩, ⟨24, 0, []⟩, ⟨25, 0, []⟩, ⟨26, 0, []⟩, ⟨27, 0, []⟩, ⟨28, 0, []⟩, ⟨29, 0, []⟩] (by kernel_rfl) ?_
          intro w hs
          refine ns_move rfl rfl ?_
          refine ns_not rfl rfl rfl ?_
          refine ns_move rfl rfl ?_
          refine ns_no rfl rfl ?_
          refine ns_no rfl rfl ?_
          refine ns_pick rfl rfl rfl ?_
          refine ns_move rfl rfl ?_
          refine ns_no rfl rfl ?_
          refine ns_no rfl rfl ?_
          refine ns_pick rfl rfl rfl ?_
          refine ns_move rfl rfl ?_
          refine ns_no rfl rfl ?_
          refine ns_no rfl rfl ?_
          refine ns_no rfl rfl ?_
          refine ns_no rfl rfl ?_
          refine ns_no rfl rfl ?_
          refine ns_no rfl rfl ?_
          refine ns_no rfl rfl ?_
          refine ns_no rfl rfl ?_
          refine ns_no rfl rfl ?_
          refine ns_no rfl rfl ?_
          refine ns_no rfl rfl ?_
          refine ns_no rfl rfl ?_
          refine ns_no rfl rfl ?_
          refine ns_no rfl rfl ?_
          refine ns_no rfl rfl ?_
          refine ns_no rfl rfl ?_
          refine ns_no rfl rfl ?_
          refine ns_no rfl rfl ?_
          refine ns_pick rfl rfl rfl ?_
          refine ns_done ?_
          exact ⟨rfl, rfl, rfl, rfl, rfl, rfl, rfl, rfl, rfl, hs⟩
        · -- R14
          refine WP_net hs mix [0, 1, 3, 7, 15, 31, 63, 127, 255, 511, 1023, 2047, 4095, 8191, 16383, 32767, 65535, 131071, 2047, 264191, 2047, 1050623, 3147775, 7342079, 2047, 32507903, 66062335, 134217727, 268435455, 536870911] [⟨0, 0, []⟩, ⟨1, 0, []⟩, ⟨2, 0, []⟩, ⟨3, 0, []⟩, ⟨4, 0, []⟩, ⟨5, 0, []⟩, ⟨6, 0, []⟩, ⟨7, 0, []⟩, ⟨8, 0, []⟩, ⟨9, 0, []⟩, ⟨10, 0, []⟩, ⟨11, 0, []⟩, ⟨12, 0, []⟩, ⟨13, 0, []⟩, ⟨14, 0, []⟩, ⟨15, 0, []⟩, ⟨16, 0, []⟩, ⟨17, 0, []⟩, ⟨18, 0, []⟩, ⟨19, 0, []⟩, ⟨20, 0, []⟩, ⟨21, 0, []⟩, ⟨22, 0, []⟩, ⟨23, 0, []⟩, ⟨24, 0, []⟩, ⟨25, 0, []⟩, ⟨26, 0, []⟩, ⟨27, 0, []⟩, ⟨28, 0, []⟩, ⟨29, 0, []⟩] (by kernel_rfl) ?_
          intro w hs
          refine ns_move rfl rfl ?_
          refine ns_not rfl rfl rfl ?_
          refine ns_move rfl rfl ?_
          refine ns_move rfl rfl ?_
          refine ns_not rfl rfl rfl ?_
          refine ns_pick rfl rfl rfl ?_
          refine ns_move rfl rfl ?_
          refine ns_no rfl rfl ?_
          refine ns_no rfl rfl ?_
          refine ns_pick rfl rfl rfl ?_
          refine ns_move rfl rfl ?_
          refine ns_no rfl rfl ?_
          refine ns_no rfl rfl ?_
          refine ns_no rfl rfl ?_
          refine ns_no rfl rfl ?_
          refine ns_no rfl rfl ?_
          refine ns_no rfl rfl ?_
          refine ns_no rfl rfl ?_
          refine ns_no rfl rfl ?_
          refine ns_no rfl rfl ?_
          refine ns_no rfl rfl ?_
          refine ns_no rfl rfl ?_
          refine ns_no rfl rfl ?_
          refine ns_no rfl rfl ?_
          refine ns_no rfl rfl ?_
          refine ns_no rfl rfl ?_
          refine ns_no rfl rfl ?_
          refine ns_no rfl rfl ?_
          refine ns_no rfl rfl ?_
          refine ns_pick rfl rfl rfl ?_
          refine ns_done ?_
          exact ⟨rfl, rfl, rfl, rfl, rfl, rfl, rfl, rfl, rfl, hs⟩
        · -- R14
          refine WP_net hs mix [0, 1, 3, 7, 15, 31, 63, 127, 255, 511, 1023, 2047, 4095, 8191, 16383, 32767, 65535, 131071, 2047, 264191, 2047, 1050623, 3147775, 7342079, 2047, 32507903, 66062335, 134217727, 268435455, 536870911] [⟨0, 0, []⟩, ⟨1, 0, []⟩, ⟨2, 0, []⟩, ⟨3, 0, []⟩, ⟨4, 0, []⟩, ⟨5, 0, []⟩, ⟨6, 0, []⟩, ⟨7, 0, []⟩, ⟨8, 1, []⟩, ⟨9, 0, []⟩, ⟨10, 0, []⟩, ⟨11, 0, []⟩, ⟨12, 0, []⟩, ⟨13, 0, []⟩, ⟨14, 0, []⟩, ⟨15, 0, []⟩, ⟨16, 0, []⟩, ⟨17, 0, []⟩, ⟨18, 0, []⟩, ⟨19, 0, []⟩, ⟨20, 0, []⟩, ⟨21, 0, []⟩, ⟨22, 0, []⟩, ⟨23, 0, []⟩, ⟨24, 0, []⟩, ⟨25, 0, []⟩, ⟨26, 0, []⟩, ⟨27, 0, []⟩, ⟨28, 0, []⟩, ⟨29, 0, []⟩] (by kernel_rfl) ?_
          intro w hs
          refine ns_move rfl rfl ?_
          refine ns_not rfl rfl rfl ?_
          refine ns_move rfl rfl ?_
          refine ns_move rfl rfl ?_
          refine ns_not rfl rfl rfl ?_
          refine ns_pick rfl rfl rfl ?_
          refine ns_move rfl rfl ?_
          refine ns_fld fo_116_1 rfl rfl rfl ?_
          refine ns_ldB pl_4 hs rfl rfl rfl (by rfl) ?_
          refine ns_pick rfl rfl rfl ?_
          refine ns_move rfl rfl ?_
          refine ns_no rfl rfl ?_
          refine ns_no rfl rfl ?_
          refine ns_no rfl rfl ?_
          refine ns_no rfl rfl ?_
          refine ns_no rfl rfl ?_
          refine ns_no rfl rfl ?_
          refine ns_no rfl rfl ?_
          refine ns_no rfl rfl ?_
          refine ns_no rfl rfl ?_
          refine ns_no rfl rfl ?_
          refine ns_no rfl rfl ?_
          refine ns_no rfl rfl ?_
          refine ns_no rfl rfl ?_
          refine ns_no rfl rfl ?_
          refine ns_no rfl rfl ?_
          refine ns_no rfl rfl ?_
          refine ns_no rfl rfl ?_
          refine ns_no rfl rfl ?_
          refine ns_pick rfl rfl rfl ?_
          refine ns_done ?_
          exact ⟨rfl, rfl, rfl, rfl, rfl, rfl, rfl, rfl, rfl, hs⟩
      rintro σ w ⟨g108, g19, g0, g1, g4, g5, g6, g9, g10, hs⟩
      obtain ⟨σ, rfl⟩ := rebase g108
      obtain ⟨σ, rfl⟩ := rebase (σ := σ) g19
      obtain ⟨σ, rfl⟩ := rebase (σ := σ) g0
      obtain ⟨σ, rfl⟩ := rebase (σ := σ) g1
      obtain ⟨σ, rfl⟩ := rebase (σ := σ) g4
      obtain ⟨σ, rfl⟩ := rebase (σ := σ) g5
      obtain ⟨σ, rfl⟩ := rebase (σ := σ) g6
      obtain ⟨σ, rfl⟩ := rebase (σ := σ) g9
      obtain ⟨σ, rfl⟩ := rebase (σ := σ) g10
      clear g108 g19 g0 g1 g4 g5 g6 g9 g10
      refine WP_false rfl ?_ -- if6
      refine WP_skip ?_
      refine WP_seq ?_
      -- R16
      refine WP_seqr [⟨0, 0, []⟩] (by kernel_rfl) ?_
      refine ns_asg rfl rfl ?_
      refine ns_done ?_
      refine WP_seq ?_ -- S8
      refine WP_seq_cut (fun σ w => σ 130 = .bool (!ltS sp x) ∧ σ 19 = .int .i64 i ∧ σ 0 = ptr b ∧ σ 1 = .int .i64 1 ∧ σ 4 = .bool inc ∧ σ 5 = .bool true ∧ σ 6 = seeV vb ∧ σ 9 = .pointer (some ⟨b9, 0, none⟩) ∧ σ 10 = .pointer (some ⟨b10, 0, none⟩) ∧ St w0 (pts b9 (.cells (ovC st) 116 (0, 0)) * (pts b10 (.cells (ovC sp) 116 (0, 0)) * (Tp c h t b * (Ctx c fl * (VisP vb acc3 most * F))))) w) ?_ ?_ -- R17.cut
      · rcases (show sp = none ∨ ∃ s, sp = some s from by
          cases sp with
          | none => exact .inl rfl
          | some s => exact .inr ⟨s, rfl⟩) with rfl | ⟨s, rfl⟩
        · -- R17
          refine WP_net hs mix [0, 1, 3, 7, 15, 31, 63, 127, 255, 511, 7, 1031, 3079, 7175, 7, 31751, 64519, 7, 131079, 524287, 1048575, 2097151] [⟨0, 0, []⟩, ⟨1, 1, []⟩, ⟨2, 0, []⟩, ⟨3, 0, []⟩, ⟨4, 0, []⟩, ⟨5, 0, []⟩, ⟨6, 0, []⟩, ⟨7, 0, []⟩, ⟨8, 0, []⟩, ⟨9, 0, []⟩, ⟨10, 0, []⟩, ⟨11, 0, []⟩, ⟨12, 0, []⟩, ⟨13, 0, []⟩, ⟨14, 0, []⟩, ⟨15, 0, []⟩, ⟨16, 0, []⟩, ⟨17, 0, []⟩, ⟨18, 0, []⟩, ⟨19, 0, []⟩, ⟨20, 0, []⟩, ⟨21, 0, []⟩] (by kernel_rfl) ?_
          intro w hs
          refine ns_fld fo_116_1 rfl rfl rfl ?_
          refine ns_ldB pl_4 hs rfl rfl rfl (by rfl) ?_
          refine ns_move rfl rfl ?_
          refine ns_no rfl rfl ?_
          refine ns_no rfl rfl ?_
          refine ns_no rfl rfl ?_
          refine ns_no rfl rfl ?_
          refine ns_no rfl rfl ?_
          refine ns_no rfl rfl ?_
          refine ns_no rfl rfl ?_
          refine ns_no rfl rfl ?_
          refine ns_no rfl rfl ?_
          refine ns_no rfl rfl ?_
          refine ns_no rfl rfl ?_
          refine ns_no rfl rfl ?_
          refine ns_no rfl rfl ?_
          refine ns_no rfl rfl ?_
          refine ns_no rfl rfl ?_
          refine ns_no rfl rfl ?_
          refine ns_no rfl rfl ?_
          refine ns_no rfl rfl ?_
          refine ns_pick rfl rfl rfl ?_
          refine ns_done ?_
          exact ⟨rfl, rfl, rfl, rfl, rfl, rfl, rfl, rfl, rfl, hs⟩
        · obtain ⟨bs, hlen, hs⟩ := St.tree (hs.foc (Tp c h t b))
          obtain ⟨⟨v1, v2⟩, hs⟩ := hs.ex
          simp only [mul_assoc'] at hs
          obtain ⟨a1, c1, rfl, hc1, hcm1⟩ := (hs.foc (IArr v1 t.its)).arr_form
          obtain ⟨a2, c2, rfl, hc2, hcm2⟩ := (hs.foc (PArr v2 bs)).arr_form
          unfold Ctx CowP at hs
          simp only [mul_assoc'] at hs
          obtain ⟨_, hz, _⟩ | ⟨g, cap, cur, hv, hc, hcm, hsz, htk, hs⟩ := (hs.foc (IArr (.slice a1 t.its.length c1) (t.its))).arr
          · omega
          cases hv
          -- R17
          refine WP_net hs mix [0, 1, 3, 7, 15, 31, 63, 127, 255, 511, 7, 1031, 3079, 7175, 7, 31751, 64519, 7, 131079, 524287, 1048575, 2097151] [⟨0, 0, []⟩, ⟨1, 1, []⟩, ⟨2, 0, []⟩, ⟨3, 0, []⟩, ⟨4, 0, []⟩, ⟨5, 0, []⟩, ⟨6, 1, []⟩, ⟨7, 0, []⟩, ⟨8, 0, []⟩, ⟨9, 1, []⟩, ⟨10, 0, []⟩, ⟨11, 0, []⟩, ⟨12, 0, []⟩, ⟨13, 1, []⟩, ⟨14, 0, []⟩, ⟨15, 0, []⟩, ⟨16, 1, []⟩, ⟨17, 0, []⟩, ⟨18, 1, []⟩, ⟨19, 2, []⟩, ⟨20, 0, []⟩, ⟨21, 0, []⟩] (by kernel_rfl) ?_
          intro w hs
          refine ns_fld fo_116_1 rfl rfl rfl ?_
          refine ns_ldB pl_4 hs rfl rfl rfl (by rfl) ?_
          refine ns_move rfl rfl ?_
          refine ns_move rfl rfl ?_
          refine ns_nil rfl rfl rfl ?_
          refine ns_fld fo_103_2 rfl rfl rfl ?_
          refine ns_ldB pl_82 hs rfl rfl rfl (by rfl) ?_
          refine ns_nil rfl rfl rfl ?_
          refine ns_fld fo_84_1 rfl rfl rfl ?_
          refine ns_ldB pl_69 hs rfl rfl rfl (by rfl) ?_
          refine ns_move rfl rfl ?_
          refine ns_nil rfl rfl rfl ?_
          refine ns_fld fo_103_0 rfl rfl rfl ?_
          refine ns_ldB pl_100 hs rfl rfl rfl (by rfl) ?_
          refine ns_move rfl rfl ?_
          refine ns_idx i sl_100 rfl rfl rfl rfl rfl hi ?_
          refine ns_ldA [.int .i64 x.key, .int .i64 x.val] ag_45 rfl rfl rfl rfl (by decide) (it_cells hs htk _ hx) ?_
          refine ns_fld fo_116_0 rfl rfl rfl ?_
          refine ns_ldAB [.int .i64 s.key, .int .i64 s.val] ag_45 hs rfl rfl rfl (by rfl) (by rfl) (by decide) ?_
          refine ns_call (f40_ok x s) ck_40 (hs.foc 1) rfl rfl rfl rfl ?_
          intro v128 w hs
          replace hs := hs.pure
          obtain ⟨rfl, hs⟩ := hs
          refine ns_not rfl rfl rfl ?_
          refine ns_pick rfl rfl rfl ?_
          refine ns_done ?_
          have hs := (hs.foc (pts g (.cells cur 45 (0, 0)))).mk_arr' hc hcm hsz htk
          have hs := hs.fold (ctx_fold c fl)
          have hs := hs.fold (node_fold c b (.slice (some ⟨g, 0, none⟩) t.its.length c1) (.slice a2 bs.length c2) t.its bs)
          have hs := hs.fold (tree_fold (c := c) (h := h) (b := b) (its := t.its) (kids := t.kids) hlen)
          rw [Tr.eta] at hs
          exact ⟨rfl, rfl, rfl, rfl, rfl, rfl, rfl, rfl, rfl, hs.out⟩
      rintro σ w ⟨g130, g19, g0, g1, g4, g5, g6, g9, g10, hs⟩
      obtain ⟨σ, rfl⟩ := rebase g130
      obtain ⟨σ, rfl⟩ := rebase (σ := σ) g19
      obtain ⟨σ, rfl⟩ := rebase (σ := σ) g0
      obtain ⟨σ, rfl⟩ := rebase (σ := σ) g1
      obtain ⟨σ, rfl⟩ := rebase (σ := σ) g4
      obtain ⟨σ, rfl⟩ := rebase (σ := σ) g5
      obtain ⟨σ, rfl⟩ := rebase (σ := σ) g6
      obtain ⟨σ, rfl⟩ := rebase (σ := σ) g9
      obtain ⟨σ, rfl⟩ := rebase (σ := σ) g10
      clear g130 g19 g0 g1 g4 g5 g6 g9 g10
      refine WP_if rfl (fun hif7 => ?_) (fun hif7 => ?_)
      · refine WP_seq ?_
        -- R18
        refine WP_seqr [⟨0, 0, []⟩, ⟨1, 0, []⟩, ⟨2, 0, []⟩] (by kernel_rfl) ?_
        refine ns_move rfl rfl ?_
        refine ns_asg rfl rfl ?_
        refine ns_asg rfl rfl ?_
        refine ns_done ?_
        refine WP_ret ?_
        have hlt : ltS sp x = false := by simpa using hif7
        have q2 := (ItA.go hD3 (ItA.one_stop (st := st) (acc := acc3) (most := most) hlt)).stop (b := rst h t (i + 1)) (by simpa using hSD)
        have e2 : dn ++ kidL h t i ++ [x] ++ rst h t (i + 1) = flat h t := by rw [eD]; simp
        rw [e2] at q2
        exact ⟨_, res2 _ _, St.mk_ex (true, false, acc3) (St.mk_pu ⟨rfl, q2⟩ hs.out)⟩
      refine WP_skip ?_
      have hlt : ltS sp x = true := by simpa using hif7
      have hD3l := ItA_len hD3
      simp only [List.length_append] at hD3l
      refine WP_seq ?_
      obtain ⟨bs, hlen, hs⟩ := St.tree (hs.foc (Tp c h t b))
      obtain ⟨⟨v1, v2⟩, hs⟩ := hs.ex
      simp only [mul_assoc'] at hs
      obtain ⟨a1, c1, rfl, hc1, hcm1⟩ := (hs.foc (IArr v1 t.its)).arr_form
      obtain ⟨a2, c2, rfl, hc2, hcm2⟩ := (hs.foc (PArr v2 bs)).arr_form
      obtain ⟨_, hz, _⟩ | ⟨g, cap, cur, hv, hc, hcm, hsz, htk, hs⟩ := (hs.foc (IArr (.slice a1 t.its.length c1) (t.its))).arr
      · omega
      cases hv
      -- R19
      refine WP_seqr [⟨0, 0, []⟩, ⟨1, 0, []⟩, ⟨2, 0, []⟩, ⟨3, 0, []⟩, ⟨4, 1, []⟩, ⟨5, 0, []⟩, ⟨6, 0, []⟩, ⟨7, 1, []⟩, ⟨8, 2, []⟩, ⟨9, 0, []⟩] (by kernel_rfl) ?_
      refine ns_move rfl rfl ?_
      refine ns_move rfl rfl ?_
      refine ns_nil rfl rfl rfl ?_
      refine ns_fld fo_103_0 rfl rfl rfl ?_
      refine ns_ldB pl_100 hs rfl rfl rfl (by rfl) ?_
      refine ns_move rfl rfl ?_
      refine ns_idx i sl_100 rfl rfl rfl rfl rfl hi ?_
      refine ns_ldA [.int .i64 x.key, .int .i64 x.val] ag_45 rfl rfl rfl rfl (by decide) (it_cells hs htk _ hx) ?_
      refine ns_call (f58_ok vb x acc3 most (by omega)) ck_58 (hs.foc (VisP vb acc3 most)) rfl rfl rfl rfl ?_
      intro v140 w hs
      replace hs := hs.pu
      obtain ⟨rfl, hs⟩ := hs
      refine ns_not rfl rfl rfl ?_
      refine ns_done ?_
      have hs := (hs.foc (pts g (.cells cur 45 (0, 0)))).mk_arr' hc hcm hsz htk
      have hs := hs.fold (node_fold c b (.slice (some ⟨g, 0, none⟩) t.its.length c1) (.slice a2 bs.length c2) t.its bs)
      have hs := hs.fold (tree_fold (c := c) (h := h) (b := b) (its := t.its) (kids := t.kids) hlen)
      rw [Tr.eta] at hs
      have hone := ItA.one (most := most) (acc := acc3) hxge hlt
      have e2 : dn ++ kidL h t i ++ [x] ++ rst h t (i + 1) = flat h t := by rw [eD]; simp
      refine WP_if rfl (fun hif8 => ?_) (fun hif8 => ?_)
      · refine WP_seq ?_
        -- R20
        refine WP_seqr [⟨0, 0, []⟩, ⟨1, 0, []⟩, ⟨2, 0, []⟩] (by kernel_rfl) ?_
        refine ns_move rfl rfl ?_
        refine ns_asg rfl rfl ?_
        refine ns_asg rfl rfl ?_
        refine ns_done ?_
        refine WP_ret ?_
        have hok : decide (((acc3 ++ [x]).length : Int) < most) = false := by simpa using hif8
        rw [hok] at hone
        have q2 := (ItA.go hD3 hone).stop (b := rst h t (i + 1)) (by rw [e2]; exact hS)
        rw [e2] at q2
        exact ⟨_, res2 _ _, St.mk_ex (true, false, acc3 ++ [x]) (St.mk_pu ⟨rfl, q2⟩ hs.out)⟩
      refine WP_skip ?_
      have hok : decide (((acc3 ++ [x]).length : Int) < most) = true := by simpa using hif8
      rw [hok] at hone
      -- R9
      refine WP_seqr [⟨0, 0, []⟩, ⟨1, 0, []⟩, ⟨2, 0, []⟩] (by kernel_rfl) ?_
      refine ns_move rfl rfl ?_
      refine ns_add rfl rfl rfl rfl (by omega) (by omega) ?_
      refine ns_asg rfl rfl ?_
      refine ns_done ?_
      exact ⟨t.its.length - (i + 1), by omega, i + 1, true, acc3 ++ [x], dn ++ kidL h t i ++ [x], rfl, by omega, by omega, e2.symm, ItA.go hD3 hone, congrArg (Value.int .i64) (by omega : ((i : Int) + 1) = ((i + 1 : Nat) : Int)), rfl, rfl, rfl, rfl, rfl, rfl, rfl, hs.out⟩
      
    rintro σ w ⟨hhit, acc2, dn, eD, hD, g0, g1, g4, g5, g6, g9, g10, hs⟩
    obtain ⟨σ, rfl⟩ := rebase g0
    obtain ⟨σ, rfl⟩ := rebase (σ := σ) g1
    obtain ⟨σ, rfl⟩ := rebase (σ := σ) g4
    obtain ⟨σ, rfl⟩ := rebase (σ := σ) g5
    obtain ⟨σ, rfl⟩ := rebase (σ := σ) g6
    obtain ⟨σ, rfl⟩ := rebase (σ := σ) g9
    obtain ⟨σ, rfl⟩ := rebase (σ := σ) g10
    clear g0 g1 g4 g5 g6 g9 g10
    rw [rst_last hO] at eD
    have hlenD := congrArg List.length eD
    simp only [List.length_append] at hlenD
    have hDl := ItA_len hD
    refine WP_seq ?_
    have hs0 := hs
    obtain ⟨bs, hlen, hs⟩ := St.tree (hs.foc (Tp c h t b))
    obtain ⟨⟨v1, v2⟩, hs⟩ := hs.ex
    simp only [mul_assoc'] at hs
    obtain ⟨a1, c1, rfl, hc1, hcm1⟩ := (hs.foc (IArr v1 t.its)).arr_form
    obtain ⟨a2, c2, rfl, hc2, hcm2⟩ := (hs.foc (PArr v2 bs)).arr_form
    -- R21
    refine WP_seqr [⟨0, 0, []⟩, ⟨1, 0, []⟩, ⟨2, 0, []⟩, ⟨3, 1, []⟩, ⟨4, 0, []⟩, ⟨5, 0, []⟩] (by kernel_rfl) ?_
    refine ns_move rfl rfl ?_
    refine ns_nil rfl rfl rfl ?_
    refine ns_fld fo_103_1 rfl rfl rfl ?_
    refine ns_ldB pl_101 hs rfl rfl rfl (by rfl) ?_
    refine ns_len sl_101 rfl rfl rfl ?_
    refine ns_cmp _ rfl rfl rfl rfl rfl ?_
    refine ns_done ?_
    have hs := hs0
    refine WP_if rfl (fun hif9 => ?_) (fun hif9 => ?_)
    · refine WP_seq ?_
      have hb0 : t.kids.length ≠ 0 := by have := of_decide_eq_true hif9; omega
      have hkl := kids_len hO hb0
      obtain ⟨k, hk⟩ : ∃ k, t.kids[t.its.length]? = some k := ⟨t.kids[t.its.length]'(by omega), List.getElem?_eq_getElem (by omega)⟩
      obtain ⟨h, rfl⟩ : ∃ h', h = h' + 1 := by
        cases h with
        | zero => rw [show t.kids = [] from hO] at hk; simp at hk
        | succ h => exact ⟨h, rfl⟩
      have hko := kid_ok hO hk
      have hkS : Srt (flat h k) := kid_srt hO hS hk
      have hkL := kidL_at hO hk
      obtain ⟨bs, hlen, hs⟩ := St.tree (hs.foc (Tp c (h + 1) t b))
      obtain ⟨xb, hxb⟩ : ∃ xb, bs[t.its.length]? = some xb := ⟨bs[t.its.length]'(by omega), List.getElem?_eq_getElem (by omega)⟩
      rw [Ks_at hk hxb] at hs
      simp only [mul_assoc'] at hs
      obtain ⟨⟨v1, v2⟩, hs⟩ := (hs.foc (NodeP c b t.its bs)).ex
      simp only [mul_assoc'] at hs
      obtain ⟨_, hz, _⟩ | ⟨g, cap, cur, hv, hc, hcm, hsz, htk, hs⟩ := (hs.foc (PArr (v2) (bs))).arr
      · omega
      cases hv
      -- R22
      refine WP_net hs mix [0, 1, 3, 7, 0, 16, 48, 112, 240, 496, 1023, 2047, 0, 0, 0, 0, 0, 0, 262143, 524287, 1048575, 1048575, 2097151, 8388607] [⟨0, 0, []⟩, ⟨1, 0, []⟩, ⟨2, 0, []⟩, ⟨3, 1, []⟩, ⟨4, 0, []⟩, ⟨5, 0, []⟩, ⟨6, 0, []⟩, ⟨7, 1, []⟩, ⟨8, 0, []⟩, ⟨9, 0, []⟩, ⟨10, 0, []⟩, ⟨11, 1, []⟩, ⟨12, 0, []⟩, ⟨13, 1, []⟩, ⟨14, 1, []⟩, ⟨15, 0, []⟩, ⟨16, 0, []⟩, ⟨17, 0, []⟩, ⟨18, 2, []⟩, ⟨19, 0, []⟩, ⟨20, 0, []⟩, ⟨21, 0, []⟩, ⟨22, 0, []⟩, ⟨23, 0, []⟩] (by kernel_rfl) ?_
      intro w hs
      refine ns_move rfl rfl ?_
      refine ns_nil rfl rfl rfl ?_
      refine ns_fld fo_103_1 rfl rfl rfl ?_
      refine ns_ldB pl_101 hs rfl rfl rfl (by rfl) ?_
      refine ns_move rfl rfl ?_
      refine ns_nil rfl rfl rfl ?_
      refine ns_fld fo_103_1 rfl rfl rfl ?_
      refine ns_ldB pl_101 hs rfl rfl rfl (by rfl) ?_
      refine ns_len sl_101 rfl rfl rfl ?_
      refine ns_sub rfl rfl rfl rfl (by omega) (by omega) ?_
      refine ns_idx t.its.length sl_101 rfl rfl rfl rfl (by omega) (by omega) ?_
      refine ns_ld pl_85 rfl rfl rfl (ptr_cell hs htk _ hxb) ?_
      refine ns_move rfl rfl ?_
      refine ns_ldAB (ovC st).toList ag_116 hs rfl rfl rfl (by rfl) (by rfl) (by decide) ?_
      refine ns_ldAB (ovC sp).toList ag_116 hs rfl rfl rfl (by rfl) (by rfl) (by decide) ?_
      refine ns_move rfl rfl ?_
      refine ns_move rfl rfl ?_
      refine ns_move rfl rfl ?_
      refine ns_call (hkid h k xb hhit acc2 rfl hko.2.2 hko.2.1 hkS (by rw [← hkL]; omega)) ck_76 (hs.foc (Tq c (h + 1) k xb * (Ctx c fl * VisP vb acc2 most))) rfl rfl rfl rfl ?_
      intro v168 w hs
      unfold ItP at hs
      replace hs := hs.ex
      obtain ⟨⟨hit3, ok3, acc3⟩, hs⟩ := hs
      replace hs := hs.pu
      obtain ⟨⟨rfl, q1⟩, hs⟩ := hs
      simp only [mul_assoc'] at hs
      rw [← hkL] at q1
      refine ns_move rfl rfl ?_
      refine ns_ext rfl rfl rfl rfl ?_
      refine ns_ext rfl rfl rfl rfl ?_
      refine ns_asg rfl rfl ?_
      refine ns_asg rfl rfl ?_
      refine ns_done ?_
      have hs := (hs.foc (pts g (.cells cur 85 (0, 0)))).mk_arr' hc hcm hsz htk
      have hs := hs.fold (node_fold c b v1 (.slice (some ⟨g, 0, none⟩) bs.length cap) t.its bs)
      rw [show Tp c h k xb = Tq c (h + 1) k xb from rfl] at hs
      have hs := hs.fold (Ent.of_eq (Ks_at (c := c) (h := h + 1) hk hxb).symm)
      have hs := hs.fold (tree_fold (c := c) (h := h + 1) (b := b) (its := t.its) (kids := t.kids) hlen)
      rw [Tr.eta] at hs
      refine WP_seq ?_
      -- R23
      refine WP_seqr [⟨0, 0, []⟩, ⟨1, 0, []⟩] (by kernel_rfl) ?_
      refine ns_move rfl rfl ?_
      refine ns_not rfl rfl rfl ?_
      refine ns_done ?_
      refine WP_if rfl (fun hif10 => ?_) (fun hif10 => ?_)
      · refine WP_seq ?_
        -- R24
        refine WP_seqr [⟨0, 0, []⟩, ⟨1, 0, []⟩, ⟨2, 0, []⟩] (by kernel_rfl) ?_
        refine ns_move rfl rfl ?_
        refine ns_asg rfl rfl ?_
        refine ns_asg rfl rfl ?_
        refine ns_done ?_
        refine WP_ret ?_
        have hok : ok3 = false := by simpa using hif10
        subst hok
        have q2 := ItA.go hD q1
        rw [← eD] at q2
        exact ⟨_, res2 _ _, St.mk_ex (hit3, false, acc3) (St.mk_pu ⟨rfl, q2⟩ hs.out)⟩
      refine WP_skip ?_
      have hok : ok3 = true := by simpa using hif10
      subst hok
      have q2 := ItA.go hD q1
      rw [← eD] at q2
      exact ⟨hit3, acc3, rfl, q2, hs.out⟩
    refine WP_skip ?_
    have hb0 : t.kids.length = 0 := by have := of_decide_eq_false hif9; omega
    obtain rfl := kids_zero hO hb0
    rw [show kidL 0 t t.its.length = [] from rfl, List.append_nil] at eD
    rw [← eD] at hD
    exact ⟨hhit, acc2, rfl, hD, hs⟩
  rintro σ w ⟨hit2, acc2, g5, hD, hs⟩
  obtain ⟨σ, rfl⟩ := rebase g5
  refine WP_seq ?_
  -- R49
  refine WP_seqr [⟨0, 0, []⟩, ⟨1, 0, []⟩, ⟨2, 0, []⟩] (by kernel_rfl) ?_
  refine ns_move rfl rfl ?_
  refine ns_asg rfl rfl ?_
  refine ns_asg rfl rfl ?_
  refine ns_done ?_
  refine WP_ret ?_
  exact ⟨_, res2 _ _, St.mk_ex (hit2, true, acc2) (St.mk_pu ⟨rfl, hD⟩ hs.out)⟩
theorem f76a_ok (c fl mn mx vb : Nat) (most : Int) (st sp : Option It) (inc : Bool) (hm : mx < 10000) (hinc : st ≠ none → inc = true) : ∀ (h b : Nat) (t : Tr) (hit : Bool) (acc : List It), Ok mn mx h t → t.its.length ≤ mx → Srt (flat h t) → acc.length + (flat h t).length < 1000000 →
    Tri Try.prog 76 #[ptr b, .int .i64 1, ov st, ov sp, .bool inc, .bool hit, seeV vb] (Tp c h t b * (Ctx c fl * VisP vb acc most)) (ItP c fl vb h b t most st sp acc) := by
  intro h
  induction h with
  | zero => exact fun b t hit acc hO hl hS ha => f76_asc c fl mn mx vb 0 b t most st sp inc hit acc hm hO hl hS hinc ha fun h' k xb hit' acc' e => by cases e
  | succ h ih => exact fun b t hit acc hO hl hS ha => f76_asc c fl mn mx vb (h + 1) b t most st sp inc hit acc hm hO hl hS hinc ha fun h' k xb hit' acc' e hO' hl' hS' ha' => by cases e; exact ih xb k hit' acc' hO' hl' hS' ha'
end Go.Proofs.Ytnnembkganlbpaa
/- The walk within bounds, descending. -/
namespace Go.Proofs.Ytnnembkganlbpaa
open Go Go.Sl Go.Net Go.Wk Go.Bt Go.RowKit

/-- what a descending walk over the tree leaves -/
def ItQ (c fl vb h b : Nat) (t : Tr) (most : Int) (st sp : Option It) (acc : List It) (v : Value) : HProp := ex fun r : Bool × Bool × List It =>
  pu (v = .tuple #[.bool r.1, .bool r.2.1] ∧ ItD most st sp (flat h t).reverse acc r.2.2 r.2.1) * (Tp c h t b * (Ctx c fl * VisP vb r.2.2 most))
theorem ItD_len {most : Int} {st sp : Option It} {l acc acc2 : List It} {ok : Bool} (h : ItD most st sp l acc acc2 ok) : acc2.length ≤ acc.length + l.length := by
  rw [h.1]
  have h1 := feed_len most (selD st sp l) acc
  have h2 : (selD st sp l).length ≤ l.length := List.length_filter_le ..
  omega
theorem bel_of {st : Option It} {x y : It} (h : leS st x = true) (hy : y.key < x.key) : belS st y := by
  cases st with
  | none => trivial
  | some s => simp [leS] at h; show y.key < s.key; omega
set_option maxHeartbeats 6400000 in
theorem f76_desc (c fl mn mx vb h b : Nat) (t : Tr) (most : Int) (st sp : Option It) (inc hit : Bool) (acc : List It) (hm : mx < 10000) (hO : Ok mn mx h t) (hl : t.its.length ≤ mx) (hS : Srt (flat h t)) (hinc : st ≠ none → inc = true) (hal : acc.length + (flat h t).length < 1000000) (hhp : hit = true → ∀ y ∈ flat h t, belS st y)
    (hkid : ∀ (h' : Nat) (k : Tr) (xb : Nat) (hit' : Bool) (acc' : List It), h = h' + 1 → Ok mn mx h' k → k.its.length ≤ mx → Srt (flat h' k) → acc'.length + (flat h' k).length < 1000000 → (hit' = true → ∀ y ∈ flat h' k, belS st y) → Tri Try.prog 76 #[ptr xb, .int .i64 (-1), ov st, ov sp, .bool inc, .bool hit', seeV vb] (Tp c h' k xb * (Ctx c fl * VisP vb acc' most)) (ItQ c fl vb h' xb k most st sp acc')) :
    Tri Try.prog 76 #[ptr b, .int .i64 (-1), ov st, ov sp, .bool inc, .bool hit, seeV vb] (Tp c h t b * (Ctx c fl * VisP vb acc most)) (ItQ c fl vb h b t most st sp acc) := by
  have hSi := srt_its hO hS
  intro w0 F w hs
  simp only [mul_assoc'] at hs
  refine calls_WP 343 #[.tmp 14, .tmp 15] Try.func76 rfl Try.ntmps76 rfl (Nat.le_of_ble_eq_true rfl) ?_
  refine WP_seq ?_
  -- R0
  refine WP_seqr [⟨0, 2, []⟩, ⟨1, 2, []⟩, ⟨2, 0, []⟩, ⟨3, 0, []⟩] (by kernel_rfl) ?_
  refine ns_box (ovC st) hs rfl rfl rfl rfl ?_
  intro b9 w hs
  refine ns_box (ovC sp) hs rfl rfl rfl rfl ?_
  intro b10 w hs
  refine ns_asg rfl rfl ?_
  refine ns_asg rfl rfl ?_
  refine ns_done ?_
  have hs := (hs.foc (pts b9 (.cells (ovC st) 116 (0, 0)) * (pts b10 (.cells (ovC sp) 116 (0, 0)) * (Tp c h t b * (Ctx c fl * (VisP vb acc most * F)))))).fst
  refine WP_seq ?_
  -- R1
  refine WP_seqr [⟨0, 0, []⟩, ⟨1, 0, []⟩] (by kernel_rfl) ?_
  refine ns_asg rfl rfl ?_
  refine ns_asg rfl rfl ?_
  refine ns_done ?_
  refine WP_seq ?_
  -- R2
  refine WP_seqr [⟨0, 0, []⟩] (by kernel_rfl) ?_
  refine ns_asg rfl rfl ?_
  refine ns_done ?_
  refine WP_seq_cut (fun σ w => ∃ (hit2 : Bool) (acc2 : List It), σ 5 = .bool hit2 ∧ ItD most st sp (flat h t).reverse acc acc2 true ∧ St w0 (pts b9 (.cells (ovC st) 116 (0, 0)) * (pts b10 (.cells (ovC sp) 116 (0, 0)) * (Tp c h t b * (Ctx c fl * (VisP vb acc2 most * F))))) w) ?_ ?_ -- S1
  · refine WP_seq ?_
    -- R3
    refine WP_seqr [⟨0, 0, []⟩] (by kernel_rfl) ?_
    refine ns_move rfl rfl ?_
    refine ns_done ?_
    refine WP_block ?_
    refine WP_seq ?_
    -- R4
    refine WP_seqr [⟨0, 0, []⟩, ⟨1, 0, []⟩] (by kernel_rfl) ?_
    refine ns_cmp false rfl rfl rfl rfl rfl ?_
    refine ns_asg rfl rfl ?_
    refine ns_done ?_
    refine WP_false rfl ?_ -- if1
    refine WP_seq ?_
    -- R25
    refine WP_seqr [⟨0, 0, []⟩, ⟨1, 0, []⟩] (by kernel_rfl) ?_
    refine ns_cmp true rfl rfl rfl rfl rfl ?_
    refine ns_asg rfl rfl ?_
    refine ns_done ?_
    refine WP_true rfl ?_ -- if2
    refine WP_seq_cut (fun σ w => ∃ j0 : Nat, j0 ≤ t.its.length ∧ (∃ up, flat h t = pfx h t j0 ++ kidL h t j0 ++ up ∧ ∀ a ∈ up, leS st a = false) ∧ (∀ i y, i < j0 → t.its[i]? = some y → leS st y = true) ∧ σ 18 = .int .i64 ((j0 : Int) - 1) ∧ σ 0 = ptr b ∧ σ 1 = .int .i64 (-1) ∧ σ 4 = .bool inc ∧ σ 5 = .bool hit ∧ σ 6 = seeV vb ∧ σ 9 = .pointer (some ⟨b9, 0, none⟩) ∧ σ 10 = .pointer (some ⟨b10, 0, none⟩) ∧ St w0 (pts b9 (.cells (ovC st) 116 (0, 0)) * (pts b10 (.cells (ovC sp) 116 (0, 0)) * (Tp c h t b * (Ctx c fl * (VisP vb acc most * F))))) w) ?_ ?_ -- S2
    · refine WP_seq ?_
      -- R26
      refine WP_seqr [⟨0, 0, []⟩, ⟨1, 1, []⟩] (by kernel_rfl) ?_
      refine ns_fld fo_116_1 rfl rfl rfl ?_
      refine ns_ldB pl_4 hs rfl rfl rfl (by rfl) ?_
      refine ns_done ?_
      refine WP_if rfl (fun hif3 => ?_) (fun hif3 => ?_)
      · refine WP_seq ?_
        obtain ⟨s, rfl⟩ : ∃ s, st = some s := by
          cases st with
          | none => cases hif3
          | some s => exact ⟨s, rfl⟩
        obtain ⟨bs, hlen, hs⟩ := St.tree (hs.foc (Tp c h t b))
        obtain ⟨⟨v1, v2⟩, hs⟩ := hs.ex
        simp only [mul_assoc'] at hs
        obtain ⟨a1, c1, rfl, hc1, hcm1⟩ := (hs.foc (IArr v1 t.its)).arr_form
        obtain ⟨a2, c2, rfl, hc2, hcm2⟩ := (hs.foc (PArr v2 bs)).arr_form
        unfold Ctx CowP at hs
        simp only [mul_assoc'] at hs
        -- R27
        refine WP_net hs mix [0, 1, 3, 7, 0, 16, 0, 64, 192, 448, 960, 1984, 4032, 8191, 16383, 32767, 32767, 65535, 262143] [⟨0, 0, []⟩, ⟨1, 0, []⟩, ⟨2, 0, []⟩, ⟨3, 1, []⟩, ⟨4, 0, []⟩, ⟨5, 1, []⟩, ⟨6, 0, []⟩, ⟨7, 0, []⟩, ⟨8, 0, []⟩, ⟨9, 1, []⟩, ⟨10, 0, []⟩, ⟨11, 0, []⟩, ⟨12, 1, []⟩, ⟨13, 2, []⟩, ⟨14, 0, []⟩, ⟨15, 0, []⟩, ⟨16, 0, []⟩, ⟨17, 0, []⟩, ⟨18, 0, []⟩] (by kernel_rfl) ?_
        intro w hs
        refine ns_move rfl rfl ?_
        refine ns_nil rfl rfl rfl ?_
        refine ns_fld fo_103_0 rfl rfl rfl ?_
        refine ns_ldB pl_100 hs rfl rfl rfl (by rfl) ?_
        refine ns_fld fo_116_0 rfl rfl rfl ?_
        refine ns_ldAB [.int .i64 s.key, .int .i64 s.val] ag_45 hs rfl rfl rfl (by rfl) (by rfl) (by decide) ?_
        refine ns_move rfl rfl ?_
        refine ns_nil rfl rfl rfl ?_
        refine ns_fld fo_103_2 rfl rfl rfl ?_
        refine ns_ldB pl_82 hs rfl rfl rfl (by rfl) ?_
        refine ns_nil rfl rfl rfl ?_
        refine ns_fld fo_84_1 rfl rfl rfl ?_
        refine ns_ldB pl_69 hs rfl rfl rfl (by rfl) ?_
        refine ns_call (f83_ok (.slice a1 t.its.length c1) t.its s hSi (by omega)) ck_83 (hs.foc (IArr (.slice a1 t.its.length c1) t.its)) rfl rfl rfl rfl ?_
        intro v192 w hs
        replace hs := hs.pu
        obtain ⟨rfl, hs⟩ := hs
        refine ns_move rfl rfl ?_
        refine ns_ext rfl rfl rfl rfl ?_
        refine ns_ext rfl rfl rfl rfl ?_
        refine ns_asg rfl rfl ?_
        refine ns_asg rfl rfl ?_
        refine ns_done ?_
        have hs := hs.fold (ctx_fold c fl)
        have hs := hs.fold (node_fold c b (.slice a1 t.its.length c1) (.slice a2 bs.length c2) t.its bs)
        have hs := hs.fold (tree_fold (c := c) (h := h) (b := b) (its := t.its) (kids := t.kids) hlen)
        rw [Tr.eta] at hs
        have hub := ub_eq hSi s.key
        have hule := ub_le t.its s.key
        have hlle := lb_le t.its s.key
        obtain ⟨up, eU, hU⟩ := pfx_up hO hS (ub t.its s.key) hule
        have hup : ∀ a ∈ up, leS (some s) a = false := fun a ha => by
          have := hU s.key (fun i y hi hy => by have := mt (ub_lt hSi hy (k := s.key)).1 (by omega); omega) a ha
          simp [leS]; omega
        have hlo : ∀ i y, i < ub t.its s.key → t.its[i]? = some y → leS (some s) y = true := fun i y hi hy => by
          have := (ub_lt hSi hy (k := s.key)).2 hi
          simp [leS]; omega
        refine WP_seq ?_
        -- R28
        refine WP_seqr [⟨0, 0, []⟩, ⟨1, 0, []⟩] (by kernel_rfl) ?_
        refine ns_move rfl rfl ?_
        refine ns_not rfl rfl rfl ?_
        refine ns_done ?_
        refine WP_if rfl (fun hif4 => ?_) (fun hif4 => ?_)
        · -- R29
          refine WP_seqr [⟨0, 0, []⟩, ⟨1, 0, []⟩, ⟨2, 0, []⟩] (by kernel_rfl) ?_
          refine ns_move rfl rfl ?_
          refine ns_sub rfl rfl rfl rfl (by omega) (by omega) ?_
          refine ns_asg rfl rfl ?_
          refine ns_done ?_
          have hf : fnd t.its s.key = false := by simpa using hif4
          rw [hf] at hub
          have hub : ub t.its s.key = lb t.its s.key := hub
          exact ⟨ub t.its s.key, hule, ⟨up, eU, hup⟩, hlo, congrArg (fun n : Nat => Value.int .i64 ((n : Int) - 1)) hub.symm, rfl, rfl, rfl, rfl, rfl, rfl, rfl, hs.out⟩
        refine WP_skip ?_
        have hf : fnd t.its s.key = true := by simpa using hif4
        rw [hf] at hub
        have hub : ub t.its s.key = lb t.its s.key + 1 := hub
        refine ⟨ub t.its s.key, hule, ⟨up, eU, hup⟩, hlo, congrArg (Value.int .i64) (by omega : ((lb t.its s.key : Nat) : Int) = ((ub t.its s.key : Nat) : Int) - 1), rfl, rfl, rfl, rfl, rfl, rfl, rfl, hs.out⟩
      have hs0 := hs
      obtain ⟨bs, hlen, hs⟩ := St.tree (hs.foc (Tp c h t b))
      obtain ⟨⟨v1, v2⟩, hs⟩ := hs.ex
      simp only [mul_assoc'] at hs
      obtain ⟨a1, c1, rfl, hc1, hcm1⟩ := (hs.foc (IArr v1 t.its)).arr_form
      obtain ⟨a2, c2, rfl, hc2, hcm2⟩ := (hs.foc (PArr v2 bs)).arr_form
      -- R30
      refine WP_seqr [⟨0, 0, []⟩, ⟨1, 0, []⟩, ⟨2, 0, []⟩, ⟨3, 1, []⟩, ⟨4, 0, []⟩, ⟨5, 0, []⟩, ⟨6, 0, []⟩] (by kernel_rfl) ?_
      refine ns_move rfl rfl ?_
      refine ns_nil rfl rfl rfl ?_
      refine ns_fld fo_103_0 rfl rfl rfl ?_
      refine ns_ldB pl_100 hs rfl rfl rfl (by rfl) ?_
      refine ns_len sl_100 rfl rfl rfl ?_
      refine ns_sub rfl rfl rfl rfl (by omega) (by omega) ?_
      refine ns_asg rfl rfl ?_
      refine ns_done ?_
      have hs := hs0
      have hst : st = none := by
        cases st with
        | none => rfl
        | some s => cases hif3
      subst hst
      obtain ⟨up, eU, hU⟩ := pfx_up hO hS t.its.length (Nat.le_refl _)
      have eU2 := pfx_rst hO t.its.length (Nat.le_refl _)
      rw [rst_last hO] at eU2
      exact ⟨t.its.length, Nat.le_refl _, ⟨[], by rw [List.append_nil]; exact eU2, fun a ha => by cases ha⟩, fun _ _ _ _ => rfl, rfl, rfl, rfl, rfl, rfl, rfl, rfl, rfl, hs⟩
    rintro σ w ⟨j0, hj0, ⟨up0, eU, hU⟩, hle, g18, g0, g1, g4, g5, g6, g9, g10, hs⟩
    obtain ⟨σ, rfl⟩ := rebase g18
    obtain ⟨σ, rfl⟩ := rebase (σ := σ) g0
    obtain ⟨σ, rfl⟩ := rebase (σ := σ) g1
    obtain ⟨σ, rfl⟩ := rebase (σ := σ) g4
    obtain ⟨σ, rfl⟩ := rebase (σ := σ) g5
    obtain ⟨σ, rfl⟩ := rebase (σ := σ) g6
    obtain ⟨σ, rfl⟩ := rebase (σ := σ) g9
    obtain ⟨σ, rfl⟩ := rebase (σ := σ) g10
    clear g18 g0 g1 g4 g5 g6 g9 g10
    refine WP_seq_cut (fun σ w => ∃ (hhit : Bool) (acc2 up : List It), flat h t = kidL h t 0 ++ up ∧ ItD most st sp up.reverse acc acc2 true ∧ (hhit = true → ∀ y ∈ kidL h t 0, belS st y) ∧ σ 0 = ptr b ∧ σ 1 = .int .i64 (-1) ∧ σ 4 = .bool inc ∧ σ 5 = .bool hhit ∧ σ 6 = seeV vb ∧ σ 9 = .pointer (some ⟨b9, 0, none⟩) ∧ σ 10 = .pointer (some ⟨b10, 0, none⟩) ∧ St w0 (pts b9 (.cells (ovC st) 116 (0, 0)) * (pts b10 (.cells (ovC sp) 116 (0, 0)) * (Tp c h t b * (Ctx c fl * (VisP vb acc2 most * F))))) w) ?_ ?_ -- S3
    · refine WP_seq ?_
      -- R31
      refine WP_seqr [⟨0, 0, []⟩, ⟨1, 0, []⟩] (by kernel_rfl) ?_
      refine ns_move rfl rfl ?_
      refine ns_asg rfl rfl ?_
      refine ns_done ?_
      refine WP_block ?_
      refine WP_loop (fun m σ w => ∃ (j : Nat) (hhit : Bool) (acc2 up : List It), m = j ∧ j ≤ j0 ∧ flat h t = pfx h t j ++ kidL h t j ++ up ∧ ItD most st sp up.reverse acc acc2 true ∧ (hhit = true → ∀ y ∈ pfx h t j ++ kidL h t j, belS st y) ∧ σ 20 = .int .i64 ((j : Int) - 1) ∧ σ 0 = ptr b ∧ σ 1 = .int .i64 (-1) ∧ σ 4 = .bool inc ∧ σ 5 = .bool hhit ∧ σ 6 = seeV vb ∧ σ 9 = .pointer (some ⟨b9, 0, none⟩) ∧ σ 10 = .pointer (some ⟨b10, 0, none⟩) ∧ St w0 (pts b9 (.cells (ovC st) 116 (0, 0)) * (pts b10 (.cells (ovC sp) 116 (0, 0)) * (Tp c h t b * (Ctx c fl * (VisP vb acc2 most * F))))) w) j0 ?_ ?_ -- L1
      · exact ⟨j0, hit, acc, up0, rfl, Nat.le_refl _, eU, ItD.above (fun y hy => hU y (List.mem_reverse.1 hy)), (fun e y hy => hhp e y (by rw [eU]; exact List.mem_append_left _ hy)), rfl, rfl, rfl, rfl, rfl, rfl, rfl, rfl, hs⟩
      rintro j σ w ⟨_, hhit, acc2, up, rfl, hj1, eD, hD, hH, g20, g0, g1, g4, g5, g6, g9, g10, hs⟩
      obtain ⟨σ, rfl⟩ := rebase g20
      obtain ⟨σ, rfl⟩ := rebase (σ := σ) g0
      obtain ⟨σ, rfl⟩ := rebase (σ := σ) g1
      obtain ⟨σ, rfl⟩ := rebase (σ := σ) g4
      obtain ⟨σ, rfl⟩ := rebase (σ := σ) g5
      obtain ⟨σ, rfl⟩ := rebase (σ := σ) g6
      obtain ⟨σ, rfl⟩ := rebase (σ := σ) g9
      obtain ⟨σ, rfl⟩ := rebase (σ := σ) g10
      clear g20 g0 g1 g4 g5 g6 g9 g10
      refine WP_seq ?_ -- S4
      refine WP_seq ?_
      -- R32
      refine WP_seqr [⟨0, 0, []⟩, ⟨1, 0, []⟩] (by kernel_rfl) ?_
      refine ns_move rfl rfl ?_
      refine ns_cmp _ rfl rfl rfl rfl rfl ?_
      refine ns_done ?_
      refine WP_if' rfl (fun hif5 => ?_) (fun hif5 => ?_)
      · refine WP_exit ?_
        have hj : j = 0 := by have := of_decide_eq_false hif5; omega
        subst hj
        exact ⟨hhit, acc2, up, eD, hD, hH, rfl, rfl, rfl, rfl, rfl, rfl, rfl, hs⟩
      refine WP_skip ?_
      obtain ⟨i, rfl⟩ : ∃ i, j = i + 1 := ⟨j - 1, by have := of_decide_eq_true hif5; omega⟩
      have hi : i < t.its.length := by omega
      obtain ⟨x, hx⟩ : ∃ x, t.its[i]? = some x := ⟨t.its[i]'hi, List.getElem?_eq_getElem hi⟩
      have hp := pfx_step (h := h) hx
      have hlenD := congrArg List.length eD
      rw [hp] at hlenD
      simp only [List.length_append, List.length_cons, List.length_nil] at hlenD
      have hxle := hle i x (by omega) hx
      have eR : up.reverse ++ (kidL h t (i + 1)).reverse ++ [x] ++ (pfx h t i ++ kidL h t i).reverse = (flat h t).reverse := by rw [eD, hp]; simp
      have eR2 : up.reverse ++ (kidL h t (i + 1)).reverse ++ ([x] ++ (pfx h t i ++ kidL h t i).reverse) = (flat h t).reverse := by rw [← eR]; simp
      have hDs : Dsc (flat h t).reverse := by unfold Dsc; rw [List.reverse_reverse]; exact hS
      have hbx : ∀ y ∈ pfx h t i ++ kidL h t i, y.key < x.key := by
        have h1 := hS
        rw [eD, hp, List.append_assoc, List.append_assoc] at h1
        exact fun y hy => (srt_append.1 h1).2.2 y hy x (by simp)
      have hDl := ItD_len hD
      simp only [List.length_reverse] at hDl
      refine WP_seq ?_ -- S5
      refine WP_block ?_
      refine WP_seq_cut (fun σ w => σ 20 = .int .i64 (((i + 1 : Nat) : Int) - 1) ∧ σ 0 = ptr b ∧ σ 1 = .int .i64 (-1) ∧ σ 4 = .bool inc ∧ σ 5 = .bool hhit ∧ σ 6 = seeV vb ∧ σ 9 = .pointer (some ⟨b9, 0, none⟩) ∧ σ 10 = .pointer (some ⟨b10, 0, none⟩) ∧ St w0 (pts b9 (.cells (ovC st) 116 (0, 0)) * (pts b10 (.cells (ovC sp) 116 (0, 0)) * (Tp c h t b * (Ctx c fl * (VisP vb acc2 most * F))))) w) ?_ ?_ -- S6
      · refine WP_seq_cut (fun σ w => σ 231 = .bool (!ltS st x) ∧ σ 20 = .int .i64 (((i + 1 : Nat) : Int) - 1) ∧ σ 0 = ptr b ∧ σ 1 = .int .i64 (-1) ∧ σ 4 = .bool inc ∧ σ 5 = .bool hhit ∧ σ 6 = seeV vb ∧ σ 9 = .pointer (some ⟨b9, 0, none⟩) ∧ σ 10 = .pointer (some ⟨b10, 0, none⟩) ∧ St w0 (pts b9 (.cells (ovC st) 116 (0, 0)) * (pts b10 (.cells (ovC sp) 116 (0, 0)) * (Tp c h t b * (Ctx c fl * (VisP vb acc2 most * F))))) w) ?_ ?_ -- R34.cut
        · rcases (show st = none ∨ ∃ s, st = some s from by
            cases st with
            | none => exact .inl rfl
            | some s => exact .inr ⟨s, rfl⟩) with rfl | ⟨s, rfl⟩
          · -- R34
            refine WP_net hs mix [0, 1, 3, 7, 15, 31, 63, 127, 255, 511, 7, 1031, 3079, 7175, 7, 31751, 64519, 7, 131079, 524287, 1048575, 2097151] [⟨0, 0, []⟩, ⟨1, 1, []⟩, ⟨2, 0, []⟩, ⟨3, 0, []⟩, ⟨4, 0, []⟩, ⟨5, 0, []⟩, ⟨6, 0, []⟩, ⟨7, 0, []⟩, ⟨8, 0, []⟩, ⟨9, 0, []⟩, ⟨10, 0, []⟩, ⟨11, 0, []⟩, ⟨12, 0, []⟩, ⟨13, 0, []⟩, ⟨14, 0, []⟩, ⟨15, 0, []⟩, ⟨16, 0, []⟩, ⟨17, 0, []⟩, ⟨18, 0, []⟩, ⟨19, 0, []⟩, ⟨20, 0, []⟩, ⟨21, 0, []⟩] (by kernel_rfl) ?_
            intro w hs
            refine ns_fld fo_116_1 rfl rfl rfl ?_
            refine ns_ldB pl_4 hs rfl rfl rfl (by rfl) ?_
            refine ns_move rfl rfl ?_
            refine ns_no rfl rfl ?_
            refine ns_no rfl rfl ?_
            refine ns_no rfl rfl ?_
            refine ns_no rfl rfl ?_
            refine ns_no rfl rfl ?_
            refine ns_no rfl rfl ?_
            refine ns_no rfl rfl ?_
            refine ns_no rfl rfl ?_
            refine ns_no rfl rfl ?_
            refine ns_no rfl rfl ?_
            refine ns_no rfl rfl ?_
            refine ns_no rfl rfl ?_
            refine ns_no rfl rfl ?_
            refine ns_no rfl rfl ?_
            refine ns_no rfl rfl ?_
            refine ns_no rfl rfl ?_
            refine ns_no rfl rfl ?_
            refine ns_no rfl rfl ?_
            refine ns_pick rfl rfl rfl ?_
            refine ns_done ?_
            exact ⟨rfl, rfl, rfl, rfl, rfl, rfl, rfl, rfl, rfl, hs⟩
          · obtain ⟨bs, hlen, hs⟩ := St.tree (hs.foc (Tp c h t b))
            obtain ⟨⟨v1, v2⟩, hs⟩ := hs.ex
            simp only [mul_assoc'] at hs
            obtain ⟨a1, c1, rfl, hc1, hcm1⟩ := (hs.foc (IArr v1 t.its)).arr_form
            obtain ⟨a2, c2, rfl, hc2, hcm2⟩ := (hs.foc (PArr v2 bs)).arr_form
            unfold Ctx CowP at hs
            simp only [mul_assoc'] at hs
            obtain ⟨_, hz, _⟩ | ⟨g, cap, cur, hv, hc, hcm, hsz, htk, hs⟩ := (hs.foc (IArr (.slice a1 t.its.length c1) (t.its))).arr
            · omega
            cases hv
            -- R34
            refine WP_net hs mix [0, 1, 3, 7, 15, 31, 63, 127, 255, 511, 7, 1031, 3079, 7175, 7, 31751, 64519, 7, 131079, 524287, 1048575, 2097151] [⟨0, 0, []⟩, ⟨1, 1, []⟩, ⟨2, 0, []⟩, ⟨3, 0, []⟩, ⟨4, 0, []⟩, ⟨5, 0, []⟩, ⟨6, 1, []⟩, ⟨7, 0, []⟩, ⟨8, 0, []⟩, ⟨9, 1, []⟩, ⟨10, 0, []⟩, ⟨11, 0, []⟩, ⟨12, 0, []⟩, ⟨13, 1, []⟩, ⟨14, 0, []⟩, ⟨15, 0, []⟩, ⟨16, 1, []⟩, ⟨17, 0, []⟩, ⟨18, 1, []⟩, ⟨19, 2, []⟩, ⟨20, 0, []⟩, ⟨21, 0, []⟩] (by kernel_rfl) ?_
            intro w hs
            refine ns_fld fo_116_1 rfl rfl rfl ?_
            refine ns_ldB pl_4 hs rfl rfl rfl (by rfl) ?_
            refine ns_move rfl rfl ?_
            refine ns_move rfl rfl ?_
            refine ns_nil rfl rfl rfl ?_
            refine ns_fld fo_103_2 rfl rfl rfl ?_
            refine ns_ldB pl_82 hs rfl rfl rfl (by rfl) ?_
            refine ns_nil rfl rfl rfl ?_
            refine ns_fld fo_84_1 rfl rfl rfl ?_
            refine ns_ldB pl_69 hs rfl rfl rfl (by rfl) ?_
            refine ns_move rfl rfl ?_
            refine ns_nil rfl rfl rfl ?_
            refine ns_fld fo_103_0 rfl rfl rfl ?_
            refine ns_ldB pl_100 hs rfl rfl rfl (by rfl) ?_
            refine ns_move rfl rfl ?_
            refine ns_idx i sl_100 rfl rfl rfl rfl (by omega) hi ?_
            refine ns_ldA [.int .i64 x.key, .int .i64 x.val] ag_45 rfl rfl rfl rfl (by decide) (it_cells hs htk _ hx) ?_
            refine ns_fld fo_116_0 rfl rfl rfl ?_
            refine ns_ldAB [.int .i64 s.key, .int .i64 s.val] ag_45 hs rfl rfl rfl (by rfl) (by rfl) (by decide) ?_
            refine ns_call (f40_ok x s) ck_40 (hs.foc 1) rfl rfl rfl rfl ?_
            intro v229 w hs
            replace hs := hs.pure
            obtain ⟨rfl, hs⟩ := hs
            refine ns_not rfl rfl rfl ?_
            refine ns_pick rfl rfl rfl ?_
            refine ns_done ?_
            have hs := (hs.foc (pts g (.cells cur 45 (0, 0)))).mk_arr' hc hcm hsz htk
            have hs := hs.fold (ctx_fold c fl)
            have hs := hs.fold (node_fold c b (.slice (some ⟨g, 0, none⟩) t.its.length c1) (.slice a2 bs.length c2) t.its bs)
            have hs := hs.fold (tree_fold (c := c) (h := h) (b := b) (its := t.its) (kids := t.kids) hlen)
            rw [Tr.eta] at hs
            exact ⟨rfl, rfl, rfl, rfl, rfl, rfl, rfl, rfl, rfl, hs.out⟩
        rintro σ w ⟨g231, g20, g0, g1, g4, g5, g6, g9, g10, hs⟩
        obtain ⟨σ, rfl⟩ := rebase g231
        obtain ⟨σ, rfl⟩ := rebase (σ := σ) g20
        obtain ⟨σ, rfl⟩ := rebase (σ := σ) g0
        obtain ⟨σ, rfl⟩ := rebase (σ := σ) g1
        obtain ⟨σ, rfl⟩ := rebase (σ := σ) g4
        obtain ⟨σ, rfl⟩ := rebase (σ := σ) g5
        obtain ⟨σ, rfl⟩ := rebase (σ := σ) g6
        obtain ⟨σ, rfl⟩ := rebase (σ := σ) g9
        obtain ⟨σ, rfl⟩ := rebase (σ := σ) g10
        clear g231 g20 g0 g1 g4 g5 g6 g9 g10
        refine WP_if rfl (fun hif6 => ?_) (fun hif6 => ?_)
        · refine WP_seq ?_
          have hlt0 : ltS st x = false := by simpa using hif6
          obtain ⟨s, rfl⟩ : ∃ s, st = some s := by
            cases st with
            | none => cases hlt0
            | some s => exact ⟨s, rfl⟩
          obtain rfl : inc = true := hinc (by simp)
          have hnl : ¬ x.key < s.key := of_decide_eq_false hlt0
          obtain rfl : hhit = false := by
            cases hhit with
            | false => rfl
            | true => exact absurd (hH rfl x (by rw [hp]; simp)) hnl
          have hxl : x.key ≤ s.key := of_decide_eq_true hxle
          obtain ⟨bs, hlen, hs⟩ := St.tree (hs.foc (Tp c h t b))
          obtain ⟨⟨v1, v2⟩, hs⟩ := hs.ex
          simp only [mul_assoc'] at hs
          obtain ⟨a1, c1, rfl, hc1, hcm1⟩ := (hs.foc (IArr v1 t.its)).arr_form
          obtain ⟨a2, c2, rfl, hc2, hcm2⟩ := (hs.foc (PArr v2 bs)).arr_form
          unfold Ctx CowP at hs
          simp only [mul_assoc'] at hs
          obtain ⟨_, hz, _⟩ | ⟨g, cap, cur, hv, hc, hcm, hsz, htk, hs⟩ := (hs.foc (IArr (.slice a1 t.its.length c1) (t.its))).arr
          · omega
          cases hv
          -- R35
          refine WP_net hs mix [0, 1, 3, 7, 15, 31, 63, 127, 255, 511, 1023, 2047, 4095, 63, 8255, 63, 32831, 98367, 229439, 63, 1015871, 2064447, 4194303, 8388607] [⟨0, 0, []⟩, ⟨1, 0, []⟩, ⟨2, 0, []⟩, ⟨3, 0, []⟩, ⟨4, 0, []⟩, ⟨5, 0, []⟩, ⟨6, 0, []⟩, ⟨7, 0, []⟩, ⟨8, 0, []⟩, ⟨9, 1, []⟩, ⟨10, 0, []⟩, ⟨11, 0, []⟩, ⟨12, 1, []⟩, ⟨13, 0, []⟩, ⟨14, 1, []⟩, ⟨15, 0, []⟩, ⟨16, 0, []⟩, ⟨17, 0, []⟩, ⟨18, 1, []⟩, ⟨19, 0, []⟩, ⟨20, 0, []⟩, ⟨21, 1, []⟩, ⟨22, 2, []⟩, ⟨23, 0, []⟩] (by kernel_rfl) ?_
          intro w hs
          refine ns_move rfl rfl ?_
          refine ns_not rfl rfl rfl ?_
          refine ns_move rfl rfl ?_
          refine ns_move rfl rfl ?_
          refine ns_pick rfl rfl rfl ?_
          refine ns_move rfl rfl ?_
          refine ns_move rfl rfl ?_
          refine ns_nil rfl rfl rfl ?_
          refine ns_fld fo_103_2 rfl rfl rfl ?_
          refine ns_ldB pl_82 hs rfl rfl rfl (by rfl) ?_
          refine ns_nil rfl rfl rfl ?_
          refine ns_fld fo_84_1 rfl rfl rfl ?_
          refine ns_ldB pl_69 hs rfl rfl rfl (by rfl) ?_
          refine ns_fld fo_116_0 rfl rfl rfl ?_
          refine ns_ldAB [.int .i64 s.key, .int .i64 s.val] ag_45 hs rfl rfl rfl (by rfl) (by rfl) (by decide) ?_
          refine ns_move rfl rfl ?_
          refine ns_nil rfl rfl rfl ?_
          refine ns_fld fo_103_0 rfl rfl rfl ?_
          refine ns_ldB pl_100 hs rfl rfl rfl (by rfl) ?_
          refine ns_move rfl rfl ?_
          refine ns_idx i sl_100 rfl rfl rfl rfl (by omega) hi ?_
          refine ns_ldA [.int .i64 x.key, .int .i64 x.val] ag_45 rfl rfl rfl rfl (by decide) (it_cells hs htk _ hx) ?_
          refine ns_call (f40_ok s x) ck_40 (hs.foc 1) rfl rfl rfl rfl ?_
          intro v254 w hs
          replace hs := hs.pure
          obtain ⟨rfl, hs⟩ := hs
          refine ns_pick rfl rfl rfl ?_
          refine ns_done ?_
          have hs := (hs.foc (pts g (.cells cur 45 (0, 0)))).mk_arr' hc hcm hsz htk
          have hs := hs.fold (ctx_fold c fl)
          have hs := hs.fold (node_fold c b (.slice (some ⟨g, 0, none⟩) t.its.length c1) (.slice a2 bs.length c2) t.its bs)
          have hs := hs.fold (tree_fold (c := c) (h := h) (b := b) (its := t.its) (kids := t.kids) hlen)
          rw [Tr.eta] at hs
          refine WP_if rfl (fun hif7 => ?_) (fun hif7 => ?_)
          · refine WP_exit ?_
            exact absurd (of_decide_eq_true hif7) (by omega)
          refine WP_skip ?_
          exact ⟨rfl, rfl, rfl, rfl, rfl, rfl, rfl, rfl, hs.out⟩
        refine WP_skip ?_
        exact ⟨rfl, rfl, rfl, rfl, rfl, rfl, rfl, rfl, hs⟩
      rintro σ w ⟨g20, g0, g1, g4, g5, g6, g9, g10, hs⟩
      obtain ⟨σ, rfl⟩ := rebase g20
      obtain ⟨σ, rfl⟩ := rebase (σ := σ) g0
      obtain ⟨σ, rfl⟩ := rebase (σ := σ) g1
      obtain ⟨σ, rfl⟩ := rebase (σ := σ) g4
      obtain ⟨σ, rfl⟩ := rebase (σ := σ) g5
      obtain ⟨σ, rfl⟩ := rebase (σ := σ) g6
      obtain ⟨σ, rfl⟩ := rebase (σ := σ) g9
      obtain ⟨σ, rfl⟩ := rebase (σ := σ) g10
      clear g20 g0 g1 g4 g5 g6 g9 g10
      refine WP_seq_cut (fun σ w => ∃ (hhit : Bool) (acc3 : List It), ItD most st sp (up.reverse ++ (kidL h t (i + 1)).reverse) acc acc3 true ∧ σ 20 = .int .i64 (((i + 1 : Nat) : Int) - 1) ∧ σ 0 = ptr b ∧ σ 1 = .int .i64 (-1) ∧ σ 4 = .bool inc ∧ σ 5 = .bool hhit ∧ σ 6 = seeV vb ∧ σ 9 = .pointer (some ⟨b9, 0, none⟩) ∧ σ 10 = .pointer (some ⟨b10, 0, none⟩) ∧ St w0 (pts b9 (.cells (ovC st) 116 (0, 0)) * (pts b10 (.cells (ovC sp) 116 (0, 0)) * (Tp c h t b * (Ctx c fl * (VisP vb acc3 most * F))))) w) ?_ ?_ -- S7
      · refine WP_seq ?_
        have hs0 := hs
        obtain ⟨bs, hlen, hs⟩ := St.tree (hs.foc (Tp c h t b))
        obtain ⟨⟨v1, v2⟩, hs⟩ := hs.ex
        simp only [mul_assoc'] at hs
        obtain ⟨a1, c1, rfl, hc1, hcm1⟩ := (hs.foc (IArr v1 t.its)).arr_form
        obtain ⟨a2, c2, rfl, hc2, hcm2⟩ := (hs.foc (PArr v2 bs)).arr_form
        -- R36
        refine WP_seqr [⟨0, 0, []⟩, ⟨1, 0, []⟩, ⟨2, 0, []⟩, ⟨3, 1, []⟩, ⟨4, 0, []⟩, ⟨5, 0, []⟩] (by kernel_rfl) ?_
        refine ns_move rfl rfl ?_
        refine ns_nil rfl rfl rfl ?_
        refine ns_fld fo_103_1 rfl rfl rfl ?_
        refine ns_ldB pl_101 hs rfl rfl rfl (by rfl) ?_
        refine ns_len sl_101 rfl rfl rfl ?_
        refine ns_cmp _ rfl rfl rfl rfl rfl ?_
        refine ns_done ?_
        have hs := hs0
        refine WP_if rfl (fun hif8 => ?_) (fun hif8 => ?_)
        · refine WP_seq ?_
          have hb0 : t.kids.length ≠ 0 := by have := of_decide_eq_true hif8; omega
          have hkl := kids_len hO hb0
          obtain ⟨k, hk⟩ : ∃ k, t.kids[(i + 1)]? = some k := ⟨t.kids[(i + 1)]'(by omega), List.getElem?_eq_getElem (by omega)⟩
          obtain ⟨h, rfl⟩ : ∃ h', h = h' + 1 := by
            cases h with
            | zero => rw [show t.kids = [] from hO] at hk; simp at hk
            | succ h => exact ⟨h, rfl⟩
          have hko := kid_ok hO hk
          have hkS : Srt (flat h k) := kid_srt hO hS hk
          have hkL := kidL_at hO hk
          obtain ⟨bs, hlen, hs⟩ := St.tree (hs.foc (Tp c (h + 1) t b))
          obtain ⟨xb, hxb⟩ : ∃ xb, bs[(i + 1)]? = some xb := ⟨bs[(i + 1)]'(by omega), List.getElem?_eq_getElem (by omega)⟩
          rw [Ks_at hk hxb] at hs
          simp only [mul_assoc'] at hs
          obtain ⟨⟨v1, v2⟩, hs⟩ := (hs.foc (NodeP c b t.its bs)).ex
          simp only [mul_assoc'] at hs
          obtain ⟨_, hz, _⟩ | ⟨g, cap, cur, hv, hc, hcm, hsz, htk, hs⟩ := (hs.foc (PArr (v2) (bs))).arr
          · omega
          cases hv
          -- R37
          refine WP_net hs mix [0, 1, 3, 7, 0, 16, 63, 127, 0, 0, 0, 0, 0, 0, 16383, 32767, 65535, 65535, 131071, 524287] [⟨0, 0, []⟩, ⟨1, 0, []⟩, ⟨2, 0, []⟩, ⟨3, 1, []⟩, ⟨4, 0, []⟩, ⟨5, 0, []⟩, ⟨6, 0, []⟩, ⟨7, 1, []⟩, ⟨8, 0, []⟩, ⟨9, 1, []⟩, ⟨10, 1, []⟩, ⟨11, 0, []⟩, ⟨12, 0, []⟩, ⟨13, 0, []⟩, ⟨14, 2, []⟩, ⟨15, 0, []⟩, ⟨16, 0, []⟩, ⟨17, 0, []⟩, ⟨18, 0, []⟩, ⟨19, 0, []⟩] (by kernel_rfl) ?_
          intro w hs
          refine ns_move rfl rfl ?_
          refine ns_nil rfl rfl rfl ?_
          refine ns_fld fo_103_1 rfl rfl rfl ?_
          refine ns_ldB pl_101 hs rfl rfl rfl (by rfl) ?_
          refine ns_move rfl rfl ?_
          refine ns_add rfl rfl rfl rfl (by omega) (by omega) ?_
          refine ns_idx (i + 1) sl_101 rfl rfl rfl rfl (by omega) (by omega) ?_
          refine ns_ld pl_85 rfl rfl rfl (ptr_cell hs htk _ hxb) ?_
          refine ns_move rfl rfl ?_
          refine ns_ldAB (ovC st).toList ag_116 hs rfl rfl rfl (by rfl) (by rfl) (by decide) ?_
          refine ns_ldAB (ovC sp).toList ag_116 hs rfl rfl rfl (by rfl) (by rfl) (by decide) ?_
          refine ns_move rfl rfl ?_
          refine ns_move rfl rfl ?_
          refine ns_move rfl rfl ?_
          refine ns_call (hkid h k xb hhit acc2 rfl hko.2.2 hko.2.1 hkS (by rw [← hkL]; omega) (fun e y hy => hH e y (by rw [hkL]; exact List.mem_append_right _ hy))) ck_76 (hs.foc (Tq c (h + 1) k xb * (Ctx c fl * VisP vb acc2 most))) rfl rfl rfl rfl ?_
          intro v277 w hs
          unfold ItQ at hs
          replace hs := hs.ex
          obtain ⟨⟨hit3, ok3, acc3⟩, hs⟩ := hs
          replace hs := hs.pu
          obtain ⟨⟨rfl, q1⟩, hs⟩ := hs
          simp only [mul_assoc'] at hs
          rw [← hkL] at q1
          refine ns_move rfl rfl ?_
          refine ns_ext rfl rfl rfl rfl ?_
          refine ns_ext rfl rfl rfl rfl ?_
          refine ns_asg rfl rfl ?_
          refine ns_asg rfl rfl ?_
          refine ns_done ?_
          have hs := (hs.foc (pts g (.cells cur 85 (0, 0)))).mk_arr' hc hcm hsz htk
          have hs := hs.fold (node_fold c b v1 (.slice (some ⟨g, 0, none⟩) bs.length cap) t.its bs)
          rw [show Tp c h k xb = Tq c (h + 1) k xb from rfl] at hs
          have hs := hs.fold (Ent.of_eq (Ks_at (c := c) (h := h + 1) hk hxb).symm)
          have hs := hs.fold (tree_fold (c := c) (h := h + 1) (b := b) (its := t.its) (kids := t.kids) hlen)
          rw [Tr.eta] at hs
          refine WP_seq ?_
          -- R38
          refine WP_seqr [⟨0, 0, []⟩, ⟨1, 0, []⟩] (by kernel_rfl) ?_
          refine ns_move rfl rfl ?_
          refine ns_not rfl rfl rfl ?_
          refine ns_done ?_
          refine WP_if rfl (fun hif9 => ?_) (fun hif9 => ?_)
          · refine WP_seq ?_
            -- R39
            refine WP_seqr [⟨0, 0, []⟩, ⟨1, 0, []⟩, ⟨2, 0, []⟩] (by kernel_rfl) ?_
            refine ns_move rfl rfl ?_
            refine ns_asg rfl rfl ?_
            refine ns_asg rfl rfl ?_
            refine ns_done ?_
            refine WP_ret ?_
            have hok : ok3 = false := by simpa using hif9
            subst hok
            have q2 := (ItD.go hD q1).stop (b := [x] ++ (pfx (h + 1) t i ++ kidL (h + 1) t i).reverse) (by rw [eR2]; exact hDs)
            rw [eR2] at q2
            exact ⟨_, res2 _ _, St.mk_ex (hit3, false, acc3) (St.mk_pu ⟨rfl, q2⟩ hs.out)⟩
          refine WP_skip ?_
          have hok : ok3 = true := by simpa using hif9
          subst hok
          exact ⟨hit3, acc3, ItD.go hD q1, rfl, rfl, rfl, rfl, rfl, rfl, rfl, rfl, hs.out⟩
        refine WP_skip ?_
        have hb0 : t.kids.length = 0 := by have := of_decide_eq_false hif8; omega
        obtain rfl := kids_zero hO hb0
        exact ⟨hhit, acc2, by rw [show kidL 0 t (i + 1) = [] from rfl]; simpa using hD, rfl, rfl, rfl, rfl, rfl, rfl, rfl, rfl, hs⟩
      rintro σ w ⟨hhit, acc3, hD3, g20, g0, g1, g4, g5, g6, g9, g10, hs⟩
      obtain ⟨σ, rfl⟩ := rebase g20
      obtain ⟨σ, rfl⟩ := rebase (σ := σ) g0
      obtain ⟨σ, rfl⟩ := rebase (σ := σ) g1
      obtain ⟨σ, rfl⟩ := rebase (σ := σ) g4
      obtain ⟨σ, rfl⟩ := rebase (σ := σ) g5
      obtain ⟨σ, rfl⟩ := rebase (σ := σ) g6
      obtain ⟨σ, rfl⟩ := rebase (σ := σ) g9
      obtain ⟨σ, rfl⟩ := rebase (σ := σ) g10
      clear g20 g0 g1 g4 g5 g6 g9 g10
      refine WP_seq ?_ -- S8
      refine WP_seq_cut (fun σ w => σ 304 = .bool (!gtS sp x) ∧ σ 20 = .int .i64 (((i + 1 : Nat) : Int) - 1) ∧ σ 0 = ptr b ∧ σ 1 = .int .i64 (-1) ∧ σ 4 = .bool inc ∧ σ 5 = .bool hhit ∧ σ 6 = seeV vb ∧ σ 9 = .pointer (some ⟨b9, 0, none⟩) ∧ σ 10 = .pointer (some ⟨b10, 0, none⟩) ∧ St w0 (pts b9 (.cells (ovC st) 116 (0, 0)) * (pts b10 (.cells (ovC sp) 116 (0, 0)) * (Tp c h t b * (Ctx c fl * (VisP vb acc3 most * F))))) w) ?_ ?_ -- R40.cut
      · rcases (show sp = none ∨ ∃ s, sp = some s from by
          cases sp with
          | none => exact .inl rfl
          | some s => exact .inr ⟨s, rfl⟩) with rfl | ⟨s, rfl⟩
        · -- R40
          refine WP_net hs mix [0, 1, 3, 7, 15, 31, 63, 127, 255, 511, 7, 1031, 7, 4103, 12295, 28679, 7, 126983, 258055, 524287, 1048575, 2097151] [⟨0, 0, []⟩, ⟨1, 1, []⟩, ⟨2, 0, []⟩, ⟨3, 0, []⟩, ⟨4, 0, []⟩, ⟨5, 0, []⟩, ⟨6, 0, []⟩, ⟨7, 0, []⟩, ⟨8, 0, []⟩, ⟨9, 0, []⟩, ⟨10, 0, []⟩, ⟨11, 0, []⟩, ⟨12, 0, []⟩, ⟨13, 0, []⟩, ⟨14, 0, []⟩, ⟨15, 0, []⟩, ⟨16, 0, []⟩, ⟨17, 0, []⟩, ⟨18, 0, []⟩, ⟨19, 0, []⟩, ⟨20, 0, []⟩, ⟨21, 0, []⟩] (by kernel_rfl) ?_
          intro w hs
          refine ns_fld fo_116_1 rfl rfl rfl ?_
          refine ns_ldB pl_4 hs rfl rfl rfl (by rfl) ?_
          refine ns_move rfl rfl ?_
          refine ns_no rfl rfl ?_
          refine ns_no rfl rfl ?_
          refine ns_no rfl rfl ?_
          refine ns_no rfl rfl ?_
          refine ns_no rfl rfl ?_
          refine ns_no rfl rfl ?_
          refine ns_no rfl rfl ?_
          refine ns_no rfl rfl ?_
          refine ns_no rfl rfl ?_
          refine ns_no rfl rfl ?_
          refine ns_no rfl rfl ?_
          refine ns_no rfl rfl ?_
          refine ns_no rfl rfl ?_
          refine ns_no rfl rfl ?_
          refine ns_no rfl rfl ?_
          refine ns_no rfl rfl ?_
          refine ns_no rfl rfl ?_
          refine ns_no rfl rfl ?_
          refine ns_pick rfl rfl rfl ?_
          refine ns_done ?_
          exact ⟨rfl, rfl, rfl, rfl, rfl, rfl, rfl, rfl, rfl, hs⟩
        · obtain ⟨bs, hlen, hs⟩ := St.tree (hs.foc (Tp c h t b))
          obtain ⟨⟨v1, v2⟩, hs⟩ := hs.ex
          simp only [mul_assoc'] at hs
          obtain ⟨a1, c1, rfl, hc1, hcm1⟩ := (hs.foc (IArr v1 t.its)).arr_form
          obtain ⟨a2, c2, rfl, hc2, hcm2⟩ := (hs.foc (PArr v2 bs)).arr_form
          unfold Ctx CowP at hs
          simp only [mul_assoc'] at hs
          obtain ⟨_, hz, _⟩ | ⟨g, cap, cur, hv, hc, hcm, hsz, htk, hs⟩ := (hs.foc (IArr (.slice a1 t.its.length c1) (t.its))).arr
          · omega
          cases hv
          -- R40
          refine WP_net hs mix [0, 1, 3, 7, 15, 31, 63, 127, 255, 511, 7, 1031, 7, 4103, 12295, 28679, 7, 126983, 258055, 524287, 1048575, 2097151] [⟨0, 0, []⟩, ⟨1, 1, []⟩, ⟨2, 0, []⟩, ⟨3, 0, []⟩, ⟨4, 0, []⟩, ⟨5, 0, []⟩, ⟨6, 1, []⟩, ⟨7, 0, []⟩, ⟨8, 0, []⟩, ⟨9, 1, []⟩, ⟨10, 0, []⟩, ⟨11, 1, []⟩, ⟨12, 0, []⟩, ⟨13, 0, []⟩, ⟨14, 0, []⟩, ⟨15, 1, []⟩, ⟨16, 0, []⟩, ⟨17, 0, []⟩, ⟨18, 1, []⟩, ⟨19, 2, []⟩, ⟨20, 0, []⟩, ⟨21, 0, []⟩] (by kernel_rfl) ?_
          intro w hs
          refine ns_fld fo_116_1 rfl rfl rfl ?_
          refine ns_ldB pl_4 hs rfl rfl rfl (by rfl) ?_
          refine ns_move rfl rfl ?_
          refine ns_move rfl rfl ?_
          refine ns_nil rfl rfl rfl ?_
          refine ns_fld fo_103_2 rfl rfl rfl ?_
          refine ns_ldB pl_82 hs rfl rfl rfl (by rfl) ?_
          refine ns_nil rfl rfl rfl ?_
          refine ns_fld fo_84_1 rfl rfl rfl ?_
          refine ns_ldB pl_69 hs rfl rfl rfl (by rfl) ?_
          refine ns_fld fo_116_0 rfl rfl rfl ?_
          refine ns_ldAB [.int .i64 s.key, .int .i64 s.val] ag_45 hs rfl rfl rfl (by rfl) (by rfl) (by decide) ?_
          refine ns_move rfl rfl ?_
          refine ns_nil rfl rfl rfl ?_
          refine ns_fld fo_103_0 rfl rfl rfl ?_
          refine ns_ldB pl_100 hs rfl rfl rfl (by rfl) ?_
          refine ns_move rfl rfl ?_
          refine ns_idx i sl_100 rfl rfl rfl rfl (by omega) hi ?_
          refine ns_ldA [.int .i64 x.key, .int .i64 x.val] ag_45 rfl rfl rfl rfl (by decide) (it_cells hs htk _ hx) ?_
          refine ns_call (f40_ok s x) ck_40 (hs.foc 1) rfl rfl rfl rfl ?_
          intro v302 w hs
          replace hs := hs.pure
          obtain ⟨rfl, hs⟩ := hs
          refine ns_not rfl rfl rfl ?_
          refine ns_pick rfl rfl rfl ?_
          refine ns_done ?_
          have hs := (hs.foc (pts g (.cells cur 45 (0, 0)))).mk_arr' hc hcm hsz htk
          have hs := hs.fold (ctx_fold c fl)
          have hs := hs.fold (node_fold c b (.slice (some ⟨g, 0, none⟩) t.its.length c1) (.slice a2 bs.length c2) t.its bs)
          have hs := hs.fold (tree_fold (c := c) (h := h) (b := b) (its := t.its) (kids := t.kids) hlen)
          rw [Tr.eta] at hs
          exact ⟨rfl, rfl, rfl, rfl, rfl, rfl, rfl, rfl, rfl, hs.out⟩
      rintro σ w ⟨g304, g20, g0, g1, g4, g5, g6, g9, g10, hs⟩
      obtain ⟨σ, rfl⟩ := rebase g304
      obtain ⟨σ, rfl⟩ := rebase (σ := σ) g20
      obtain ⟨σ, rfl⟩ := rebase (σ := σ) g0
      obtain ⟨σ, rfl⟩ := rebase (σ := σ) g1
      obtain ⟨σ, rfl⟩ := rebase (σ := σ) g4
      obtain ⟨σ, rfl⟩ := rebase (σ := σ) g5
      obtain ⟨σ, rfl⟩ := rebase (σ := σ) g6
      obtain ⟨σ, rfl⟩ := rebase (σ := σ) g9
      obtain ⟨σ, rfl⟩ := rebase (σ := σ) g10
      clear g304 g20 g0 g1 g4 g5 g6 g9 g10
      refine WP_if rfl (fun hif10 => ?_) (fun hif10 => ?_)
      · refine WP_seq ?_
        -- R41
        refine WP_seqr [⟨0, 0, []⟩, ⟨1, 0, []⟩, ⟨2, 0, []⟩] (by kernel_rfl) ?_
        refine ns_move rfl rfl ?_
        refine ns_asg rfl rfl ?_
        refine ns_asg rfl rfl ?_
        refine ns_done ?_
        refine WP_ret ?_
        have hlt : gtS sp x = false := by simpa using hif10
        have q2 := (ItD.go hD3 (ItD.one_stop (st := st) (acc := acc3) (most := most) hlt)).stop (b := (pfx h t i ++ kidL h t i).reverse) (by rw [eR]; exact hDs)
        rw [eR] at q2
        exact ⟨_, res2 _ _, St.mk_ex (hhit, false, acc3) (St.mk_pu ⟨rfl, q2⟩ hs.out)⟩
      refine WP_skip ?_
      have hlt : gtS sp x = true := by simpa using hif10
      have hD3l := ItD_len hD3
      simp only [List.length_append, List.length_reverse] at hD3l
      refine WP_seq ?_
      -- R42
      refine WP_seqr [⟨0, 0, []⟩] (by kernel_rfl) ?_
      refine ns_asg rfl rfl ?_
      refine ns_done ?_
      refine WP_seq ?_
      obtain ⟨bs, hlen, hs⟩ := St.tree (hs.foc (Tp c h t b))
      obtain ⟨⟨v1, v2⟩, hs⟩ := hs.ex
      simp only [mul_assoc'] at hs
      obtain ⟨a1, c1, rfl, hc1, hcm1⟩ := (hs.foc (IArr v1 t.its)).arr_form
      obtain ⟨a2, c2, rfl, hc2, hcm2⟩ := (hs.foc (PArr v2 bs)).arr_form
      obtain ⟨_, hz, _⟩ | ⟨g, cap, cur, hv, hc, hcm, hsz, htk, hs⟩ := (hs.foc (IArr (.slice a1 t.its.length c1) (t.its))).arr
      · omega
      cases hv
      -- R43
      refine WP_seqr [⟨0, 0, []⟩, ⟨1, 0, []⟩, ⟨2, 0, []⟩, ⟨3, 0, []⟩, ⟨4, 1, []⟩, ⟨5, 0, []⟩, ⟨6, 0, []⟩, ⟨7, 1, []⟩, ⟨8, 2, []⟩, ⟨9, 0, []⟩] (by kernel_rfl) ?_
      refine ns_move rfl rfl ?_
      refine ns_move rfl rfl ?_
      refine ns_nil rfl rfl rfl ?_
      refine ns_fld fo_103_0 rfl rfl rfl ?_
      refine ns_ldB pl_100 hs rfl rfl rfl (by rfl) ?_
      refine ns_move rfl rfl ?_
      refine ns_idx i sl_100 rfl rfl rfl rfl (by omega) hi ?_
      refine ns_ldA [.int .i64 x.key, .int .i64 x.val] ag_45 rfl rfl rfl rfl (by decide) (it_cells hs htk _ hx) ?_
      refine ns_call (f58_ok vb x acc3 most (by omega)) ck_58 (hs.foc (VisP vb acc3 most)) rfl rfl rfl rfl ?_
      intro v314 w hs
      replace hs := hs.pu
      obtain ⟨rfl, hs⟩ := hs
      refine ns_not rfl rfl rfl ?_
      refine ns_done ?_
      have hs := (hs.foc (pts g (.cells cur 45 (0, 0)))).mk_arr' hc hcm hsz htk
      have hs := hs.fold (node_fold c b (.slice (some ⟨g, 0, none⟩) t.its.length c1) (.slice a2 bs.length c2) t.its bs)
      have hs := hs.fold (tree_fold (c := c) (h := h) (b := b) (its := t.its) (kids := t.kids) hlen)
      rw [Tr.eta] at hs
      have hone := ItD.one (most := most) (acc := acc3) hxle hlt
      refine WP_if rfl (fun hif11 => ?_) (fun hif11 => ?_)
      · refine WP_seq ?_
        -- R44
        refine WP_seqr [⟨0, 0, []⟩, ⟨1, 0, []⟩, ⟨2, 0, []⟩] (by kernel_rfl) ?_
        refine ns_move rfl rfl ?_
        refine ns_asg rfl rfl ?_
        refine ns_asg rfl rfl ?_
        refine ns_done ?_
        refine WP_ret ?_
        have hok : decide (((acc3 ++ [x]).length : Int) < most) = false := by simpa using hif11
        rw [hok] at hone
        have q2 := (ItD.go hD3 hone).stop (b := (pfx h t i ++ kidL h t i).reverse) (by rw [eR]; exact hDs)
        rw [eR] at q2
        exact ⟨_, res2 _ _, St.mk_ex (true, false, acc3 ++ [x]) (St.mk_pu ⟨rfl, q2⟩ hs.out)⟩
      refine WP_skip ?_
      have hok : decide (((acc3 ++ [x]).length : Int) < most) = true := by simpa using hif11
      rw [hok] at hone
      -- R33
      refine WP_seqr [⟨0, 0, []⟩, ⟨1, 0, []⟩, ⟨2, 0, []⟩] (by kernel_rfl) ?_
      refine ns_move rfl rfl ?_
      refine ns_sub rfl rfl rfl rfl (by omega) (by omega) ?_
      refine ns_asg rfl rfl ?_
      refine ns_done ?_
      exact ⟨i, by omega, i, true, acc3 ++ [x], x :: (kidL h t (i + 1) ++ up), rfl, by omega, by rw [eD, hp]; simp, by simpa using ItD.go hD3 hone, (fun _ y hy => bel_of hxle (hbx y hy)), congrArg (Value.int .i64) (by omega : ((((i + 1 : Nat) : Int) - 1) - 1) = ((i : Nat) : Int) - 1), rfl, rfl, rfl, rfl, rfl, rfl, rfl, hs.out⟩
      
    rintro σ w ⟨hhit, acc2, up, eD, hD, hH, g0, g1, g4, g5, g6, g9, g10, hs⟩
    obtain ⟨σ, rfl⟩ := rebase g0
    obtain ⟨σ, rfl⟩ := rebase (σ := σ) g1
    obtain ⟨σ, rfl⟩ := rebase (σ := σ) g4
    obtain ⟨σ, rfl⟩ := rebase (σ := σ) g5
    obtain ⟨σ, rfl⟩ := rebase (σ := σ) g6
    obtain ⟨σ, rfl⟩ := rebase (σ := σ) g9
    obtain ⟨σ, rfl⟩ := rebase (σ := σ) g10
    clear g0 g1 g4 g5 g6 g9 g10
    have hlenD := congrArg List.length eD
    simp only [List.length_append] at hlenD
    have hDl := ItD_len hD
    simp only [List.length_reverse] at hDl
    have eR : up.reverse ++ (kidL h t 0).reverse = (flat h t).reverse := by rw [eD]; simp
    refine WP_seq ?_
    have hs0 := hs
    obtain ⟨bs, hlen, hs⟩ := St.tree (hs.foc (Tp c h t b))
    obtain ⟨⟨v1, v2⟩, hs⟩ := hs.ex
    simp only [mul_assoc'] at hs
    obtain ⟨a1, c1, rfl, hc1, hcm1⟩ := (hs.foc (IArr v1 t.its)).arr_form
    obtain ⟨a2, c2, rfl, hc2, hcm2⟩ := (hs.foc (PArr v2 bs)).arr_form
    -- R45
    refine WP_seqr [⟨0, 0, []⟩, ⟨1, 0, []⟩, ⟨2, 0, []⟩, ⟨3, 1, []⟩, ⟨4, 0, []⟩, ⟨5, 0, []⟩] (by kernel_rfl) ?_
    refine ns_move rfl rfl ?_
    refine ns_nil rfl rfl rfl ?_
    refine ns_fld fo_103_1 rfl rfl rfl ?_
    refine ns_ldB pl_101 hs rfl rfl rfl (by rfl) ?_
    refine ns_len sl_101 rfl rfl rfl ?_
    refine ns_cmp _ rfl rfl rfl rfl rfl ?_
    refine ns_done ?_
    have hs := hs0
    refine WP_if rfl (fun hif12 => ?_) (fun hif12 => ?_)
    · refine WP_seq ?_
      have hb0 : t.kids.length ≠ 0 := by have := of_decide_eq_true hif12; omega
      have hkl := kids_len hO hb0
      obtain ⟨k, hk⟩ : ∃ k, t.kids[0]? = some k := ⟨t.kids[0]'(by omega), List.getElem?_eq_getElem (by omega)⟩
      obtain ⟨h, rfl⟩ : ∃ h', h = h' + 1 := by
        cases h with
        | zero => rw [show t.kids = [] from hO] at hk; simp at hk
        | succ h => exact ⟨h, rfl⟩
      have hko := kid_ok hO hk
      have hkS : Srt (flat h k) := kid_srt hO hS hk
      have hkL := kidL_at hO hk
      obtain ⟨bs, hlen, hs⟩ := St.tree (hs.foc (Tp c (h + 1) t b))
      obtain ⟨xb, hxb⟩ : ∃ xb, bs[0]? = some xb := ⟨bs[0]'(by omega), List.getElem?_eq_getElem (by omega)⟩
      rw [Ks_at hk hxb] at hs
      simp only [mul_assoc'] at hs
      obtain ⟨⟨v1, v2⟩, hs⟩ := (hs.foc (NodeP c b t.its bs)).ex
      simp only [mul_assoc'] at hs
      obtain ⟨_, hz, _⟩ | ⟨g, cap, cur, hv, hc, hcm, hsz, htk, hs⟩ := (hs.foc (PArr (v2) (bs))).arr
      · omega
      cases hv
      -- R46
      refine WP_net hs mix [0, 1, 3, 7, 15, 31, 0, 0, 0, 0, 0, 0, 4095, 8191, 16383, 16383, 32767, 131071] [⟨0, 0, []⟩, ⟨1, 0, []⟩, ⟨2, 0, []⟩, ⟨3, 1, []⟩, ⟨4, 0, []⟩, ⟨5, 1, []⟩, ⟨6, 0, []⟩, ⟨7, 1, []⟩, ⟨8, 1, []⟩, ⟨9, 0, []⟩, ⟨10, 0, []⟩, ⟨11, 0, []⟩, ⟨12, 2, []⟩, ⟨13, 0, []⟩, ⟨14, 0, []⟩, ⟨15, 0, []⟩, ⟨16, 0, []⟩, ⟨17, 0, []⟩] (by kernel_rfl) ?_
      intro w hs
      refine ns_move rfl rfl ?_
      refine ns_nil rfl rfl rfl ?_
      refine ns_fld fo_103_1 rfl rfl rfl ?_
      refine ns_ldB pl_101 hs rfl rfl rfl (by rfl) ?_
      refine ns_idx 0 sl_101 rfl rfl rfl rfl rfl (by omega) ?_
      refine ns_ld pl_85 rfl rfl rfl (ptr_cell hs htk _ hxb) ?_
      refine ns_move rfl rfl ?_
      refine ns_ldAB (ovC st).toList ag_116 hs rfl rfl rfl (by rfl) (by rfl) (by decide) ?_
      refine ns_ldAB (ovC sp).toList ag_116 hs rfl rfl rfl (by rfl) (by rfl) (by decide) ?_
      refine ns_move rfl rfl ?_
      refine ns_move rfl rfl ?_
      refine ns_move rfl rfl ?_
      refine ns_call (hkid h k xb hhit acc2 rfl hko.2.2 hko.2.1 hkS (by rw [← hkL]; omega) (fun e y hy => hH e y (by rw [hkL]; exact hy))) ck_76 (hs.foc (Tq c (h + 1) k xb * (Ctx c fl * VisP vb acc2 most))) rfl rfl rfl rfl ?_
      intro v336 w hs
      unfold ItQ at hs
      replace hs := hs.ex
      obtain ⟨⟨hit3, ok3, acc3⟩, hs⟩ := hs
      replace hs := hs.pu
      obtain ⟨⟨rfl, q1⟩, hs⟩ := hs
      simp only [mul_assoc'] at hs
      rw [← hkL] at q1
      refine ns_move rfl rfl ?_
      refine ns_ext rfl rfl rfl rfl ?_
      refine ns_ext rfl rfl rfl rfl ?_
      refine ns_asg rfl rfl ?_
      refine ns_asg rfl rfl ?_
      refine ns_done ?_
      have hs := (hs.foc (pts g (.cells cur 85 (0, 0)))).mk_arr' hc hcm hsz htk
      have hs := hs.fold (node_fold c b v1 (.slice (some ⟨g, 0, none⟩) bs.length cap) t.its bs)
      rw [show Tp c h k xb = Tq c (h + 1) k xb from rfl] at hs
      have hs := hs.fold (Ent.of_eq (Ks_at (c := c) (h := h + 1) hk hxb).symm)
      have hs := hs.fold (tree_fold (c := c) (h := h + 1) (b := b) (its := t.its) (kids := t.kids) hlen)
      rw [Tr.eta] at hs
      refine WP_seq ?_
      -- R47
      refine WP_seqr [⟨0, 0, []⟩, ⟨1, 0, []⟩] (by kernel_rfl) ?_
      refine ns_move rfl rfl ?_
      refine ns_not rfl rfl rfl ?_
      refine ns_done ?_
      refine WP_if rfl (fun hif13 => ?_) (fun hif13 => ?_)
      · refine WP_seq ?_
        -- R48
        refine WP_seqr [⟨0, 0, []⟩, ⟨1, 0, []⟩, ⟨2, 0, []⟩] (by kernel_rfl) ?_
        refine ns_move rfl rfl ?_
        refine ns_asg rfl rfl ?_
        refine ns_asg rfl rfl ?_
        refine ns_done ?_
        refine WP_ret ?_
        have hok : ok3 = false := by simpa using hif13
        subst hok
        have q2 := ItD.go hD q1
        rw [eR] at q2
        exact ⟨_, res2 _ _, St.mk_ex (hit3, false, acc3) (St.mk_pu ⟨rfl, q2⟩ hs.out)⟩
      refine WP_skip ?_
      have hok : ok3 = true := by simpa using hif13
      subst hok
      have q2 := ItD.go hD q1
      rw [eR] at q2
      exact ⟨hit3, acc3, rfl, q2, hs.out⟩
    refine WP_skip ?_
    have hb0 : t.kids.length = 0 := by have := of_decide_eq_false hif12; omega
    obtain rfl := kids_zero hO hb0
    rw [show kidL 0 t 0 = [] from rfl, List.nil_append] at eD
    rw [← eD] at hD
    exact ⟨hhit, acc2, rfl, hD, hs⟩
  rintro σ w ⟨hit2, acc2, g5, hD, hs⟩
  obtain ⟨σ, rfl⟩ := rebase g5
  refine WP_seq ?_
  -- R49
  refine WP_seqr [⟨0, 0, []⟩, ⟨1, 0, []⟩, ⟨2, 0, []⟩] (by kernel_rfl) ?_
  refine ns_move rfl rfl ?_
  refine ns_asg rfl rfl ?_
  refine ns_asg rfl rfl ?_
  refine ns_done ?_
  refine WP_ret ?_
  exact ⟨_, res2 _ _, St.mk_ex (hit2, true, acc2) (St.mk_pu ⟨rfl, hD⟩ hs.out)⟩
theorem f76d_ok (c fl mn mx vb : Nat) (most : Int) (st sp : Option It) (inc : Bool) (hm : mx < 10000) (hinc : st ≠ none → inc = true) : ∀ (h b : Nat) (t : Tr) (hit : Bool) (acc : List It), Ok mn mx h t → t.its.length ≤ mx → Srt (flat h t) → acc.length + (flat h t).length < 1000000 → (hit = true → ∀ y ∈ flat h t, belS st y) →
    Tri Try.prog 76 #[ptr b, .int .i64 (-1), ov st, ov sp, .bool inc, .bool hit, seeV vb] (Tp c h t b * (Ctx c fl * VisP vb acc most)) (ItQ c fl vb h b t most st sp acc) := by
  intro h
  induction h with
  | zero => exact fun b t hit acc hO hl hS ha hh => f76_desc c fl mn mx vb 0 b t most st sp inc hit acc hm hO hl hS hinc ha hh fun h' k xb hit' acc' e => by cases e
  | succ h ih => exact fun b t hit acc hO hl hS ha hh => f76_desc c fl mn mx vb (h + 1) b t most st sp inc hit acc hm hO hl hS hinc ha hh fun h' k xb hit' acc' e hO' hl' hS' ha' hh' => by cases e; exact ih xb k hit' acc' hO' hl' hS' ha' hh'
end Go.Proofs.Ytnnembkganlbpaa
/- The walks of a whole tree: all of it, or between bounds, upwards and downwards. -/
namespace Go.Proofs.Ytnnembkganlbpaa
open Go Go.Sl Go.Net Go.Wk Go.Bt Go.RowKit
theorem f57_n (c fl d b vb : Nat) (most : Int) (acc : List It) : Tri Try.prog 57 #[ptr b, seeV vb] (BtN c d b * (Ctx c fl * VisP vb acc most)) fun _ => BT c d b [] * (Ctx c fl * VisP vb acc most) := by
  intro w0 F w hs
  unfold BtN at hs
  simp only [mul_assoc'] at hs
  refine calls_WP 17 #[] Try.func57 rfl Try.ntmps57 rfl (Nat.le_of_ble_eq_true rfl) ?_
  refine WP_seq ?_ -- S1
  refine WP_seq ?_
  -- R0
  refine WP_seqr [⟨0, 0, []⟩, ⟨1, 0, []⟩, ⟨2, 0, []⟩, ⟨3, 1, []⟩, ⟨4, 0, []⟩] (by kernel_rfl) ?_
  refine ns_move rfl rfl ?_
  refine ns_nil rfl rfl rfl ?_
  refine ns_fld fo_87_2 rfl rfl rfl ?_
  refine ns_ldB pl_85 hs rfl rfl rfl (by rfl) ?_
  refine ns_peq true pt_85 rfl rfl rfl rfl rfl ?_
  refine ns_done ?_
  refine WP_true rfl ?_ -- if1
  refine WP_ret ?_
  have hs := hs.fold (bt_nil2 c d b)
  exact ⟨_, res0, hs.out⟩
theorem f57_t (c fl d b vb h rb : Nat) (most : Int) (acc : List It) (t : Tr) (l : List It) (hg : Good d h t l) (hd2 : d ≤ 1000) (hal : acc.length + l.length < 1000000) : Tri Try.prog 57 #[ptr b, seeV vb] (pts b (.cells #[.int .i64 d, .int .i64 l.length, ptr rb, ptr c] 87 (0, 0)) * (Tp c h t rb * (Ctx c fl * VisP vb acc most))) fun _ => BT c d b l * (Ctx c fl * VisP vb (feed most acc (sel none none l)).1 most) := by
  intro w0 F w hs
  simp only [mul_assoc'] at hs
  refine calls_WP 17 #[] Try.func57 rfl Try.ntmps57 rfl (Nat.le_of_ble_eq_true rfl) ?_
  refine WP_seq ?_ -- S1
  refine WP_seq ?_
  -- R0
  refine WP_seqr [⟨0, 0, []⟩, ⟨1, 0, []⟩, ⟨2, 0, []⟩, ⟨3, 1, []⟩, ⟨4, 0, []⟩] (by kernel_rfl) ?_
  refine ns_move rfl rfl ?_
  refine ns_nil rfl rfl rfl ?_
  refine ns_fld fo_87_2 rfl rfl rfl ?_
  refine ns_ldB pl_85 hs rfl rfl rfl (by rfl) ?_
  refine ns_peq false pt_85 rfl rfl rfl rfl (by simp [cmpP]) ?_
  refine ns_done ?_
  refine WP_false rfl ?_ -- if1
  refine WP_skip ?_
  -- R1
  refine WP_net hs mix [0, 1, 3, 7, 0, 16, 0, 127] [⟨0, 0, []⟩, ⟨1, 0, []⟩, ⟨2, 0, []⟩, ⟨3, 1, []⟩, ⟨6, 0, []⟩, ⟨4, 2, [3]⟩, ⟨5, 2, [3]⟩, ⟨7, 2, []⟩] (by kernel_rfl) ?_
  intro w hs
  refine ns_move rfl rfl ?_
  refine ns_nil rfl rfl rfl ?_
  refine ns_fld fo_87_2 rfl rfl rfl ?_
  refine ns_ldB pl_85 hs rfl rfl rfl (by rfl) ?_
  refine ns_move rfl rfl ?_
  refine ns_callK f77_ok ck_77 (hs.foc 1) rfl rfl rfl rfl ?_
  refine fun v13 w hs => ?_
  replace hs := hs.pure
  obtain ⟨rfl, hs⟩ := hs
  refine ⟨⟨hs.c b 2, trivial⟩, ?_⟩
  refine ns_callK f77_ok ck_77 (hs.foc 1) rfl rfl rfl rfl ?_
  refine fun v14 w hs => ?_
  replace hs := hs.pure
  obtain ⟨rfl, hs⟩ := hs
  refine ⟨⟨hs.c b 2, trivial⟩, ?_⟩
  refine ns_call (f76a_ok c fl (d - 1) (2 * d - 1) vb most none none false (by omega) (by simp) h rb t false acc hg.1 hg.2.1 (by rw [hg.2.2.1]; exact hg.2.2.2.1) (by rw [hg.2.2.1]; exact hal)) ck_76 (hs.foc (Tp c h t rb * (Ctx c fl * VisP vb acc most))) rfl rfl rfl rfl ?_
  intro v16 w hs
  unfold ItP at hs
  replace hs := hs.ex
  obtain ⟨⟨hit2, ok2, acc2⟩, hs⟩ := hs
  replace hs := hs.pu
  obtain ⟨⟨rfl, q1⟩, hs⟩ := hs
  rw [hg.2.2.1] at q1
  obtain rfl : acc2 = (feed most acc (sel none none l)).1 := q1.1
  simp only [mul_assoc'] at hs
  refine ns_done ?_
  have hs := hs.fold (bt_tree (c := c) (b := b) (rb := rb) (n := l.length) hg rfl)
  exact ⟨_, res0, hs.out⟩
theorem f57_ok (c fl d b vb : Nat) (most : Int) (acc : List It) (l : List It) (hd2 : d ≤ 1000) (hal : acc.length + l.length < 1000000) : Tri Try.prog 57 #[ptr b, seeV vb] (BT c d b l * (Ctx c fl * VisP vb acc most)) fun _ => BT c d b l * (Ctx c fl * VisP vb (feed most acc (sel none none l)).1 most) := by
  intro w0 F w hs
  rw [mul_assoc'] at hs
  replace hs := St.bt hs
  rcases hs with ⟨rfl, hs⟩ | ⟨h, t, rb, hg, hs⟩
  · exact f57_n c fl d b vb most acc w0 F w (hs.eq (by ac_rfl))
  · exact f57_t c fl d b vb h rb most acc t l hg hd2 hal w0 F w (hs.eq (by ac_rfl))
theorem f59_n (c fl d b vb : Nat) (p : It) (most : Int) (acc : List It) : Tri Try.prog 59 #[ptr b, itV p, seeV vb] (BtN c d b * (Ctx c fl * VisP vb acc most)) fun _ => BT c d b [] * (Ctx c fl * VisP vb acc most) := by
  intro w0 F w hs
  unfold BtN at hs
  simp only [mul_assoc'] at hs
  refine calls_WP 20 #[] Try.func59 rfl Try.ntmps59 rfl (Nat.le_of_ble_eq_true rfl) ?_
  refine WP_seq ?_
  -- R0
  refine WP_seqr [⟨0, 2, []⟩] (by kernel_rfl) ?_
  refine ns_box (#[.int .i64 p.key, .int .i64 p.val]) hs rfl rfl rfl rfl ?_
  intro b4 w hs
  refine ns_done ?_
  refine WP_seq ?_ -- S1
  refine WP_seq ?_
  -- R1
  refine WP_seqr [⟨0, 0, []⟩, ⟨1, 0, []⟩, ⟨2, 0, []⟩, ⟨3, 1, []⟩, ⟨4, 0, []⟩] (by kernel_rfl) ?_
  refine ns_move rfl rfl ?_
  refine ns_nil rfl rfl rfl ?_
  refine ns_fld fo_87_2 rfl rfl rfl ?_
  refine ns_ldB pl_85 hs rfl rfl rfl (by rfl) ?_
  refine ns_peq true pt_85 rfl rfl rfl rfl rfl ?_
  refine ns_done ?_
  refine WP_true rfl ?_ -- if1
  refine WP_ret ?_
  have hs := hs.fold (bt_nil2 c d b)
  exact ⟨_, res0, hs.out⟩
theorem f59_t (c fl d b vb h rb : Nat) (p : It) (most : Int) (acc : List It) (t : Tr) (l : List It) (hg : Good d h t l) (hd2 : d ≤ 1000) (hal : acc.length + l.length < 1000000) : Tri Try.prog 59 #[ptr b, itV p, seeV vb] (pts b (.cells #[.int .i64 d, .int .i64 l.length, ptr rb, ptr c] 87 (0, 0)) * (Tp c h t rb * (Ctx c fl * VisP vb acc most))) fun _ => BT c d b l * (Ctx c fl * VisP vb (feed most acc (sel (some p) none l)).1 most) := by
  intro w0 F w hs
  simp only [mul_assoc'] at hs
  refine calls_WP 20 #[] Try.func59 rfl Try.ntmps59 rfl (Nat.le_of_ble_eq_true rfl) ?_
  refine WP_seq ?_
  -- R0
  refine WP_seqr [⟨0, 2, []⟩] (by kernel_rfl) ?_
  refine ns_box (#[.int .i64 p.key, .int .i64 p.val]) hs rfl rfl rfl rfl ?_
  intro b4 w hs
  refine ns_done ?_
  refine WP_seq ?_ -- S1
  refine WP_seq ?_
  -- R1
  refine WP_seqr [⟨0, 0, []⟩, ⟨1, 0, []⟩, ⟨2, 0, []⟩, ⟨3, 1, []⟩, ⟨4, 0, []⟩] (by kernel_rfl) ?_
  refine ns_move rfl rfl ?_
  refine ns_nil rfl rfl rfl ?_
  refine ns_fld fo_87_2 rfl rfl rfl ?_
  refine ns_ldB pl_85 hs rfl rfl rfl (by rfl) ?_
  refine ns_peq false pt_85 rfl rfl rfl rfl (by simp [cmpP]) ?_
  refine ns_done ?_
  refine WP_false rfl ?_ -- if1
  refine WP_skip ?_
  -- R2
  refine WP_net hs mix [0, 1, 3, 7, 0, 16, 48, 0, 255] [⟨0, 0, []⟩, ⟨1, 0, []⟩, ⟨2, 0, []⟩, ⟨3, 1, []⟩, ⟨4, 1, []⟩, ⟨7, 0, []⟩, ⟨5, 2, [3]⟩, ⟨6, 2, [3]⟩, ⟨8, 2, []⟩] (by kernel_rfl) ?_
  intro w hs
  refine ns_move rfl rfl ?_
  refine ns_nil rfl rfl rfl ?_
  refine ns_fld fo_87_2 rfl rfl rfl ?_
  refine ns_ldB pl_85 hs rfl rfl rfl (by rfl) ?_
  refine ns_ldAB [.int .i64 p.key, .int .i64 p.val] ag_45 hs rfl rfl rfl (by rfl) (by rfl) (by decide) ?_
  refine ns_move rfl rfl ?_
  refine ns_callK (f78_ok p) ck_78 (hs.foc 1) rfl rfl rfl rfl ?_
  refine fun v16 w hs => ?_
  replace hs := hs.pure
  obtain ⟨rfl, hs⟩ := hs
  refine ⟨⟨hs.c b 2, trivial⟩, ?_⟩
  refine ns_callK f77_ok ck_77 (hs.foc 1) rfl rfl rfl rfl ?_
  refine fun v17 w hs => ?_
  replace hs := hs.pure
  obtain ⟨rfl, hs⟩ := hs
  refine ⟨⟨hs.c b 2, trivial⟩, ?_⟩
  refine ns_call (f76a_ok c fl (d - 1) (2 * d - 1) vb most (some p) none true (by omega) (by simp) h rb t false acc hg.1 hg.2.1 (by rw [hg.2.2.1]; exact hg.2.2.2.1) (by rw [hg.2.2.1]; exact hal)) ck_76 (hs.foc (Tp c h t rb * (Ctx c fl * VisP vb acc most))) rfl rfl rfl rfl ?_
  intro v19 w hs
  unfold ItP at hs
  replace hs := hs.ex
  obtain ⟨⟨hit2, ok2, acc2⟩, hs⟩ := hs
  replace hs := hs.pu
  obtain ⟨⟨rfl, q1⟩, hs⟩ := hs
  rw [hg.2.2.1] at q1
  obtain rfl : acc2 = (feed most acc (sel (some p) none l)).1 := q1.1
  simp only [mul_assoc'] at hs
  refine ns_done ?_
  have hs := hs.fold (bt_tree (c := c) (b := b) (rb := rb) (n := l.length) hg rfl)
  exact ⟨_, res0, hs.out⟩
theorem f59_ok (c fl d b vb : Nat) (p : It) (most : Int) (acc : List It) (l : List It) (hd2 : d ≤ 1000) (hal : acc.length + l.length < 1000000) : Tri Try.prog 59 #[ptr b, itV p, seeV vb] (BT c d b l * (Ctx c fl * VisP vb acc most)) fun _ => BT c d b l * (Ctx c fl * VisP vb (feed most acc (sel (some p) none l)).1 most) := by
  intro w0 F w hs
  rw [mul_assoc'] at hs
  replace hs := St.bt hs
  rcases hs with ⟨rfl, hs⟩ | ⟨h, t, rb, hg, hs⟩
  · exact f59_n c fl d b vb p most acc w0 F w (hs.eq (by ac_rfl))
  · exact f59_t c fl d b vb h rb p most acc t l hg hd2 hal w0 F w (hs.eq (by ac_rfl))
theorem f60_n (c fl d b vb : Nat) (p : It) (most : Int) (acc : List It) : Tri Try.prog 60 #[ptr b, itV p, seeV vb] (BtN c d b * (Ctx c fl * VisP vb acc most)) fun _ => BT c d b [] * (Ctx c fl * VisP vb acc most) := by
  intro w0 F w hs
  unfold BtN at hs
  simp only [mul_assoc'] at hs
  refine calls_WP 20 #[] Try.func60 rfl Try.ntmps60 rfl (Nat.le_of_ble_eq_true rfl) ?_
  refine WP_seq ?_
  -- R0
  refine WP_seqr [⟨0, 2, []⟩] (by kernel_rfl) ?_
  refine ns_box (#[.int .i64 p.key, .int .i64 p.val]) hs rfl rfl rfl rfl ?_
  intro b4 w hs
  refine ns_done ?_
  refine WP_seq ?_ -- S1
  refine WP_seq ?_
  -- R1
  refine WP_seqr [⟨0, 0, []⟩, ⟨1, 0, []⟩, ⟨2, 0, []⟩, ⟨3, 1, []⟩, ⟨4, 0, []⟩] (by kernel_rfl) ?_
  refine ns_move rfl rfl ?_
  refine ns_nil rfl rfl rfl ?_
  refine ns_fld fo_87_2 rfl rfl rfl ?_
  refine ns_ldB pl_85 hs rfl rfl rfl (by rfl) ?_
  refine ns_peq true pt_85 rfl rfl rfl rfl rfl ?_
  refine ns_done ?_
  refine WP_true rfl ?_ -- if1
  refine WP_ret ?_
  have hs := hs.fold (bt_nil2 c d b)
  exact ⟨_, res0, hs.out⟩
theorem f60_t (c fl d b vb h rb : Nat) (p : It) (most : Int) (acc : List It) (t : Tr) (l : List It) (hg : Good d h t l) (hd2 : d ≤ 1000) (hal : acc.length + l.length < 1000000) : Tri Try.prog 60 #[ptr b, itV p, seeV vb] (pts b (.cells #[.int .i64 d, .int .i64 l.length, ptr rb, ptr c] 87 (0, 0)) * (Tp c h t rb * (Ctx c fl * VisP vb acc most))) fun _ => BT c d b l * (Ctx c fl * VisP vb (feed most acc (sel none (some p) l)).1 most) := by
  intro w0 F w hs
  simp only [mul_assoc'] at hs
  refine calls_WP 20 #[] Try.func60 rfl Try.ntmps60 rfl (Nat.le_of_ble_eq_true rfl) ?_
  refine WP_seq ?_
  -- R0
  refine WP_seqr [⟨0, 2, []⟩] (by kernel_rfl) ?_
  refine ns_box (#[.int .i64 p.key, .int .i64 p.val]) hs rfl rfl rfl rfl ?_
  intro b4 w hs
  refine ns_done ?_
  refine WP_seq ?_ -- S1
  refine WP_seq ?_
  -- R1
  refine WP_seqr [⟨0, 0, []⟩, ⟨1, 0, []⟩, ⟨2, 0, []⟩, ⟨3, 1, []⟩, ⟨4, 0, []⟩] (by kernel_rfl) ?_
  refine ns_move rfl rfl ?_
  refine ns_nil rfl rfl rfl ?_
  refine ns_fld fo_87_2 rfl rfl rfl ?_
  refine ns_ldB pl_85 hs rfl rfl rfl (by rfl) ?_
  refine ns_peq false pt_85 rfl rfl rfl rfl (by simp [cmpP]) ?_
  refine ns_done ?_
  refine WP_false rfl ?_ -- if1
  refine WP_skip ?_
  -- R2
  refine WP_net hs mix [0, 1, 3, 7, 0, 0, 48, 0, 255] [⟨0, 0, []⟩, ⟨1, 0, []⟩, ⟨2, 0, []⟩, ⟨3, 1, []⟩, ⟨5, 1, []⟩, ⟨7, 0, []⟩, ⟨4, 2, [3, 5]⟩, ⟨6, 2, [3]⟩, ⟨8, 2, []⟩] (by kernel_rfl) ?_
  intro w hs
  refine ns_move rfl rfl ?_
  refine ns_nil rfl rfl rfl ?_
  refine ns_fld fo_87_2 rfl rfl rfl ?_
  refine ns_ldB pl_85 hs rfl rfl rfl (by rfl) ?_
  refine ns_ldAB [.int .i64 p.key, .int .i64 p.val] ag_45 hs rfl rfl rfl (by rfl) (by rfl) (by decide) ?_
  refine ns_move rfl rfl ?_
  refine ns_callK f77_ok ck_77 (hs.foc 1) rfl rfl rfl rfl ?_
  refine fun v15 w hs => ?_
  replace hs := hs.pure
  obtain ⟨rfl, hs⟩ := hs
  refine ⟨⟨hs.c b 2, St.cells (n := 2) (b := b4) (o := 0) hs (by rfl), trivial⟩, ?_⟩
  refine ns_callK (f78_ok p) ck_78 (hs.foc 1) rfl rfl rfl rfl ?_
  refine fun v17 w hs => ?_
  replace hs := hs.pure
  obtain ⟨rfl, hs⟩ := hs
  refine ⟨⟨hs.c b 2, trivial⟩, ?_⟩
  refine ns_call (f76a_ok c fl (d - 1) (2 * d - 1) vb most none (some p) false (by omega) (by simp) h rb t false acc hg.1 hg.2.1 (by rw [hg.2.2.1]; exact hg.2.2.2.1) (by rw [hg.2.2.1]; exact hal)) ck_76 (hs.foc (Tp c h t rb * (Ctx c fl * VisP vb acc most))) rfl rfl rfl rfl ?_
  intro v19 w hs
  unfold ItP at hs
  replace hs := hs.ex
  obtain ⟨⟨hit2, ok2, acc2⟩, hs⟩ := hs
  replace hs := hs.pu
  obtain ⟨⟨rfl, q1⟩, hs⟩ := hs
  rw [hg.2.2.1] at q1
  obtain rfl : acc2 = (feed most acc (sel none (some p) l)).1 := q1.1
  simp only [mul_assoc'] at hs
  refine ns_done ?_
  have hs := hs.fold (bt_tree (c := c) (b := b) (rb := rb) (n := l.length) hg rfl)
  exact ⟨_, res0, hs.out⟩
theorem f60_ok (c fl d b vb : Nat) (p : It) (most : Int) (acc : List It) (l : List It) (hd2 : d ≤ 1000) (hal : acc.length + l.length < 1000000) : Tri Try.prog 60 #[ptr b, itV p, seeV vb] (BT c d b l * (Ctx c fl * VisP vb acc most)) fun _ => BT c d b l * (Ctx c fl * VisP vb (feed most acc (sel none (some p) l)).1 most) := by
  intro w0 F w hs
  rw [mul_assoc'] at hs
  replace hs := St.bt hs
  rcases hs with ⟨rfl, hs⟩ | ⟨h, t, rb, hg, hs⟩
  · exact f60_n c fl d b vb p most acc w0 F w (hs.eq (by ac_rfl))
  · exact f60_t c fl d b vb h rb p most acc t l hg hd2 hal w0 F w (hs.eq (by ac_rfl))
theorem f61_n (c fl d b vb : Nat) (p : It) (q : It) (most : Int) (acc : List It) : Tri Try.prog 61 #[ptr b, itV p, itV q, seeV vb] (BtN c d b * (Ctx c fl * VisP vb acc most)) fun _ => BT c d b [] * (Ctx c fl * VisP vb acc most) := by
  intro w0 F w hs
  unfold BtN at hs
  simp only [mul_assoc'] at hs
  refine calls_WP 23 #[] Try.func61 rfl Try.ntmps61 rfl (Nat.le_of_ble_eq_true rfl) ?_
  refine WP_seq ?_
  -- R0
  refine WP_seqr [⟨0, 2, []⟩, ⟨1, 2, []⟩] (by kernel_rfl) ?_
  refine ns_box (#[.int .i64 p.key, .int .i64 p.val]) hs rfl rfl rfl rfl ?_
  intro b5 w hs
  refine ns_box (#[.int .i64 q.key, .int .i64 q.val]) hs rfl rfl rfl rfl ?_
  intro b6 w hs
  refine ns_done ?_
  refine WP_seq ?_ -- S1
  refine WP_seq ?_
  -- R1
  refine WP_seqr [⟨0, 0, []⟩, ⟨1, 0, []⟩, ⟨2, 0, []⟩, ⟨3, 1, []⟩, ⟨4, 0, []⟩] (by kernel_rfl) ?_
  refine ns_move rfl rfl ?_
  refine ns_nil rfl rfl rfl ?_
  refine ns_fld fo_87_2 rfl rfl rfl ?_
  refine ns_ldB pl_85 hs rfl rfl rfl (by rfl) ?_
  refine ns_peq true pt_85 rfl rfl rfl rfl rfl ?_
  refine ns_done ?_
  refine WP_true rfl ?_ -- if1
  refine WP_ret ?_
  have hs := hs.fold (bt_nil2 c d b)
  exact ⟨_, res0, hs.out⟩
theorem f61_t (c fl d b vb h rb : Nat) (p : It) (q : It) (most : Int) (acc : List It) (t : Tr) (l : List It) (hg : Good d h t l) (hd2 : d ≤ 1000) (hal : acc.length + l.length < 1000000) : Tri Try.prog 61 #[ptr b, itV p, itV q, seeV vb] (pts b (.cells #[.int .i64 d, .int .i64 l.length, ptr rb, ptr c] 87 (0, 0)) * (Tp c h t rb * (Ctx c fl * VisP vb acc most))) fun _ => BT c d b l * (Ctx c fl * VisP vb (feed most acc (sel (some p) (some q) l)).1 most) := by
  intro w0 F w hs
  simp only [mul_assoc'] at hs
  refine calls_WP 23 #[] Try.func61 rfl Try.ntmps61 rfl (Nat.le_of_ble_eq_true rfl) ?_
  refine WP_seq ?_
  -- R0
  refine WP_seqr [⟨0, 2, []⟩, ⟨1, 2, []⟩] (by kernel_rfl) ?_
  refine ns_box (#[.int .i64 p.key, .int .i64 p.val]) hs rfl rfl rfl rfl ?_
  intro b5 w hs
  refine ns_box (#[.int .i64 q.key, .int .i64 q.val]) hs rfl rfl rfl rfl ?_
  intro b6 w hs
  refine ns_done ?_
  refine WP_seq ?_ -- S1
  refine WP_seq ?_
  -- R1
  refine WP_seqr [⟨0, 0, []⟩, ⟨1, 0, []⟩, ⟨2, 0, []⟩, ⟨3, 1, []⟩, ⟨4, 0, []⟩] (by kernel_rfl) ?_
  refine ns_move rfl rfl ?_
  refine ns_nil rfl rfl rfl ?_
  refine ns_fld fo_87_2 rfl rfl rfl ?_
  refine ns_ldB pl_85 hs rfl rfl rfl (by rfl) ?_
  refine ns_peq false pt_85 rfl rfl rfl rfl (by simp [cmpP]) ?_
  refine ns_done ?_
  refine WP_false rfl ?_ -- if1
  refine WP_skip ?_
  -- R2
  refine WP_net hs mix [0, 1, 3, 7, 0, 16, 0, 112, 0, 511] [⟨0, 0, []⟩, ⟨1, 0, []⟩, ⟨2, 0, []⟩, ⟨3, 1, []⟩, ⟨4, 1, []⟩, ⟨6, 1, []⟩, ⟨8, 0, []⟩, ⟨5, 2, [3, 6]⟩, ⟨7, 2, [3]⟩, ⟨9, 2, []⟩] (by kernel_rfl) ?_
  intro w hs
  refine ns_move rfl rfl ?_
  refine ns_nil rfl rfl rfl ?_
  refine ns_fld fo_87_2 rfl rfl rfl ?_
  refine ns_ldB pl_85 hs rfl rfl rfl (by rfl) ?_
  refine ns_ldAB [.int .i64 p.key, .int .i64 p.val] ag_45 hs rfl rfl rfl (by rfl) (by rfl) (by decide) ?_
  refine ns_ldAB [.int .i64 q.key, .int .i64 q.val] ag_45 hs rfl rfl rfl (by rfl) (by rfl) (by decide) ?_
  refine ns_move rfl rfl ?_
  refine ns_callK (f78_ok p) ck_78 (hs.foc 1) rfl rfl rfl rfl ?_
  refine fun v18 w hs => ?_
  replace hs := hs.pure
  obtain ⟨rfl, hs⟩ := hs
  refine ⟨⟨hs.c b 2, St.cells (n := 2) (b := b6) (o := 0) hs (by rfl), trivial⟩, ?_⟩
  refine ns_callK (f78_ok q) ck_78 (hs.foc 1) rfl rfl rfl rfl ?_
  refine fun v20 w hs => ?_
  replace hs := hs.pure
  obtain ⟨rfl, hs⟩ := hs
  refine ⟨⟨hs.c b 2, trivial⟩, ?_⟩
  refine ns_call (f76a_ok c fl (d - 1) (2 * d - 1) vb most (some p) (some q) true (by omega) (by simp) h rb t false acc hg.1 hg.2.1 (by rw [hg.2.2.1]; exact hg.2.2.2.1) (by rw [hg.2.2.1]; exact hal)) ck_76 (hs.foc (Tp c h t rb * (Ctx c fl * VisP vb acc most))) rfl rfl rfl rfl ?_
  intro v22 w hs
  unfold ItP at hs
  replace hs := hs.ex
  obtain ⟨⟨hit2, ok2, acc2⟩, hs⟩ := hs
  replace hs := hs.pu
  obtain ⟨⟨rfl, q1⟩, hs⟩ := hs
  rw [hg.2.2.1] at q1
  obtain rfl : acc2 = (feed most acc (sel (some p) (some q) l)).1 := q1.1
  simp only [mul_assoc'] at hs
  refine ns_done ?_
  have hs := hs.fold (bt_tree (c := c) (b := b) (rb := rb) (n := l.length) hg rfl)
  exact ⟨_, res0, hs.out⟩
theorem f61_ok (c fl d b vb : Nat) (p : It) (q : It) (most : Int) (acc : List It) (l : List It) (hd2 : d ≤ 1000) (hal : acc.length + l.length < 1000000) : Tri Try.prog 61 #[ptr b, itV p, itV q, seeV vb] (BT c d b l * (Ctx c fl * VisP vb acc most)) fun _ => BT c d b l * (Ctx c fl * VisP vb (feed most acc (sel (some p) (some q) l)).1 most) := by
  intro w0 F w hs
  rw [mul_assoc'] at hs
  replace hs := St.bt hs
  rcases hs with ⟨rfl, hs⟩ | ⟨h, t, rb, hg, hs⟩
  · exact f61_n c fl d b vb p q most acc w0 F w (hs.eq (by ac_rfl))
  · exact f61_t c fl d b vb h rb p q most acc t l hg hd2 hal w0 F w (hs.eq (by ac_rfl))
theorem f62_n (c fl d b vb : Nat) (most : Int) (acc : List It) : Tri Try.prog 62 #[ptr b, seeV vb] (BtN c d b * (Ctx c fl * VisP vb acc most)) fun _ => BT c d b [] * (Ctx c fl * VisP vb acc most) := by
  intro w0 F w hs
  unfold BtN at hs
  simp only [mul_assoc'] at hs
  refine calls_WP 17 #[] Try.func62 rfl Try.ntmps62 rfl (Nat.le_of_ble_eq_true rfl) ?_
  refine WP_seq ?_ -- S1
  refine WP_seq ?_
  -- R0
  refine WP_seqr [⟨0, 0, []⟩, ⟨1, 0, []⟩, ⟨2, 0, []⟩, ⟨3, 1, []⟩, ⟨4, 0, []⟩] (by kernel_rfl) ?_
  refine ns_move rfl rfl ?_
  refine ns_nil rfl rfl rfl ?_
  refine ns_fld fo_87_2 rfl rfl rfl ?_
  refine ns_ldB pl_85 hs rfl rfl rfl (by rfl) ?_
  refine ns_peq true pt_85 rfl rfl rfl rfl rfl ?_
  refine ns_done ?_
  refine WP_true rfl ?_ -- if1
  refine WP_ret ?_
  have hs := hs.fold (bt_nil2 c d b)
  exact ⟨_, res0, hs.out⟩
theorem f62_t (c fl d b vb h rb : Nat) (most : Int) (acc : List It) (t : Tr) (l : List It) (hg : Good d h t l) (hd2 : d ≤ 1000) (hal : acc.length + l.length < 1000000) : Tri Try.prog 62 #[ptr b, seeV vb] (pts b (.cells #[.int .i64 d, .int .i64 l.length, ptr rb, ptr c] 87 (0, 0)) * (Tp c h t rb * (Ctx c fl * VisP vb acc most))) fun _ => BT c d b l * (Ctx c fl * VisP vb (feed most acc (selD none none l.reverse)).1 most) := by
  intro w0 F w hs
  simp only [mul_assoc'] at hs
  refine calls_WP 17 #[] Try.func62 rfl Try.ntmps62 rfl (Nat.le_of_ble_eq_true rfl) ?_
  refine WP_seq ?_ -- S1
  refine WP_seq ?_
  -- R0
  refine WP_seqr [⟨0, 0, []⟩, ⟨1, 0, []⟩, ⟨2, 0, []⟩, ⟨3, 1, []⟩, ⟨4, 0, []⟩] (by kernel_rfl) ?_
  refine ns_move rfl rfl ?_
  refine ns_nil rfl rfl rfl ?_
  refine ns_fld fo_87_2 rfl rfl rfl ?_
  refine ns_ldB pl_85 hs rfl rfl rfl (by rfl) ?_
  refine ns_peq false pt_85 rfl rfl rfl rfl (by simp [cmpP]) ?_
  refine ns_done ?_
  refine WP_false rfl ?_ -- if1
  refine WP_skip ?_
  -- R1
  refine WP_net hs mix [0, 1, 3, 7, 0, 16, 0, 127] [⟨0, 0, []⟩, ⟨1, 0, []⟩, ⟨2, 0, []⟩, ⟨3, 1, []⟩, ⟨6, 0, []⟩, ⟨4, 2, [3]⟩, ⟨5, 2, [3]⟩, ⟨7, 2, []⟩] (by kernel_rfl) ?_
  intro w hs
  refine ns_move rfl rfl ?_
  refine ns_nil rfl rfl rfl ?_
  refine ns_fld fo_87_2 rfl rfl rfl ?_
  refine ns_ldB pl_85 hs rfl rfl rfl (by rfl) ?_
  refine ns_move rfl rfl ?_
  refine ns_callK f77_ok ck_77 (hs.foc 1) rfl rfl rfl rfl ?_
  refine fun v13 w hs => ?_
  replace hs := hs.pure
  obtain ⟨rfl, hs⟩ := hs
  refine ⟨⟨hs.c b 2, trivial⟩, ?_⟩
  refine ns_callK f77_ok ck_77 (hs.foc 1) rfl rfl rfl rfl ?_
  refine fun v14 w hs => ?_
  replace hs := hs.pure
  obtain ⟨rfl, hs⟩ := hs
  refine ⟨⟨hs.c b 2, trivial⟩, ?_⟩
  refine ns_call (f76d_ok c fl (d - 1) (2 * d - 1) vb most none none false (by omega) (by simp) h rb t false acc hg.1 hg.2.1 (by rw [hg.2.2.1]; exact hg.2.2.2.1) (by rw [hg.2.2.1]; exact hal) (fun e => by cases e)) ck_76 (hs.foc (Tp c h t rb * (Ctx c fl * VisP vb acc most))) rfl rfl rfl rfl ?_
  intro v16 w hs
  unfold ItQ at hs
  replace hs := hs.ex
  obtain ⟨⟨hit2, ok2, acc2⟩, hs⟩ := hs
  replace hs := hs.pu
  obtain ⟨⟨rfl, q1⟩, hs⟩ := hs
  rw [hg.2.2.1] at q1
  obtain rfl : acc2 = (feed most acc (selD none none l.reverse)).1 := q1.1
  simp only [mul_assoc'] at hs
  refine ns_done ?_
  have hs := hs.fold (bt_tree (c := c) (b := b) (rb := rb) (n := l.length) hg rfl)
  exact ⟨_, res0, hs.out⟩
theorem f62_ok (c fl d b vb : Nat) (most : Int) (acc : List It) (l : List It) (hd2 : d ≤ 1000) (hal : acc.length + l.length < 1000000) : Tri Try.prog 62 #[ptr b, seeV vb] (BT c d b l * (Ctx c fl * VisP vb acc most)) fun _ => BT c d b l * (Ctx c fl * VisP vb (feed most acc (selD none none l.reverse)).1 most) := by
  intro w0 F w hs
  rw [mul_assoc'] at hs
  replace hs := St.bt hs
  rcases hs with ⟨rfl, hs⟩ | ⟨h, t, rb, hg, hs⟩
  · exact f62_n c fl d b vb most acc w0 F w (hs.eq (by ac_rfl))
  · exact f62_t c fl d b vb h rb most acc t l hg hd2 hal w0 F w (hs.eq (by ac_rfl))
theorem f63_n (c fl d b vb : Nat) (p : It) (most : Int) (acc : List It) : Tri Try.prog 63 #[ptr b, itV p, seeV vb] (BtN c d b * (Ctx c fl * VisP vb acc most)) fun _ => BT c d b [] * (Ctx c fl * VisP vb acc most) := by
  intro w0 F w hs
  unfold BtN at hs
  simp only [mul_assoc'] at hs
  refine calls_WP 20 #[] Try.func63 rfl Try.ntmps63 rfl (Nat.le_of_ble_eq_true rfl) ?_
  refine WP_seq ?_
  -- R0
  refine WP_seqr [⟨0, 2, []⟩] (by kernel_rfl) ?_
  refine ns_box (#[.int .i64 p.key, .int .i64 p.val]) hs rfl rfl rfl rfl ?_
  intro b4 w hs
  refine ns_done ?_
  refine WP_seq ?_ -- S1
  refine WP_seq ?_
  -- R1
  refine WP_seqr [⟨0, 0, []⟩, ⟨1, 0, []⟩, ⟨2, 0, []⟩, ⟨3, 1, []⟩, ⟨4, 0, []⟩] (by kernel_rfl) ?_
  refine ns_move rfl rfl ?_
  refine ns_nil rfl rfl rfl ?_
  refine ns_fld fo_87_2 rfl rfl rfl ?_
  refine ns_ldB pl_85 hs rfl rfl rfl (by rfl) ?_
  refine ns_peq true pt_85 rfl rfl rfl rfl rfl ?_
  refine ns_done ?_
  refine WP_true rfl ?_ -- if1
  refine WP_ret ?_
  have hs := hs.fold (bt_nil2 c d b)
  exact ⟨_, res0, hs.out⟩
theorem f63_t (c fl d b vb h rb : Nat) (p : It) (most : Int) (acc : List It) (t : Tr) (l : List It) (hg : Good d h t l) (hd2 : d ≤ 1000) (hal : acc.length + l.length < 1000000) : Tri Try.prog 63 #[ptr b, itV p, seeV vb] (pts b (.cells #[.int .i64 d, .int .i64 l.length, ptr rb, ptr c] 87 (0, 0)) * (Tp c h t rb * (Ctx c fl * VisP vb acc most))) fun _ => BT c d b l * (Ctx c fl * VisP vb (feed most acc (selD (some p) none l.reverse)).1 most) := by
  intro w0 F w hs
  simp only [mul_assoc'] at hs
  refine calls_WP 20 #[] Try.func63 rfl Try.ntmps63 rfl (Nat.le_of_ble_eq_true rfl) ?_
  refine WP_seq ?_
  -- R0
  refine WP_seqr [⟨0, 2, []⟩] (by kernel_rfl) ?_
  refine ns_box (#[.int .i64 p.key, .int .i64 p.val]) hs rfl rfl rfl rfl ?_
  intro b4 w hs
  refine ns_done ?_
  refine WP_seq ?_ -- S1
  refine WP_seq ?_
  -- R1
  refine WP_seqr [⟨0, 0, []⟩, ⟨1, 0, []⟩, ⟨2, 0, []⟩, ⟨3, 1, []⟩, ⟨4, 0, []⟩] (by kernel_rfl) ?_
  refine ns_move rfl rfl ?_
  refine ns_nil rfl rfl rfl ?_
  refine ns_fld fo_87_2 rfl rfl rfl ?_
  refine ns_ldB pl_85 hs rfl rfl rfl (by rfl) ?_
  refine ns_peq false pt_85 rfl rfl rfl rfl (by simp [cmpP]) ?_
  refine ns_done ?_
  refine WP_false rfl ?_ -- if1
  refine WP_skip ?_
  -- R2
  refine WP_net hs mix [0, 1, 3, 7, 0, 16, 48, 0, 255] [⟨0, 0, []⟩, ⟨1, 0, []⟩, ⟨2, 0, []⟩, ⟨3, 1, []⟩, ⟨4, 1, []⟩, ⟨7, 0, []⟩, ⟨5, 2, [3]⟩, ⟨6, 2, [3]⟩, ⟨8, 2, []⟩] (by kernel_rfl) ?_
  intro w hs
  refine ns_move rfl rfl ?_
  refine ns_nil rfl rfl rfl ?_
  refine ns_fld fo_87_2 rfl rfl rfl ?_
  refine ns_ldB pl_85 hs rfl rfl rfl (by rfl) ?_
  refine ns_ldAB [.int .i64 p.key, .int .i64 p.val] ag_45 hs rfl rfl rfl (by rfl) (by rfl) (by decide) ?_
  refine ns_move rfl rfl ?_
  refine ns_callK (f78_ok p) ck_78 (hs.foc 1) rfl rfl rfl rfl ?_
  refine fun v16 w hs => ?_
  replace hs := hs.pure
  obtain ⟨rfl, hs⟩ := hs
  refine ⟨⟨hs.c b 2, trivial⟩, ?_⟩
  refine ns_callK f77_ok ck_77 (hs.foc 1) rfl rfl rfl rfl ?_
  refine fun v17 w hs => ?_
  replace hs := hs.pure
  obtain ⟨rfl, hs⟩ := hs
  refine ⟨⟨hs.c b 2, trivial⟩, ?_⟩
  refine ns_call (f76d_ok c fl (d - 1) (2 * d - 1) vb most (some p) none true (by omega) (by simp) h rb t false acc hg.1 hg.2.1 (by rw [hg.2.2.1]; exact hg.2.2.2.1) (by rw [hg.2.2.1]; exact hal) (fun e => by cases e)) ck_76 (hs.foc (Tp c h t rb * (Ctx c fl * VisP vb acc most))) rfl rfl rfl rfl ?_
  intro v19 w hs
  unfold ItQ at hs
  replace hs := hs.ex
  obtain ⟨⟨hit2, ok2, acc2⟩, hs⟩ := hs
  replace hs := hs.pu
  obtain ⟨⟨rfl, q1⟩, hs⟩ := hs
  rw [hg.2.2.1] at q1
  obtain rfl : acc2 = (feed most acc (selD (some p) none l.reverse)).1 := q1.1
  simp only [mul_assoc'] at hs
  refine ns_done ?_
  have hs := hs.fold (bt_tree (c := c) (b := b) (rb := rb) (n := l.length) hg rfl)
  exact ⟨_, res0, hs.out⟩
theorem f63_ok (c fl d b vb : Nat) (p : It) (most : Int) (acc : List It) (l : List It) (hd2 : d ≤ 1000) (hal : acc.length + l.length < 1000000) : Tri Try.prog 63 #[ptr b, itV p, seeV vb] (BT c d b l * (Ctx c fl * VisP vb acc most)) fun _ => BT c d b l * (Ctx c fl * VisP vb (feed most acc (selD (some p) none l.reverse)).1 most) := by
  intro w0 F w hs
  rw [mul_assoc'] at hs
  replace hs := St.bt hs
  rcases hs with ⟨rfl, hs⟩ | ⟨h, t, rb, hg, hs⟩
  · exact f63_n c fl d b vb p most acc w0 F w (hs.eq (by ac_rfl))
  · exact f63_t c fl d b vb h rb p most acc t l hg hd2 hal w0 F w (hs.eq (by ac_rfl))
theorem f64_n (c fl d b vb : Nat) (p : It) (most : Int) (acc : List It) : Tri Try.prog 64 #[ptr b, itV p, seeV vb] (BtN c d b * (Ctx c fl * VisP vb acc most)) fun _ => BT c d b [] * (Ctx c fl * VisP vb acc most) := by
  intro w0 F w hs
  unfold BtN at hs
  simp only [mul_assoc'] at hs
  refine calls_WP 20 #[] Try.func64 rfl Try.ntmps64 rfl (Nat.le_of_ble_eq_true rfl) ?_
  refine WP_seq ?_
  -- R0
  refine WP_seqr [⟨0, 2, []⟩] (by kernel_rfl) ?_
  refine ns_box (#[.int .i64 p.key, .int .i64 p.val]) hs rfl rfl rfl rfl ?_
  intro b4 w hs
  refine ns_done ?_
  refine WP_seq ?_ -- S1
  refine WP_seq ?_
  -- R1
  refine WP_seqr [⟨0, 0, []⟩, ⟨1, 0, []⟩, ⟨2, 0, []⟩, ⟨3, 1, []⟩, ⟨4, 0, []⟩] (by kernel_rfl) ?_
  refine ns_move rfl rfl ?_
  refine ns_nil rfl rfl rfl ?_
  refine ns_fld fo_87_2 rfl rfl rfl ?_
  refine ns_ldB pl_85 hs rfl rfl rfl (by rfl) ?_
  refine ns_peq true pt_85 rfl rfl rfl rfl rfl ?_
  refine ns_done ?_
  refine WP_true rfl ?_ -- if1
  refine WP_ret ?_
  have hs := hs.fold (bt_nil2 c d b)
  exact ⟨_, res0, hs.out⟩
theorem f64_t (c fl d b vb h rb : Nat) (p : It) (most : Int) (acc : List It) (t : Tr) (l : List It) (hg : Good d h t l) (hd2 : d ≤ 1000) (hal : acc.length + l.length < 1000000) : Tri Try.prog 64 #[ptr b, itV p, seeV vb] (pts b (.cells #[.int .i64 d, .int .i64 l.length, ptr rb, ptr c] 87 (0, 0)) * (Tp c h t rb * (Ctx c fl * VisP vb acc most))) fun _ => BT c d b l * (Ctx c fl * VisP vb (feed most acc (selD none (some p) l.reverse)).1 most) := by
  intro w0 F w hs
  simp only [mul_assoc'] at hs
  refine calls_WP 20 #[] Try.func64 rfl Try.ntmps64 rfl (Nat.le_of_ble_eq_true rfl) ?_
  refine WP_seq ?_
  -- R0
  refine WP_seqr [⟨0, 2, []⟩] (by kernel_rfl) ?_
  refine ns_box (#[.int .i64 p.key, .int .i64 p.val]) hs rfl rfl rfl rfl ?_
  intro b4 w hs
  refine ns_done ?_
  refine WP_seq ?_ -- S1
  refine WP_seq ?_
  -- R1
  refine WP_seqr [⟨0, 0, []⟩, ⟨1, 0, []⟩, ⟨2, 0, []⟩, ⟨3, 1, []⟩, ⟨4, 0, []⟩] (by kernel_rfl) ?_
  refine ns_move rfl rfl ?_
  refine ns_nil rfl rfl rfl ?_
  refine ns_fld fo_87_2 rfl rfl rfl ?_
  refine ns_ldB pl_85 hs rfl rfl rfl (by rfl) ?_
  refine ns_peq false pt_85 rfl rfl rfl rfl (by simp [cmpP]) ?_
  refine ns_done ?_
  refine WP_false rfl ?_ -- if1
  refine WP_skip ?_
  -- R2
  refine WP_net hs mix [0, 1, 3, 7, 0, 0, 48, 0, 255] [⟨0, 0, []⟩, ⟨1, 0, []⟩, ⟨2, 0, []⟩, ⟨3, 1, []⟩, ⟨5, 1, []⟩, ⟨7, 0, []⟩, ⟨4, 2, [3, 5]⟩, ⟨6, 2, [3]⟩, ⟨8, 2, []⟩] (by kernel_rfl) ?_
  intro w hs
  refine ns_move rfl rfl ?_
  refine ns_nil rfl rfl rfl ?_
  refine ns_fld fo_87_2 rfl rfl rfl ?_
  refine ns_ldB pl_85 hs rfl rfl rfl (by rfl) ?_
  refine ns_ldAB [.int .i64 p.key, .int .i64 p.val] ag_45 hs rfl rfl rfl (by rfl) (by rfl) (by decide) ?_
  refine ns_move rfl rfl ?_
  refine ns_callK f77_ok ck_77 (hs.foc 1) rfl rfl rfl rfl ?_
  refine fun v15 w hs => ?_
  replace hs := hs.pure
  obtain ⟨rfl, hs⟩ := hs
  refine ⟨⟨hs.c b 2, St.cells (n := 2) (b := b4) (o := 0) hs (by rfl), trivial⟩, ?_⟩
  refine ns_callK (f78_ok p) ck_78 (hs.foc 1) rfl rfl rfl rfl ?_
  refine fun v17 w hs => ?_
  replace hs := hs.pure
  obtain ⟨rfl, hs⟩ := hs
  refine ⟨⟨hs.c b 2, trivial⟩, ?_⟩
  refine ns_call (f76d_ok c fl (d - 1) (2 * d - 1) vb most none (some p) false (by omega) (by simp) h rb t false acc hg.1 hg.2.1 (by rw [hg.2.2.1]; exact hg.2.2.2.1) (by rw [hg.2.2.1]; exact hal) (fun e => by cases e)) ck_76 (hs.foc (Tp c h t rb * (Ctx c fl * VisP vb acc most))) rfl rfl rfl rfl ?_
  intro v19 w hs
  unfold ItQ at hs
  replace hs := hs.ex
  obtain ⟨⟨hit2, ok2, acc2⟩, hs⟩ := hs
  replace hs := hs.pu
  obtain ⟨⟨rfl, q1⟩, hs⟩ := hs
  rw [hg.2.2.1] at q1
  obtain rfl : acc2 = (feed most acc (selD none (some p) l.reverse)).1 := q1.1
  simp only [mul_assoc'] at hs
  refine ns_done ?_
  have hs := hs.fold (bt_tree (c := c) (b := b) (rb := rb) (n := l.length) hg rfl)
  exact ⟨_, res0, hs.out⟩
theorem f64_ok (c fl d b vb : Nat) (p : It) (most : Int) (acc : List It) (l : List It) (hd2 : d ≤ 1000) (hal : acc.length + l.length < 1000000) : Tri Try.prog 64 #[ptr b, itV p, seeV vb] (BT c d b l * (Ctx c fl * VisP vb acc most)) fun _ => BT c d b l * (Ctx c fl * VisP vb (feed most acc (selD none (some p) l.reverse)).1 most) := by
  intro w0 F w hs
  rw [mul_assoc'] at hs
  replace hs := St.bt hs
  rcases hs with ⟨rfl, hs⟩ | ⟨h, t, rb, hg, hs⟩
  · exact f64_n c fl d b vb p most acc w0 F w (hs.eq (by ac_rfl))
  · exact f64_t c fl d b vb h rb p most acc t l hg hd2 hal w0 F w (hs.eq (by ac_rfl))
theorem f65_n (c fl d b vb : Nat) (p : It) (q : It) (most : Int) (acc : List It) : Tri Try.prog 65 #[ptr b, itV p, itV q, seeV vb] (BtN c d b * (Ctx c fl * VisP vb acc most)) fun _ => BT c d b [] * (Ctx c fl * VisP vb acc most) := by
  intro w0 F w hs
  unfold BtN at hs
  simp only [mul_assoc'] at hs
  refine calls_WP 23 #[] Try.func65 rfl Try.ntmps65 rfl (Nat.le_of_ble_eq_true rfl) ?_
  refine WP_seq ?_
  -- R0
  refine WP_seqr [⟨0, 2, []⟩, ⟨1, 2, []⟩] (by kernel_rfl) ?_
  refine ns_box (#[.int .i64 p.key, .int .i64 p.val]) hs rfl rfl rfl rfl ?_
  intro b5 w hs
  refine ns_box (#[.int .i64 q.key, .int .i64 q.val]) hs rfl rfl rfl rfl ?_
  intro b6 w hs
  refine ns_done ?_
  refine WP_seq ?_ -- S1
  refine WP_seq ?_
  -- R1
  refine WP_seqr [⟨0, 0, []⟩, ⟨1, 0, []⟩, ⟨2, 0, []⟩, ⟨3, 1, []⟩, ⟨4, 0, []⟩] (by kernel_rfl) ?_
  refine ns_move rfl rfl ?_
  refine ns_nil rfl rfl rfl ?_
  refine ns_fld fo_87_2 rfl rfl rfl ?_
  refine ns_ldB pl_85 hs rfl rfl rfl (by rfl) ?_
  refine ns_peq true pt_85 rfl rfl rfl rfl rfl ?_
  refine ns_done ?_
  refine WP_true rfl ?_ -- if1
  refine WP_ret ?_
  have hs := hs.fold (bt_nil2 c d b)
  exact ⟨_, res0, hs.out⟩
theorem f65_t (c fl d b vb h rb : Nat) (p : It) (q : It) (most : Int) (acc : List It) (t : Tr) (l : List It) (hg : Good d h t l) (hd2 : d ≤ 1000) (hal : acc.length + l.length < 1000000) : Tri Try.prog 65 #[ptr b, itV p, itV q, seeV vb] (pts b (.cells #[.int .i64 d, .int .i64 l.length, ptr rb, ptr c] 87 (0, 0)) * (Tp c h t rb * (Ctx c fl * VisP vb acc most))) fun _ => BT c d b l * (Ctx c fl * VisP vb (feed most acc (selD (some p) (some q) l.reverse)).1 most) := by
  intro w0 F w hs
  simp only [mul_assoc'] at hs
  refine calls_WP 23 #[] Try.func65 rfl Try.ntmps65 rfl (Nat.le_of_ble_eq_true rfl) ?_
  refine WP_seq ?_
  -- R0
  refine WP_seqr [⟨0, 2, []⟩, ⟨1, 2, []⟩] (by kernel_rfl) ?_
  refine ns_box (#[.int .i64 p.key, .int .i64 p.val]) hs rfl rfl rfl rfl ?_
  intro b5 w hs
  refine ns_box (#[.int .i64 q.key, .int .i64 q.val]) hs rfl rfl rfl rfl ?_
  intro b6 w hs
  refine ns_done ?_
  refine WP_seq ?_ -- S1
  refine WP_seq ?_
  -- R1
  refine WP_seqr [⟨0, 0, []⟩, ⟨1, 0, []⟩, ⟨2, 0, []⟩, ⟨3, 1, []⟩, ⟨4, 0, []⟩] (by kernel_rfl) ?_
  refine ns_move rfl rfl ?_
  refine ns_nil rfl rfl rfl ?_
  refine ns_fld fo_87_2 rfl rfl rfl ?_
  refine ns_ldB pl_85 hs rfl rfl rfl (by rfl) ?_
  refine ns_peq false pt_85 rfl rfl rfl rfl (by simp [cmpP]) ?_
  refine ns_done ?_
  refine WP_false rfl ?_ -- if1
  refine WP_skip ?_
  -- R2
  refine WP_net hs mix [0, 1, 3, 7, 0, 16, 0, 112, 0, 511] [⟨0, 0, []⟩, ⟨1, 0, []⟩, ⟨2, 0, []⟩, ⟨3, 1, []⟩, ⟨4, 1, []⟩, ⟨6, 1, []⟩, ⟨8, 0, []⟩, ⟨5, 2, [3, 6]⟩, ⟨7, 2, [3]⟩, ⟨9, 2, []⟩] (by kernel_rfl) ?_
  intro w hs
  refine ns_move rfl rfl ?_
  refine ns_nil rfl rfl rfl ?_
  refine ns_fld fo_87_2 rfl rfl rfl ?_
  refine ns_ldB pl_85 hs rfl rfl rfl (by rfl) ?_
  refine ns_ldAB [.int .i64 p.key, .int .i64 p.val] ag_45 hs rfl rfl rfl (by rfl) (by rfl) (by decide) ?_
  refine ns_ldAB [.int .i64 q.key, .int .i64 q.val] ag_45 hs rfl rfl rfl (by rfl) (by rfl) (by decide) ?_
  refine ns_move rfl rfl ?_
  refine ns_callK (f78_ok p) ck_78 (hs.foc 1) rfl rfl rfl rfl ?_
  refine fun v18 w hs => ?_
  replace hs := hs.pure
  obtain ⟨rfl, hs⟩ := hs
  refine ⟨⟨hs.c b 2, St.cells (n := 2) (b := b6) (o := 0) hs (by rfl), trivial⟩, ?_⟩
  refine ns_callK (f78_ok q) ck_78 (hs.foc 1) rfl rfl rfl rfl ?_
  refine fun v20 w hs => ?_
  replace hs := hs.pure
  obtain ⟨rfl, hs⟩ := hs
  refine ⟨⟨hs.c b 2, trivial⟩, ?_⟩
  refine ns_call (f76d_ok c fl (d - 1) (2 * d - 1) vb most (some p) (some q) true (by omega) (by simp) h rb t false acc hg.1 hg.2.1 (by rw [hg.2.2.1]; exact hg.2.2.2.1) (by rw [hg.2.2.1]; exact hal) (fun e => by cases e)) ck_76 (hs.foc (Tp c h t rb * (Ctx c fl * VisP vb acc most))) rfl rfl rfl rfl ?_
  intro v22 w hs
  unfold ItQ at hs
  replace hs := hs.ex
  obtain ⟨⟨hit2, ok2, acc2⟩, hs⟩ := hs
  replace hs := hs.pu
  obtain ⟨⟨rfl, q1⟩, hs⟩ := hs
  rw [hg.2.2.1] at q1
  obtain rfl : acc2 = (feed most acc (selD (some p) (some q) l.reverse)).1 := q1.1
  simp only [mul_assoc'] at hs
  refine ns_done ?_
  have hs := hs.fold (bt_tree (c := c) (b := b) (rb := rb) (n := l.length) hg rfl)
  exact ⟨_, res0, hs.out⟩
theorem f65_ok (c fl d b vb : Nat) (p : It) (q : It) (most : Int) (acc : List It) (l : List It) (hd2 : d ≤ 1000) (hal : acc.length + l.length < 1000000) : Tri Try.prog 65 #[ptr b, itV p, itV q, seeV vb] (BT c d b l * (Ctx c fl * VisP vb acc most)) fun _ => BT c d b l * (Ctx c fl * VisP vb (feed most acc (selD (some p) (some q) l.reverse)).1 most) := by
  intro w0 F w hs
  rw [mul_assoc'] at hs
  replace hs := St.bt hs
  rcases hs with ⟨rfl, hs⟩ | ⟨h, t, rb, hg, hs⟩
  · exact f65_n c fl d b vb p q most acc w0 F w (hs.eq (by ac_rfl))
  · exact f65_t c fl d b vb h rb p q most acc t l hg hd2 hal w0 F w (hs.eq (by ac_rfl))
end Go.Proofs.Ytnnembkganlbpaa
/- The walk of one step of a script over a tree. -/
namespace Go.Proofs.Ytnnembkganlbpaa
open Go Go.Sl Go.Net Go.Wk Go.Bt Go.RowKit

theorem pp_45 : placesOf Try.prog 45 = some [(0, 1), (1, 1)] := by kernel_rfl
theorem pp_89 : placesOf Try.prog 89 = some [(0, 1), (1, 1)] := by kernel_rfl
def opC (o : Sop) : Array Value := #[.int .i64 o.kind, .int .i64 o.tree, .int .i64 o.key, .int .i64 o.to, .int .i64 o.val, .int .i64 o.cnt]
def opV (o : Sop) : Value := .agg (opC o)
/-- an answer in memory -/
def AnP (a : An) (v : Value) : HProp := AnsP a.ok a.n a.items v
theorem f47_ok (o : Option It) : Tri Try.prog 47 #[itV (o.getD zero), .bool o.isSome] 1 (AnP (oneA o)) := by
  cases o with
  | none => exact f47_no _
  | some x => exact f47_yes x
theorem nilArr : (IArr (.slice none 0 0) [] : HProp) = 1 := Arr.nil 45 2
theorem vis_new (b : Nat) (n : Int) : Ent (pts b (.cells #[.slice none 0 0, .int .i64 n] 89 (0, 0))) (VisP b [] n) := fun x hx => ⟨.slice none 0 0, by
  show (pts b (.cells #[.slice none 0 0, .int .i64 n] 89 (0, 0)) * IArr (.slice none 0 0) []) x
  rw [nilArr, mul_one']; exact hx⟩
theorem an_nil (ok : Bool) (n : Int) : Ent 1 (AnP ⟨ok, n, []⟩ (.agg #[.bool ok, .int .i64 n, .slice none 0 0])) := fun x hx => ⟨.slice none 0 0, by
  show (pu _ * (IArr (.slice none 0 0) [] : HProp)) x
  rw [pu_true rfl]
  rw [nilArr]; exact hx⟩
theorem an_mk (a : An) (s : Value) : Ent (IArr s a.items) (AnP a (.agg #[.bool a.ok, .int .i64 a.n, s])) := fun x hx => ⟨s, by
  show (pu _ * (IArr s a.items : HProp)) x
  rw [pu_true rfl]; exact hx⟩
set_option maxHeartbeats 6400000 in
theorem f46_ok (c fl d b : Nat) (o : Sop) (l : List It) (hd : 2 ≤ d) (hd2 : d ≤ 1000) (hll : l.length < 100000) :
    Tri Try.prog 46 #[ptr b, opV o] (BT c d b l * Ctx c fl) fun v => BT c d b (stepL l o).1 * (Ctx c fl * AnP (stepL l o).2 v) := by
  intro w0 F w hs
  simp only [mul_assoc'] at hs
  refine calls_WP 142 #[.cell 4 36] Try.func46 rfl Try.ntmps46 rfl (Nat.le_of_ble_eq_true rfl) ?_
  refine WP_seq ?_
  -- R0
  refine WP_seqr [⟨0, 2, []⟩, ⟨1, 2, []⟩] (by kernel_rfl) ?_
  refine ns_box (opC o) hs rfl rfl rfl rfl ?_
  intro b3 w hs
  refine ns_alloc zc_36 hs rfl rfl ?_
  intro b4 w hs
  refine ns_done ?_
  refine WP_seq ?_
  -- R1
  refine WP_seqr [⟨0, 0, []⟩, ⟨1, 1, []⟩, ⟨2, 0, []⟩, ⟨3, 2, []⟩, ⟨4, 2, []⟩] (by kernel_rfl) ?_
  refine ns_fld fo_26_5 rfl rfl rfl ?_
  refine ns_ldB pl_2 hs rfl rfl rfl (by rfl) ?_
  refine ns_build [(1, .int .i64 o.cnt)] (#[.slice none 0 0, .int .i64 o.cnt]) pp_89 zc_89 rfl rfl rfl rfl ?_
  refine ns_alloc zc_89 hs rfl rfl ?_
  intro b5 w hs
  refine ns_stA (#[.slice none 0 0, .int .i64 o.cnt]) ag_89 rfl (by decide) hs rfl rfl rfl rfl (by intro u hu; simp at hu; rcases hu with rfl | rfl <;> rfl) (by simp) ?_
  refine fun w hs => ⟨trivial, ?_⟩
  refine ns_done ?_
  have hs : St w0 (pts b5 (.cells #[.slice none 0 0, .int .i64 o.cnt] 89 (0, 0)) * _) w := hs
  have hs := hs.fold (vis_new b5 o.cnt)
  refine WP_seq_cut (fun σ w => ∃ b6 b7, σ 0 = ptr b ∧ σ 3 = .pointer (some ⟨b3, 0, none⟩) ∧ σ 4 = .pointer (some ⟨b4, 0, none⟩) ∧ σ 5 = .pointer (some ⟨b5, 0, none⟩) ∧ σ 6 = .pointer (some ⟨b6, 0, none⟩) ∧ σ 7 = .pointer (some ⟨b7, 0, none⟩) ∧ St w0 (pts b3 (.cells (opC o) 26 (0, 0)) * (pts b4 (.cells #[.bool false, .int .i64 0, .slice none 0 0] 36 (0, 0)) * (VisP b5 [] o.cnt * (pts b6 (.cells #[.int .i64 o.it.key, .int .i64 o.it.val] 45 (0, 0)) * (pts b7 (.cells #[.int .i64 o.it2.key, .int .i64 o.it2.val] 45 (0, 0)) * (BT c d b l * (Ctx c fl * F))))))) w) ?_ ?_ -- R2.cut
  · -- R2
    refine WP_tre hs mix [0, 1, 0, 4, 15, 0, 32, 96, 0, 0, 799, 2047] (.cons ⟨0, 0, []⟩ (.cons ⟨1, 1, []⟩ (.cons ⟨2, 0, []⟩ (.cons ⟨3, 1, []⟩ (.cons ⟨4, 0, []⟩ (.cons ⟨5, 0, []⟩ (.cons ⟨6, 1, []⟩ (.cons ⟨7, 0, []⟩ (.fork ⟨8, 2, [1, 3, 6]⟩ (.cons ⟨9, 2, [1, 3, 6]⟩ (.cons ⟨10, 2, [6]⟩ (.cons ⟨11, 2, []⟩ .nil))) ⟨9, 2, [1, 3, 6]⟩ (.cons ⟨8, 2, [1, 3, 6]⟩ (.cons ⟨10, 2, [6]⟩ (.cons ⟨11, 2, []⟩ .nil)))))))))))) (by kernel_rfl) ?_
    intro w hs
    refine ns_fld fo_26_2 rfl rfl rfl ?_
    refine ns_ldB pl_2 hs rfl rfl rfl (by rfl) ?_
    refine ns_fld fo_26_4 rfl rfl rfl ?_
    refine ns_ldB pl_2 hs rfl rfl rfl (by rfl) ?_
    refine ns_build [(0, .int .i64 o.key), (1, .int .i64 o.val)] (#[.int .i64 o.it.key, .int .i64 o.it.val]) pp_45 zc_45 rfl rfl rfl rfl ?_
    refine ns_fld fo_26_3 rfl rfl rfl ?_
    refine ns_ldB pl_2 hs rfl rfl rfl (by rfl) ?_
    refine ns_build [(0, .int .i64 o.to)] (#[.int .i64 o.it2.key, .int .i64 o.it2.val]) pp_45 zc_45 rfl rfl rfl rfl ?_
    refine ns_fork ?_ ?_
    · refine ns_allocK zc_45 hs rfl rfl ?_
      refine fun b6 w hs hx => ⟨⟨hs.c b3 2, hs.c b3 4, hs.c b3 3, trivial⟩, ?_⟩
      refine ns_allocK zc_45 hs rfl rfl ?_
      refine fun b7 w hs hx => ⟨⟨hs.c b3 2, hs.c b3 4, hs.c b3 3, trivial⟩, ?_⟩
      refine ns_stA (#[.int .i64 o.it.key, .int .i64 o.it.val]) ag_45 rfl (by decide) hs rfl rfl rfl rfl (by intro u hu; simp at hu; rcases hu with rfl | rfl <;> rfl) (by simp) ?_
      refine fun w hs => ⟨⟨hs.c b3 3, trivial⟩, ?_⟩
      refine ns_stA (#[.int .i64 o.it2.key, .int .i64 o.it2.val]) ag_45 rfl (by decide) hs rfl rfl rfl rfl (by intro u hu; simp at hu; rcases hu with rfl | rfl <;> rfl) (by simp) ?_
      refine fun w hs => ⟨trivial, ?_⟩
      refine ns_done ?_
      have hs : St w0 (pts b7 (.cells #[.int .i64 o.it2.key, .int .i64 o.it2.val] 45 (0, 0)) * (pts b6 (.cells #[.int .i64 o.it.key, .int .i64 o.it.val] 45 (0, 0)) * _)) w := hs
      exact ⟨b6, b7, rfl, rfl, rfl, rfl, rfl, rfl, hs.out⟩
    · refine ns_allocK zc_45 hs rfl rfl ?_
      refine fun b7 w hs hx => ⟨⟨hs.c b3 2, hs.c b3 4, hs.c b3 3, trivial⟩, ?_⟩
      refine ns_allocK zc_45 hs rfl rfl ?_
      refine fun b6 w hs hx => ⟨⟨hs.c b3 2, hs.c b3 4, hs.c b3 3, trivial⟩, ?_⟩
      refine ns_stA (#[.int .i64 o.it.key, .int .i64 o.it.val]) ag_45 rfl (by decide) hs rfl rfl rfl rfl (by intro u hu; simp at hu; rcases hu with rfl | rfl <;> rfl) (by simp) ?_
      refine fun w hs => ⟨⟨hs.c b3 3, trivial⟩, ?_⟩
      refine ns_stA (#[.int .i64 o.it2.key, .int .i64 o.it2.val]) ag_45 rfl (by decide) hs rfl rfl rfl rfl (by intro u hu; simp at hu; rcases hu with rfl | rfl <;> rfl) (by simp) ?_
      refine fun w hs => ⟨trivial, ?_⟩
      refine ns_done ?_
      have hs : St w0 (pts b6 (.cells #[.int .i64 o.it.key, .int .i64 o.it.val] 45 (0, 0)) * (pts b7 (.cells #[.int .i64 o.it2.key, .int .i64 o.it2.val] 45 (0, 0)) * _)) w := hs
      exact ⟨b6, b7, rfl, rfl, rfl, rfl, rfl, rfl, hs.out⟩
  rintro σ w ⟨b6, b7, g0, g3, g4, g5, g6, g7, hs⟩
  obtain ⟨σ, rfl⟩ := rebase g0
  obtain ⟨σ, rfl⟩ := rebase (σ := σ) g3
  obtain ⟨σ, rfl⟩ := rebase (σ := σ) g4
  obtain ⟨σ, rfl⟩ := rebase (σ := σ) g5
  obtain ⟨σ, rfl⟩ := rebase (σ := σ) g6
  obtain ⟨σ, rfl⟩ := rebase (σ := σ) g7
  clear g0 g3 g4 g5 g6 g7
  refine WP_seq_cut (fun σ w => ∃ (l2 acc2 : List It), stepL l o = (l2, ⟨false, 0, acc2⟩) ∧ σ 4 = .pointer (some ⟨b4, 0, none⟩) ∧ σ 5 = .pointer (some ⟨b5, 0, none⟩) ∧ St w0 (pts b4 (.cells #[.bool false, .int .i64 0, .slice none 0 0] 36 (0, 0)) * (VisP b5 acc2 o.cnt * (BT c d b l2 * (Ctx c fl * F)))) w) ?_ ?_ -- S1
  · refine WP_seq ?_
    -- R3
    refine WP_seqr [⟨0, 0, []⟩, ⟨1, 1, []⟩] (by kernel_rfl) ?_
    refine ns_fld fo_26_0 rfl rfl rfl ?_
    refine ns_ldB pl_2 hs rfl rfl rfl (by rfl) ?_
    refine ns_done ?_
    refine WP_block ?_
    refine WP_seq ?_
    -- R4
    refine WP_seqr [⟨0, 0, []⟩, ⟨1, 0, []⟩] (by kernel_rfl) ?_
    refine ns_cmp _ rfl rfl rfl rfl rfl ?_
    refine ns_asg rfl rfl ?_
    refine ns_done ?_
    refine WP_if rfl (fun hif1 => ?_) (fun hif1 => ?_)
    · refine WP_seq ?_
      -- R5
      refine WP_seqr [⟨0, 0, []⟩, ⟨1, 1, []⟩, ⟨2, 2, []⟩, ⟨3, 0, []⟩, ⟨4, 0, []⟩, ⟨5, 2, []⟩, ⟨6, 2, []⟩] (by kernel_rfl) ?_
      refine ns_move rfl rfl ?_
      refine ns_ldAB [.int .i64 o.it.key, .int .i64 o.it.val] ag_45 hs rfl rfl rfl (by rfl) (by rfl) (by decide) ?_
      refine ns_call (f48_ok c fl d b o.it l hd hd2 (by omega)) ck_48 (hs.foc (BT c d b l * Ctx c fl)) rfl rfl rfl rfl ?_
      intro v25 w hs
      replace hs := hs.pu
      obtain ⟨rfl, hs⟩ := hs
      simp only [mul_assoc'] at hs
      refine ns_ext rfl rfl rfl rfl ?_
      refine ns_ext rfl rfl rfl rfl ?_
      refine ns_call (f47_ok (get l o.it.key)) ck_47 (hs.foc 1) rfl rfl rfl rfl ?_
      intro v28 w hs
      unfold AnP AnsP at hs
      replace hs := hs.ex
      obtain ⟨s9, hs⟩ := hs
      replace hs := hs.pu
      obtain ⟨rfl, hs⟩ := hs
      obtain ⟨a5, c5, rfl, _, _⟩ := (hs.foc (IArr s9 (oneA (get l o.it.key)).items)).arr_form
      refine ns_stA (#[.bool (oneA (get l o.it.key)).ok, .int .i64 (oneA (get l o.it.key)).n, .slice a5 (oneA (get l o.it.key)).items.length c5]) ag_36 rfl (by decide) hs rfl rfl rfl rfl (by intro u hu; simp at hu; rcases hu with rfl | rfl | rfl <;> rfl) (by simp) ?_
      refine fun w hs => ⟨trivial, ?_⟩
      refine ns_done ?_
      refine WP_ret ?_
      have hload := run_loadVarA (P := Try.prog) (t := 36) (n := 3) (ad := ⟨b4, 0, none⟩) (vs := [.bool (oneA (get l o.it.key)).ok, .int .i64 (oneA (get l o.it.key)).n, .slice a5 (oneA (get l o.it.key)).items.length c5]) ag_36 rfl (by decide) w (St.cells (n := 3) hs (by rfl))
      have e : stepL l o = (put l o.it, oneA (get l o.it.key)) := step_0 (of_decide_eq_true hif1)
      have hs := hs.fold (an_mk (oneA (get l o.it.key)) (.slice a5 (oneA (get l o.it.key)).items.length c5))
      exact ⟨_, resC 4 36 rfl hload, by rw [e]; show St w0 ((BT c d b (put l o.it) * (Ctx c fl * AnP (oneA (get l o.it.key)) _)) * F) w; exact hs.out⟩
    refine WP_seq ?_
    -- R6
    refine WP_seqr [⟨0, 0, []⟩, ⟨1, 0, []⟩] (by kernel_rfl) ?_
    refine ns_cmp _ rfl rfl rfl rfl rfl ?_
    refine ns_asg rfl rfl ?_
    refine ns_done ?_
    refine WP_if rfl (fun hif2 => ?_) (fun hif2 => ?_)
    · refine WP_seq ?_
      -- R7
      refine WP_seqr [⟨0, 0, []⟩, ⟨1, 1, []⟩, ⟨2, 2, []⟩, ⟨3, 0, []⟩, ⟨4, 0, []⟩, ⟨5, 2, []⟩, ⟨6, 2, []⟩] (by kernel_rfl) ?_
      refine ns_move rfl rfl ?_
      refine ns_ldAB [.int .i64 o.it.key, .int .i64 o.it.val] ag_45 hs rfl rfl rfl (by rfl) (by rfl) (by decide) ?_
      refine ns_call (f49_ok c fl d b o.it l hd2) ck_49 (hs.foc (BT c d b l * Ctx c fl)) rfl rfl rfl rfl ?_
      intro v33 w hs
      replace hs := hs.pu
      obtain ⟨rfl, hs⟩ := hs
      simp only [mul_assoc'] at hs
      refine ns_ext rfl rfl rfl rfl ?_
      refine ns_ext rfl rfl rfl rfl ?_
      refine ns_call (f47_ok (get l o.it.key)) ck_47 (hs.foc 1) rfl rfl rfl rfl ?_
      intro v36 w hs
      unfold AnP AnsP at hs
      replace hs := hs.ex
      obtain ⟨s9, hs⟩ := hs
      replace hs := hs.pu
      obtain ⟨rfl, hs⟩ := hs
      obtain ⟨a5, c5, rfl, _, _⟩ := (hs.foc (IArr s9 (oneA (get l o.it.key)).items)).arr_form
      refine ns_stA (#[.bool (oneA (get l o.it.key)).ok, .int .i64 (oneA (get l o.it.key)).n, .slice a5 (oneA (get l o.it.key)).items.length c5]) ag_36 rfl (by decide) hs rfl rfl rfl rfl (by intro u hu; simp at hu; rcases hu with rfl | rfl | rfl <;> rfl) (by simp) ?_
      refine fun w hs => ⟨trivial, ?_⟩
      refine ns_done ?_
      refine WP_ret ?_
      have hload := run_loadVarA (P := Try.prog) (t := 36) (n := 3) (ad := ⟨b4, 0, none⟩) (vs := [.bool (oneA (get l o.it.key)).ok, .int .i64 (oneA (get l o.it.key)).n, .slice a5 (oneA (get l o.it.key)).items.length c5]) ag_36 rfl (by decide) w (St.cells (n := 3) hs (by rfl))
      have e : stepL l o = (l, oneA (get l o.it.key)) := step_1 (of_decide_eq_true hif2)
      have hs := hs.fold (an_mk (oneA (get l o.it.key)) (.slice a5 (oneA (get l o.it.key)).items.length c5))
      exact ⟨_, resC 4 36 rfl hload, by rw [e]; show St w0 ((BT c d b (l) * (Ctx c fl * AnP (oneA (get l o.it.key)) _)) * F) w; exact hs.out⟩
    refine WP_seq ?_
    -- R8
    refine WP_seqr [⟨0, 0, []⟩, ⟨1, 0, []⟩] (by kernel_rfl) ?_
    refine ns_cmp _ rfl rfl rfl rfl rfl ?_
    refine ns_asg rfl rfl ?_
    refine ns_done ?_
    refine WP_if rfl (fun hif3 => ?_) (fun hif3 => ?_)
    · refine WP_seq ?_
      -- R9
      refine WP_seqr [⟨0, 0, []⟩, ⟨1, 1, []⟩, ⟨2, 2, []⟩, ⟨3, 0, []⟩, ⟨4, 2, []⟩] (by kernel_rfl) ?_
      refine ns_move rfl rfl ?_
      refine ns_ldAB [.int .i64 o.it.key, .int .i64 o.it.val] ag_45 hs rfl rfl rfl (by rfl) (by rfl) (by decide) ?_
      refine ns_call (f50_ok c fl d b o.it l hd2) ck_50 (hs.foc (BT c d b l * Ctx c fl)) rfl rfl rfl rfl ?_
      intro v41 w hs
      replace hs := hs.pu
      obtain ⟨rfl, hs⟩ := hs
      simp only [mul_assoc'] at hs
      refine ns_build [(0, .bool (get l o.it.key).isSome)] (#[.bool (get l o.it.key).isSome, .int .i64 0, .slice none 0 0]) pp_36 zc_36 rfl rfl rfl rfl ?_
      refine ns_stA (#[.bool (get l o.it.key).isSome, .int .i64 0, .slice none 0 0]) ag_36 rfl (by decide) hs rfl rfl rfl rfl (by intro u hu; simp at hu; rcases hu with rfl | rfl | rfl <;> rfl) (by simp) ?_
      refine fun w hs => ⟨trivial, ?_⟩
      refine ns_done ?_
      refine WP_ret ?_
      have hload := run_loadVarA (P := Try.prog) (t := 36) (n := 3) (ad := ⟨b4, 0, none⟩) (vs := [.bool (get l o.it.key).isSome, .int .i64 0, .slice none 0 0]) ag_36 rfl (by decide) w (St.cells (n := 3) hs (by rfl))
      have e : stepL l o = (l, ⟨(get l o.it.key).isSome, 0, []⟩) := step_2 (of_decide_eq_true hif3)
      have hs := (hs.foc 1).up (an_nil (get l o.it.key).isSome 0)
      exact ⟨_, resC 4 36 rfl hload, by rw [e]; show St w0 ((BT c d b l * (Ctx c fl * AnP ⟨(get l o.it.key).isSome, 0, []⟩ _)) * F) w; exact hs.out⟩
    refine WP_seq ?_
    -- R10
    refine WP_seqr [⟨0, 0, []⟩, ⟨1, 0, []⟩] (by kernel_rfl) ?_
    refine ns_cmp _ rfl rfl rfl rfl rfl ?_
    refine ns_asg rfl rfl ?_
    refine ns_done ?_
    refine WP_if rfl (fun hif4 => ?_) (fun hif4 => ?_)
    · refine WP_seq ?_
      -- R11
      refine WP_seqr [⟨0, 0, []⟩, ⟨1, 1, []⟩, ⟨2, 2, []⟩, ⟨3, 0, []⟩, ⟨4, 0, []⟩, ⟨5, 2, []⟩, ⟨6, 2, []⟩] (by kernel_rfl) ?_
      refine ns_move rfl rfl ?_
      refine ns_ldAB [.int .i64 o.it.key, .int .i64 o.it.val] ag_45 hs rfl rfl rfl (by rfl) (by rfl) (by decide) ?_
      refine ns_call (f51_ok c fl d b o.it l hd hd2 (by omega)) ck_51 (hs.foc (BT c d b l * Ctx c fl)) rfl rfl rfl rfl ?_
      intro v47 w hs
      replace hs := hs.pu
      obtain ⟨rfl, hs⟩ := hs
      simp only [mul_assoc'] at hs
      refine ns_ext rfl rfl rfl rfl ?_
      refine ns_ext rfl rfl rfl rfl ?_
      refine ns_call (f47_ok (get l o.it.key)) ck_47 (hs.foc 1) rfl rfl rfl rfl ?_
      intro v50 w hs
      unfold AnP AnsP at hs
      replace hs := hs.ex
      obtain ⟨s9, hs⟩ := hs
      replace hs := hs.pu
      obtain ⟨rfl, hs⟩ := hs
      obtain ⟨a5, c5, rfl, _, _⟩ := (hs.foc (IArr s9 (oneA (get l o.it.key)).items)).arr_form
      refine ns_stA (#[.bool (oneA (get l o.it.key)).ok, .int .i64 (oneA (get l o.it.key)).n, .slice a5 (oneA (get l o.it.key)).items.length c5]) ag_36 rfl (by decide) hs rfl rfl rfl rfl (by intro u hu; simp at hu; rcases hu with rfl | rfl | rfl <;> rfl) (by simp) ?_
      refine fun w hs => ⟨trivial, ?_⟩
      refine ns_done ?_
      refine WP_ret ?_
      have hload := run_loadVarA (P := Try.prog) (t := 36) (n := 3) (ad := ⟨b4, 0, none⟩) (vs := [.bool (oneA (get l o.it.key)).ok, .int .i64 (oneA (get l o.it.key)).n, .slice a5 (oneA (get l o.it.key)).items.length c5]) ag_36 rfl (by decide) w (St.cells (n := 3) hs (by rfl))
      have e : stepL l o = (rem l o.it.key, oneA (get l o.it.key)) := step_3 (of_decide_eq_true hif4)
      have hs := hs.fold (an_mk (oneA (get l o.it.key)) (.slice a5 (oneA (get l o.it.key)).items.length c5))
      exact ⟨_, resC 4 36 rfl hload, by rw [e]; show St w0 ((BT c d b (rem l o.it.key) * (Ctx c fl * AnP (oneA (get l o.it.key)) _)) * F) w; exact hs.out⟩
    refine WP_seq ?_
    -- R12
    refine WP_seqr [⟨0, 0, []⟩, ⟨1, 0, []⟩] (by kernel_rfl) ?_
    refine ns_cmp _ rfl rfl rfl rfl rfl ?_
    refine ns_asg rfl rfl ?_
    refine ns_done ?_
    refine WP_if rfl (fun hif5 => ?_) (fun hif5 => ?_)
    · refine WP_seq ?_
      -- R13
      refine WP_seqr [⟨0, 0, []⟩, ⟨1, 2, []⟩, ⟨2, 0, []⟩, ⟨3, 0, []⟩, ⟨4, 2, []⟩, ⟨5, 2, []⟩] (by kernel_rfl) ?_
      refine ns_move rfl rfl ?_
      refine ns_call (f52_ok c fl d b l hd) ck_52 (hs.foc (BT c d b l * Ctx c fl)) rfl rfl rfl rfl ?_
      intro v54 w hs
      replace hs := hs.pu
      obtain ⟨rfl, hs⟩ := hs
      simp only [mul_assoc'] at hs
      refine ns_ext rfl rfl rfl rfl ?_
      refine ns_ext rfl rfl rfl rfl ?_
      refine ns_call (f47_ok (l.head?)) ck_47 (hs.foc 1) rfl rfl rfl rfl ?_
      intro v57 w hs
      unfold AnP AnsP at hs
      replace hs := hs.ex
      obtain ⟨s9, hs⟩ := hs
      replace hs := hs.pu
      obtain ⟨rfl, hs⟩ := hs
      obtain ⟨a5, c5, rfl, _, _⟩ := (hs.foc (IArr s9 (oneA (l.head?)).items)).arr_form
      refine ns_stA (#[.bool (oneA (l.head?)).ok, .int .i64 (oneA (l.head?)).n, .slice a5 (oneA (l.head?)).items.length c5]) ag_36 rfl (by decide) hs rfl rfl rfl rfl (by intro u hu; simp at hu; rcases hu with rfl | rfl | rfl <;> rfl) (by simp) ?_
      refine fun w hs => ⟨trivial, ?_⟩
      refine ns_done ?_
      refine WP_ret ?_
      have hload := run_loadVarA (P := Try.prog) (t := 36) (n := 3) (ad := ⟨b4, 0, none⟩) (vs := [.bool (oneA (l.head?)).ok, .int .i64 (oneA (l.head?)).n, .slice a5 (oneA (l.head?)).items.length c5]) ag_36 rfl (by decide) w (St.cells (n := 3) hs (by rfl))
      have e : stepL l o = (l, oneA (l.head?)) := step_4 (of_decide_eq_true hif5)
      have hs := hs.fold (an_mk (oneA (l.head?)) (.slice a5 (oneA (l.head?)).items.length c5))
      exact ⟨_, resC 4 36 rfl hload, by rw [e]; show St w0 ((BT c d b (l) * (Ctx c fl * AnP (oneA (l.head?)) _)) * F) w; exact hs.out⟩
    refine WP_seq ?_
    -- R14
    refine WP_seqr [⟨0, 0, []⟩, ⟨1, 0, []⟩] (by kernel_rfl) ?_
    refine ns_cmp _ rfl rfl rfl rfl rfl ?_
    refine ns_asg rfl rfl ?_
    refine ns_done ?_
    refine WP_if rfl (fun hif6 => ?_) (fun hif6 => ?_)
    · refine WP_seq ?_
      -- R15
      refine WP_seqr [⟨0, 0, []⟩, ⟨1, 2, []⟩, ⟨2, 0, []⟩, ⟨3, 0, []⟩, ⟨4, 2, []⟩, ⟨5, 2, []⟩] (by kernel_rfl) ?_
      refine ns_move rfl rfl ?_
      refine ns_call (f53_ok c fl d b l hd) ck_53 (hs.foc (BT c d b l * Ctx c fl)) rfl rfl rfl rfl ?_
      intro v61 w hs
      replace hs := hs.pu
      obtain ⟨rfl, hs⟩ := hs
      simp only [mul_assoc'] at hs
      refine ns_ext rfl rfl rfl rfl ?_
      refine ns_ext rfl rfl rfl rfl ?_
      refine ns_call (f47_ok (l.getLast?)) ck_47 (hs.foc 1) rfl rfl rfl rfl ?_
      intro v64 w hs
      unfold AnP AnsP at hs
      replace hs := hs.ex
      obtain ⟨s9, hs⟩ := hs
      replace hs := hs.pu
      obtain ⟨rfl, hs⟩ := hs
      obtain ⟨a5, c5, rfl, _, _⟩ := (hs.foc (IArr s9 (oneA (l.getLast?)).items)).arr_form
      refine ns_stA (#[.bool (oneA (l.getLast?)).ok, .int .i64 (oneA (l.getLast?)).n, .slice a5 (oneA (l.getLast?)).items.length c5]) ag_36 rfl (by decide) hs rfl rfl rfl rfl (by intro u hu; simp at hu; rcases hu with rfl | rfl | rfl <;> rfl) (by simp) ?_
      refine fun w hs => ⟨trivial, ?_⟩
      refine ns_done ?_
      refine WP_ret ?_
      have hload := run_loadVarA (P := Try.prog) (t := 36) (n := 3) (ad := ⟨b4, 0, none⟩) (vs := [.bool (oneA (l.getLast?)).ok, .int .i64 (oneA (l.getLast?)).n, .slice a5 (oneA (l.getLast?)).items.length c5]) ag_36 rfl (by decide) w (St.cells (n := 3) hs (by rfl))
      have e : stepL l o = (l, oneA (l.getLast?)) := step_5 (of_decide_eq_true hif6)
      have hs := hs.fold (an_mk (oneA (l.getLast?)) (.slice a5 (oneA (l.getLast?)).items.length c5))
      exact ⟨_, resC 4 36 rfl hload, by rw [e]; show St w0 ((BT c d b (l) * (Ctx c fl * AnP (oneA (l.getLast?)) _)) * F) w; exact hs.out⟩
    refine WP_seq ?_
    -- R16
    refine WP_seqr [⟨0, 0, []⟩, ⟨1, 0, []⟩] (by kernel_rfl) ?_
    refine ns_cmp _ rfl rfl rfl rfl rfl ?_
    refine ns_asg rfl rfl ?_
    refine ns_done ?_
    refine WP_if rfl (fun hif7 => ?_) (fun hif7 => ?_)
    · refine WP_seq ?_
      -- R17
      refine WP_seqr [⟨0, 0, []⟩, ⟨1, 2, []⟩, ⟨2, 0, []⟩, ⟨3, 0, []⟩, ⟨4, 2, []⟩, ⟨5, 2, []⟩] (by kernel_rfl) ?_
      refine ns_move rfl rfl ?_
      refine ns_call (f54_ok c fl d b l hd hd2 (by omega)) ck_54 (hs.foc (BT c d b l * Ctx c fl)) rfl rfl rfl rfl ?_
      intro v68 w hs
      replace hs := hs.pu
      obtain ⟨rfl, hs⟩ := hs
      simp only [mul_assoc'] at hs
      refine ns_ext rfl rfl rfl rfl ?_
      refine ns_ext rfl rfl rfl rfl ?_
      refine ns_call (f47_ok (l.head?)) ck_47 (hs.foc 1) rfl rfl rfl rfl ?_
      intro v71 w hs
      unfold AnP AnsP at hs
      replace hs := hs.ex
      obtain ⟨s9, hs⟩ := hs
      replace hs := hs.pu
      obtain ⟨rfl, hs⟩ := hs
      obtain ⟨a5, c5, rfl, _, _⟩ := (hs.foc (IArr s9 (oneA (l.head?)).items)).arr_form
      refine ns_stA (#[.bool (oneA (l.head?)).ok, .int .i64 (oneA (l.head?)).n, .slice a5 (oneA (l.head?)).items.length c5]) ag_36 rfl (by decide) hs rfl rfl rfl rfl (by intro u hu; simp at hu; rcases hu with rfl | rfl | rfl <;> rfl) (by simp) ?_
      refine fun w hs => ⟨trivial, ?_⟩
      refine ns_done ?_
      refine WP_ret ?_
      have hload := run_loadVarA (P := Try.prog) (t := 36) (n := 3) (ad := ⟨b4, 0, none⟩) (vs := [.bool (oneA (l.head?)).ok, .int .i64 (oneA (l.head?)).n, .slice a5 (oneA (l.head?)).items.length c5]) ag_36 rfl (by decide) w (St.cells (n := 3) hs (by rfl))
      have e : stepL l o = (l.tail, oneA (l.head?)) := step_6 (of_decide_eq_true hif7)
      have hs := hs.fold (an_mk (oneA (l.head?)) (.slice a5 (oneA (l.head?)).items.length c5))
      exact ⟨_, resC 4 36 rfl hload, by rw [e]; show St w0 ((BT c d b (l.tail) * (Ctx c fl * AnP (oneA (l.head?)) _)) * F) w; exact hs.out⟩
    refine WP_seq ?_
    -- R18
    refine WP_seqr [⟨0, 0, []⟩, ⟨1, 0, []⟩] (by kernel_rfl) ?_
    refine ns_cmp _ rfl rfl rfl rfl rfl ?_
    refine ns_asg rfl rfl ?_
    refine ns_done ?_
    refine WP_if rfl (fun hif8 => ?_) (fun hif8 => ?_)
    · refine WP_seq ?_
      -- R19
      refine WP_seqr [⟨0, 0, []⟩, ⟨1, 2, []⟩, ⟨2, 0, []⟩, ⟨3, 0, []⟩, ⟨4, 2, []⟩, ⟨5, 2, []⟩] (by kernel_rfl) ?_
      refine ns_move rfl rfl ?_
      refine ns_call (f55_ok c fl d b l hd hd2 (by omega)) ck_55 (hs.foc (BT c d b l * Ctx c fl)) rfl rfl rfl rfl ?_
      intro v75 w hs
      replace hs := hs.pu
      obtain ⟨rfl, hs⟩ := hs
      simp only [mul_assoc'] at hs
      refine ns_ext rfl rfl rfl rfl ?_
      refine ns_ext rfl rfl rfl rfl ?_
      refine ns_call (f47_ok (l.getLast?)) ck_47 (hs.foc 1) rfl rfl rfl rfl ?_
      intro v78 w hs
      unfold AnP AnsP at hs
      replace hs := hs.ex
      obtain ⟨s9, hs⟩ := hs
      replace hs := hs.pu
      obtain ⟨rfl, hs⟩ := hs
      obtain ⟨a5, c5, rfl, _, _⟩ := (hs.foc (IArr s9 (oneA (l.getLast?)).items)).arr_form
      refine ns_stA (#[.bool (oneA (l.getLast?)).ok, .int .i64 (oneA (l.getLast?)).n, .slice a5 (oneA (l.getLast?)).items.length c5]) ag_36 rfl (by decide) hs rfl rfl rfl rfl (by intro u hu; simp at hu; rcases hu with rfl | rfl | rfl <;> rfl) (by simp) ?_
      refine fun w hs => ⟨trivial, ?_⟩
      refine ns_done ?_
      refine WP_ret ?_
      have hload := run_loadVarA (P := Try.prog) (t := 36) (n := 3) (ad := ⟨b4, 0, none⟩) (vs := [.bool (oneA (l.getLast?)).ok, .int .i64 (oneA (l.getLast?)).n, .slice a5 (oneA (l.getLast?)).items.length c5]) ag_36 rfl (by decide) w (St.cells (n := 3) hs (by rfl))
      have e : stepL l o = (l.dropLast, oneA (l.getLast?)) := step_7 (of_decide_eq_true hif8)
      have hs := hs.fold (an_mk (oneA (l.getLast?)) (.slice a5 (oneA (l.getLast?)).items.length c5))
      exact ⟨_, resC 4 36 rfl hload, by rw [e]; show St w0 ((BT c d b (l.dropLast) * (Ctx c fl * AnP (oneA (l.getLast?)) _)) * F) w; exact hs.out⟩
    refine WP_seq ?_
    -- R20
    refine WP_seqr [⟨0, 0, []⟩, ⟨1, 0, []⟩] (by kernel_rfl) ?_
    refine ns_cmp _ rfl rfl rfl rfl rfl ?_
    refine ns_asg rfl rfl ?_
    refine ns_done ?_
    refine WP_if rfl (fun hif9 => ?_) (fun hif9 => ?_)
    · refine WP_seq ?_
      -- R21
      refine WP_seqr [⟨0, 0, []⟩, ⟨1, 2, []⟩, ⟨2, 0, []⟩, ⟨3, 2, []⟩] (by kernel_rfl) ?_
      refine ns_move rfl rfl ?_
      refine ns_call (f56_ok c fl d b l) ck_56 (hs.foc (BT c d b l * Ctx c fl)) rfl rfl rfl rfl ?_
      intro v82 w hs
      replace hs := hs.pu
      obtain ⟨rfl, hs⟩ := hs
      simp only [mul_assoc'] at hs
      refine ns_build [(1, .int .i64 l.length)] (#[.bool false, .int .i64 l.length, .slice none 0 0]) pp_36 zc_36 rfl rfl rfl rfl ?_
      refine ns_stA (#[.bool false, .int .i64 l.length, .slice none 0 0]) ag_36 rfl (by decide) hs rfl rfl rfl rfl (by intro u hu; simp at hu; rcases hu with rfl | rfl | rfl <;> rfl) (by simp) ?_
      refine fun w hs => ⟨trivial, ?_⟩
      refine ns_done ?_
      refine WP_ret ?_
      have hload := run_loadVarA (P := Try.prog) (t := 36) (n := 3) (ad := ⟨b4, 0, none⟩) (vs := [.bool false, .int .i64 l.length, .slice none 0 0]) ag_36 rfl (by decide) w (St.cells (n := 3) hs (by rfl))
      have e : stepL l o = (l, ⟨false, l.length, []⟩) := step_8 (of_decide_eq_true hif9)
      have hs := (hs.foc 1).up (an_nil false l.length)
      exact ⟨_, resC 4 36 rfl hload, by rw [e]; show St w0 ((BT c d b l * (Ctx c fl * AnP ⟨false, l.length, []⟩ _)) * F) w; exact hs.out⟩
    refine WP_seq ?_
    -- R22
    refine WP_seqr [⟨0, 0, []⟩, ⟨1, 0, []⟩] (by kernel_rfl) ?_
    refine ns_cmp _ rfl rfl rfl rfl rfl ?_
    refine ns_asg rfl rfl ?_
    refine ns_done ?_
    refine WP_if rfl (fun hif10 => ?_) (fun hif10 => ?_)
    · -- R23
      refine WP_seqr [⟨0, 0, []⟩, ⟨1, 0, []⟩, ⟨2, 2, []⟩] (by kernel_rfl) ?_
      refine ns_move rfl rfl ?_
      refine ns_fun' (#[ptr b5]) (#[]) rfl rfl rfl rfl ?_
      refine ns_call (f57_ok c fl d b b5 o.cnt [] l hd2 (by simp only [List.length_nil]; omega)) ck_57 (hs.foc (BT c d b l * (Ctx c fl * VisP b5 [] o.cnt))) rfl rfl rfl rfl ?_
      intro v88 w hs
      simp only [mul_assoc'] at hs
      refine ns_done ?_
      exact ⟨_, _, step_9 (of_decide_eq_true hif10), rfl, rfl, hs.out⟩
    refine WP_seq ?_
    -- R24
    refine WP_seqr [⟨0, 0, []⟩, ⟨1, 0, []⟩] (by kernel_rfl) ?_
    refine ns_cmp _ rfl rfl rfl rfl rfl ?_
    refine ns_asg rfl rfl ?_
    refine ns_done ?_
    refine WP_if rfl (fun hif11 => ?_) (fun hif11 => ?_)
    · -- R25
      refine WP_seqr [⟨0, 0, []⟩, ⟨1, 1, []⟩, ⟨2, 0, []⟩, ⟨3, 2, []⟩] (by kernel_rfl) ?_
      refine ns_move rfl rfl ?_
      refine ns_ldAB [.int .i64 o.it.key, .int .i64 o.it.val] ag_45 hs rfl rfl rfl (by rfl) (by rfl) (by decide) ?_
      refine ns_fun' (#[ptr b5]) (#[]) rfl rfl rfl rfl ?_
      refine ns_call (f59_ok c fl d b b5 o.it o.cnt [] l hd2 (by simp only [List.length_nil]; omega)) ck_59 (hs.foc (BT c d b l * (Ctx c fl * VisP b5 [] o.cnt))) rfl rfl rfl rfl ?_
      intro v94 w hs
      simp only [mul_assoc'] at hs
      refine ns_done ?_
      exact ⟨_, _, step_10 (of_decide_eq_true hif11), rfl, rfl, hs.out⟩
    refine WP_seq ?_
    -- R26
    refine WP_seqr [⟨0, 0, []⟩, ⟨1, 0, []⟩] (by kernel_rfl) ?_
    refine ns_cmp _ rfl rfl rfl rfl rfl ?_
    refine ns_asg rfl rfl ?_
    refine ns_done ?_
    refine WP_if rfl (fun hif12 => ?_) (fun hif12 => ?_)
    · -- R27
      refine WP_seqr [⟨0, 0, []⟩, ⟨1, 1, []⟩, ⟨2, 0, []⟩, ⟨3, 2, []⟩] (by kernel_rfl) ?_
      refine ns_move rfl rfl ?_
      refine ns_ldAB [.int .i64 o.it.key, .int .i64 o.it.val] ag_45 hs rfl rfl rfl (by rfl) (by rfl) (by decide) ?_
      refine ns_fun' (#[ptr b5]) (#[]) rfl rfl rfl rfl ?_
      refine ns_call (f60_ok c fl d b b5 o.it o.cnt [] l hd2 (by simp only [List.length_nil]; omega)) ck_60 (hs.foc (BT c d b l * (Ctx c fl * VisP b5 [] o.cnt))) rfl rfl rfl rfl ?_
      intro v100 w hs
      simp only [mul_assoc'] at hs
      refine ns_done ?_
      exact ⟨_, _, step_11 (of_decide_eq_true hif12), rfl, rfl, hs.out⟩
    refine WP_seq ?_
    -- R28
    refine WP_seqr [⟨0, 0, []⟩, ⟨1, 0, []⟩] (by kernel_rfl) ?_
    refine ns_cmp _ rfl rfl rfl rfl rfl ?_
    refine ns_asg rfl rfl ?_
    refine ns_done ?_
    refine WP_if rfl (fun hif13 => ?_) (fun hif13 => ?_)
    · -- R29
      refine WP_seqr [⟨0, 0, []⟩, ⟨1, 1, []⟩, ⟨2, 1, []⟩, ⟨3, 0, []⟩, ⟨4, 2, []⟩] (by kernel_rfl) ?_
      refine ns_move rfl rfl ?_
      refine ns_ldAB [.int .i64 o.it.key, .int .i64 o.it.val] ag_45 hs rfl rfl rfl (by rfl) (by rfl) (by decide) ?_
      refine ns_ldAB [.int .i64 o.it2.key, .int .i64 o.it2.val] ag_45 hs rfl rfl rfl (by rfl) (by rfl) (by decide) ?_
      refine ns_fun' (#[ptr b5]) (#[]) rfl rfl rfl rfl ?_
      refine ns_call (f61_ok c fl d b b5 o.it o.it2 o.cnt [] l hd2 (by simp only [List.length_nil]; omega)) ck_61 (hs.foc (BT c d b l * (Ctx c fl * VisP b5 [] o.cnt))) rfl rfl rfl rfl ?_
      intro v107 w hs
      simp only [mul_assoc'] at hs
      refine ns_done ?_
      exact ⟨_, _, step_12 (of_decide_eq_true hif13), rfl, rfl, hs.out⟩
    refine WP_seq ?_
    -- R30
    refine WP_seqr [⟨0, 0, []⟩, ⟨1, 0, []⟩] (by kernel_rfl) ?_
    refine ns_cmp _ rfl rfl rfl rfl rfl ?_
    refine ns_asg rfl rfl ?_
    refine ns_done ?_
    refine WP_if rfl (fun hif14 => ?_) (fun hif14 => ?_)
    · -- R31
      refine WP_seqr [⟨0, 0, []⟩, ⟨1, 0, []⟩, ⟨2, 2, []⟩] (by kernel_rfl) ?_
      refine ns_move rfl rfl ?_
      refine ns_fun' (#[ptr b5]) (#[]) rfl rfl rfl rfl ?_
      refine ns_call (f62_ok c fl d b b5 o.cnt [] l hd2 (by simp only [List.length_nil]; omega)) ck_62 (hs.foc (BT c d b l * (Ctx c fl * VisP b5 [] o.cnt))) rfl rfl rfl rfl ?_
      intro v112 w hs
      simp only [mul_assoc'] at hs
      refine ns_done ?_
      exact ⟨_, _, step_13 (of_decide_eq_true hif14), rfl, rfl, hs.out⟩
    refine WP_seq ?_
    -- R32
    refine WP_seqr [⟨0, 0, []⟩, ⟨1, 0, []⟩] (by kernel_rfl) ?_
    refine ns_cmp _ rfl rfl rfl rfl rfl ?_
    refine ns_asg rfl rfl ?_
    refine ns_done ?_
    refine WP_if rfl (fun hif15 => ?_) (fun hif15 => ?_)
    · -- R33
      refine WP_seqr [⟨0, 0, []⟩, ⟨1, 1, []⟩, ⟨2, 0, []⟩, ⟨3, 2, []⟩] (by kernel_rfl) ?_
      refine ns_move rfl rfl ?_
      refine ns_ldAB [.int .i64 o.it.key, .int .i64 o.it.val] ag_45 hs rfl rfl rfl (by rfl) (by rfl) (by decide) ?_
      refine ns_fun' (#[ptr b5]) (#[]) rfl rfl rfl rfl ?_
      refine ns_call (f63_ok c fl d b b5 o.it o.cnt [] l hd2 (by simp only [List.length_nil]; omega)) ck_63 (hs.foc (BT c d b l * (Ctx c fl * VisP b5 [] o.cnt))) rfl rfl rfl rfl ?_
      intro v118 w hs
      simp only [mul_assoc'] at hs
      refine ns_done ?_
      exact ⟨_, _, step_14 (of_decide_eq_true hif15), rfl, rfl, hs.out⟩
    refine WP_seq ?_
    -- R34
    refine WP_seqr [⟨0, 0, []⟩, ⟨1, 0, []⟩] (by kernel_rfl) ?_
    refine ns_cmp _ rfl rfl rfl rfl rfl ?_
    refine ns_asg rfl rfl ?_
    refine ns_done ?_
    refine WP_if rfl (fun hif16 => ?_) (fun hif16 => ?_)
    · -- R35
      refine WP_seqr [⟨0, 0, []⟩, ⟨1, 1, []⟩, ⟨2, 0, []⟩, ⟨3, 2, []⟩] (by kernel_rfl) ?_
      refine ns_move rfl rfl ?_
      refine ns_ldAB [.int .i64 o.it.key, .int .i64 o.it.val] ag_45 hs rfl rfl rfl (by rfl) (by rfl) (by decide) ?_
      refine ns_fun' (#[ptr b5]) (#[]) rfl rfl rfl rfl ?_
      refine ns_call (f64_ok c fl d b b5 o.it o.cnt [] l hd2 (by simp only [List.length_nil]; omega)) ck_64 (hs.foc (BT c d b l * (Ctx c fl * VisP b5 [] o.cnt))) rfl rfl rfl rfl ?_
      intro v124 w hs
      simp only [mul_assoc'] at hs
      refine ns_done ?_
      exact ⟨_, _, step_15 (of_decide_eq_true hif16), rfl, rfl, hs.out⟩
    refine WP_seq ?_
    -- R36
    refine WP_seqr [⟨0, 0, []⟩, ⟨1, 0, []⟩] (by kernel_rfl) ?_
    refine ns_cmp _ rfl rfl rfl rfl rfl ?_
    refine ns_asg rfl rfl ?_
    refine ns_done ?_
    refine WP_if rfl (fun hif17 => ?_) (fun hif17 => ?_)
    · -- R37
      refine WP_seqr [⟨0, 0, []⟩, ⟨1, 1, []⟩, ⟨2, 1, []⟩, ⟨3, 0, []⟩, ⟨4, 2, []⟩] (by kernel_rfl) ?_
      refine ns_move rfl rfl ?_
      refine ns_ldAB [.int .i64 o.it.key, .int .i64 o.it.val] ag_45 hs rfl rfl rfl (by rfl) (by rfl) (by decide) ?_
      refine ns_ldAB [.int .i64 o.it2.key, .int .i64 o.it2.val] ag_45 hs rfl rfl rfl (by rfl) (by rfl) (by decide) ?_
      refine ns_fun' (#[ptr b5]) (#[]) rfl rfl rfl rfl ?_
      refine ns_call (f65_ok c fl d b b5 o.it o.it2 o.cnt [] l hd2 (by simp only [List.length_nil]; omega)) ck_65 (hs.foc (BT c d b l * (Ctx c fl * VisP b5 [] o.cnt))) rfl rfl rfl rfl ?_
      intro v131 w hs
      simp only [mul_assoc'] at hs
      refine ns_done ?_
      exact ⟨_, _, step_16 (of_decide_eq_true hif17), rfl, rfl, hs.out⟩
    refine WP_seq ?_
    -- R38
    refine WP_seqr [⟨0, 0, []⟩, ⟨1, 0, []⟩] (by kernel_rfl) ?_
    refine ns_cmp _ rfl rfl rfl rfl rfl ?_
    refine ns_asg rfl rfl ?_
    refine ns_done ?_
    refine WP_if rfl (fun hif18 => ?_) (fun hif18 => ?_)
    · -- R39
      refine WP_seqr [⟨0, 0, []⟩, ⟨1, 0, []⟩, ⟨2, 1, []⟩, ⟨3, 0, []⟩, ⟨4, 2, []⟩] (by kernel_rfl) ?_
      refine ns_move rfl rfl ?_
      refine ns_fld fo_26_4 rfl rfl rfl ?_
      refine ns_ldB pl_2 hs rfl rfl rfl (by rfl) ?_
      refine ns_cmp _ rfl rfl rfl rfl rfl ?_
      refine ns_call (f66_ok c fl d b _ l hd2) ck_66 (hs.foc (BT c d b l * Ctx c fl)) rfl rfl rfl rfl ?_
      intro v138 w hs
      simp only [mul_assoc'] at hs
      refine ns_done ?_
      exact ⟨_, _, step_18 (of_decide_eq_true hif18), rfl, rfl, hs.out⟩
    refine WP_skip ?_
    exact ⟨_, _, step_no (of_decide_eq_false hif1) (of_decide_eq_false hif2) (of_decide_eq_false hif3) (of_decide_eq_false hif4) (of_decide_eq_false hif5) (of_decide_eq_false hif6) (of_decide_eq_false hif7) (of_decide_eq_false hif8) (of_decide_eq_false hif9) (of_decide_eq_false hif10) (of_decide_eq_false hif11) (of_decide_eq_false hif12) (of_decide_eq_false hif13) (of_decide_eq_false hif14) (of_decide_eq_false hif15) (of_decide_eq_false hif16) (of_decide_eq_false hif17) (of_decide_eq_false hif18), rfl, rfl, hs.out⟩
  rintro σ w ⟨l2, acc2, e, g4, g5, hs⟩
  obtain ⟨σ, rfl⟩ := rebase g4
  obtain ⟨σ, rfl⟩ := rebase (σ := σ) g5
  clear g4 g5
  refine WP_seq ?_
  obtain ⟨v5, hs⟩ := (hs.foc (VisP b5 acc2 o.cnt)).ex
  simp only [mul_assoc'] at hs
  obtain ⟨a5, c5, rfl, _, _⟩ := (hs.foc (IArr v5 acc2)).arr_form
  -- R40
  refine WP_seqr [⟨0, 0, []⟩, ⟨1, 1, []⟩, ⟨2, 0, []⟩, ⟨3, 2, []⟩] (by kernel_rfl) ?_
  refine ns_fld fo_89_0 rfl rfl rfl ?_
  refine ns_ldB pl_34 hs rfl rfl rfl (by rfl) ?_
  refine ns_build [(2, .slice a5 acc2.length c5)] (#[.bool false, .int .i64 0, .slice a5 acc2.length c5]) pp_36 zc_36 rfl rfl rfl rfl ?_
  refine ns_stA (#[.bool false, .int .i64 0, .slice a5 acc2.length c5]) ag_36 rfl (by decide) hs rfl rfl rfl rfl (by intro u hu; simp at hu; rcases hu with rfl | rfl | rfl <;> rfl) (by simp) ?_
  refine fun w hs => ⟨trivial, ?_⟩
  refine ns_done ?_
  refine WP_ret ?_
  have hload := run_loadVarA (P := Try.prog) (t := 36) (n := 3) (ad := ⟨b4, 0, none⟩) (vs := [.bool false, .int .i64 0, .slice a5 acc2.length c5]) ag_36 rfl (by decide) w (St.cells (n := 3) hs (by rfl))
  have hs := hs.fold (an_mk ⟨false, 0, acc2⟩ (.slice a5 acc2.length c5))
  exact ⟨_, resC 4 36 rfl hload, by rw [e]; show St w0 ((BT c d b l2 * (Ctx c fl * AnP ⟨false, 0, acc2⟩ _)) * F) w; exact hs.out⟩
end Go.Proofs.Ytnnembkganlbpaa
/- Rules for arrays, parts of slices, the greater and the lesser, items held against each other. -/
namespace Go.Wk
open Go Go.Sl Go.Net Go.RowKit
section
variable {P : Program} {ops : Array Oper} {Q : Slots → World → Prop} {σ : Slots} {w w0 : World} {H : HProp} {rest : Tre} {held : Nat → World → Prop} {i : Nat} {kp : List Nat}
variable {d : Option Tmp} {ty : TypeId} {ps : String} {af : Array Edge} {gd : Option (Nat × Bool)}
def arrT (P : Program) (t : TypeId) (len : Nat) (E : TypeId) (sz : Nat) : Bool := match P.underlying t with
  | some (.array n e) => n == len && e == E && P.cellsOf e == sz && sz != 0
  | _ => false
theorem ns_idxA {t E : TypeId} {len sz : Nat} {x ix : Operand} {b o : Nat} {k : IntKind} {m : Int} (j : Nat) (hT : arrT P t len E sz = true) (ho : ops[i]? = some ⟨d, .indexAddr t x ix, ty, ps, af, gd⟩) (hw : Region.wanted ⟨d, .indexAddr t x ix, ty, ps, af, gd⟩ (yieldS ops σ) = true)
    (hx : evS σ x = .pointer (some ⟨b, o, none⟩)) (hi : evS σ ix = .int k m) (hm : m = (j : Int)) (hj : j < len)
    (h : NetS P ops Q rest held (updO σ d (.pointer (some ⟨b, o + j * sz, none⟩))) w) : NetS P ops Q (.cons ⟨i, 0, kp⟩ rest) held σ w := by
  unfold arrT at hT
  split at hT
  · rename_i n e hu
    simp only [Bool.and_eq_true, beq_iff_eq, bne_iff_ne, ne_eq] at hT
    obtain ⟨⟨⟨rfl, rfl⟩, rfl⟩, h0⟩ := hT
    refine ns_val _ ho hw (fun w => ?_) h
    have hs := run_sizeOf (P := P) (t := e) rfl h0
    have hj' : ((0 : Int) ≤ (j : Int) ∧ (j : Int) < (n : Int)) := by omega
    simp [execOp, hx, hi, hm, Instr.indexAt, asIntOf, run_underlying hu, Instr.sureAddr, hs, add_plain]
    intro hh; omega
  · cases hT
/-- an array with nothing laid in it -/
theorem ns_buildA {t E : TypeId} {len sz : Nat} {zc : Array Value} (hT : arrT P t len E sz = true) (hz : zeroC P t = some zc)
    (ho : ops[i]? = some ⟨d, .build t #[], ty, ps, af, gd⟩) (hw : Region.wanted ⟨d, .build t #[], ty, ps, af, gd⟩ (yieldS ops σ) = true)
    (h : NetS P ops Q rest held (updO σ d (.agg zc)) w) : NetS P ops Q (.cons ⟨i, 0, kp⟩ rest) held σ w := by
  obtain ⟨z, hz', rfl⟩ := zeroC_spec hz
  unfold arrT at hT
  split at hT
  · rename_i n e hu
    simp only [Bool.and_eq_true, beq_iff_eq, bne_iff_ne, ne_eq] at hT
    obtain ⟨⟨⟨rfl, rfl⟩, rfl⟩, h0⟩ := hT
    refine ns_val _ ho hw (fun w => ?_) h
    have hs := run_sizeOf (P := P) (t := e) rfl h0
    simp [execOp, Instr.build, run_zero hz', run_underlying hu, hs, Instr.fill]
  · cases hT
/-- two Booleans, held against each other, with the outcome -/
theorem ns_bne2 {t t' : TypeId} {x y : Operand} {a b : Bool} (r : Bool) (hu : P.underlying t = some .bool) (ho : ops[i]? = some ⟨d, .binOp .neq t x y t', ty, ps, af, gd⟩) (hw : Region.wanted ⟨d, .binOp .neq t x y t', ty, ps, af, gd⟩ (yieldS ops σ) = true)
    (hx : evS σ x = .bool a) (hy : evS σ y = .bool b) (hr : (!(a == b)) = r) (h : NetS P ops Q rest held (updO σ d (.bool r)) w) : NetS P ops Q (.cons ⟨i, 0, kp⟩ rest) held σ w := by
  subst hr; exact ns_bne hu ho hw hx hy h
theorem Cells.at {w : World} {g o : Nat} {vs : List Value} (h : Cells w ⟨g, o, none⟩ vs) (j : Nat) {v : Value} (hv : vs[j]? = some v) : w.cell? ⟨g, o + j, none⟩ = some v := by
  have := h j v hv
  rwa [add_plain] at this
/-- 0 & y -/
theorem ns_and0 {t t' : TypeId} {x y : Operand} {a b : Int} (ho : ops[i]? = some ⟨d, .binOp .and t x y t', ty, ps, af, gd⟩) (hw : Region.wanted ⟨d, .binOp .and t x y t', ty, ps, af, gd⟩ (yieldS ops σ) = true)
    (hx : evS σ x = .int .i64 a) (hy : evS σ y = .int .i64 b) (ha : a = 0) (h : NetS P ops Q rest held (updO σ d (.int .i64 0)) w) : NetS P ops Q (.cons ⟨i, 0, kp⟩ rest) held σ w :=
  ns_val _ ho hw (fun w => by
    subst ha
    have h1 : IntKind.i64.wrap 0 = 0 := by rw [IntKind.wrap_i64]; omega
    simp [execOp, hx, hy, eqGuard, binOp, Op.intBits, h1]) h
/-- x[lo:hi] of a slice -/
theorem ns_sliceLH {t E : TypeId} {sz : Nat} {x lo hi : Operand} {a : Option Addr} {n c : Nat} {k k2 : IntKind} {m m2 : Int} (j j2 : Nat) (hT : sliceT P t E sz = true) (ho : ops[i]? = some ⟨d, .slice t x (some lo) (some hi) none, ty, ps, af, gd⟩) (hw : Region.wanted ⟨d, .slice t x (some lo) (some hi) none, ty, ps, af, gd⟩ (yieldS ops σ) = true)
    (hx : evS σ x = .slice a n c) (hlo : evS σ lo = .int k m) (hhi : evS σ hi = .int k2 m2) (hm : m = (j : Int)) (hm2 : m2 = (j2 : Int)) (hj : j ≤ j2) (hj2 : j2 ≤ c)
    (h : NetS P ops Q rest held (updO σ d (.slice (if c = j then a else a.map (·.add (j * sz))) (j2 - j) (c - j))) w) : NetS P ops Q (.cons ⟨i, 0, kp⟩ rest) held σ w := by
  obtain ⟨hu, inf, hinf, rfl⟩ := sliceT_spec hT
  refine ns_val _ ho hw (fun w => ?_) h
  simp [execOp, hx, hlo, hhi, hm, hm2, Instr.sliceAt, Instr.slice, Instr.sliceBounds, run_underlying hu, run_sliceBound _ _ _ _ hj, run_sliceBound _ _ _ _ hj2, run_sizeOf' hinf]
/-- a list with nothing in it -/
theorem ns_lit0 {t E : TypeId} {sz : Nat} (hT : sliceT P t E sz = true)
    (hs : St w0 H w) (ho : ops[i]? = some ⟨d, .buildSlice t 0 #[], ty, ps, af, gd⟩) (hw : Region.wanted ⟨d, .buildSlice t 0 #[], ty, ps, af, gd⟩ (yieldS ops σ) = true)
    (h : ∀ b w', St w0 (Arr E sz (.slice (some ⟨b, 0, none⟩) 0 0) 0 [] * H) w' → Ext w w' → keepAll held kp w' ∧ NetS P ops Q rest held (updO σ d (.slice (some ⟨b, 0, none⟩) 0 0)) w') : NetS P ops Q (.cons ⟨i, 2, kp⟩ rest) held σ w := by
  obtain ⟨hu, inf, hinf, rfl⟩ := sliceT_spec hT
  refine ns_eff ho hw ?_
  have hs2 := hs.alloc (.cells #[] E (0, 0))
  have := h _ _ (St.mk_arr' (n := 0) (cap := 0) (xs := []) (sz := inf.size) hs2 (Nat.le_refl _) (Nat.zero_le _) (by simp) (by simp)) (ext_alloc w _)
  simp only [execOp, Instr.buildSlice, Sem.run_bind, run_underlying hu, Result.andThen_ok, run_sizeOf' hinf]
  simp [Instr.fill, newRow, Eff]
  rw [show (Array.map (fun _ => (default : Value)) (Array.range 0)) = #[] from by simp]
  exact this
theorem ns_neg {t : TypeId} {x : Operand} {a : Int} (ho : ops[i]? = some ⟨d, .unOp .neg t x, ty, ps, af, gd⟩) (hw : Region.wanted ⟨d, .unOp .neg t x, ty, ps, af, gd⟩ (yieldS ops σ) = true)
    (hx : evS σ x = .int .i64 a) (h1 : -9223372036854775808 ≤ -a) (h2 : -a ≤ 9223372036854775807) (h : NetS P ops Q rest held (updO σ d (.int .i64 (-a))) w) : NetS P ops Q (.cons ⟨i, 0, kp⟩ rest) held σ w :=
  ns_val _ ho hw (fun w => by
    have : IntKind.i64.wrap (-a) = -a := by rw [IntKind.wrap_i64]; omega
    simp [execOp, hx, Op.unary, Op.intArith, this]) h
theorem ns_max {x y : Operand} {ats : Array TypeId} {a b : Int} (ho : ops[i]? = some ⟨d, .call { callee := .builtin .max, args := #[x, y], argTypes := ats }, ty, ps, af, gd⟩) (hw : Region.wanted ⟨d, .call { callee := .builtin .max, args := #[x, y], argTypes := ats }, ty, ps, af, gd⟩ (yieldS ops σ) = true)
    (hx : evS σ x = .int .i64 a) (hy : evS σ y = .int .i64 b) (h : NetS P ops Q rest held (updO σ d (.int .i64 (if b > a then b else a))) w) : NetS P ops Q (.cons ⟨i, 0, kp⟩ rest) held σ w := by
  refine ns_val _ ho hw (fun w => ?_) h
  simp [execOp, resolve, hx, hy, invoke, builtin, Builtin.max_, Builtin.max2]
theorem ns_min {x y : Operand} {ats : Array TypeId} {a b : Int} (ho : ops[i]? = some ⟨d, .call { callee := .builtin .min, args := #[x, y], argTypes := ats }, ty, ps, af, gd⟩) (hw : Region.wanted ⟨d, .call { callee := .builtin .min, args := #[x, y], argTypes := ats }, ty, ps, af, gd⟩ (yieldS ops σ) = true)
    (hx : evS σ x = .int .i64 a) (hy : evS σ y = .int .i64 b) (h : NetS P ops Q rest held (updO σ d (.int .i64 (if b < a then b else a))) w) : NetS P ops Q (.cons ⟨i, 0, kp⟩ rest) held σ w := by
  refine ns_val _ ho hw (fun w => ?_) h
  simp [execOp, resolve, hx, hy, invoke, builtin, Builtin.min_, Builtin.min2]
end
end Go.Wk

namespace Go.Proofs.Ytnnembkganlbpaa
open Go Go.Wk Go.Net Go.RowKit
theorem ar_60 : arrT Try.prog 60 8 59 1 = true := by kernel_rfl
theorem ud_45 : (match Try.prog.underlying 45 with | some (.struct fs) => fs.toList.map (fun f => (f.name != "_", f.type, f.offset)) | _ => []) = [(true, 2, 0), (true, 2, 1)] := by kernel_rfl
theorem si_45 : Try.prog.stoodInHeld 45 = false := by kernel_rfl
theorem un_2 : Try.prog.underlying 2 = some (.int .i64) := by kernel_rfl
theorem part2 (cs : Array Value) (o : Nat) (v : Value) (h : cs[o]? = some v) (w : World) : (part 2 cs o).run Try.prog w = .ok v w := by
  have : (isAgg 2).run Try.prog w = .ok false w := by
    simp [isAgg, run_underlying un_2]
  simp [part, this, h]
theorem run_eq2 (a b : Int) (m : Nat) (w : World) : (Op.equalIn (m + 1) 2 (.int .i64 a) (.int .i64 b)).run Try.prog w = .ok (a == b) w := by
  rw [Op.equalIn]
  simp [run_underlying un_2]
theorem run_eq45 (a b c e : Int) (w : World) : (Op.equal 45 (.agg #[.int .i64 a, .int .i64 b]) (.agg #[.int .i64 c, .int .i64 e])).run Try.prog w = .ok (a == c && b == e) w := by
  have hu := ud_45
  split at hu
  · rename_i fs hf
    obtain ⟨fs⟩ := fs
    rcases fs with _ | ⟨f1, _ | ⟨f2, _ | ⟨f3, fs⟩⟩⟩
    · simp at hu
    · simp at hu
    · simp only [List.map_cons, List.map_nil, List.cons.injEq, Prod.mk.injEq, and_true, bne_iff_ne, ne_eq] at hu
      obtain ⟨⟨n1, t1, o1⟩, n2, t2, o2⟩ := hu
      unfold Op.equal Op.maxDepth
      rw [Op.equalIn]
      have p1 : ∀ (x y : Int) (w : World), (part 2 #[.int .i64 x, .int .i64 y] 0).run Try.prog w = .ok (.int .i64 x) w := fun x y w => part2 _ 0 _ rfl w
      have p2 : ∀ (x y : Int) (w : World), (part 2 #[.int .i64 x, .int .i64 y] 1).run Try.prog w = .ok (.int .i64 y) w := fun x y w => part2 _ 1 _ rfl w
      have q := fun x y => run_eq2 x y 9998 w
      simp [run_underlying hf, n1, n2, t1, t2, o1, o2, p1, p2, q]
      by_cases h1 : a = c
      · by_cases h2 : b = e <;> simp [h1, h2]
      · simp [h1]
    · simp at hu
  · cases hu
theorem ns_ne45 {ops : Array Oper} {Q : Slots → World → Prop} {σ : Slots} {w : World} {rest : Tre} {held : Nat → World → Prop} {i : Nat} {kp : List Nat} {d : Option Tmp} {ty : TypeId} {ps : String} {af : Array Edge} {gd : Option (Nat × Bool)}
    {t' : TypeId} {x y : Operand} {a b c e : Int} (r : Bool) (ho : ops[i]? = some ⟨d, .binOp .neq 45 x y t', ty, ps, af, gd⟩) (hw : Region.wanted ⟨d, .binOp .neq 45 x y t', ty, ps, af, gd⟩ (yieldS ops σ) = true)
    (hx : evS σ x = .agg #[.int .i64 a, .int .i64 b]) (hy : evS σ y = .agg #[.int .i64 c, .int .i64 e]) (hr : (!(a == c && b == e)) = r) (h : NetS Try.prog ops Q rest held (updO σ d (.bool r)) w) : NetS Try.prog ops Q (.cons ⟨i, 0, kp⟩ rest) held σ w :=
  ns_val _ ho hw (fun w => by
    subst hr
    simp only [execOp, hx, hy, eqGuard, binOp]
    simp [run_eq45]) h
end Go.Proofs.Ytnnembkganlbpaa
/- Slices that are read: whoever holds R can read them; rows of steps and of answers. -/
namespace Go.Proofs.Ytnnembkganlbpaa
open Go Go.Sl Go.Net Go.Wk Go.Bt Go.RowKit

/-- at block g, from cell o on, whoever holds R reads xs -/
def At (R : HProp) (g o : Nat) (xs : List Value) : Prop := ∀ (w0 w : World) (F : HProp), St w0 (R * F) w → ∀ j u, xs[j]? = some u → w.cell? ⟨g, o + j, none⟩ = some u
/-- whoever holds R reads the slice v of n elements, sz cells each: xs -/
def Rd (sz : Nat) (R : HProp) (v : Value) (n : Nat) (xs : List Value) : Prop :=
  xs.length = n * sz ∧ ∃ a c, v = .slice a n c ∧ n ≤ c ∧ (n ≠ 0 → ∃ g o, a = some ⟨g, o, none⟩ ∧ At R g o xs)
theorem At.up {R R' G : HProp} {g o : Nat} {xs : List Value} [h : Foc R R' G] (hr : At R g o xs) : At R' g o xs :=
  fun w0 w F hs => hr w0 w (G * F) (hs.eq (by rw [h.out, mul_assoc']))
theorem Rd.up {sz : Nat} {R R' G : HProp} {v : Value} {n : Nat} {xs : List Value} [h : Foc R R' G] (hr : Rd sz R v n xs) : Rd sz R' v n xs := by
  obtain ⟨h1, a, c, h2, h3, h4⟩ := hr
  exact ⟨h1, a, c, h2, h3, fun hn => by obtain ⟨g, o, e, h⟩ := h4 hn; exact ⟨g, o, e, h.up⟩⟩
theorem Arr.rd {w0 w : World} {E : TypeId} {sz : Nat} {v : Value} {n : Nat} {xs : List Value} {F : HProp} (hs : St w0 (Arr E sz v n xs * F) w) : Rd sz (Arr E sz v n xs) v n xs := by
  have hl := hs.arr_len
  rcases hs.arr with ⟨rfl, rfl, rfl, _⟩ | ⟨g, cap, cur, rfl, h1, h2, h3, h4, h5⟩
  · exact ⟨by simp, none, 0, rfl, Nat.le_refl _, fun h => absurd rfl h⟩
  · refine ⟨hl, some ⟨g, 0, none⟩, cap, rfl, h1, fun hn => ⟨g, 0, rfl, fun w0 w F hs j u hj => ?_⟩⟩
    obtain ⟨g', c', e, _, _, hc⟩ := hs.arr_slice hn
    cases e
    rw [Nat.zero_add]; exact hc j u hj
theorem pts_at (b : Nat) (cs : Array Value) (E : TypeId) (fr : Nat × Nat) : At (pts b (.cells cs E fr)) b 0 cs.toList := fun w0 w F hs j u hj => by
  rw [Nat.zero_add, hs.cell]; simpa using hj
theorem pts_rd (b : Nat) (cs : Array Value) (E : TypeId) (fr : Nat × Nat) (sz n c : Nat) (h : cs.size = n * sz) (hc : n ≤ c) : Rd sz (pts b (.cells cs E fr)) (.slice (some ⟨b, 0, none⟩) n c) n cs.toList :=
  ⟨by simpa using h, _, _, rfl, hc, fun _ => ⟨b, 0, rfl, pts_at b cs E fr⟩⟩
theorem nil_rd (sz : Nat) (R : HProp) : Rd sz R (.slice none 0 0) 0 [] := ⟨by simp, _, _, rfl, Nat.le_refl _, fun h => absurd rfl h⟩
theorem Rd.part {sz : Nat} {R : HProp} {a : Option Addr} {n c : Nat} {xs : List Value} (hr : Rd sz R (.slice a n c) n xs) (i j : Nat) (hij : i ≤ j) (hj : j ≤ n) :
    Rd sz R (.slice (if c = i then a else a.map (·.add (i * sz))) (j - i) (c - i)) (j - i) ((xs.drop (i * sz)).take ((j - i) * sz)) := by
  obtain ⟨h1, a', c', e, h3, h4⟩ := hr
  cases e
  have e1 : j * sz ≤ n * sz := Nat.mul_le_mul_right _ hj
  have e2 : (j - i) * sz = j * sz - i * sz := Nat.sub_mul j i sz
  have e3 : i * sz ≤ j * sz := Nat.mul_le_mul_right _ hij
  refine ⟨by rw [List.length_take, List.length_drop, h1]; omega, _, _, rfl, by omega, fun hn => ?_⟩
  obtain ⟨g, o, rfl, h⟩ := h4 (by omega)
  refine ⟨g, o + i * sz, by rw [if_neg (by omega), Option.map_some, add_plain], fun w0 w F hs k u hk => ?_⟩
  rw [List.getElem?_take] at hk
  split at hk
  · rw [List.getElem?_drop] at hk
    rw [Nat.add_assoc]; exact h w0 w F hs _ u hk
  · cases hk
theorem Rd.head {sz : Nat} {R : HProp} {a : Option Addr} {n c : Nat} {xs : List Value} (hr : Rd sz R (.slice a n c) n xs) (j : Nat) (hj : j ≤ n) : Rd sz R (.slice a j c) j (xs.take (j * sz)) := by
  obtain ⟨h1, a', c', e, h3, h4⟩ := hr
  cases e
  have e1 : j * sz ≤ n * sz := Nat.mul_le_mul_right _ hj
  refine ⟨by rw [List.length_take, h1]; omega, _, _, rfl, by omega, fun hn => ?_⟩
  obtain ⟨g, o, rfl, h⟩ := h4 (by omega)
  refine ⟨g, o, rfl, fun w0 w F hs k u hk => h w0 w F hs k u ?_⟩
  rw [List.getElem?_take] at hk
  split at hk
  · exact hk
  · cases hk
theorem Rd.tail {sz : Nat} {R : HProp} {a : Option Addr} {n c : Nat} {xs : List Value} (hr : Rd sz R (.slice a n c) n xs) (i : Nat) (hi : i ≤ n) :
    Rd sz R (.slice (if c = i then a else a.map (·.add (i * sz))) (n - i) (c - i)) (n - i) (xs.drop (i * sz)) := by
  have h := hr.part i n hi (Nat.le_refl _)
  have h1 := hr.1
  rw [List.take_of_length_le (by rw [List.length_drop, h1, Nat.sub_mul]; omega)] at h
  exact h

/- rows of a known width -/
theorem row_at {α : Type} (f : α → List Value) (k : Nat) (hf : ∀ x, (f x).length = k) (l : List α) (i : Nat) (x : α) (h : l[i]? = some x) : ((l.flatMap f).drop (i * k)).take k = f x := by
  induction l generalizing i with
  | nil => simp at h
  | cons y l ih =>
    cases i with
    | zero =>
      simp at h; subst h
      rw [Nat.zero_mul, List.drop_zero, List.flatMap_cons, ← hf y, List.take_left]
    | succ i =>
      simp at h
      rw [List.flatMap_cons, Nat.succ_mul, Nat.add_comm, ← List.drop_drop]
      have : List.drop k (f y ++ List.flatMap f l) = List.flatMap f l := by rw [← hf y]; exact List.drop_left
      rw [this]; exact ih i h
theorem row_len {α : Type} (f : α → List Value) (k : Nat) (hf : ∀ x, (f x).length = k) (l : List α) : (l.flatMap f).length = l.length * k := by
  induction l with
  | nil => simp
  | cons y l ih => rw [List.flatMap_cons, List.length_append, hf, ih, List.length_cons, Nat.succ_mul]; omega
theorem row_take {α : Type} (f : α → List Value) (k : Nat) (hf : ∀ x, (f x).length = k) (l : List α) (i : Nat) : (l.take i).flatMap f = (l.flatMap f).take (i * k) := by
  induction l generalizing i with
  | nil => simp
  | cons y l ih =>
    cases i with
    | zero => simp
    | succ i =>
      rw [List.take_succ_cons, List.flatMap_cons, List.flatMap_cons, ih, Nat.succ_mul, Nat.add_comm, ← hf y, List.take_length_add_append]
theorem row_drop {α : Type} (f : α → List Value) (k : Nat) (hf : ∀ x, (f x).length = k) (l : List α) (i : Nat) : (l.drop i).flatMap f = (l.flatMap f).drop (i * k) := by
  induction l generalizing i with
  | nil => simp
  | cons y l ih =>
    cases i with
    | zero => simp
    | succ i =>
      rw [List.drop_succ_cons, List.flatMap_cons, ih, Nat.succ_mul, Nat.add_comm, ← List.drop_drop]
      congr 1
      rw [← hf y]; exact List.drop_left.symm
theorem at_row {α : Type} (f : α → List Value) (k : Nat) (hf : ∀ x, (f x).length = k) {l : List α} {R F : HProp} {g o i : Nat} {x : α} {w0 w : World} (ha : At R g o (l.flatMap f)) (hs : St w0 (R * F) w) (h : l[i]? = some x) : Cells w ⟨g, o + i * k, none⟩ (f x) := by
  intro j u hj
  have e := row_at f k hf l i x h
  rw [add_plain, Nat.add_assoc]
  refine ha w0 w F hs _ u ?_
  rw [← e, List.getElem?_take] at hj
  split at hj
  · rw [List.getElem?_drop] at hj; exact hj
  · cases hj
def encO (l : List Sop) : List Value := l.flatMap fun o => (opC o).toList
theorem encO_len (l : List Sop) : (encO l).length = l.length * 6 := row_len _ 6 (fun _ => rfl) l
theorem encO_append (a b : List Sop) : encO (a ++ b) = encO a ++ encO b := by simp [encO]
def RdO (R : HProp) (v : Value) (l : List Sop) : Prop := Rd 6 R v l.length (encO l)
def RdI (R : HProp) (v : Value) (l : List It) : Prop := Rd 2 R v l.length (encs l)
def encK (l : List Int) : List Value := l.flatMap fun k => [.int .i64 k]
def RdK (R : HProp) (v : Value) (l : List Int) : Prop := Rd 1 R v l.length (encK l)
abbrev OArr (v : Value) (l : List Sop) : HProp := Arr 26 6 v l.length (encO l)
theorem op_cells {R F : HProp} {g o i : Nat} {l : List Sop} {x : Sop} {w0 w : World} (ha : At R g o (encO l)) (hs : St w0 (R * F) w) (h : l[i]? = some x) : Cells w ⟨g, o + i * 6, none⟩ [.int .i64 x.kind, .int .i64 x.tree, .int .i64 x.key, .int .i64 x.to, .int .i64 x.val, .int .i64 x.cnt] :=
  at_row (fun o => (opC o).toList) 6 (fun _ => rfl) ha hs h
theorem item_cells {R F : HProp} {g o i : Nat} {l : List It} {x : It} {w0 w : World} (ha : At R g o (encs l)) (hs : St w0 (R * F) w) (h : l[i]? = some x) : Cells w ⟨g, o + i * 2, none⟩ [.int .i64 x.key, .int .i64 x.val] :=
  at_row enc 2 (fun _ => rfl) ha hs h
theorem key_cell {R F : HProp} {g o i : Nat} {l : List Int} {x : Int} {w0 w : World} (ha : At R g o (encK l)) (hs : St w0 (R * F) w) (h : l[i]? = some x) : w.cell? ⟨g, o + i * 1, none⟩ = some (.int .i64 x) := by
  have := at_row (fun k => [.int .i64 k]) 1 (fun _ => rfl) ha hs h 0 (.int .i64 x) rfl
  rwa [add_plain] at this
/-- rows of answers; ss: their slices of items -/
def encA (al : List An) (ss : List Value) : List Value := (al.zip ss).flatMap fun p => [.bool p.1.ok, .int .i64 p.1.n, p.2]
def RdA (R : HProp) (v : Value) (al : List An) : Prop := ∃ ss : List Value, ss.length = al.length ∧ Rd 3 R v al.length (encA al ss) ∧ ∀ (i : Nat) (a : An) (s : Value), al[i]? = some a → ss[i]? = some s → RdI R s a.items
def itsS (al : List An) (ss : List Value) : HProp := stars ((al.zip ss).map fun p => IArr p.2 p.1.items)
def AArr (v : Value) (al : List An) : HProp := ex fun ss : List Value => pu (ss.length = al.length) * (Arr 36 3 v al.length (encA al ss) * itsS al ss)
theorem RdA.up {R R' G : HProp} {v : Value} {al : List An} [h : Foc R R' G] (hr : RdA R v al) : RdA R' v al := by
  obtain ⟨ss, h1, h2, h3⟩ := hr
  exact ⟨ss, h1, h2.up, fun i a s ha hs => (h3 i a s ha hs).up⟩
theorem ans_cells {R F : HProp} {g o i : Nat} {al : List An} {ss : List Value} {a : An} {s : Value} {w0 w : World} (ha : At R g o (encA al ss)) (hs : St w0 (R * F) w) (h : al[i]? = some a) (h2 : ss[i]? = some s) : Cells w ⟨g, o + i * 3, none⟩ [.bool a.ok, .int .i64 a.n, s] :=
  at_row (fun p : An × Value => [.bool p.1.ok, .int .i64 p.1.n, p.2]) 3 (fun _ => rfl) ha hs (x := (a, s)) (by rw [List.getElem?_zip_eq_some]; exact ⟨h, h2⟩)
theorem itsS_snoc (al : List An) (ss : List Value) (a : An) (s : Value) (h : ss.length = al.length) : itsS (al ++ [a]) (ss ++ [s]) = itsS al ss * IArr s a.items := by
  unfold itsS
  rw [List.zip_append h.symm, List.map_append, stars_append]
  show _ * stars [IArr s a.items] = _
  rw [show stars [IArr s a.items] = IArr s a.items * 1 from rfl, mul_one']
theorem encA_snoc (al : List An) (ss : List Value) (a : An) (s : Value) (h : ss.length = al.length) : encA (al ++ [a]) (ss ++ [s]) = encA al ss ++ [.bool a.ok, .int .i64 a.n, s] := by
  unfold encA
  rw [List.zip_append h.symm, List.flatMap_append]; rfl
/-- answers that are owned are read -/
theorem aarr_rd {w0 w : World} {v : Value} {al : List An} {ss : List Value} {F : HProp} (hl : ss.length = al.length) (hs : St w0 (Arr 36 3 v al.length (encA al ss) * itsS al ss * F) w) : RdA (Arr 36 3 v al.length (encA al ss) * itsS al ss) v al := by
  refine ⟨ss, hl, ?_, fun i a s ha hss => ?_⟩
  · rw [mul_assoc'] at hs
    exact (Arr.rd hs).up
  · have hz : ((al.zip ss).map fun p => IArr p.2 p.1.items)[i]? = some (IArr s a.items) := by
      rw [List.getElem?_map, (List.getElem?_zip_eq_some (z := (a, s))).2 ⟨ha, hss⟩]; rfl
    have e := stars_at hz
    have e2 : Arr 36 3 v al.length (encA al ss) * itsS al ss = IArr s a.items * (stars (((al.zip ss).map fun p => IArr p.2 p.1.items).eraseIdx i) * Arr 36 3 v al.length (encA al ss)) := by
      rw [← mul_assoc', ← e, mul_comm']; rfl
    have hs2 := hs.eq (by rw [e2, mul_assoc'] : _ = IArr s a.items * (stars (((al.zip ss).map fun p => IArr p.2 p.1.items).eraseIdx i) * Arr 36 3 v al.length (encA al ss) * F))
    have hr : RdI (IArr s a.items) s a.items := Arr.rd hs2
    rw [e2]; exact hr.up
/-- all that is held in the beginning -/
def base (h0 : Hp) : HProp := fun h => h = h0
end Go.Proofs.Ytnnembkganlbpaa
/- The walk of a script over the first of eight trees. -/
namespace Go.Proofs.Ytnnembkganlbpaa
open Go Go.Sl Go.Net Go.Wk Go.Bt Go.RowKit

theorem aarr_mk {v : Value} {n : Nat} {al : List An} {ss : List Value} (hn : n = al.length) (hl : ss.length = al.length) : Ent (Arr 36 3 v n (encA al ss) * itsS al ss) (AArr v al) := fun x hxi => ⟨ss, by
  show (pu _ * _) x
  rw [pu_true hl, ← hn]; exact hxi⟩
theorem take_snoc {α : Type} {l : List α} {i : Nat} {x : α} (h : l[i]? = some x) : l.take (i + 1) = l.take i ++ [x] := by rw [List.take_add_one, h]; rfl
set_option maxHeartbeats 3200000 in
theorem f41_ok (c fl d ab tb : Nat) (R : HProp) (v : Value) (os : List Sop) (l : List It) (cs : Array Value) (hcs : cs[0]? = some (ptr tb)) (hR : RdO R v os) (hd : 2 ≤ d) (hd2 : d ≤ 1000) (hll : l.length + os.length < 100000) (h0 : ∀ o ∈ os, o.tree = 0 ∧ o.kind ≠ 17) :
    Tri Try.prog 41 #[ptr ab, v] (R * (pts ab (.cells cs 60 (0, 0)) * (BT c d tb l * Ctx c fl))) fun r => R * AArr r (runL l os) := by
  obtain ⟨hxl, a1, c1, rfl, hc1, hrd⟩ := hR
  intro w0 F w hs
  simp only [mul_assoc'] at hs
  refine calls_WP 46 #[.tmp 4] Try.func41 rfl Try.ntmps41 rfl (Nat.le_of_ble_eq_true rfl) ?_
  refine WP_seq ?_
  -- R0
  refine WP_seqr [⟨0, 0, []⟩] (by kernel_rfl) ?_
  refine ns_asg rfl rfl ?_
  refine ns_done ?_
  refine WP_seq ?_
  -- R1
  refine WP_seqr [⟨0, 2, []⟩, ⟨1, 0, []⟩] (by kernel_rfl) ?_
  refine ns_lit0 sl_28 hs rfl rfl ?_
  refine fun b9 w hs hx => ⟨trivial, ?_⟩
  refine ns_asg rfl rfl ?_
  refine ns_done ?_
  refine WP_seq_cut (fun σ w => ∃ (out : Value) (ss : List Value), ss.length = os.length ∧ σ 5 = out ∧ St w0 (R * (Arr 36 3 out os.length (encA (runL l os) ss) * (itsS (runL l os) ss * F))) w) ?_ ?_ -- S1
  · refine WP_seq ?_
    -- R2
    refine WP_seqr [⟨0, 0, []⟩, ⟨1, 0, []⟩, ⟨2, 0, []⟩] (by kernel_rfl) ?_
    refine ns_move rfl rfl ?_
    refine ns_len sl_24 rfl rfl rfl ?_
    refine ns_move rfl rfl ?_
    refine ns_done ?_
    refine WP_block ?_
    refine WP_loop (fun m σ w => ∃ (i : Nat) (out : Value) (ss : List Value), m = os.length - i ∧ i ≤ os.length ∧ ss.length = i ∧ σ 0 = ptr ab ∧ σ 5 = out ∧ σ 10 = .slice a1 os.length c1 ∧ σ 11 = .int .i64 (os.length : Int) ∧ σ 12 = .int .i64 (i : Int) ∧ St w0 (R * (Arr 36 3 out i (encA (runL l (os.take i)) ss) * (itsS (runL l (os.take i)) ss * (pts ab (.cells cs 60 (0, 0)) * (BT c d tb (afterL l (os.take i)) * (Ctx c fl * F)))))) w) os.length ?_ ?_ -- L1
    · refine ⟨0, .slice (some ⟨b9, 0, none⟩) 0 0, [], rfl, Nat.zero_le _, rfl, rfl, rfl, rfl, rfl, rfl, ?_⟩
      show St w0 (R * (Arr 36 3 _ 0 [] * (1 * (_ * (BT c d tb l * _))))) w
      rw [one_mul']
      exact hs.out
    rintro m σ w ⟨i, out, ss, rfl, hi, hss, g0, g5, g10, g11, g12, hs⟩
    obtain ⟨σ, rfl⟩ := rebase g0
    obtain ⟨σ, rfl⟩ := rebase (σ := σ) g5
    obtain ⟨σ, rfl⟩ := rebase (σ := σ) g10
    obtain ⟨σ, rfl⟩ := rebase (σ := σ) g11
    obtain ⟨σ, rfl⟩ := rebase (σ := σ) g12
    clear g0 g5 g10 g11 g12
    refine WP_seq ?_
    -- R3
    refine WP_seqr [⟨0, 0, []⟩] (by kernel_rfl) ?_
    refine ns_cmp _ rfl rfl rfl rfl rfl ?_
    refine ns_done ?_
    refine WP_seq ?_ -- S2
    refine WP_if' rfl (fun hif1 => ?_) (fun hif1 => ?_)
    · refine WP_exit ?_
      have hi2 : i = os.length := by have := of_decide_eq_false hif1; omega
      subst hi2
      refine ⟨out, ss, hss, rfl, ?_⟩
      rw [List.take_length] at hs
      exact hs.out
    refine WP_skip ?_
    have hi2 : i < os.length := by have := of_decide_eq_true hif1; omega
    obtain ⟨x, hxi⟩ : ∃ x, os[i]? = some x := ⟨os[i]'hi2, List.getElem?_eq_getElem hi2⟩
    obtain ⟨g, o, rfl, hat⟩ := hrd (by omega)
    have hx0 := h0 x (List.mem_of_getElem? hxi)
    have hal := after_len (os.take i) l
    rw [List.length_take] at hal
    have hrl := run_length (os.take i) l
    rw [List.length_take, Nat.min_eq_left hi] at hrl
    refine WP_seq ?_ -- S3
    refine WP_block ?_
    refine WP_seq ?_
    -- R4
    refine WP_seqr [⟨0, 0, []⟩, ⟨1, 1, []⟩, ⟨2, 2, []⟩, ⟨3, 2, []⟩] (by kernel_rfl) ?_
    refine ns_idx i sl_24 rfl rfl rfl rfl rfl hi2 ?_
    refine ns_ldA [.int .i64 x.kind, .int .i64 x.tree, .int .i64 x.key, .int .i64 x.to, .int .i64 x.val, .int .i64 x.cnt] ag_26 rfl rfl rfl rfl (by decide) (op_cells hat (hs.foc R) hxi) ?_
    refine ns_alloc zc_26 hs rfl rfl ?_
    intro b7 w hs
    refine ns_stA (#[.int .i64 x.kind, .int .i64 x.tree, .int .i64 x.key, .int .i64 x.to, .int .i64 x.val, .int .i64 x.cnt]) ag_26 rfl (by decide) hs rfl rfl rfl rfl (by intro u hu; simp at hu; rcases hu with rfl | rfl | rfl | rfl | rfl | rfl <;> rfl) (by simp) ?_
    refine fun w hs => ⟨trivial, ?_⟩
    refine ns_done ?_
    have hs : St w0 (pts b7 (.cells (opC x) 26 (0, 0)) * _) w := hs
    refine WP_seq ?_
    -- R5
    refine WP_net hs mix [0, 0, 2, 6, 1, 31, 63, 127] [⟨0, 0, []⟩, ⟨1, 0, []⟩, ⟨2, 1, []⟩, ⟨3, 0, []⟩, ⟨4, 0, []⟩, ⟨5, 0, []⟩, ⟨6, 1, []⟩, ⟨7, 0, []⟩] (by kernel_rfl) ?_
    intro w hs
    refine ns_move rfl rfl ?_
    refine ns_fld fo_26_1 rfl rfl rfl ?_
    refine ns_ldB pl_2 hs rfl rfl rfl (by rfl) ?_
    refine ns_and0 rfl rfl rfl rfl hx0.1 ?_
    refine ns_nil rfl rfl rfl ?_
    refine ns_idxA 0 ar_60 rfl rfl rfl rfl rfl (by decide) ?_
    refine ns_ldB pl_59 hs rfl rfl rfl hcs ?_
    refine ns_asg rfl rfl ?_
    refine ns_done ?_
    refine WP_seq ?_ -- S4
    refine WP_seq ?_
    -- R6
    refine WP_seqr [⟨0, 0, []⟩, ⟨1, 1, []⟩, ⟨2, 0, []⟩] (by kernel_rfl) ?_
    refine ns_fld fo_26_0 rfl rfl rfl ?_
    refine ns_ldB pl_2 hs rfl rfl rfl (by rfl) ?_
    refine ns_cmp false rfl rfl rfl rfl (by simp [cmpI, hx0.2]) ?_
    refine ns_done ?_
    refine WP_false rfl ?_ -- if2
    refine WP_skip ?_
    -- R9
    refine WP_seqr [⟨0, 0, []⟩, ⟨1, 0, []⟩, ⟨2, 1, []⟩, ⟨3, 2, []⟩, ⟨4, 2, []⟩, ⟨5, 2, []⟩, ⟨6, 0, []⟩] (by kernel_rfl) ?_
    refine ns_move rfl rfl ?_
    refine ns_move rfl rfl ?_
    refine ns_ldAB [.int .i64 x.kind, .int .i64 x.tree, .int .i64 x.key, .int .i64 x.to, .int .i64 x.val, .int .i64 x.cnt] ag_26 hs rfl rfl rfl (by rfl) (by rfl) (by decide) ?_
    refine ns_call (f46_ok c fl d tb x (afterL l (os.take i)) hd hd2 (by omega)) ck_46 (hs.foc (BT c d tb (afterL l (os.take i)) * Ctx c fl)) rfl rfl rfl rfl ?_
    intro v41 w hs
    generalize hst : stepL (afterL l (os.take i)) x = st at hs
    simp only [mul_assoc'] at hs
    replace hs := (hs.foc (AnP st.2 v41)).ex
    obtain ⟨s9, hs⟩ := hs
    replace hs := hs.pu
    obtain ⟨rfl, hs⟩ := hs
    obtain ⟨a5, c5, rfl, _, _⟩ := (hs.foc (IArr s9 st.2.items)).arr_form
    refine ns_lit [.agg #[.bool st.2.ok, .int .i64 st.2.n, .slice a5 st.2.items.length c5]] [.bool st.2.ok, .int .i64 st.2.n, .slice a5 st.2.items.length c5] sl_28 zr_36 (by decide) (by decide) hs rfl rfl rfl rfl (by simp [Value.cells]) rfl ?_
    refine fun b42 w hs hx => ⟨trivial, ?_⟩
    refine ns_app [.bool st.2.ok, .int .i64 st.2.n, .slice a5 st.2.items.length c5] sl_28 zr_36 by_36 rfl (by decide) (hs.foc (Arr 36 3 out i (encA (runL l (os.take i)) ss))) rfl rfl rfl rfl rfl (St.cells (n := 3) hs (by rfl)) (by intro u hu; simp at hu; rcases hu with rfl | rfl | rfl <;> rfl) (by simp only [maxLen]; omega) (by omega) ?_
    refine fun v43 w hs hv => ⟨trivial, ?_⟩
    have hs := hs.up (Ent.of_eq (congrArg (Arr 36 3 v43 (i + 1)) (encA_snoc (runL l (os.take i)) ss st.2 (.slice a5 st.2.items.length c5) (by omega)).symm))
    have hs := hs.fold (Ent.of_eq (itsS_snoc (runL l (os.take i)) ss st.2 (.slice a5 st.2.items.length c5) (by omega)).symm)
    refine ns_asg rfl rfl ?_
    refine ns_done ?_
    -- R10
    refine WP_seqr [⟨0, 0, []⟩, ⟨1, 0, []⟩] (by kernel_rfl) ?_
    refine ns_add rfl rfl rfl rfl (by omega) (by omega) ?_
    refine ns_move rfl rfl ?_
    refine ns_done ?_
    refine ⟨os.length - (i + 1), by omega, i + 1, v43, ss ++ [.slice a5 st.2.items.length c5], rfl, by omega, by simp [hss], rfl, rfl, rfl, rfl, rfl, ?_⟩
    have e2 : runL l (os.take (i + 1)) = runL l (os.take i) ++ [st.2] := by
      rw [take_snoc hxi, run_append, ← hst]; rfl
    have e3 : afterL l (os.take (i + 1)) = st.1 := by
      rw [take_snoc hxi, after_append, ← hst]; rfl
    rw [e2, e3]
    exact hs.out
    
  rintro σ w ⟨out, ss, hss, g5, hs⟩
  obtain ⟨σ, rfl⟩ := rebase g5
  refine WP_seq ?_
  -- R11
  refine WP_seqr [⟨0, 0, []⟩, ⟨1, 0, []⟩] (by kernel_rfl) ?_
  refine ns_move rfl rfl ?_
  refine ns_asg rfl rfl ?_
  refine ns_done ?_
  refine WP_ret ?_
  have hrl := run_length os l
  have hs := hs.fold (aarr_mk (v := out) (al := runL l os) (ss := ss) hrl.symm (by omega))
  refine ⟨_, res1 _, ?_⟩
  show St w0 ((R * AArr out (runL l os)) * F) w
  exact hs.out
end Go.Proofs.Ytnnembkganlbpaa
/- Parts of rows that are read; what a script is when its steps are laid upon the first tree. -/
namespace Go.Proofs.Ytnnembkganlbpaa
open Go Go.Sl Go.Net Go.Wk Go.Bt Go.RowKit

theorem rd_len {sz : Nat} {R : HProp} {v : Value} {n m : Nat} {xs ys : List Value} (h : Rd sz R v n xs) (hn : n = m) (hx : xs = ys) : Rd sz R v m ys := by subst hn; subst hx; exact h
theorem RdO.part {R : HProp} {a : Option Addr} {c : Nat} {l : List Sop} {n : Nat} (hn : n = l.length) (hr : RdO R (.slice a n c) l) (i j : Nat) (hij : i ≤ j) (hj : j ≤ n) : RdO R (.slice (if c = i then a else a.map (·.add (i * 6))) (j - i) (c - i)) ((l.drop i).take (j - i)) := by
  subst hn
  refine rd_len (Rd.part hr i j hij hj) (by rw [List.length_take, List.length_drop]; omega) ?_
  unfold encO; rw [row_take _ 6 (fun _ => rfl), row_drop _ 6 (fun _ => rfl)]
theorem RdI.part {R : HProp} {a : Option Addr} {c : Nat} {l : List It} {n : Nat} (hn : n = l.length) (hr : RdI R (.slice a n c) l) (i j : Nat) (hij : i ≤ j) (hj : j ≤ n) : RdI R (.slice (if c = i then a else a.map (·.add (i * 2))) (j - i) (c - i)) ((l.drop i).take (j - i)) := by
  subst hn
  refine rd_len (Rd.part hr i j hij hj) (by rw [List.length_take, List.length_drop]; omega) ?_
  rw [encs_take, encs_drop]
theorem zip_drop' {α β : Type} (a : List α) (b : List β) (i : Nat) : (a.zip b).drop i = (a.drop i).zip (b.drop i) := by
  induction a generalizing b i with
  | nil => simp
  | cons x a ih =>
    cases b with
    | nil => simp
    | cons y b => cases i with
      | zero => rfl
      | succ i => exact ih b i
theorem zip_take' {α β : Type} (a : List α) (b : List β) (i : Nat) : (a.zip b).take i = (a.take i).zip (b.take i) := by
  induction a generalizing b i with
  | nil => simp
  | cons x a ih =>
    cases b with
    | nil => simp
    | cons y b => cases i with
      | zero => rfl
      | succ i => exact congrArg ((x, y) :: ·) (ih b i)
theorem encA_drop (al : List An) (ss : List Value) (i : Nat) : encA (al.drop i) (ss.drop i) = (encA al ss).drop (i * 3) := by
  unfold encA; rw [← zip_drop', row_drop _ 3 (fun _ => rfl)]
theorem encA_take (al : List An) (ss : List Value) (i : Nat) : encA (al.take i) (ss.take i) = (encA al ss).take (i * 3) := by
  unfold encA; rw [← zip_take', row_take _ 3 (fun _ => rfl)]
theorem RdA.part {R : HProp} {a : Option Addr} {c : Nat} {al : List An} {n : Nat} (hn : n = al.length) (hr : RdA R (.slice a n c) al) (i j : Nat) (hij : i ≤ j) (hj : j ≤ n) : RdA R (.slice (if c = i then a else a.map (·.add (i * 3))) (j - i) (c - i)) ((al.drop i).take (j - i)) := by
  subst hn
  obtain ⟨ss, h1, h2, h3⟩ := hr
  refine ⟨(ss.drop i).take (j - i), by rw [List.length_take, List.length_take, List.length_drop, List.length_drop, h1], ?_, fun k x s hk hs => ?_⟩
  · refine rd_len (Rd.part h2 i j hij hj) (by rw [List.length_take, List.length_drop]; omega) ?_
    rw [encA_take, encA_drop]
  · rw [List.getElem?_take] at hk hs
    split at hk
    · rename_i hlt
      rw [if_pos hlt] at hs
      rw [List.getElem?_drop] at hk hs
      exact h3 _ x s hk hs
    · cases hk
theorem RdA.tail {R : HProp} {a : Option Addr} {c : Nat} {al : List An} {n : Nat} (hn : n = al.length) (hr : RdA R (.slice a n c) al) (i : Nat) (hi : i ≤ n) : RdA R (.slice (if c = i then a else a.map (·.add (i * 3))) (n - i) (c - i)) (al.drop i) := by
  have h := RdA.part hn hr i n hi (Nat.le_refl _)
  rwa [List.take_of_length_le (by rw [List.length_drop]; omega)] at h
theorem RdA.head {R : HProp} {a : Option Addr} {c : Nat} {al : List An} {n : Nat} (hn : n = al.length) (hr : RdA R (.slice a n c) al) (j : Nat) (hj : j ≤ n) : RdA R (.slice a j c) (al.take j) := by
  subst hn
  obtain ⟨ss, h1, h2, h3⟩ := hr
  refine ⟨ss.take j, by rw [List.length_take, List.length_take, h1], ?_, fun k x s hk hs => ?_⟩
  · refine rd_len (Rd.head h2 j hj) (by rw [List.length_take]; omega) (encA_take ..).symm
  · rw [List.getElem?_take] at hk hs
    split at hk
    · rename_i hlt
      rw [if_pos hlt] at hs
      exact h3 _ x s hk hs
    · cases hk
/-- what is read of an answer's place -/
theorem RdA.form {R : HProp} {v : Value} {al : List An} (hr : RdA R v al) : ∃ a c, v = .slice a al.length c ∧ al.length ≤ c := by
  obtain ⟨ss, h1, ⟨_, a, c, e, h, _⟩, _⟩ := hr
  exact ⟨a, c, e, h⟩
theorem RdA.get {R : HProp} {v : Value} {al : List An} (hr : RdA R v al) {i : Nat} {x : An} (hx : al[i]? = some x) :
    ∃ g o c s, v = .slice (some ⟨g, o, none⟩) al.length c ∧ RdI R s x.items ∧ ∀ (w0 w : World) (F : HProp), St w0 (R * F) w → Cells w ⟨g, o + i * 3, none⟩ [.bool x.ok, .int .i64 x.n, s] := by
  obtain ⟨ss, h1, ⟨_, a, c, rfl, h, h4⟩, h3⟩ := hr
  obtain ⟨hi, _⟩ := List.getElem?_eq_some_iff.1 hx
  obtain ⟨g, o, rfl, hat⟩ := h4 (by omega)
  have hs : ss[i]? = some (ss[i]'(by omega)) := List.getElem?_eq_getElem (by omega)
  exact ⟨g, o, c, ss[i]'(by omega), rfl, h3 i x _ hx hs, fun w0 w F hst => ans_cells hat hst hx hs⟩
/-- the steps that are no clones, laid upon the first tree -/
def onT (l : List Sop) : List Sop := (l.filter fun o => o.kind != 17).map fun o => { o with tree := 0 }
theorem onT_append (a b : List Sop) : onT (a ++ b) = onT a ++ onT b := by simp [onT]
theorem onT_len (l : List Sop) : (onT l).length ≤ l.length := by
  unfold onT; rw [List.length_map]; exact List.length_filter_le ..
theorem onT_one (o : Sop) : onT [o] = if o.kind = 17 then [] else [{ o with tree := 0 }] := by
  by_cases h : o.kind = 17 <;> simp [onT, h]
theorem onT_ok {l : List Sop} : ∀ o ∈ onT l, o.tree = 0 ∧ o.kind ≠ 17 := by
  intro o ho
  simp only [onT, List.mem_map, List.mem_filter] at ho
  obtain ⟨x, ⟨_, hx⟩, rfl⟩ := ho
  exact ⟨rfl, by simpa using hx⟩
/-- a walk over all, and what it tells -/
def allL (k key to : Int) : Sop := ⟨k, 0, key, to, 0, 4000⟩
end Go.Proofs.Ytnnembkganlbpaa
/- The walks of the script's runner with eight new trees, and of the laws' first helpers. -/
namespace Go.Proofs.Ytnnembkganlbpaa
open Go Go.Sl Go.Net Go.Wk Go.Bt Go.RowKit

theorem pp_26 : placesOf Try.prog 26 = some [(0, 1), (1, 1), (2, 1), (3, 1), (4, 1), (5, 1)] := by kernel_rfl
/-- k trees are made; the first is held -/
def T8 (d k : Nat) (cs : Array Value) : HProp := ex fun p : Nat × Nat × Nat => pu (0 < k → cs[0]? = some (ptr p.1)) * (if k = 0 then 1 else BT p.2.1 d p.1 [] * Ctx p.2.1 p.2.2)
theorem t8_zero (d : Nat) (cs : Array Value) : Ent 1 (T8 d 0 cs) := fun x hx => ⟨(0, 0, 0), by
  show (pu _ * (1 : HProp)) x
  rw [pu_true (fun h => absurd h (Nat.lt_irrefl 0))]; exact hx⟩
theorem t8_one (d b c fl k : Nat) (cs : Array Value) (hk : 0 < k) (h : cs[0]? = some (ptr b)) : Ent (BT c d b [] * Ctx c fl) (T8 d k cs) := fun x hx => ⟨(b, c, fl), by
  show (pu _ * (if k = 0 then 1 else BT c d b [] * Ctx c fl)) x
  rw [pu_true (fun _ => h), if_neg (by omega)]; exact hx⟩
theorem t8_up (d k : Nat) (cs cs2 : Array Value) (hk : 0 < k) (h : cs2[0]? = cs[0]?) : Ent (T8 d k cs) (T8 d (k + 1) cs2) := fun x hx => by
  obtain ⟨p, hp⟩ := hx
  refine ⟨p, ?_⟩
  show (pu _ * (if k + 1 = 0 then 1 else _)) x
  rw [if_neg (by omega)] at hp ⊢
  rw [pu_mul] at hp ⊢
  exact ⟨fun _ => by rw [h]; exact hp.1 hk, hp.2⟩
theorem St.t8 {w0 w : World} {d k : Nat} {cs : Array Value} {F : HProp} (hk : 0 < k) (hs : St w0 (T8 d k cs * F) w) : ∃ b c fl, cs[0]? = some (ptr b) ∧ St w0 (BT c d b [] * (Ctx c fl * F)) w := by
  obtain ⟨⟨b, c, fl⟩, hs⟩ := hs.ex
  obtain ⟨h, hs⟩ := hs.pu
  rw [if_neg (by omega), mul_assoc'] at hs
  exact ⟨b, c, fl, h hk, hs⟩
theorem set_ne0 {cs : Array Value} {k : Nat} {v : Value} (hk : 0 < k) : (cs.setIfInBounds k v)[0]? = cs[0]? := by
  rw [Array.getElem?_setIfInBounds]; rw [if_neg (by omega)]
set_option maxHeartbeats 1600000 in
theorem f29_ok (R : HProp) (v : Value) (os : List Sop) (d : Nat) (hR : RdO R v os) (hd : 2 ≤ d) (hd2 : d ≤ 1000) (hll : os.length < 90000) (h0 : ∀ o ∈ os, o.tree = 0 ∧ o.kind ≠ 17) :
    Tri Try.prog 29 #[.int .i64 d, v] R fun r => R * AArr r (runL [] os) := by
  intro w0 F w hs
  refine calls_WP 18 #[.tmp 4] Try.func29 rfl Try.ntmps29 rfl (Nat.le_of_ble_eq_true rfl) ?_
  refine WP_seq ?_
  -- R0
  refine WP_seqr [⟨0, 0, []⟩] (by kernel_rfl) ?_
  refine ns_asg rfl rfl ?_
  refine ns_done ?_
  refine WP_seq ?_
  -- R1
  refine WP_seqr [⟨0, 0, []⟩, ⟨1, 2, []⟩, ⟨2, 2, []⟩] (by kernel_rfl) ?_
  refine ns_buildA ar_60 zc_60 rfl rfl ?_
  refine ns_alloc zc_60 hs rfl rfl ?_
  intro b5 w hs
  refine ns_stA (#[.pointer none, .pointer none, .pointer none, .pointer none, .pointer none, .pointer none, .pointer none, .pointer none]) ag_60 rfl (by decide) hs rfl rfl rfl rfl (by intro u hu; simp at hu; subst hu; rfl) (by simp) ?_
  refine fun w hs => ⟨trivial, ?_⟩
  refine ns_done ?_
  have hs : St w0 (pts b5 (.cells #[.pointer none, .pointer none, .pointer none, .pointer none, .pointer none, .pointer none, .pointer none, .pointer none] 60 (0, 0)) * _) w := hs
  refine WP_seq_cut (fun σ w => ∃ (cs : Array Value), σ 1 = v ∧ σ 5 = .pointer (some ⟨b5, 0, none⟩) ∧ St w0 (T8 d 8 cs * (pts b5 (.cells cs 60 (0, 0)) * (R * F))) w) ?_ ?_ -- S1
  · refine WP_seq ?_
    -- R2
    refine WP_seqr [⟨0, 0, []⟩] (by kernel_rfl) ?_
    refine ns_move rfl rfl ?_
    refine ns_done ?_
    refine WP_block ?_
    refine WP_loop (fun m σ w => ∃ (k : Nat) (cs : Array Value), m = 8 - k ∧ k ≤ 8 ∧ cs.size = 8 ∧ σ 0 = .int .i64 d ∧ σ 1 = v ∧ σ 5 = .pointer (some ⟨b5, 0, none⟩) ∧ σ 8 = .int .i64 (k : Int) ∧ St w0 (T8 d k cs * (pts b5 (.cells cs 60 (0, 0)) * (R * F))) w) 8 ?_ ?_ -- L1
    · refine ⟨0, #[.pointer none, .pointer none, .pointer none, .pointer none, .pointer none, .pointer none, .pointer none, .pointer none], rfl, by omega, rfl, rfl, rfl, rfl, rfl, ?_⟩
      exact ((hs.foc 1).up (t8_zero d #[.pointer none, .pointer none, .pointer none, .pointer none, .pointer none, .pointer none, .pointer none, .pointer none])).out
    rintro m σ w ⟨k, cs, rfl, hk, hsz, g0, g1, g5, g8, hs⟩
    obtain ⟨σ, rfl⟩ := rebase g0
    obtain ⟨σ, rfl⟩ := rebase (σ := σ) g1
    obtain ⟨σ, rfl⟩ := rebase (σ := σ) g5
    obtain ⟨σ, rfl⟩ := rebase (σ := σ) g8
    clear g0 g1 g5 g8
    refine WP_seq ?_
    -- R3
    refine WP_seqr [⟨0, 0, []⟩] (by kernel_rfl) ?_
    refine ns_cmp _ rfl rfl rfl rfl rfl ?_
    refine ns_done ?_
    refine WP_seq ?_ -- S2
    refine WP_if' rfl (fun hif1 => ?_) (fun hif1 => ?_)
    · refine WP_exit ?_
      have hk2 : k = 8 := by have := of_decide_eq_false hif1; omega
      subst hk2
      exact ⟨cs, rfl, rfl, hs⟩
    refine WP_skip ?_
    have hk2 : k < 8 := by have := of_decide_eq_true hif1; omega
    refine WP_seq ?_ -- S3
    refine WP_block ?_
    refine WP_seq ?_
    -- R4
    refine WP_seqr [⟨0, 0, []⟩, ⟨1, 0, []⟩] (by kernel_rfl) ?_
    refine ns_move rfl rfl ?_
    refine ns_asg rfl rfl ?_
    refine ns_done ?_
    -- R5
    refine WP_seqr [⟨0, 0, []⟩, ⟨1, 0, []⟩, ⟨2, 2, []⟩, ⟨3, 0, []⟩, ⟨4, 2, []⟩] (by kernel_rfl) ?_
    refine ns_move rfl rfl ?_
    refine ns_move rfl rfl ?_
    refine ns_call (f39_ok d hd) ck_39 (hs.foc 1) rfl rfl rfl rfl ?_
    intro v13 w hs
    replace hs := hs.ex
    obtain ⟨⟨b, c, fl⟩, hs⟩ := hs
    replace hs := hs.pu
    obtain ⟨rfl, hs⟩ := hs
    simp only [mul_assoc'] at hs
    refine ns_idxA k ar_60 rfl rfl rfl rfl rfl hk2 ?_
    refine ns_st (ptr b) pl_59 hs rfl rfl rfl rfl rfl (by rw [hsz]; omega) ?_
    refine fun w hs => ⟨trivial, ?_⟩
    simp only [Nat.zero_add, Nat.mul_one] at hs
    refine ns_done ?_
    -- R6
    refine WP_seqr [⟨0, 0, []⟩, ⟨1, 0, []⟩] (by kernel_rfl) ?_
    refine ns_add rfl rfl rfl rfl (by omega) (by omega) ?_
    refine ns_move rfl rfl ?_
    refine ns_done ?_
    refine ⟨8 - (k + 1), by omega, k + 1, cs.setIfInBounds k (ptr b), rfl, by omega, by simp [hsz], rfl, rfl, rfl, rfl, ?_⟩
    rcases Nat.eq_zero_or_pos k with e | e
    · subst e
      exact (hs.fold (t8_one d b c fl 1 (cs.setIfInBounds 0 (ptr b)) (by omega) (by simp [hsz]))).out
    · exact (hs.fold (t8_up d k cs (cs.setIfInBounds k (ptr b)) e (set_ne0 e))).out
    
  rintro σ w ⟨cs, g1, g5, hs⟩
  obtain ⟨σ, rfl⟩ := rebase g1
  obtain ⟨σ, rfl⟩ := rebase (σ := σ) g5
  clear g1 g5
  replace hs := St.t8 (by omega) hs
  obtain ⟨b, c, fl, hcs, hs⟩ := hs
  refine WP_seq ?_
  -- R7
  refine WP_seqr [⟨0, 0, []⟩, ⟨1, 2, []⟩, ⟨2, 0, []⟩] (by kernel_rfl) ?_
  refine ns_move rfl rfl ?_
  refine ns_call (f41_ok c fl d b5 b R v os [] cs hcs hR hd hd2 (by simp only [List.length_nil]; omega) h0) ck_41 (hs.foc (R * (pts b5 (.cells cs 60 (0, 0)) * (BT c d b [] * Ctx c fl)))) rfl rfl rfl rfl ?_
  intro v17 w hs
  simp only [mul_assoc'] at hs
  refine ns_asg rfl rfl ?_
  refine ns_done ?_
  refine WP_ret ?_
  refine ⟨_, res1 _, ?_⟩
  show St w0 ((R * AArr v17 (runL [] os)) * F) w
  exact hs.out
theorem f20_ok (d : Int) (a : Option Addr) (n c : Nat) : Tri Try.prog 20 #[.int .i64 d, .slice a n c] 1 fun r => pu (r = .bool (decide (2 ≤ d ∧ d ≤ 1000 ∧ n ≤ 2000))) := by
  intro w0 F w hs
  rw [one_mul'] at hs
  refine calls_WP 16 #[.tmp 4] Try.func20 rfl Try.ntmps20 rfl (Nat.le_of_ble_eq_true rfl) ?_
  refine WP_seq ?_
  -- R0
  refine WP_seqr [⟨0, 0, []⟩] (by kernel_rfl) ?_
  refine ns_asg rfl rfl ?_
  refine ns_done ?_
  refine WP_seq_cut (fun σ w => σ 4 = .bool (decide (2 ≤ d ∧ d ≤ 1000 ∧ n ≤ 2000)) ∧ St w0 F w) ?_ ?_ -- R1.cut
  · rcases (show d < 2 ∨ (2 ≤ d ∧ 1000 < d) ∨ (2 ≤ d ∧ d ≤ 1000) from by omega) with h1 | ⟨h1, h2⟩ | ⟨h1, h2⟩
    · -- R1
      refine WP_seqr [⟨0, 0, []⟩, ⟨1, 0, []⟩, ⟨2, 0, []⟩, ⟨3, 0, []⟩, ⟨4, 0, []⟩, ⟨5, 0, []⟩, ⟨6, 0, []⟩, ⟨7, 0, []⟩, ⟨8, 0, []⟩, ⟨9, 0, []⟩, ⟨10, 0, []⟩, ⟨11, 0, []⟩] (by kernel_rfl) ?_
      refine ns_move rfl rfl ?_
      refine ns_cmp false rfl rfl rfl rfl (by simp [cmpI]; omega) ?_
      refine ns_move rfl rfl ?_
      refine ns_no rfl rfl ?_
      refine ns_no rfl rfl ?_
      refine ns_pick rfl rfl rfl ?_
      refine ns_move rfl rfl ?_
      refine ns_no rfl rfl ?_
      refine ns_no rfl rfl ?_
      refine ns_no rfl rfl ?_
      refine ns_pick rfl rfl rfl ?_
      refine ns_asg rfl rfl ?_
      refine ns_done ?_
      exact ⟨congrArg Value.bool (decide_eq_false (by omega)).symm, hs⟩
    · -- R1
      refine WP_seqr [⟨0, 0, []⟩, ⟨1, 0, []⟩, ⟨2, 0, []⟩, ⟨3, 0, []⟩, ⟨4, 0, []⟩, ⟨5, 0, []⟩, ⟨6, 0, []⟩, ⟨7, 0, []⟩, ⟨8, 0, []⟩, ⟨9, 0, []⟩, ⟨10, 0, []⟩, ⟨11, 0, []⟩] (by kernel_rfl) ?_
      refine ns_move rfl rfl ?_
      refine ns_cmp true rfl rfl rfl rfl (by simp [cmpI]; omega) ?_
      refine ns_move rfl rfl ?_
      refine ns_move rfl rfl ?_
      refine ns_cmp false rfl rfl rfl rfl (by simp [cmpI]; omega) ?_
      refine ns_pick rfl rfl rfl ?_
      refine ns_move rfl rfl ?_
      refine ns_no rfl rfl ?_
      refine ns_no rfl rfl ?_
      refine ns_no rfl rfl ?_
      refine ns_pick rfl rfl rfl ?_
      refine ns_asg rfl rfl ?_
      refine ns_done ?_
      exact ⟨congrArg Value.bool (decide_eq_false (by omega)).symm, hs⟩
    · -- R1
      refine WP_seqr [⟨0, 0, []⟩, ⟨1, 0, []⟩, ⟨2, 0, []⟩, ⟨3, 0, []⟩, ⟨4, 0, []⟩, ⟨5, 0, []⟩, ⟨6, 0, []⟩, ⟨7, 0, []⟩, ⟨8, 0, []⟩, ⟨9, 0, []⟩, ⟨10, 0, []⟩, ⟨11, 0, []⟩] (by kernel_rfl) ?_
      refine ns_move rfl rfl ?_
      refine ns_cmp true rfl rfl rfl rfl (by simp [cmpI]; omega) ?_
      refine ns_move rfl rfl ?_
      refine ns_move rfl rfl ?_
      refine ns_cmp true rfl rfl rfl rfl (by simp [cmpI]; omega) ?_
      refine ns_pick rfl rfl rfl ?_
      refine ns_move rfl rfl ?_
      refine ns_move rfl rfl ?_
      refine ns_len sl_24 rfl rfl rfl ?_
      refine ns_cmp _ rfl rfl rfl rfl rfl ?_
      refine ns_pick rfl rfl rfl ?_
      refine ns_asg rfl rfl ?_
      refine ns_done ?_
      exact ⟨congrArg Value.bool (decide_eq_decide.2 (by omega)), hs⟩
  rintro σ w ⟨g4, hs⟩
  obtain ⟨σ, rfl⟩ := rebase g4
  refine WP_ret ?_
  exact ⟨_, res1 _, St.mk_pure rfl hs⟩
theorem f21_ok (k key to : Int) : Tri Try.prog 21 #[.int .i64 k, .int .i64 key, .int .i64 to] 1 fun r => pu (r = opV (allL k key to)) := by
  intro w0 F w hs
  rw [one_mul'] at hs
  refine calls_WP 11 #[.cell 6 26] Try.func21 rfl Try.ntmps21 rfl (Nat.le_of_ble_eq_true rfl) ?_
  refine WP_seq ?_
  -- R0
  refine WP_seqr [⟨0, 2, []⟩] (by kernel_rfl) ?_
  refine ns_alloc zc_26 hs rfl rfl ?_
  intro b6 w hs
  refine ns_done ?_
  refine WP_seq ?_
  -- R1
  refine WP_seqr [⟨0, 0, []⟩, ⟨1, 0, []⟩, ⟨2, 0, []⟩, ⟨3, 0, []⟩, ⟨4, 2, []⟩] (by kernel_rfl) ?_
  refine ns_move rfl rfl ?_
  refine ns_move rfl rfl ?_
  refine ns_move rfl rfl ?_
  refine ns_build [(0, .int .i64 k), (2, .int .i64 key), (3, .int .i64 to), (5, .int .i64 4000)] (#[.int .i64 k, .int .i64 0, .int .i64 key, .int .i64 to, .int .i64 0, .int .i64 4000]) pp_26 zc_26 rfl rfl rfl rfl ?_
  refine ns_stA (#[.int .i64 k, .int .i64 0, .int .i64 key, .int .i64 to, .int .i64 0, .int .i64 4000]) ag_26 rfl (by decide) hs rfl rfl rfl rfl (by intro u hu; simp at hu; rcases hu with rfl | rfl | rfl | rfl | rfl | rfl <;> rfl) (by simp) ?_
  refine fun w hs => ⟨trivial, ?_⟩
  refine ns_done ?_
  refine WP_ret ?_
  have hload := run_loadVarA (P := Try.prog) (t := 26) (n := 6) (ad := ⟨b6, 0, none⟩) (vs := [.int .i64 k, .int .i64 0, .int .i64 key, .int .i64 to, .int .i64 0, .int .i64 4000]) ag_26 rfl (by decide) w (St.cells (n := 6) hs (by rfl))
  exact ⟨_, resC 6 26 rfl hload, St.mk_pure rfl hs.drop⟩
set_option maxHeartbeats 1600000 in
theorem f28_ok (R : HProp) (v : Value) (os : List Sop) (hR : RdO R v os) (hll : os.length < 90000) : Tri Try.prog 28 #[v] R fun r => R * OArr r (onT os) := by
  obtain ⟨hxl, a1, c1, rfl, hc1, hrd⟩ := hR
  intro w0 F w hs
  refine calls_WP 23 #[.tmp 2] Try.func28 rfl Try.ntmps28 rfl (Nat.le_of_ble_eq_true rfl) ?_
  refine WP_seq ?_
  -- R0
  refine WP_seqr [⟨0, 0, []⟩] (by kernel_rfl) ?_
  refine ns_asg rfl rfl ?_
  refine ns_done ?_
  refine WP_seq ?_
  -- R1
  refine WP_seqr [⟨0, 2, []⟩, ⟨1, 0, []⟩] (by kernel_rfl) ?_
  refine ns_lit0 sl_24 hs rfl rfl ?_
  refine fun b6 w hs hx => ⟨trivial, ?_⟩
  refine ns_asg rfl rfl ?_
  refine ns_done ?_
  refine WP_seq_cut (fun σ w => ∃ (out : Value), σ 3 = out ∧ St w0 (R * (OArr out (onT os) * F)) w) ?_ ?_ -- S1
  · refine WP_seq ?_
    -- R2
    refine WP_seqr [⟨0, 0, []⟩, ⟨1, 0, []⟩, ⟨2, 0, []⟩] (by kernel_rfl) ?_
    refine ns_move rfl rfl ?_
    refine ns_len sl_24 rfl rfl rfl ?_
    refine ns_move rfl rfl ?_
    refine ns_done ?_
    refine WP_block ?_
    refine WP_loop (fun m σ w => ∃ (i : Nat) (out : Value), m = os.length - i ∧ i ≤ os.length ∧ σ 3 = out ∧ σ 7 = .slice a1 os.length c1 ∧ σ 8 = .int .i64 (os.length : Int) ∧ σ 9 = .int .i64 (i : Int) ∧ St w0 (R * (OArr out (onT (os.take i)) * F)) w) os.length ?_ ?_ -- L1
    · refine ⟨0, .slice (some ⟨b6, 0, none⟩) 0 0, rfl, Nat.zero_le _, rfl, rfl, rfl, rfl, ?_⟩
      show St w0 (R * (Arr 26 6 _ 0 [] * F)) w
      exact hs.out
    rintro m σ w ⟨i, out, rfl, hi, g3, g7, g8, g9, hs⟩
    obtain ⟨σ, rfl⟩ := rebase g3
    obtain ⟨σ, rfl⟩ := rebase (σ := σ) g7
    obtain ⟨σ, rfl⟩ := rebase (σ := σ) g8
    obtain ⟨σ, rfl⟩ := rebase (σ := σ) g9
    clear g3 g7 g8 g9
    refine WP_seq ?_
    -- R3
    refine WP_seqr [⟨0, 0, []⟩] (by kernel_rfl) ?_
    refine ns_cmp _ rfl rfl rfl rfl rfl ?_
    refine ns_done ?_
    refine WP_seq ?_ -- S2
    refine WP_if' rfl (fun hif1 => ?_) (fun hif1 => ?_)
    · refine WP_exit ?_
      have hi2 : i = os.length := by have := of_decide_eq_false hif1; omega
      subst hi2
      refine ⟨out, rfl, ?_⟩
      rw [List.take_length] at hs
      exact hs
    refine WP_skip ?_
    have hi2 : i < os.length := by have := of_decide_eq_true hif1; omega
    obtain ⟨x, hxi⟩ : ∃ x, os[i]? = some x := ⟨os[i]'hi2, List.getElem?_eq_getElem hi2⟩
    obtain ⟨g, o, rfl, hat⟩ := hrd (by omega)
    have hal := onT_len (os.take i)
    rw [List.length_take] at hal
    have e2 : onT (os.take (i + 1)) = onT (os.take i) ++ onT [x] := by rw [take_snoc hxi, onT_append]
    refine WP_seq_cut (fun σ w => ∃ (out : Value), σ 3 = out ∧ σ 7 = .slice (some ⟨g, o, none⟩) os.length c1 ∧ σ 8 = .int .i64 (os.length : Int) ∧ σ 9 = .int .i64 (i : Int) ∧ St w0 (R * (OArr out (onT (os.take (i + 1))) * F)) w) ?_ ?_ -- S3
    · refine WP_block ?_
      refine WP_seq ?_
      -- R4
      refine WP_seqr [⟨0, 0, []⟩, ⟨1, 1, []⟩, ⟨2, 2, []⟩, ⟨3, 2, []⟩] (by kernel_rfl) ?_
      refine ns_idx i sl_24 rfl rfl rfl rfl rfl hi2 ?_
      refine ns_ldA [.int .i64 x.kind, .int .i64 x.tree, .int .i64 x.key, .int .i64 x.to, .int .i64 x.val, .int .i64 x.cnt] ag_26 rfl rfl rfl rfl (by decide) (op_cells hat (hs.foc R) hxi) ?_
      refine ns_alloc zc_26 hs rfl rfl ?_
      intro b5 w hs
      refine ns_stA (#[.int .i64 x.kind, .int .i64 x.tree, .int .i64 x.key, .int .i64 x.to, .int .i64 x.val, .int .i64 x.cnt]) ag_26 rfl (by decide) hs rfl rfl rfl rfl (by intro u hu; simp at hu; rcases hu with rfl | rfl | rfl | rfl | rfl | rfl <;> rfl) (by simp) ?_
      refine fun w hs => ⟨trivial, ?_⟩
      refine ns_done ?_
      have hs : St w0 (pts b5 (.cells #[.int .i64 x.kind, .int .i64 x.tree, .int .i64 x.key, .int .i64 x.to, .int .i64 x.val, .int .i64 x.cnt] 26 (0, 0)) * _) w := hs
      refine WP_seq ?_
      -- R5
      refine WP_seqr [⟨0, 0, []⟩, ⟨1, 1, []⟩, ⟨2, 0, []⟩] (by kernel_rfl) ?_
      refine ns_fld fo_26_0 rfl rfl rfl ?_
      refine ns_ldB pl_2 hs rfl rfl rfl (by rfl) ?_
      refine ns_cmp _ rfl rfl rfl rfl rfl ?_
      refine ns_done ?_
      refine WP_if rfl (fun hif2 => ?_) (fun hif2 => ?_)
      · refine WP_seq ?_
        -- R6
        refine WP_seqr [⟨0, 0, []⟩, ⟨1, 2, []⟩] (by kernel_rfl) ?_
        refine ns_fld fo_26_1 rfl rfl rfl ?_
        refine ns_st (.int .i64 0) pl_2 hs rfl rfl rfl rfl rfl (by simp) ?_
        refine fun w hs => ⟨trivial, ?_⟩
        try simp only [Nat.zero_add] at hs
        try simp only [List.setIfInBounds_toArray] at hs
        try simp only [List.set_cons_succ] at hs
        try simp only [List.set_cons_zero] at hs
        refine ns_done ?_
        -- R7
        refine WP_seqr [⟨0, 0, []⟩, ⟨1, 1, []⟩, ⟨2, 2, []⟩, ⟨3, 2, []⟩, ⟨4, 0, []⟩] (by kernel_rfl) ?_
        refine ns_move rfl rfl ?_
        refine ns_ldAB [.int .i64 x.kind, .int .i64 0, .int .i64 x.key, .int .i64 x.to, .int .i64 x.val, .int .i64 x.cnt] ag_26 hs rfl rfl rfl (by rfl) (by rfl) (by decide) ?_
        refine ns_lit [.agg #[.int .i64 x.kind, .int .i64 0, .int .i64 x.key, .int .i64 x.to, .int .i64 x.val, .int .i64 x.cnt]] [.int .i64 x.kind, .int .i64 0, .int .i64 x.key, .int .i64 x.to, .int .i64 x.val, .int .i64 x.cnt] sl_24 zr_26 (by decide) (by decide) hs rfl rfl rfl rfl (by simp [Value.cells]) rfl ?_
        refine fun b19 w hs hx => ⟨trivial, ?_⟩
        refine ns_app [.int .i64 x.kind, .int .i64 0, .int .i64 x.key, .int .i64 x.to, .int .i64 x.val, .int .i64 x.cnt] sl_24 zr_26 by_26 rfl (by decide) (hs.foc (OArr out (onT (os.take i)))) rfl rfl rfl rfl rfl (St.cells (n := 6) hs (by rfl)) (by intro u hu; simp at hu; rcases hu with rfl | rfl | rfl | rfl | rfl | rfl <;> rfl) (by simp only [maxLen]; omega) (by omega) ?_
        refine fun v20 w hs hv => ⟨trivial, ?_⟩
        refine ns_asg rfl rfl ?_
        refine ns_done ?_
        have hk : x.kind ≠ 17 := by simpa using hif2
        have e3 : onT [x] = [{ x with tree := 0 }] := by rw [onT_one, if_neg hk]
        refine ⟨v20, rfl, rfl, rfl, rfl, ?_⟩
        rw [e2, e3]
        have e4 : OArr v20 (onT (os.take i) ++ [{ x with tree := 0 }]) = Arr 26 6 v20 ((onT (os.take i)).length + 1) (encO (onT (os.take i)) ++ [.int .i64 x.kind, .int .i64 0, .int .i64 x.key, .int .i64 x.to, .int .i64 x.val, .int .i64 x.cnt]) := by
          show Arr 26 6 v20 _ _ = _
          rw [List.length_append, encO_append]; rfl
        rw [e4]
        exact hs.out
      refine WP_skip ?_
      have hk : x.kind = 17 := by simpa using hif2
      have e3 : onT [x] = [] := by rw [onT_one, if_pos hk]
      rw [e3, List.append_nil] at e2
      refine ⟨out, rfl, rfl, rfl, rfl, ?_⟩
      rw [e2]
      exact hs.out
    rintro σ w ⟨out, g3, g7, g8, g9, hs⟩
    obtain ⟨σ, rfl⟩ := rebase g3
    obtain ⟨σ, rfl⟩ := rebase (σ := σ) g7
    obtain ⟨σ, rfl⟩ := rebase (σ := σ) g8
    obtain ⟨σ, rfl⟩ := rebase (σ := σ) g9
    clear g3 g7 g8 g9
    -- R8
    refine WP_seqr [⟨0, 0, []⟩, ⟨1, 0, []⟩] (by kernel_rfl) ?_
    refine ns_add rfl rfl rfl rfl (by omega) (by omega) ?_
    refine ns_move rfl rfl ?_
    refine ns_done ?_
    exact ⟨os.length - (i + 1), by omega, i + 1, out, rfl, by omega, rfl, rfl, rfl, rfl, hs⟩
    
  rintro σ w ⟨out, g3, hs⟩
  obtain ⟨σ, rfl⟩ := rebase g3
  refine WP_seq ?_
  -- R9
  refine WP_seqr [⟨0, 0, []⟩, ⟨1, 0, []⟩] (by kernel_rfl) ?_
  refine ns_move rfl rfl ?_
  refine ns_asg rfl rfl ?_
  refine ns_done ?_
  refine WP_ret ?_
  refine ⟨_, res1 _, ?_⟩
  show St w0 ((R * OArr out (onT os)) * F) w
  exact hs.out
theorem encO_one (l : List Sop) : ∀ u ∈ encO l, u.oneCell' = true := by
  intro u hu
  simp only [encO, List.mem_flatMap] at hu
  obtain ⟨x, _, hx⟩ := hu
  simp [opC] at hx
  rcases hx with rfl | rfl | rfl | rfl | rfl | rfl <;> rfl
set_option maxHeartbeats 1600000 in
theorem f22_ok (R : HProp) (v v2 : Value) (os more : List Sop) (d : Nat) (hR : RdO R v os) (hR2 : RdO R v2 more) (hm : more ≠ []) (hd : 2 ≤ d) (hd2 : d ≤ 1000) (hll : os.length < 20000) (hlm : more.length < 20000) (h0 : ∀ o ∈ more, o.tree = 0 ∧ o.kind ≠ 17) :
    Tri Try.prog 22 #[.int .i64 d, v, v2] R fun r => ex fun p : Value × HProp => pu (r = .tuple #[p.1, .bool true] ∧ RdA p.2 p.1 (runL (afterL [] (onT os)) more)) * (R * p.2) := by
  obtain ⟨hxl, a2, c2, rfl, hc2, hrd⟩ := hR2
  have hmp : 0 < more.length := List.length_pos_iff.2 hm
  obtain ⟨g, o, rfl, hat⟩ := hrd (by omega)
  have hol := onT_len os
  intro w0 F w hs
  refine calls_WP 29 #[.tmp 6, .tmp 7] Try.func22 rfl Try.ntmps22 rfl (Nat.le_of_ble_eq_true rfl) ?_
  refine WP_seq ?_
  -- R0
  refine WP_seqr [⟨0, 0, []⟩, ⟨1, 0, []⟩] (by kernel_rfl) ?_
  refine ns_asg rfl rfl ?_
  refine ns_asg rfl rfl ?_
  refine ns_done ?_
  refine WP_seq ?_
  -- R1
  refine WP_seqr [⟨0, 0, []⟩, ⟨1, 2, []⟩, ⟨2, 0, []⟩] (by kernel_rfl) ?_
  refine ns_move rfl rfl ?_
  refine ns_call (f28_ok R v os hR (by omega)) ck_28 (hs.foc R) rfl rfl rfl rfl ?_
  intro v12 w hs
  simp only [mul_assoc'] at hs
  obtain ⟨a3, c3, rfl, _, _⟩ := (hs.foc (OArr v12 (onT os))).arr_form
  refine ns_asg rfl rfl ?_
  refine ns_done ?_
  refine WP_seq ?_
  -- R2
  refine WP_seqr [⟨0, 0, []⟩, ⟨1, 0, []⟩, ⟨2, 0, []⟩] (by kernel_rfl) ?_
  refine ns_move rfl rfl ?_
  refine ns_len sl_24 rfl rfl rfl ?_
  refine ns_asg rfl rfl ?_
  refine ns_done ?_
  refine WP_seq ?_
  -- R3
  refine WP_seqr [⟨0, 0, []⟩, ⟨1, 0, []⟩, ⟨2, 2, []⟩, ⟨3, 0, []⟩] (by kernel_rfl) ?_
  refine ns_move rfl rfl ?_
  refine ns_move rfl rfl ?_
  refine ns_app (encO more) sl_24 zr_26 by_26 rfl (by decide) (hs.foc (OArr (.slice a3 (onT os).length c3) (onT os))) rfl rfl rfl rfl (encO_len more) (fun j u hj => by rw [add_plain]; exact hat w0 w _ (hs.foc R) j u hj) (encO_one more) (by simp only [maxLen]; omega) (by omega) ?_
  refine fun v17 w hs hv => ⟨trivial, ?_⟩
  have hs := hs.up (Ent.of_eq (show Arr 26 6 v17 ((onT os).length + more.length) (encO (onT os) ++ encO more) = OArr v17 (onT os ++ more) from by rw [← encO_append, ← List.length_append]))
  have hr17 := Arr.rd hs
  refine ns_asg rfl rfl ?_
  refine ns_done ?_
  refine WP_seq ?_
  -- R4
  refine WP_seqr [⟨0, 0, []⟩, ⟨1, 0, []⟩, ⟨2, 2, []⟩, ⟨3, 0, []⟩] (by kernel_rfl) ?_
  refine ns_move rfl rfl ?_
  refine ns_move rfl rfl ?_
  refine ns_call (f29_ok (OArr v17 (onT os ++ more)) v17 (onT os ++ more) d hr17 hd hd2 (by rw [List.length_append]; omega) (fun o ho => (List.mem_append.1 ho).elim (onT_ok o) (h0 o))) ck_29 (hs.foc (OArr v17 (onT os ++ more))) rfl rfl rfl rfl ?_
  intro v20 w hs
  simp only [mul_assoc'] at hs
  replace hs := (hs.foc (AArr v20 (runL [] (onT os ++ more)))).ex
  obtain ⟨ss, hs⟩ := hs
  replace hs := hs.pu
  obtain ⟨hss, hs⟩ := hs
  have hra := aarr_rd hss hs
  have hrl := run_length (onT os ++ more) []
  generalize hal : runL [] (onT os ++ more) = al at hs hra hss hrl
  simp only [mul_assoc'] at hs
  obtain ⟨a4, c4, rfl, _⟩ := hra.form
  obtain ⟨a5, c5, rfl, _, _⟩ := (hs.foc (OArr v17 (onT os ++ more))).arr_form
  refine ns_asg rfl rfl ?_
  refine ns_done ?_
  refine WP_seq ?_ -- S1
  refine WP_seq ?_
  -- R5
  refine WP_seqr [⟨0, 0, []⟩, ⟨1, 0, []⟩, ⟨2, 0, []⟩, ⟨3, 0, []⟩, ⟨4, 0, []⟩] (by kernel_rfl) ?_
  refine ns_move rfl rfl ?_
  refine ns_len sl_28 rfl rfl rfl ?_
  refine ns_move rfl rfl ?_
  refine ns_len sl_24 rfl rfl rfl ?_
  refine ns_cmp false rfl rfl rfl rfl (by simp only [cmpI, hrl, bne_self_eq_false]) ?_
  refine ns_done ?_
  refine WP_false rfl ?_ -- if1
  refine WP_skip ?_
  refine WP_seq ?_
  -- R7
  refine WP_seqr [⟨0, 0, []⟩, ⟨1, 0, []⟩, ⟨2, 0, []⟩, ⟨3, 0, []⟩, ⟨4, 0, []⟩] (by kernel_rfl) ?_
  refine ns_move rfl rfl ?_
  refine ns_move rfl rfl ?_
  refine ns_sliceLo (onT os).length sl_28 rfl rfl rfl rfl rfl (by rw [hrl, List.length_append]; omega) ?_
  refine ns_asg rfl rfl ?_
  refine ns_asg rfl rfl ?_
  refine ns_done ?_
  refine WP_ret ?_
  have hlt : (onT os).length ≤ al.length := by rw [hrl, List.length_append]; omega
  have ht := RdA.tail rfl hra (onT os).length hlt
  have e : al.drop (onT os).length = runL (afterL [] (onT os)) more := by
    rw [← hal, run_append, ← run_length (onT os) [], List.drop_left]
  rw [e] at ht
  refine ⟨_, res2 _ _, St.mk_ex (_, Arr 36 3 (.slice a4 al.length c4) al.length (encA al ss) * itsS al ss) (St.mk_pu ⟨rfl, ht⟩ ?_)⟩
  show St w0 ((R * (Arr 36 3 (.slice a4 al.length c4) al.length (encA al ss) * itsS al ss)) * F) w
  exact hs.out
end Go.Proofs.Ytnnembkganlbpaa
/- The walks of the laws' comparisons: rising keys, equal lists of items, equal answers; a list from its end. -/
namespace Go.Proofs.Ytnnembkganlbpaa
open Go Go.Sl Go.Net Go.Wk Go.Bt Go.RowKit
theorem srt_lt {l : List It} (h : Srt l) {i j : Nat} {x y : It} (hi : l[i]? = some x) (hj : l[j]? = some y) (hij : i < j) : x.key < y.key := by
  obtain ⟨h1, rfl⟩ := List.getElem?_eq_some_iff.1 hi
  obtain ⟨h2, rfl⟩ := List.getElem?_eq_some_iff.1 hj
  exact List.pairwise_iff_getElem.1 h i j h1 h2 hij
set_option maxHeartbeats 800000 in
theorem f35_ok (R : HProp) (v : Value) (l : List It) (hR : RdI R v l) (hS : Srt l) (hll : l.length < 1000000) : Tri Try.prog 35 #[v] R fun r => pu (r = .bool true) * R := by
  obtain ⟨hxl, a1, c1, rfl, hc1, hrd⟩ := hR
  intro w0 F w hs
  refine calls_WP 26 #[.tmp 2] Try.func35 rfl Try.ntmps35 rfl (Nat.le_of_ble_eq_true rfl) ?_
  refine WP_seq ?_
  -- R0
  refine WP_seqr [⟨0, 0, []⟩] (by kernel_rfl) ?_
  refine ns_asg rfl rfl ?_
  refine ns_done ?_
  refine WP_seq_cut (fun σ w => St w0 (R * F) w) ?_ ?_ -- S1
  · refine WP_seq ?_
    -- R1
    refine WP_seqr [⟨0, 0, []⟩, ⟨1, 0, []⟩, ⟨2, 0, []⟩] (by kernel_rfl) ?_
    refine ns_move rfl rfl ?_
    refine ns_len sl_34 rfl rfl rfl ?_
    refine ns_move rfl rfl ?_
    refine ns_done ?_
    refine WP_block ?_
    refine WP_loop (fun m σ w => ∃ i : Nat, m = l.length - i ∧ i ≤ l.length ∧ σ 0 = .slice a1 l.length c1 ∧ σ 5 = .slice a1 l.length c1 ∧ σ 6 = .int .i64 (l.length : Int) ∧ σ 7 = .int .i64 (i : Int) ∧ St w0 (R * F) w) l.length ?_ ?_ -- L1
    · exact ⟨0, rfl, Nat.zero_le _, rfl, rfl, rfl, rfl, hs⟩
    rintro m σ w ⟨i, rfl, hi, g0, g5, g6, g7, hs⟩
    obtain ⟨σ, rfl⟩ := rebase g0
    obtain ⟨σ, rfl⟩ := rebase (σ := σ) g5
    obtain ⟨σ, rfl⟩ := rebase (σ := σ) g6
    obtain ⟨σ, rfl⟩ := rebase (σ := σ) g7
    clear g0 g5 g6 g7
    refine WP_seq ?_
    -- R2
    refine WP_seqr [⟨0, 0, []⟩] (by kernel_rfl) ?_
    refine ns_cmp _ rfl rfl rfl rfl rfl ?_
    refine ns_done ?_
    refine WP_seq ?_ -- S2
    refine WP_if' rfl (fun hif1 => ?_) (fun hif1 => ?_)
    · refine WP_exit ?_
      exact hs
    refine WP_skip ?_
    have hi2 : i < l.length := by have := of_decide_eq_true hif1; omega
    obtain ⟨x, hxi⟩ : ∃ x, l[i]? = some x := ⟨l[i]'hi2, List.getElem?_eq_getElem hi2⟩
    obtain ⟨g, o, rfl, hat⟩ := hrd (by omega)
    refine WP_seq ?_ -- S3
    refine WP_block ?_
    refine WP_seq ?_
    -- R3
    refine WP_seqr [⟨0, 0, []⟩, ⟨1, 0, []⟩, ⟨2, 1, []⟩, ⟨3, 2, []⟩, ⟨4, 0, []⟩, ⟨5, 2, []⟩] (by kernel_rfl) ?_
    refine ns_move rfl rfl ?_
    refine ns_idx i sl_34 rfl rfl rfl rfl rfl hi2 ?_
    refine ns_ldA [.int .i64 x.key, .int .i64 x.val] ag_45 rfl rfl rfl rfl (by decide) (item_cells hat (hs.foc R) hxi) ?_
    refine ns_alloc zc_45 hs rfl rfl ?_
    intro b4 w hs
    refine ns_asg rfl rfl ?_
    refine ns_stA (#[.int .i64 x.key, .int .i64 x.val]) ag_45 rfl (by decide) hs rfl rfl rfl rfl (by intro u hu; simp at hu; rcases hu with rfl | rfl <;> rfl) (by simp) ?_
    refine fun w hs => ⟨trivial, ?_⟩
    refine ns_done ?_
    have hs : St w0 (pts b4 (.cells #[.int .i64 x.key, .int .i64 x.val] 45 (0, 0)) * _) w := hs
    refine WP_seq_cut (fun σ w => σ 24 = .bool false ∧ σ 0 = .slice (some ⟨g, o, none⟩) l.length c1 ∧ σ 5 = .slice (some ⟨g, o, none⟩) l.length c1 ∧ σ 6 = .int .i64 (l.length : Int) ∧ σ 7 = .int .i64 (i : Int) ∧ St w0 (R * F) w) ?_ ?_ -- R4.cut
    · rcases Nat.eq_zero_or_pos i with rfl | hp
      · -- R4
        refine WP_net hs mix [0, 1, 3, 7, 7, 23, 63, 127, 255, 7, 519, 2047, 4095] [⟨0, 0, []⟩, ⟨1, 0, []⟩, ⟨2, 0, []⟩, ⟨3, 0, []⟩, ⟨4, 0, []⟩, ⟨5, 0, []⟩, ⟨6, 0, []⟩, ⟨7, 0, []⟩, ⟨8, 0, []⟩, ⟨9, 0, []⟩, ⟨10, 0, []⟩, ⟨11, 0, []⟩, ⟨12, 0, []⟩] (by kernel_rfl) ?_
        intro w hs
        refine ns_move rfl rfl ?_
        refine ns_cmp false rfl rfl rfl rfl (by simp [cmpI]) ?_
        refine ns_move rfl rfl ?_
        refine ns_no rfl rfl ?_
        refine ns_no rfl rfl ?_
        refine ns_no rfl rfl ?_
        refine ns_no rfl rfl ?_
        refine ns_no rfl rfl ?_
        refine ns_no rfl rfl ?_
        refine ns_no rfl rfl ?_
        refine ns_no rfl rfl ?_
        refine ns_no rfl rfl ?_
        refine ns_pick rfl rfl rfl ?_
        refine ns_done ?_
        exact ⟨rfl, rfl, rfl, rfl, rfl, hs.out⟩
      · obtain ⟨y, hy⟩ : ∃ y, l[i - 1]? = some y := ⟨l[i - 1]'(by omega), List.getElem?_eq_getElem (by omega)⟩
        have hyx : y.key < x.key := srt_lt hS hy hxi (by omega)
        -- R4
        refine WP_net hs mix [0, 1, 3, 7, 7, 23, 63, 127, 255, 7, 519, 2047, 4095] [⟨0, 0, []⟩, ⟨1, 0, []⟩, ⟨2, 0, []⟩, ⟨3, 0, []⟩, ⟨4, 0, []⟩, ⟨5, 0, []⟩, ⟨6, 0, []⟩, ⟨7, 0, []⟩, ⟨8, 1, []⟩, ⟨9, 0, []⟩, ⟨10, 1, []⟩, ⟨11, 0, []⟩, ⟨12, 0, []⟩] (by kernel_rfl) ?_
        intro w hs
        refine ns_move rfl rfl ?_
        refine ns_cmp true rfl rfl rfl rfl (by simp [cmpI]; omega) ?_
        refine ns_move rfl rfl ?_
        refine ns_move rfl rfl ?_
        refine ns_move rfl rfl ?_
        refine ns_sub rfl rfl rfl rfl (by omega) (by omega) ?_
        refine ns_idx (i - 1) sl_34 rfl rfl rfl rfl (by omega) (by omega) ?_
        refine ns_fld fo_45_0 rfl rfl rfl ?_
        refine ns_ld pl_2 rfl rfl rfl ((item_cells hat (hs.foc R) hy).at 0 rfl) ?_
        refine ns_fld fo_45_0 rfl rfl rfl ?_
        refine ns_ldB pl_2 hs rfl rfl rfl (by rfl) ?_
        refine ns_cmp false rfl rfl rfl rfl (by simp [cmpI]; omega) ?_
        refine ns_pick rfl rfl rfl ?_
        refine ns_done ?_
        exact ⟨rfl, rfl, rfl, rfl, rfl, hs.out⟩
    rintro σ w ⟨g24, g0, g5, g6, g7, hs⟩
    obtain ⟨σ, rfl⟩ := rebase g24
    obtain ⟨σ, rfl⟩ := rebase (σ := σ) g0
    obtain ⟨σ, rfl⟩ := rebase (σ := σ) g5
    obtain ⟨σ, rfl⟩ := rebase (σ := σ) g6
    obtain ⟨σ, rfl⟩ := rebase (σ := σ) g7
    clear g24 g0 g5 g6 g7
    refine WP_false rfl ?_ -- if2
    refine WP_skip ?_
    -- R6
    refine WP_seqr [⟨0, 0, []⟩, ⟨1, 0, []⟩] (by kernel_rfl) ?_
    refine ns_add rfl rfl rfl rfl (by omega) (by omega) ?_
    refine ns_move rfl rfl ?_
    refine ns_done ?_
    exact ⟨l.length - (i + 1), by omega, i + 1, rfl, by omega, rfl, rfl, rfl, rfl, hs⟩
    
  intro σ w hs
  refine WP_seq ?_
  -- R7
  refine WP_seqr [⟨0, 0, []⟩] (by kernel_rfl) ?_
  refine ns_asg rfl rfl ?_
  refine ns_done ?_
  refine WP_ret ?_
  exact ⟨_, res1 _, St.mk_pu rfl hs⟩
set_option maxHeartbeats 800000 in
theorem f26_ok (R : HProp) (v v2 : Value) (l : List It) (hR : RdI R v l) (hR2 : RdI R v2 l) (hll : l.length < 1000000) : Tri Try.prog 26 #[v, v2] R fun r => pu (r = .bool true) * R := by
  obtain ⟨hxl, a1, c1, rfl, hc1, hrd⟩ := hR
  obtain ⟨_, a2, c2, rfl, hc2, hrd2⟩ := hR2
  intro w0 F w hs
  refine calls_WP 26 #[.tmp 4] Try.func26 rfl Try.ntmps26 rfl (Nat.le_of_ble_eq_true rfl) ?_
  refine WP_seq ?_
  -- R0
  refine WP_seqr [⟨0, 0, []⟩] (by kernel_rfl) ?_
  refine ns_asg rfl rfl ?_
  refine ns_done ?_
  refine WP_seq ?_ -- S1
  refine WP_seq ?_
  -- R1
  refine WP_seqr [⟨0, 0, []⟩, ⟨1, 0, []⟩, ⟨2, 0, []⟩, ⟨3, 0, []⟩, ⟨4, 0, []⟩] (by kernel_rfl) ?_
  refine ns_move rfl rfl ?_
  refine ns_len sl_34 rfl rfl rfl ?_
  refine ns_move rfl rfl ?_
  refine ns_len sl_34 rfl rfl rfl ?_
  refine ns_cmp false rfl rfl rfl rfl (by simp [cmpI]) ?_
  refine ns_done ?_
  refine WP_false rfl ?_ -- if1
  refine WP_skip ?_
  refine WP_seq_cut (fun σ w => St w0 (R * F) w) ?_ ?_ -- S2
  · refine WP_seq ?_
    -- R3
    refine WP_seqr [⟨0, 0, []⟩, ⟨1, 0, []⟩, ⟨2, 0, []⟩] (by kernel_rfl) ?_
    refine ns_move rfl rfl ?_
    refine ns_len sl_34 rfl rfl rfl ?_
    refine ns_move rfl rfl ?_
    refine ns_done ?_
    refine WP_block ?_
    refine WP_loop (fun m σ w => ∃ i : Nat, m = l.length - i ∧ i ≤ l.length ∧ σ 1 = .slice a2 l.length c2 ∧ σ 12 = .slice a1 l.length c1 ∧ σ 13 = .int .i64 (l.length : Int) ∧ σ 14 = .int .i64 (i : Int) ∧ St w0 (R * F) w) l.length ?_ ?_ -- L1
    · exact ⟨0, rfl, Nat.zero_le _, rfl, rfl, rfl, rfl, hs⟩
    rintro m σ w ⟨i, rfl, hi, g1, g12, g13, g14, hs⟩
    obtain ⟨σ, rfl⟩ := rebase g1
    obtain ⟨σ, rfl⟩ := rebase (σ := σ) g12
    obtain ⟨σ, rfl⟩ := rebase (σ := σ) g13
    obtain ⟨σ, rfl⟩ := rebase (σ := σ) g14
    clear g1 g12 g13 g14
    refine WP_seq ?_
    -- R4
    refine WP_seqr [⟨0, 0, []⟩] (by kernel_rfl) ?_
    refine ns_cmp _ rfl rfl rfl rfl rfl ?_
    refine ns_done ?_
    refine WP_seq ?_ -- S3
    refine WP_if' rfl (fun hif2 => ?_) (fun hif2 => ?_)
    · refine WP_exit ?_
      exact hs
    refine WP_skip ?_
    have hi2 : i < l.length := by have := of_decide_eq_true hif2; omega
    obtain ⟨x, hxi⟩ : ∃ x, l[i]? = some x := ⟨l[i]'hi2, List.getElem?_eq_getElem hi2⟩
    obtain ⟨g, o, rfl, hat⟩ := hrd (by omega)
    obtain ⟨g2, o2, rfl, hat2⟩ := hrd2 (by omega)
    refine WP_seq ?_ -- S4
    refine WP_block ?_
    refine WP_seq ?_
    -- R5
    refine WP_seqr [⟨0, 0, []⟩, ⟨1, 0, []⟩, ⟨2, 1, []⟩, ⟨3, 2, []⟩, ⟨4, 0, []⟩, ⟨5, 2, []⟩] (by kernel_rfl) ?_
    refine ns_move rfl rfl ?_
    refine ns_idx i sl_34 rfl rfl rfl rfl rfl hi2 ?_
    refine ns_ldA [.int .i64 x.key, .int .i64 x.val] ag_45 rfl rfl rfl rfl (by decide) (item_cells hat (hs.foc R) hxi) ?_
    refine ns_alloc zc_45 hs rfl rfl ?_
    intro b6 w hs
    refine ns_asg rfl rfl ?_
    refine ns_stA (#[.int .i64 x.key, .int .i64 x.val]) ag_45 rfl (by decide) hs rfl rfl rfl rfl (by intro u hu; simp at hu; rcases hu with rfl | rfl <;> rfl) (by simp) ?_
    refine fun w hs => ⟨trivial, ?_⟩
    refine ns_done ?_
    have hs : St w0 (pts b6 (.cells #[.int .i64 x.key, .int .i64 x.val] 45 (0, 0)) * _) w := hs
    refine WP_seq ?_
    -- R6
    refine WP_net hs mix [0, 0, 0, 6, 14, 31] [⟨0, 1, []⟩, ⟨1, 0, []⟩, ⟨2, 0, []⟩, ⟨3, 0, []⟩, ⟨4, 1, []⟩, ⟨5, 0, []⟩] (by kernel_rfl) ?_
    intro w hs
    refine ns_ldAB [.int .i64 x.key, .int .i64 x.val] ag_45 hs rfl rfl rfl (by rfl) (by rfl) (by decide) ?_
    refine ns_move rfl rfl ?_
    refine ns_move rfl rfl ?_
    refine ns_idx i sl_34 rfl rfl rfl rfl rfl hi2 ?_
    refine ns_ldA [.int .i64 x.key, .int .i64 x.val] ag_45 rfl rfl rfl rfl (by decide) (item_cells hat2 (hs.foc R) hxi) ?_
    refine ns_ne45 false rfl rfl rfl rfl (by simp) ?_
    refine ns_done ?_
    refine WP_false rfl ?_ -- if3
    refine WP_skip ?_
    -- R8
    refine WP_seqr [⟨0, 0, []⟩, ⟨1, 0, []⟩] (by kernel_rfl) ?_
    refine ns_add rfl rfl rfl rfl (by omega) (by omega) ?_
    refine ns_move rfl rfl ?_
    refine ns_done ?_
    exact ⟨l.length - (i + 1), by omega, i + 1, rfl, by omega, rfl, rfl, rfl, rfl, hs.out⟩
    
  intro σ w hs
  refine WP_seq ?_
  -- R9
  refine WP_seqr [⟨0, 0, []⟩] (by kernel_rfl) ?_
  refine ns_asg rfl rfl ?_
  refine ns_done ?_
  refine WP_ret ?_
  exact ⟨_, res1 _, St.mk_pu rfl hs⟩
set_option maxHeartbeats 800000 in
theorem f36_ok (R : HProp) (v : Value) (l : List It) (hR : RdI R v l) (hll : l.length < 1000000) : Tri Try.prog 36 #[v] R fun r => R * IArr r l.reverse := by
  obtain ⟨hxl, a1, c1, rfl, hc1, hrd⟩ := hR
  intro w0 F w hs
  refine calls_WP 24 #[.tmp 2] Try.func36 rfl Try.ntmps36 rfl (Nat.le_of_ble_eq_true rfl) ?_
  refine WP_seq ?_
  -- R0
  refine WP_seqr [⟨0, 0, []⟩] (by kernel_rfl) ?_
  refine ns_asg rfl rfl ?_
  refine ns_done ?_
  refine WP_seq ?_
  -- R1
  refine WP_seqr [⟨0, 2, []⟩, ⟨1, 0, []⟩] (by kernel_rfl) ?_
  refine ns_lit0 sl_34 hs rfl rfl ?_
  refine fun b5 w hs hx => ⟨trivial, ?_⟩
  refine ns_asg rfl rfl ?_
  refine ns_done ?_
  refine WP_seq_cut (fun σ w => ∃ out, σ 3 = out ∧ St w0 (R * (IArr out l.reverse * F)) w) ?_ ?_ -- S1
  · refine WP_seq ?_
    -- R2
    refine WP_seqr [⟨0, 0, []⟩, ⟨1, 0, []⟩, ⟨2, 0, []⟩] (by kernel_rfl) ?_
    refine ns_move rfl rfl ?_
    refine ns_len sl_34 rfl rfl rfl ?_
    refine ns_move rfl rfl ?_
    refine ns_done ?_
    refine WP_block ?_
    refine WP_loop (fun m σ w => ∃ (i : Nat) (out : Value), m = l.length - i ∧ i ≤ l.length ∧ σ 0 = .slice a1 l.length c1 ∧ σ 3 = out ∧ σ 7 = .int .i64 (l.length : Int) ∧ σ 8 = .int .i64 (i : Int) ∧ St w0 (R * (IArr out (l.reverse.take i) * F)) w) l.length ?_ ?_ -- L1
    · refine ⟨0, .slice (some ⟨b5, 0, none⟩) 0 0, rfl, Nat.zero_le _, rfl, rfl, rfl, rfl, ?_⟩
      show St w0 (R * (Arr 45 2 _ 0 [] * F)) w
      exact hs.out
    rintro m σ w ⟨i, out, rfl, hi, g0, g3, g7, g8, hs⟩
    obtain ⟨σ, rfl⟩ := rebase g0
    obtain ⟨σ, rfl⟩ := rebase (σ := σ) g3
    obtain ⟨σ, rfl⟩ := rebase (σ := σ) g7
    obtain ⟨σ, rfl⟩ := rebase (σ := σ) g8
    clear g0 g3 g7 g8
    refine WP_seq ?_
    -- R3
    refine WP_seqr [⟨0, 0, []⟩] (by kernel_rfl) ?_
    refine ns_cmp _ rfl rfl rfl rfl rfl ?_
    refine ns_done ?_
    refine WP_seq ?_ -- S2
    refine WP_if' rfl (fun hif1 => ?_) (fun hif1 => ?_)
    · refine WP_exit ?_
      have hi2 : i = l.length := by have := of_decide_eq_false hif1; omega
      subst hi2
      refine ⟨out, rfl, ?_⟩
      rw [List.take_of_length_le (by simp)] at hs
      exact hs
    refine WP_skip ?_
    have hi2 : i < l.length := by have := of_decide_eq_true hif1; omega
    obtain ⟨x, hxi⟩ : ∃ x, l[l.length - 1 - i]? = some x := ⟨l[l.length - 1 - i]'(by omega), List.getElem?_eq_getElem (by omega)⟩
    have hxr : l.reverse[i]? = some x := by rw [List.getElem?_reverse hi2, hxi]
    have hlen : (l.reverse.take i).length = i := by rw [List.length_take, List.length_reverse]; omega
    obtain ⟨g, o, rfl, hat⟩ := hrd (by omega)
    refine WP_seq ?_ -- S3
    refine WP_block ?_
    refine WP_seq ?_
    -- R4
    refine WP_seqr [⟨0, 0, []⟩, ⟨1, 0, []⟩] (by kernel_rfl) ?_
    refine ns_move rfl rfl ?_
    refine ns_asg rfl rfl ?_
    refine ns_done ?_
    -- R5
    refine WP_seqr [⟨0, 0, []⟩, ⟨1, 0, []⟩, ⟨2, 0, []⟩, ⟨3, 0, []⟩, ⟨4, 0, []⟩, ⟨5, 0, []⟩, ⟨6, 0, []⟩, ⟨7, 0, []⟩, ⟨8, 1, []⟩, ⟨9, 2, []⟩, ⟨10, 2, []⟩, ⟨11, 0, []⟩] (by kernel_rfl) ?_
    refine ns_move rfl rfl ?_
    refine ns_move rfl rfl ?_
    refine ns_move rfl rfl ?_
    refine ns_len sl_34 rfl rfl rfl ?_
    refine ns_sub rfl rfl rfl rfl (by omega) (by omega) ?_
    refine ns_move rfl rfl ?_
    refine ns_sub rfl rfl rfl rfl (by omega) (by omega) ?_
    refine ns_idx (l.length - 1 - i) sl_34 rfl rfl rfl rfl (by omega) (by omega) ?_
    refine ns_ldA [.int .i64 x.key, .int .i64 x.val] ag_45 rfl rfl rfl rfl (by decide) (item_cells hat (hs.foc R) hxi) ?_
    refine ns_lit [itV x] [.int .i64 x.key, .int .i64 x.val] sl_34 zr_45 (by decide) (by decide) hs rfl rfl rfl rfl (by simp [Value.cells, itV]) rfl ?_
    refine fun b20 w hs hx => ⟨trivial, ?_⟩
    refine ns_app [.int .i64 x.key, .int .i64 x.val] sl_34 zr_45 by_45 rfl (by decide) (hs.foc (IArr out (l.reverse.take i))) rfl rfl rfl rfl rfl (St.cells (n := 2) hs (by rfl)) (by intro u hu; simp at hu; rcases hu with rfl | rfl <;> rfl) (by simp only [maxLen]; omega) (by omega) ?_
    refine fun v21 w hs hv => ⟨trivial, ?_⟩
    refine ns_asg rfl rfl ?_
    refine ns_done ?_
    -- R6
    refine WP_seqr [⟨0, 0, []⟩, ⟨1, 0, []⟩] (by kernel_rfl) ?_
    refine ns_add rfl rfl rfl rfl (by omega) (by omega) ?_
    refine ns_move rfl rfl ?_
    refine ns_done ?_
    refine ⟨l.length - (i + 1), by omega, i + 1, v21, rfl, by omega, rfl, rfl, rfl, rfl, ?_⟩
    have e4 : IArr v21 (l.reverse.take (i + 1)) = Arr 45 2 v21 ((l.reverse.take i).length + 1) (encs (l.reverse.take i) ++ [.int .i64 x.key, .int .i64 x.val]) := by
      rw [take_snoc hxr]
      show Arr 45 2 v21 _ _ = _
      rw [List.length_append, encs_append]; rfl
    rw [e4]
    exact hs.out
    
  rintro σ w ⟨out, g3, hs⟩
  obtain ⟨σ, rfl⟩ := rebase g3
  refine WP_seq ?_
  -- R7
  refine WP_seqr [⟨0, 0, []⟩, ⟨1, 0, []⟩] (by kernel_rfl) ?_
  refine ns_move rfl rfl ?_
  refine ns_asg rfl rfl ?_
  refine ns_done ?_
  refine WP_ret ?_
  refine ⟨_, res1 _, ?_⟩
  show St w0 ((R * IArr out l.reverse) * F) w
  exact hs.out
set_option maxHeartbeats 1600000 in
theorem f25_ok (R : HProp) (v v2 : Value) (l : List An) (hR : RdA R v l) (hR2 : RdA R v2 l) (hll : l.length < 1000000) (hil : ∀ x ∈ l, x.items.length < 1000000) : Tri Try.prog 25 #[v, v2] R fun r => pu (r = .bool true) * R := by
  obtain ⟨a1, c1, rfl, hc1⟩ := hR.form
  obtain ⟨a2, c2, rfl, hc2⟩ := hR2.form
  intro w0 F w hs
  refine calls_WP 49 #[.tmp 4] Try.func25 rfl Try.ntmps25 rfl (Nat.le_of_ble_eq_true rfl) ?_
  refine WP_seq ?_
  -- R0
  refine WP_seqr [⟨0, 0, []⟩] (by kernel_rfl) ?_
  refine ns_asg rfl rfl ?_
  refine ns_done ?_
  refine WP_seq ?_ -- S1
  refine WP_seq ?_
  -- R1
  refine WP_seqr [⟨0, 0, []⟩, ⟨1, 0, []⟩, ⟨2, 0, []⟩, ⟨3, 0, []⟩, ⟨4, 0, []⟩] (by kernel_rfl) ?_
  refine ns_move rfl rfl ?_
  refine ns_len sl_28 rfl rfl rfl ?_
  refine ns_move rfl rfl ?_
  refine ns_len sl_28 rfl rfl rfl ?_
  refine ns_cmp false rfl rfl rfl rfl (by simp [cmpI]) ?_
  refine ns_done ?_
  refine WP_false rfl ?_ -- if1
  refine WP_skip ?_
  refine WP_seq_cut (fun σ w => St w0 (R * F) w) ?_ ?_ -- S2
  · refine WP_seq ?_
    -- R3
    refine WP_seqr [⟨0, 0, []⟩, ⟨1, 0, []⟩, ⟨2, 0, []⟩] (by kernel_rfl) ?_
    refine ns_move rfl rfl ?_
    refine ns_len sl_28 rfl rfl rfl ?_
    refine ns_move rfl rfl ?_
    refine ns_done ?_
    refine WP_block ?_
    refine WP_loop (fun m σ w => ∃ i : Nat, m = l.length - i ∧ i ≤ l.length ∧ σ 1 = .slice a2 l.length c2 ∧ σ 12 = .slice a1 l.length c1 ∧ σ 13 = .int .i64 (l.length : Int) ∧ σ 14 = .int .i64 (i : Int) ∧ St w0 (R * F) w) l.length ?_ ?_ -- L1
    · exact ⟨0, rfl, Nat.zero_le _, rfl, rfl, rfl, rfl, hs⟩
    rintro m σ w ⟨i, rfl, hi, g1, g12, g13, g14, hs⟩
    obtain ⟨σ, rfl⟩ := rebase g1
    obtain ⟨σ, rfl⟩ := rebase (σ := σ) g12
    obtain ⟨σ, rfl⟩ := rebase (σ := σ) g13
    obtain ⟨σ, rfl⟩ := rebase (σ := σ) g14
    clear g1 g12 g13 g14
    refine WP_seq ?_
    -- R4
    refine WP_seqr [⟨0, 0, []⟩] (by kernel_rfl) ?_
    refine ns_cmp _ rfl rfl rfl rfl rfl ?_
    refine ns_done ?_
    refine WP_seq ?_ -- S3
    refine WP_if' rfl (fun hif2 => ?_) (fun hif2 => ?_)
    · refine WP_exit ?_
      exact hs
    refine WP_skip ?_
    have hi2 : i < l.length := by have := of_decide_eq_true hif2; omega
    obtain ⟨x, hxi⟩ : ∃ x, l[i]? = some x := ⟨l[i]'hi2, List.getElem?_eq_getElem hi2⟩
    obtain ⟨g, o, _, s, e, hri, hce⟩ := hR.get hxi
    cases e
    obtain ⟨g2, o2, _, s2, e, hri2, hce2⟩ := hR2.get hxi
    cases e
    obtain ⟨_, a5, c5, rfl, _⟩ := id hri
    refine WP_seq ?_ -- S4
    refine WP_block ?_
    refine WP_seq ?_
    -- R5
    refine WP_seqr [⟨0, 0, []⟩, ⟨1, 0, []⟩, ⟨2, 1, []⟩, ⟨3, 2, []⟩, ⟨4, 0, []⟩, ⟨5, 2, []⟩] (by kernel_rfl) ?_
    refine ns_move rfl rfl ?_
    refine ns_idx i sl_28 rfl rfl rfl rfl rfl hi2 ?_
    refine ns_ldA [.bool x.ok, .int .i64 x.n, .slice a5 x.items.length c5] ag_36 rfl rfl rfl rfl (by decide) (hce _ _ _ (hs.foc R)) ?_
    refine ns_alloc zc_36 hs rfl rfl ?_
    intro b6 w hs
    refine ns_asg rfl rfl ?_
    refine ns_stA (#[.bool x.ok, .int .i64 x.n, .slice a5 x.items.length c5]) ag_36 rfl (by decide) hs rfl rfl rfl rfl (by intro u hu; simp at hu; rcases hu with rfl | rfl | rfl <;> rfl) (by simp) ?_
    refine fun w hs => ⟨trivial, ?_⟩
    refine ns_done ?_
    have hs : St w0 (pts b6 (.cells #[.bool x.ok, .int .i64 x.n, .slice a5 x.items.length c5] 36 (0, 0)) * _) w := hs
    refine WP_seq ?_
    -- R6
    refine WP_net hs mix [0, 1, 0, 0, 12, 28, 60, 127, 255, 511, 1023, 511, 511, 6655, 14847, 31231, 65535, 131071, 262143, 524287, 1048575, 524287, 524287, 6815743, 15204351, 31981567, 67108863, 134217727, 268435455] [⟨0, 0, []⟩, ⟨1, 1, []⟩, ⟨2, 0, []⟩, ⟨3, 0, []⟩, ⟨4, 0, []⟩, ⟨5, 0, []⟩, ⟨6, 1, []⟩, ⟨7, 0, []⟩, ⟨8, 0, []⟩, ⟨9, 0, []⟩, ⟨10, 1, []⟩, ⟨11, 0, []⟩, ⟨12, 0, []⟩, ⟨13, 0, []⟩, ⟨14, 0, []⟩, ⟨15, 1, []⟩, ⟨16, 0, []⟩, ⟨17, 0, []⟩, ⟨18, 0, []⟩, ⟨19, 0, []⟩, ⟨20, 1, []⟩, ⟨21, 0, []⟩, ⟨22, 0, []⟩, ⟨23, 0, []⟩, ⟨24, 0, []⟩, ⟨25, 1, []⟩, ⟨26, 2, []⟩, ⟨27, 0, []⟩, ⟨28, 0, []⟩] (by kernel_rfl) ?_
    intro w hs
    refine ns_fld fo_36_0 rfl rfl rfl ?_
    refine ns_ldB pl_4 hs rfl rfl rfl (by rfl) ?_
    refine ns_move rfl rfl ?_
    refine ns_move rfl rfl ?_
    refine ns_idx i sl_28 rfl rfl rfl rfl rfl hi2 ?_
    refine ns_fld fo_36_0 rfl rfl rfl ?_
    refine ns_ld pl_4 rfl rfl rfl ((hce2 _ _ _ (hs.foc R)).at 0 rfl) ?_
    refine ns_bne2 false bl_4 rfl rfl rfl rfl (by simp) ?_
    refine ns_move rfl rfl ?_
    refine ns_fld fo_36_1 rfl rfl rfl ?_
    refine ns_ldB pl_2 hs rfl rfl rfl (by rfl) ?_
    refine ns_move rfl rfl ?_
    refine ns_move rfl rfl ?_
    refine ns_idx i sl_28 rfl rfl rfl rfl rfl hi2 ?_
    refine ns_fld fo_36_1 rfl rfl rfl ?_
    refine ns_ld pl_2 rfl rfl rfl ((hce2 _ _ _ (hs.foc R)).at 1 rfl) ?_
    refine ns_cmp false rfl rfl rfl rfl (by simp [cmpI]) ?_
    refine ns_pick rfl rfl rfl ?_
    refine ns_move rfl rfl ?_
    refine ns_fld fo_36_2 rfl rfl rfl ?_
    refine ns_ldB pl_34 hs rfl rfl rfl (by rfl) ?_
    refine ns_move rfl rfl ?_
    refine ns_move rfl rfl ?_
    refine ns_idx i sl_28 rfl rfl rfl rfl rfl hi2 ?_
    refine ns_fld fo_36_2 rfl rfl rfl ?_
    refine ns_ld pl_34 rfl rfl rfl ((hce2 _ _ _ (hs.foc R)).at 2 rfl) ?_
    refine ns_call (f26_ok R _ s2 x.items hri hri2 (hil x (List.mem_of_getElem? hxi))) ck_26 (hs.foc R) rfl rfl rfl rfl ?_
    intro v45 w hs
    replace hs := hs.pu
    obtain ⟨rfl, hs⟩ := hs
    refine ns_not rfl rfl rfl ?_
    refine ns_pick rfl rfl rfl ?_
    refine ns_done ?_
    refine WP_false rfl ?_ -- if3
    refine WP_skip ?_
    -- R8
    refine WP_seqr [⟨0, 0, []⟩, ⟨1, 0, []⟩] (by kernel_rfl) ?_
    refine ns_add rfl rfl rfl rfl (by omega) (by omega) ?_
    refine ns_move rfl rfl ?_
    refine ns_done ?_
    exact ⟨l.length - (i + 1), by omega, i + 1, rfl, by omega, rfl, rfl, rfl, rfl, hs.out⟩
    
  intro σ w hs
  refine WP_seq ?_
  -- R9
  refine WP_seqr [⟨0, 0, []⟩] (by kernel_rfl) ?_
  refine ns_asg rfl rfl ?_
  refine ns_done ?_
  refine WP_ret ?_
  exact ⟨_, res1 _, St.mk_pu rfl hs⟩
end Go.Proofs.Ytnnembkganlbpaa
