/- The walk within bounds, descending. -/
import Derived.Test.YtnnembkganlbpaaW17
import Derived.Test.YtnnembkganlbpaaTx
namespace Go.Proofs.Ytnnembkganlbpaa
open Go Go.Sl Go.Net Go.Wk Go.Bt Go.RowKit

/-- what a descending walk over the tree leaves -/
def ItQ (c fl vb h b : Nat) (t : Tr) (most : Int) (st sp : Option It) (acc : List It) (v : Value) : HProp := ex fun r : Bool × Bool × List It =>
  pu (v = .tuple #[.bool r.1, .bool r.2.1] ∧ ItD most st sp (flat h t).reverse acc r.2.2 r.2.1) * (Tp c h t b * (Ctx c fl * VisP vb r.2.2 most))
theorem ItD_len {most : Int} {st sp : Option It} {l acc acc2 : List It} {ok : Bool} (h : ItD most st sp l acc acc2 ok) : acc2.length ≤ acc.length + l.length := by
  rw [h.1]
  have h1 := feed_len most (selD st sp l) acc
  have h2 : (selD st sp l).length ≤ l.length := List.length_filter_le ..
  omega
theorem bel_of {st : Option It} {x y : It} (h : leS st x = true) (hy : y.key < x.key) : belS st y := by
  cases st with
  | none => trivial
  | some s => simp [leS] at h; show y.key < s.key; omega
set_option maxHeartbeats 6400000 in
theorem f76_desc (c fl mn mx vb h b : Nat) (t : Tr) (most : Int) (st sp : Option It) (inc hit : Bool) (acc : List It) (hm : mx < 10000) (hO : Ok mn mx h t) (hl : t.its.length ≤ mx) (hS : Srt (flat h t)) (hinc : st ≠ none → inc = true) (hal : acc.length + (flat h t).length < 1000000) (hhp : hit = true → ∀ y ∈ flat h t, belS st y)
    (hkid : ∀ (h' : Nat) (k : Tr) (xb : Nat) (hit' : Bool) (acc' : List It), h = h' + 1 → Ok mn mx h' k → k.its.length ≤ mx → Srt (flat h' k) → acc'.length + (flat h' k).length < 1000000 → (hit' = true → ∀ y ∈ flat h' k, belS st y) → Tri Try.prog 76 #[ptr xb, .int .i64 (-1), ov st, ov sp, .bool inc, .bool hit', seeV vb] (Tp c h' k xb * (Ctx c fl * VisP vb acc' most)) (ItQ c fl vb h' xb k most st sp acc')) :
    Tri Try.prog 76 #[ptr b, .int .i64 (-1), ov st, ov sp, .bool inc, .bool hit, seeV vb] (Tp c h t b * (Ctx c fl * VisP vb acc most)) (ItQ c fl vb h b t most st sp acc) := by
  have hSi := srt_its hO hS
  intro w0 F w hs
  simp only [mul_assoc'] at hs
  refine calls_WP 343 #[.tmp 14, .tmp 15] Try.func76 rfl Try.ntmps76 rfl (Nat.le_of_ble_eq_true rfl) ?_
  refine WP_seq ?_
  -- R0
  refine WP_seqr [⟨0, 2, []⟩, ⟨1, 2, []⟩, ⟨2, 0, []⟩, ⟨3, 0, []⟩] (by kernel_rfl) ?_
  refine ns_box (ovC st) hs rfl rfl rfl rfl ?_
  intro b9 w hs
  refine ns_box (ovC sp) hs rfl rfl rfl rfl ?_
  intro b10 w hs
  refine ns_asg rfl rfl ?_
  refine ns_asg rfl rfl ?_
  refine ns_done ?_
  have hs := (hs.foc (pts b9 (.cells (ovC st) 116 (0, 0)) * (pts b10 (.cells (ovC sp) 116 (0, 0)) * (Tp c h t b * (Ctx c fl * (VisP vb acc most * F)))))).fst
  refine WP_seq ?_
  -- R1
  refine WP_seqr [⟨0, 0, []⟩, ⟨1, 0, []⟩] (by kernel_rfl) ?_
  refine ns_asg rfl rfl ?_
  refine ns_asg rfl rfl ?_
  refine ns_done ?_
  refine WP_seq ?_
  -- R2
  refine WP_seqr [⟨0, 0, []⟩] (by kernel_rfl) ?_
  refine ns_asg rfl rfl ?_
  refine ns_done ?_
  refine WP_seq_cut (fun σ w => ∃ (hit2 : Bool) (acc2 : List It), σ 5 = .bool hit2 ∧ ItD most st sp (flat h t).reverse acc acc2 true ∧ St w0 (pts b9 (.cells (ovC st) 116 (0, 0)) * (pts b10 (.cells (ovC sp) 116 (0, 0)) * (Tp c h t b * (Ctx c fl * (VisP vb acc2 most * F))))) w) ?_ ?_ -- S1
  · refine WP_seq ?_
    -- R3
    refine WP_seqr [⟨0, 0, []⟩] (by kernel_rfl) ?_
    refine ns_move rfl rfl ?_
    refine ns_done ?_
    refine WP_block ?_
    refine WP_seq ?_
    -- R4
    refine WP_seqr [⟨0, 0, []⟩, ⟨1, 0, []⟩] (by kernel_rfl) ?_
    refine ns_cmp false rfl rfl rfl rfl rfl ?_
    refine ns_asg rfl rfl ?_
    refine ns_done ?_
    refine WP_false rfl ?_ -- if1
    refine WP_seq ?_
    -- R25
    refine WP_seqr [⟨0, 0, []⟩, ⟨1, 0, []⟩] (by kernel_rfl) ?_
    refine ns_cmp true rfl rfl rfl rfl rfl ?_
    refine ns_asg rfl rfl ?_
    refine ns_done ?_
    refine WP_true rfl ?_ -- if2
    refine WP_seq_cut (fun σ w => ∃ j0 : Nat, j0 ≤ t.its.length ∧ (∃ up, flat h t = pfx h t j0 ++ kidL h t j0 ++ up ∧ ∀ a ∈ up, leS st a = false) ∧ (∀ i y, i < j0 → t.its[i]? = some y → leS st y = true) ∧ σ 18 = .int .i64 ((j0 : Int) - 1) ∧ σ 0 = ptr b ∧ σ 1 = .int .i64 (-1) ∧ σ 4 = .bool inc ∧ σ 5 = .bool hit ∧ σ 6 = seeV vb ∧ σ 9 = .pointer (some ⟨b9, 0, none⟩) ∧ σ 10 = .pointer (some ⟨b10, 0, none⟩) ∧ St w0 (pts b9 (.cells (ovC st) 116 (0, 0)) * (pts b10 (.cells (ovC sp) 116 (0, 0)) * (Tp c h t b * (Ctx c fl * (VisP vb acc most * F))))) w) ?_ ?_ -- S2
    · refine WP_seq ?_
      -- R26
      refine WP_seqr [⟨0, 0, []⟩, ⟨1, 1, []⟩] (by kernel_rfl) ?_
      refine ns_fld fo_116_1 rfl rfl rfl ?_
      refine ns_ldB pl_4 hs rfl rfl rfl (by rfl) ?_
      refine ns_done ?_
      refine WP_if rfl (fun hif3 => ?_) (fun hif3 => ?_)
      · refine WP_seq ?_
        obtain ⟨s, rfl⟩ : ∃ s, st = some s := by
          cases st with
          | none => cases hif3
          | some s => exact ⟨s, rfl⟩
        obtain ⟨bs, hlen, hs⟩ := St.tree (hs.foc (Tp c h t b))
        obtain ⟨⟨v1, v2⟩, hs⟩ := hs.ex
        simp only [mul_assoc'] at hs
        obtain ⟨a1, c1, rfl, hc1, hcm1⟩ := (hs.foc (IArr v1 t.its)).arr_form
        obtain ⟨a2, c2, rfl, hc2, hcm2⟩ := (hs.foc (PArr v2 bs)).arr_form
        unfold Ctx CowP at hs
        simp only [mul_assoc'] at hs
        -- R27
        refine WP_net hs mix [0, 1, 3, 7, 0, 16, 0, 64, 192, 448, 960, 1984, 4032, 8191, 16383, 32767, 32767, 65535, 262143] [⟨0, 0, []⟩, ⟨1, 0, []⟩, ⟨2, 0, []⟩, ⟨3, 1, []⟩, ⟨4, 0, []⟩, ⟨5, 1, []⟩, ⟨6, 0, []⟩, ⟨7, 0, []⟩, ⟨8, 0, []⟩, ⟨9, 1, []⟩, ⟨10, 0, []⟩, ⟨11, 0, []⟩, ⟨12, 1, []⟩, ⟨13, 2, []⟩, ⟨14, 0, []⟩, ⟨15, 0, []⟩, ⟨16, 0, []⟩, ⟨17, 0, []⟩, ⟨18, 0, []⟩] (by kernel_rfl) ?_
        intro w hs
        refine ns_move rfl rfl ?_
        refine ns_nil rfl rfl rfl ?_
        refine ns_fld fo_103_0 rfl rfl rfl ?_
        refine ns_ldB pl_100 hs rfl rfl rfl (by rfl) ?_
        refine ns_fld fo_116_0 rfl rfl rfl ?_
        refine ns_ldAB [.int .i64 s.key, .int .i64 s.val] ag_45 hs rfl rfl rfl (by rfl) (by rfl) (by decide) ?_
        refine ns_move rfl rfl ?_
        refine ns_nil rfl rfl rfl ?_
        refine ns_fld fo_103_2 rfl rfl rfl ?_
        refine ns_ldB pl_82 hs rfl rfl rfl (by rfl) ?_
        refine ns_nil rfl rfl rfl ?_
        refine ns_fld fo_84_1 rfl rfl rfl ?_
        refine ns_ldB pl_69 hs rfl rfl rfl (by rfl) ?_
        refine ns_call (f83_ok (.slice a1 t.its.length c1) t.its s hSi (by omega)) ck_83 (hs.foc (IArr (.slice a1 t.its.length c1) t.its)) rfl rfl rfl rfl ?_
        intro v192 w hs
        replace hs := hs.pu
        obtain ⟨rfl, hs⟩ := hs
        refine ns_move rfl rfl ?_
        refine ns_ext rfl rfl rfl rfl ?_
        refine ns_ext rfl rfl rfl rfl ?_
        refine ns_asg rfl rfl ?_
        refine ns_asg rfl rfl ?_
        refine ns_done ?_
        have hs := hs.fold (ctx_fold c fl)
        have hs := hs.fold (node_fold c b (.slice a1 t.its.length c1) (.slice a2 bs.length c2) t.its bs)
        have hs := hs.fold (tree_fold (c := c) (h := h) (b := b) (its := t.its) (kids := t.kids) hlen)
        rw [Tr.eta] at hs
        have hub := ub_eq hSi s.key
        have hule := ub_le t.its s.key
        have hlle := lb_le t.its s.key
        obtain ⟨up, eU, hU⟩ := pfx_up hO hS (ub t.its s.key) hule
        have hup : ∀ a ∈ up, leS (some s) a = false := fun a ha => by
          have := hU s.key (fun i y hi hy => by have := mt (ub_lt hSi hy (k := s.key)).1 (by omega); omega) a ha
          simp [leS]; omega
        have hlo : ∀ i y, i < ub t.its s.key → t.its[i]? = some y → leS (some s) y = true := fun i y hi hy => by
          have := (ub_lt hSi hy (k := s.key)).2 hi
          simp [leS]; omega
        refine WP_seq ?_
        -- R28
        refine WP_seqr [⟨0, 0, []⟩, ⟨1, 0, []⟩] (by kernel_rfl) ?_
        refine ns_move rfl rfl ?_
        refine ns_not rfl rfl rfl ?_
        refine ns_done ?_
        refine WP_if rfl (fun hif4 => ?_) (fun hif4 => ?_)
        · -- R29
          refine WP_seqr [⟨0, 0, []⟩, ⟨1, 0, []⟩, ⟨2, 0, []⟩] (by kernel_rfl) ?_
          refine ns_move rfl rfl ?_
          refine ns_sub rfl rfl rfl rfl (by omega) (by omega) ?_
          refine ns_asg rfl rfl ?_
          refine ns_done ?_
          have hf : fnd t.its s.key = false := by simpa using hif4
          rw [hf] at hub
          have hub : ub t.its s.key = lb t.its s.key := hub
          exact ⟨ub t.its s.key, hule, ⟨up, eU, hup⟩, hlo, congrArg (fun n : Nat => Value.int .i64 ((n : Int) - 1)) hub.symm, rfl, rfl, rfl, rfl, rfl, rfl, rfl, hs.out⟩
        refine WP_skip ?_
        have hf : fnd t.its s.key = true := by simpa using hif4
        rw [hf] at hub
        have hub : ub t.its s.key = lb t.its s.key + 1 := hub
        refine ⟨ub t.its s.key, hule, ⟨up, eU, hup⟩, hlo, congrArg (Value.int .i64) (by omega : ((lb t.its s.key : Nat) : Int) = ((ub t.its s.key : Nat) : Int) - 1), rfl, rfl, rfl, rfl, rfl, rfl, rfl, hs.out⟩
      have hs0 := hs
      obtain ⟨bs, hlen, hs⟩ := St.tree (hs.foc (Tp c h t b))
      obtain ⟨⟨v1, v2⟩, hs⟩ := hs.ex
      simp only [mul_assoc'] at hs
      obtain ⟨a1, c1, rfl, hc1, hcm1⟩ := (hs.foc (IArr v1 t.its)).arr_form
      obtain ⟨a2, c2, rfl, hc2, hcm2⟩ := (hs.foc (PArr v2 bs)).arr_form
      -- R30
      refine WP_seqr [⟨0, 0, []⟩, ⟨1, 0, []⟩, ⟨2, 0, []⟩, ⟨3, 1, []⟩, ⟨4, 0, []⟩, ⟨5, 0, []⟩, ⟨6, 0, []⟩] (by kernel_rfl) ?_
      refine ns_move rfl rfl ?_
      refine ns_nil rfl rfl rfl ?_
      refine ns_fld fo_103_0 rfl rfl rfl ?_
      refine ns_ldB pl_100 hs rfl rfl rfl (by rfl) ?_
      refine ns_len sl_100 rfl rfl rfl ?_
      refine ns_sub rfl rfl rfl rfl (by omega) (by omega) ?_
      refine ns_asg rfl rfl ?_
      refine ns_done ?_
      have hs := hs0
      have hst : st = none := by
        cases st with
        | none => rfl
        | some s => cases hif3
      subst hst
      obtain ⟨up, eU, hU⟩ := pfx_up hO hS t.its.length (Nat.le_refl _)
      have eU2 := pfx_rst hO t.its.length (Nat.le_refl _)
      rw [rst_last hO] at eU2
      exact ⟨t.its.length, Nat.le_refl _, ⟨[], by rw [List.append_nil]; exact eU2, fun a ha => by cases ha⟩, fun _ _ _ _ => rfl, rfl, rfl, rfl, rfl, rfl, rfl, rfl, rfl, hs⟩
    rintro σ w ⟨j0, hj0, ⟨up0, eU, hU⟩, hle, g18, g0, g1, g4, g5, g6, g9, g10, hs⟩
    obtain ⟨σ, rfl⟩ := rebase g18
    obtain ⟨σ, rfl⟩ := rebase (σ := σ) g0
    obtain ⟨σ, rfl⟩ := rebase (σ := σ) g1
    obtain ⟨σ, rfl⟩ := rebase (σ := σ) g4
    obtain ⟨σ, rfl⟩ := rebase (σ := σ) g5
    obtain ⟨σ, rfl⟩ := rebase (σ := σ) g6
    obtain ⟨σ, rfl⟩ := rebase (σ := σ) g9
    obtain ⟨σ, rfl⟩ := rebase (σ := σ) g10
    clear g18 g0 g1 g4 g5 g6 g9 g10
    refine WP_seq_cut (fun σ w => ∃ (hhit : Bool) (acc2 up : List It), flat h t = kidL h t 0 ++ up ∧ ItD most st sp up.reverse acc acc2 true ∧ (hhit = true → ∀ y ∈ kidL h t 0, belS st y) ∧ σ 0 = ptr b ∧ σ 1 = .int .i64 (-1) ∧ σ 4 = .bool inc ∧ σ 5 = .bool hhit ∧ σ 6 = seeV vb ∧ σ 9 = .pointer (some ⟨b9, 0, none⟩) ∧ σ 10 = .pointer (some ⟨b10, 0, none⟩) ∧ St w0 (pts b9 (.cells (ovC st) 116 (0, 0)) * (pts b10 (.cells (ovC sp) 116 (0, 0)) * (Tp c h t b * (Ctx c fl * (VisP vb acc2 most * F))))) w) ?_ ?_ -- S3
    · refine WP_seq ?_
      -- R31
      refine WP_seqr [⟨0, 0, []⟩, ⟨1, 0, []⟩] (by kernel_rfl) ?_
      refine ns_move rfl rfl ?_
      refine ns_asg rfl rfl ?_
      refine ns_done ?_
      refine WP_block ?_
      refine WP_loop (fun m σ w => ∃ (j : Nat) (hhit : Bool) (acc2 up : List It), m = j ∧ j ≤ j0 ∧ flat h t = pfx h t j ++ kidL h t j ++ up ∧ ItD most st sp up.reverse acc acc2 true ∧ (hhit = true → ∀ y ∈ pfx h t j ++ kidL h t j, belS st y) ∧ σ 20 = .int .i64 ((j : Int) - 1) ∧ σ 0 = ptr b ∧ σ 1 = .int .i64 (-1) ∧ σ 4 = .bool inc ∧ σ 5 = .bool hhit ∧ σ 6 = seeV vb ∧ σ 9 = .pointer (some ⟨b9, 0, none⟩) ∧ σ 10 = .pointer (some ⟨b10, 0, none⟩) ∧ St w0 (pts b9 (.cells (ovC st) 116 (0, 0)) * (pts b10 (.cells (ovC sp) 116 (0, 0)) * (Tp c h t b * (Ctx c fl * (VisP vb acc2 most * F))))) w) j0 ?_ ?_ -- L1
      · exact ⟨j0, hit, acc, up0, rfl, Nat.le_refl _, eU, ItD.above (fun y hy => hU y (List.mem_reverse.1 hy)), (fun e y hy => hhp e y (by rw [eU]; exact List.mem_append_left _ hy)), rfl, rfl, rfl, rfl, rfl, rfl, rfl, rfl, hs⟩
      rintro j σ w ⟨_, hhit, acc2, up, rfl, hj1, eD, hD, hH, g20, g0, g1, g4, g5, g6, g9, g10, hs⟩
      obtain ⟨σ, rfl⟩ := rebase g20
      obtain ⟨σ, rfl⟩ := rebase (σ := σ) g0
      obtain ⟨σ, rfl⟩ := rebase (σ := σ) g1
      obtain ⟨σ, rfl⟩ := rebase (σ := σ) g4
      obtain ⟨σ, rfl⟩ := rebase (σ := σ) g5
      obtain ⟨σ, rfl⟩ := rebase (σ := σ) g6
      obtain ⟨σ, rfl⟩ := rebase (σ := σ) g9
      obtain ⟨σ, rfl⟩ := rebase (σ := σ) g10
      clear g20 g0 g1 g4 g5 g6 g9 g10
      refine WP_seq ?_ -- S4
      refine WP_seq ?_
      -- R32
      refine WP_seqr [⟨0, 0, []⟩, ⟨1, 0, []⟩] (by kernel_rfl) ?_
      refine ns_move rfl rfl ?_
      refine ns_cmp _ rfl rfl rfl rfl rfl ?_
      refine ns_done ?_
      refine WP_if' rfl (fun hif5 => ?_) (fun hif5 => ?_)
      · refine WP_exit ?_
        have hj : j = 0 := by have := of_decide_eq_false hif5; omega
        subst hj
        exact ⟨hhit, acc2, up, eD, hD, hH, rfl, rfl, rfl, rfl, rfl, rfl, rfl, hs⟩
      refine WP_skip ?_
      obtain ⟨i, rfl⟩ : ∃ i, j = i + 1 := ⟨j - 1, by have := of_decide_eq_true hif5; omega⟩
      have hi : i < t.its.length := by omega
      obtain ⟨x, hx⟩ : ∃ x, t.its[i]? = some x := ⟨t.its[i]'hi, List.getElem?_eq_getElem hi⟩
      have hp := pfx_step (h := h) hx
      have hlenD := congrArg List.length eD
      rw [hp] at hlenD
      simp only [List.length_append, List.length_cons, List.length_nil] at hlenD
      have hxle := hle i x (by omega) hx
      have eR : up.reverse ++ (kidL h t (i + 1)).reverse ++ [x] ++ (pfx h t i ++ kidL h t i).reverse = (flat h t).reverse := by rw [eD, hp]; simp
      have eR2 : up.reverse ++ (kidL h t (i + 1)).reverse ++ ([x] ++ (pfx h t i ++ kidL h t i).reverse) = (flat h t).reverse := by rw [← eR]; simp
      have hDs : Dsc (flat h t).reverse := by unfold Dsc; rw [List.reverse_reverse]; exact hS
      have hbx : ∀ y ∈ pfx h t i ++ kidL h t i, y.key < x.key := by
        have h1 := hS
        rw [eD, hp, List.append_assoc, List.append_assoc] at h1
        exact fun y hy => (srt_append.1 h1).2.2 y hy x (by simp)
      have hDl := ItD_len hD
      simp only [List.length_reverse] at hDl
      refine WP_seq ?_ -- S5
      refine WP_block ?_
      refine WP_seq_cut (fun σ w => σ 20 = .int .i64 (((i + 1 : Nat) : Int) - 1) ∧ σ 0 = ptr b ∧ σ 1 = .int .i64 (-1) ∧ σ 4 = .bool inc ∧ σ 5 = .bool hhit ∧ σ 6 = seeV vb ∧ σ 9 = .pointer (some ⟨b9, 0, none⟩) ∧ σ 10 = .pointer (some ⟨b10, 0, none⟩) ∧ St w0 (pts b9 (.cells (ovC st) 116 (0, 0)) * (pts b10 (.cells (ovC sp) 116 (0, 0)) * (Tp c h t b * (Ctx c fl * (VisP vb acc2 most * F))))) w) ?_ ?_ -- S6
      · refine WP_seq_cut (fun σ w => σ 231 = .bool (!ltS st x) ∧ σ 20 = .int .i64 (((i + 1 : Nat) : Int) - 1) ∧ σ 0 = ptr b ∧ σ 1 = .int .i64 (-1) ∧ σ 4 = .bool inc ∧ σ 5 = .bool hhit ∧ σ 6 = seeV vb ∧ σ 9 = .pointer (some ⟨b9, 0, none⟩) ∧ σ 10 = .pointer (some ⟨b10, 0, none⟩) ∧ St w0 (pts b9 (.cells (ovC st) 116 (0, 0)) * (pts b10 (.cells (ovC sp) 116 (0, 0)) * (Tp c h t b * (Ctx c fl * (VisP vb acc2 most * F))))) w) ?_ ?_ -- R34.cut
        · rcases (show st = none ∨ ∃ s, st = some s from by
            cases st with
            | none => exact .inl rfl
            | some s => exact .inr ⟨s, rfl⟩) with rfl | ⟨s, rfl⟩
          · -- R34
            refine WP_net hs mix [0, 1, 3, 7, 15, 31, 63, 127, 255, 511, 7, 1031, 3079, 7175, 7, 31751, 64519, 7, 131079, 524287, 1048575, 2097151] [⟨0, 0, []⟩, ⟨1, 1, []⟩, ⟨2, 0, []⟩, ⟨3, 0, []⟩, ⟨4, 0, []⟩, ⟨5, 0, []⟩, ⟨6, 0, []⟩, ⟨7, 0, []⟩, ⟨8, 0, []⟩, ⟨9, 0, []⟩, ⟨10, 0, []⟩, ⟨11, 0, []⟩, ⟨12, 0, []⟩, ⟨13, 0, []⟩, ⟨14, 0, []⟩, ⟨15, 0, []⟩, ⟨16, 0, []⟩, ⟨17, 0, []⟩, ⟨18, 0, []⟩, ⟨19, 0, []⟩, ⟨20, 0, []⟩, ⟨21, 0, []⟩] (by kernel_rfl) ?_
            intro w hs
            refine ns_fld fo_116_1 rfl rfl rfl ?_
            refine ns_ldB pl_4 hs rfl rfl rfl (by rfl) ?_
            refine ns_move rfl rfl ?_
            refine ns_no rfl rfl ?_
            refine ns_no rfl rfl ?_
            refine ns_no rfl rfl ?_
            refine ns_no rfl rfl ?_
            refine ns_no rfl rfl ?_
            refine ns_no rfl rfl ?_
            refine ns_no rfl rfl ?_
            refine ns_no rfl rfl ?_
            refine ns_no rfl rfl ?_
            refine ns_no rfl rfl ?_
            refine ns_no rfl rfl ?_
            refine ns_no rfl rfl ?_
            refine ns_no rfl rfl ?_
            refine ns_no rfl rfl ?_
            refine ns_no rfl rfl ?_
            refine ns_no rfl rfl ?_
            refine ns_no rfl rfl ?_
            refine ns_no rfl rfl ?_
            refine ns_pick rfl rfl rfl ?_
            refine ns_done ?_
            exact ⟨rfl, rfl, rfl, rfl, rfl, rfl, rfl, rfl, rfl, hs⟩
          · obtain ⟨bs, hlen, hs⟩ := St.tree (hs.foc (Tp c h t b))
            obtain ⟨⟨v1, v2⟩, hs⟩ := hs.ex
            simp only [mul_assoc'] at hs
            obtain ⟨a1, c1, rfl, hc1, hcm1⟩ := (hs.foc (IArr v1 t.its)).arr_form
            obtain ⟨a2, c2, rfl, hc2, hcm2⟩ := (hs.foc (PArr v2 bs)).arr_form
            unfold Ctx CowP at hs
            simp only [mul_assoc'] at hs
            obtain ⟨_, hz, _⟩ | ⟨g, cap, cur, hv, hc, hcm, hsz, htk, hs⟩ := (hs.foc (IArr (.slice a1 t.its.length c1) (t.its))).arr
            · omega
            cases hv
            -- R34
            refine WP_net hs mix [0, 1, 3, 7, 15, 31, 63, 127, 255, 511, 7, 1031, 3079, 7175, 7, 31751, 64519, 7, 131079, 524287, 1048575, 2097151] [⟨0, 0, []⟩, ⟨1, 1, []⟩, ⟨2, 0, []⟩, ⟨3, 0, []⟩, ⟨4, 0, []⟩, ⟨5, 0, []⟩, ⟨6, 1, []⟩, ⟨7, 0, []⟩, ⟨8, 0, []⟩, ⟨9, 1, []⟩, ⟨10, 0, []⟩, ⟨11, 0, []⟩, ⟨12, 0, []⟩, ⟨13, 1, []⟩, ⟨14, 0, []⟩, ⟨15, 0, []⟩, ⟨16, 1, []⟩, ⟨17, 0, []⟩, ⟨18, 1, []⟩, ⟨19, 2, []⟩, ⟨20, 0, []⟩, ⟨21, 0, []⟩] (by kernel_rfl) ?_
            intro w hs
            refine ns_fld fo_116_1 rfl rfl rfl ?_
            refine ns_ldB pl_4 hs rfl rfl rfl (by rfl) ?_
            refine ns_move rfl rfl ?_
            refine ns_move rfl rfl ?_
            refine ns_nil rfl rfl rfl ?_
            refine ns_fld fo_103_2 rfl rfl rfl ?_
            refine ns_ldB pl_82 hs rfl rfl rfl (by rfl) ?_
            refine ns_nil rfl rfl rfl ?_
            refine ns_fld fo_84_1 rfl rfl rfl ?_
            refine ns_ldB pl_69 hs rfl rfl rfl (by rfl) ?_
            refine ns_move rfl rfl ?_
            refine ns_nil rfl rfl rfl ?_
            refine ns_fld fo_103_0 rfl rfl rfl ?_
            refine ns_ldB pl_100 hs rfl rfl rfl (by rfl) ?_
            refine ns_move rfl rfl ?_
            refine ns_idx i sl_100 rfl rfl rfl rfl (by omega) hi ?_
            refine ns_ldA [.int .i64 x.key, .int .i64 x.val] ag_45 rfl rfl rfl rfl (by decide) (it_cells hs htk _ hx) ?_
            refine ns_fld fo_116_0 rfl rfl rfl ?_
            refine ns_ldAB [.int .i64 s.key, .int .i64 s.val] ag_45 hs rfl rfl rfl (by rfl) (by rfl) (by decide) ?_
            refine ns_call (f40_ok x s) ck_40 (hs.foc 1) rfl rfl rfl rfl ?_
            intro v229 w hs
            replace hs := hs.pure
            obtain ⟨rfl, hs⟩ := hs
            refine ns_not rfl rfl rfl ?_
            refine ns_pick rfl rfl rfl ?_
            refine ns_done ?_
            have hs := (hs.foc (pts g (.cells cur 45 (0, 0)))).mk_arr' hc hcm hsz htk
            have hs := hs.fold (ctx_fold c fl)
            have hs := hs.fold (node_fold c b (.slice (some ⟨g, 0, none⟩) t.its.length c1) (.slice a2 bs.length c2) t.its bs)
            have hs := hs.fold (tree_fold (c := c) (h := h) (b := b) (its := t.its) (kids := t.kids) hlen)
            rw [Tr.eta] at hs
            exact ⟨rfl, rfl, rfl, rfl, rfl, rfl, rfl, rfl, rfl, hs.out⟩
        rintro σ w ⟨g231, g20, g0, g1, g4, g5, g6, g9, g10, hs⟩
        obtain ⟨σ, rfl⟩ := rebase g231
        obtain ⟨σ, rfl⟩ := rebase (σ := σ) g20
        obtain ⟨σ, rfl⟩ := rebase (σ := σ) g0
        obtain ⟨σ, rfl⟩ := rebase (σ := σ) g1
        obtain ⟨σ, rfl⟩ := rebase (σ := σ) g4
        obtain ⟨σ, rfl⟩ := rebase (σ := σ) g5
        obtain ⟨σ, rfl⟩ := rebase (σ := σ) g6
        obtain ⟨σ, rfl⟩ := rebase (σ := σ) g9
        obtain ⟨σ, rfl⟩ := rebase (σ := σ) g10
        clear g231 g20 g0 g1 g4 g5 g6 g9 g10
        refine WP_if rfl (fun hif6 => ?_) (fun hif6 => ?_)
        · refine WP_seq ?_
          have hlt0 : ltS st x = false := by simpa using hif6
          obtain ⟨s, rfl⟩ : ∃ s, st = some s := by
            cases st with
            | none => cases hlt0
            | some s => exact ⟨s, rfl⟩
          obtain rfl : inc = true := hinc (by simp)
          have hnl : ¬ x.key < s.key := of_decide_eq_false hlt0
          obtain rfl : hhit = false := by
            cases hhit with
            | false => rfl
            | true => exact absurd (hH rfl x (by rw [hp]; simp)) hnl
          have hxl : x.key ≤ s.key := of_decide_eq_true hxle
          obtain ⟨bs, hlen, hs⟩ := St.tree (hs.foc (Tp c h t b))
          obtain ⟨⟨v1, v2⟩, hs⟩ := hs.ex
          simp only [mul_assoc'] at hs
          obtain ⟨a1, c1, rfl, hc1, hcm1⟩ := (hs.foc (IArr v1 t.its)).arr_form
          obtain ⟨a2, c2, rfl, hc2, hcm2⟩ := (hs.foc (PArr v2 bs)).arr_form
          unfold Ctx CowP at hs
          simp only [mul_assoc'] at hs
          obtain ⟨_, hz, _⟩ | ⟨g, cap, cur, hv, hc, hcm, hsz, htk, hs⟩ := (hs.foc (IArr (.slice a1 t.its.length c1) (t.its))).arr
          · omega
          cases hv
          -- R35
          refine WP_net hs mix [0, 1, 3, 7, 15, 31, 63, 127, 255, 511, 1023, 2047, 4095, 63, 8255, 63, 32831, 98367, 229439, 63, 1015871, 2064447, 4194303, 8388607] [⟨0, 0, []⟩, ⟨1, 0, []⟩, ⟨2, 0, []⟩, ⟨3, 0, []⟩, ⟨4, 0, []⟩, ⟨5, 0, []⟩, ⟨6, 0, []⟩, ⟨7, 0, []⟩, ⟨8, 0, []⟩, ⟨9, 1, []⟩, ⟨10, 0, []⟩, ⟨11, 0, []⟩, ⟨12, 1, []⟩, ⟨13, 0, []⟩, ⟨14, 1, []⟩, ⟨15, 0, []⟩, ⟨16, 0, []⟩, ⟨17, 0, []⟩, ⟨18, 1, []⟩, ⟨19, 0, []⟩, ⟨20, 0, []⟩, ⟨21, 1, []⟩, ⟨22, 2, []⟩, ⟨23, 0, []⟩] (by kernel_rfl) ?_
          intro w hs
          refine ns_move rfl rfl ?_
          refine ns_not rfl rfl rfl ?_
          refine ns_move rfl rfl ?_
          refine ns_move rfl rfl ?_
          refine ns_pick rfl rfl rfl ?_
          refine ns_move rfl rfl ?_
          refine ns_move rfl rfl ?_
          refine ns_nil rfl rfl rfl ?_
          refine ns_fld fo_103_2 rfl rfl rfl ?_
          refine ns_ldB pl_82 hs rfl rfl rfl (by rfl) ?_
          refine ns_nil rfl rfl rfl ?_
          refine ns_fld fo_84_1 rfl rfl rfl ?_
          refine ns_ldB pl_69 hs rfl rfl rfl (by rfl) ?_
          refine ns_fld fo_116_0 rfl rfl rfl ?_
          refine ns_ldAB [.int .i64 s.key, .int .i64 s.val] ag_45 hs rfl rfl rfl (by rfl) (by rfl) (by decide) ?_
          refine ns_move rfl rfl ?_
          refine ns_nil rfl rfl rfl ?_
          refine ns_fld fo_103_0 rfl rfl rfl ?_
          refine ns_ldB pl_100 hs rfl rfl rfl (by rfl) ?_
          refine ns_move rfl rfl ?_
          refine ns_idx i sl_100 rfl rfl rfl rfl (by omega) hi ?_
          refine ns_ldA [.int .i64 x.key, .int .i64 x.val] ag_45 rfl rfl rfl rfl (by decide) (it_cells hs htk _ hx) ?_
          refine ns_call (f40_ok s x) ck_40 (hs.foc 1) rfl rfl rfl rfl ?_
          intro v254 w hs
          replace hs := hs.pure
          obtain ⟨rfl, hs⟩ := hs
          refine ns_pick rfl rfl rfl ?_
          refine ns_done ?_
          have hs := (hs.foc (pts g (.cells cur 45 (0, 0)))).mk_arr' hc hcm hsz htk
          have hs := hs.fold (ctx_fold c fl)
          have hs := hs.fold (node_fold c b (.slice (some ⟨g, 0, none⟩) t.its.length c1) (.slice a2 bs.length c2) t.its bs)
          have hs := hs.fold (tree_fold (c := c) (h := h) (b := b) (its := t.its) (kids := t.kids) hlen)
          rw [Tr.eta] at hs
          refine WP_if rfl (fun hif7 => ?_) (fun hif7 => ?_)
          · refine WP_exit ?_
            exact absurd (of_decide_eq_true hif7) (by omega)
          refine WP_skip ?_
          exact ⟨rfl, rfl, rfl, rfl, rfl, rfl, rfl, rfl, hs.out⟩
        refine WP_skip ?_
        exact ⟨rfl, rfl, rfl, rfl, rfl, rfl, rfl, rfl, hs⟩
      rintro σ w ⟨g20, g0, g1, g4, g5, g6, g9, g10, hs⟩
      obtain ⟨σ, rfl⟩ := rebase g20
      obtain ⟨σ, rfl⟩ := rebase (σ := σ) g0
      obtain ⟨σ, rfl⟩ := rebase (σ := σ) g1
      obtain ⟨σ, rfl⟩ := rebase (σ := σ) g4
      obtain ⟨σ, rfl⟩ := rebase (σ := σ) g5
      obtain ⟨σ, rfl⟩ := rebase (σ := σ) g6
      obtain ⟨σ, rfl⟩ := rebase (σ := σ) g9
      obtain ⟨σ, rfl⟩ := rebase (σ := σ) g10
      clear g20 g0 g1 g4 g5 g6 g9 g10
      refine WP_seq_cut (fun σ w => ∃ (hhit : Bool) (acc3 : List It), ItD most st sp (up.reverse ++ (kidL h t (i + 1)).reverse) acc acc3 true ∧ σ 20 = .int .i64 (((i + 1 : Nat) : Int) - 1) ∧ σ 0 = ptr b ∧ σ 1 = .int .i64 (-1) ∧ σ 4 = .bool inc ∧ σ 5 = .bool hhit ∧ σ 6 = seeV vb ∧ σ 9 = .pointer (some ⟨b9, 0, none⟩) ∧ σ 10 = .pointer (some ⟨b10, 0, none⟩) ∧ St w0 (pts b9 (.cells (ovC st) 116 (0, 0)) * (pts b10 (.cells (ovC sp) 116 (0, 0)) * (Tp c h t b * (Ctx c fl * (VisP vb acc3 most * F))))) w) ?_ ?_ -- S7
      · refine WP_seq ?_
        have hs0 := hs
        obtain ⟨bs, hlen, hs⟩ := St.tree (hs.foc (Tp c h t b))
        obtain ⟨⟨v1, v2⟩, hs⟩ := hs.ex
        simp only [mul_assoc'] at hs
        obtain ⟨a1, c1, rfl, hc1, hcm1⟩ := (hs.foc (IArr v1 t.its)).arr_form
        obtain ⟨a2, c2, rfl, hc2, hcm2⟩ := (hs.foc (PArr v2 bs)).arr_form
        -- R36
        refine WP_seqr [⟨0, 0, []⟩, ⟨1, 0, []⟩, ⟨2, 0, []⟩, ⟨3, 1, []⟩, ⟨4, 0, []⟩, ⟨5, 0, []⟩] (by kernel_rfl) ?_
        refine ns_move rfl rfl ?_
        refine ns_nil rfl rfl rfl ?_
        refine ns_fld fo_103_1 rfl rfl rfl ?_
        refine ns_ldB pl_101 hs rfl rfl rfl (by rfl) ?_
        refine ns_len sl_101 rfl rfl rfl ?_
        refine ns_cmp _ rfl rfl rfl rfl rfl ?_
        refine ns_done ?_
        have hs := hs0
        refine WP_if rfl (fun hif8 => ?_) (fun hif8 => ?_)
        · refine WP_seq ?_
          have hb0 : t.kids.length ≠ 0 := by have := of_decide_eq_true hif8; omega
          have hkl := kids_len hO hb0
          obtain ⟨k, hk⟩ : ∃ k, t.kids[(i + 1)]? = some k := ⟨t.kids[(i + 1)]'(by omega), List.getElem?_eq_getElem (by omega)⟩
          obtain ⟨h, rfl⟩ : ∃ h', h = h' + 1 := by
            cases h with
            | zero => rw [show t.kids = [] from hO] at hk; simp at hk
            | succ h => exact ⟨h, rfl⟩
          have hko := kid_ok hO hk
          have hkS : Srt (flat h k) := kid_srt hO hS hk
          have hkL := kidL_at hO hk
          obtain ⟨bs, hlen, hs⟩ := St.tree (hs.foc (Tp c (h + 1) t b))
          obtain ⟨xb, hxb⟩ : ∃ xb, bs[(i + 1)]? = some xb := ⟨bs[(i + 1)]'(by omega), List.getElem?_eq_getElem (by omega)⟩
          rw [Ks_at hk hxb] at hs
          simp only [mul_assoc'] at hs
          obtain ⟨⟨v1, v2⟩, hs⟩ := (hs.foc (NodeP c b t.its bs)).ex
          simp only [mul_assoc'] at hs
          obtain ⟨_, hz, _⟩ | ⟨g, cap, cur, hv, hc, hcm, hsz, htk, hs⟩ := (hs.foc (PArr (v2) (bs))).arr
          · omega
          cases hv
          -- R37
          refine WP_net hs mix [0, 1, 3, 7, 0, 16, 63, 127, 0, 0, 0, 0, 0, 0, 16383, 32767, 65535, 65535, 131071, 524287] [⟨0, 0, []⟩, ⟨1, 0, []⟩, ⟨2, 0, []⟩, ⟨3, 1, []⟩, ⟨4, 0, []⟩, ⟨5, 0, []⟩, ⟨6, 0, []⟩, ⟨7, 1, []⟩, ⟨8, 0, []⟩, ⟨9, 1, []⟩, ⟨10, 1, []⟩, ⟨11, 0, []⟩, ⟨12, 0, []⟩, ⟨13, 0, []⟩, ⟨14, 2, []⟩, ⟨15, 0, []⟩, ⟨16, 0, []⟩, ⟨17, 0, []⟩, ⟨18, 0, []⟩, ⟨19, 0, []⟩] (by kernel_rfl) ?_
          intro w hs
          refine ns_move rfl rfl ?_
          refine ns_nil rfl rfl rfl ?_
          refine ns_fld fo_103_1 rfl rfl rfl ?_
          refine ns_ldB pl_101 hs rfl rfl rfl (by rfl) ?_
          refine ns_move rfl rfl ?_
          refine ns_add rfl rfl rfl rfl (by omega) (by omega) ?_
          refine ns_idx (i + 1) sl_101 rfl rfl rfl rfl (by omega) (by omega) ?_
          refine ns_ld pl_85 rfl rfl rfl (ptr_cell hs htk _ hxb) ?_
          refine ns_move rfl rfl ?_
          refine ns_ldAB (ovC st).toList ag_116 hs rfl rfl rfl (by rfl) (by rfl) (by decide) ?_
          refine ns_ldAB (ovC sp).toList ag_116 hs rfl rfl rfl (by rfl) (by rfl) (by decide) ?_
          refine ns_move rfl rfl ?_
          refine ns_move rfl rfl ?_
          refine ns_move rfl rfl ?_
          refine ns_call (hkid h k xb hhit acc2 rfl hko.2.2 hko.2.1 hkS (by rw [← hkL]; omega) (fun e y hy => hH e y (by rw [hkL]; exact List.mem_append_right _ hy))) ck_76 (hs.foc (Tq c (h + 1) k xb * (Ctx c fl * VisP vb acc2 most))) rfl rfl rfl rfl ?_
          intro v277 w hs
          unfold ItQ at hs
          replace hs := hs.ex
          obtain ⟨⟨hit3, ok3, acc3⟩, hs⟩ := hs
          replace hs := hs.pu
          obtain ⟨⟨rfl, q1⟩, hs⟩ := hs
          simp only [mul_assoc'] at hs
          rw [← hkL] at q1
          refine ns_move rfl rfl ?_
          refine ns_ext rfl rfl rfl rfl ?_
          refine ns_ext rfl rfl rfl rfl ?_
          refine ns_asg rfl rfl ?_
          refine ns_asg rfl rfl ?_
          refine ns_done ?_
          have hs := (hs.foc (pts g (.cells cur 85 (0, 0)))).mk_arr' hc hcm hsz htk
          have hs := hs.fold (node_fold c b v1 (.slice (some ⟨g, 0, none⟩) bs.length cap) t.its bs)
          rw [show Tp c h k xb = Tq c (h + 1) k xb from rfl] at hs
          have hs := hs.fold (Ent.of_eq (Ks_at (c := c) (h := h + 1) hk hxb).symm)
          have hs := hs.fold (tree_fold (c := c) (h := h + 1) (b := b) (its := t.its) (kids := t.kids) hlen)
          rw [Tr.eta] at hs
          refine WP_seq ?_
          -- R38
          refine WP_seqr [⟨0, 0, []⟩, ⟨1, 0, []⟩] (by kernel_rfl) ?_
          refine ns_move rfl rfl ?_
          refine ns_not rfl rfl rfl ?_
          refine ns_done ?_
          refine WP_if rfl (fun hif9 => ?_) (fun hif9 => ?_)
          · refine WP_seq ?_
            -- R39
            refine WP_seqr [⟨0, 0, []⟩, ⟨1, 0, []⟩, ⟨2, 0, []⟩] (by kernel_rfl) ?_
            refine ns_move rfl rfl ?_
            refine ns_asg rfl rfl ?_
            refine ns_asg rfl rfl ?_
            refine ns_done ?_
            refine WP_ret ?_
            have hok : ok3 = false := by simpa using hif9
            subst hok
            have q2 := (ItD.go hD q1).stop (b := [x] ++ (pfx (h + 1) t i ++ kidL (h + 1) t i).reverse) (by rw [eR2]; exact hDs)
            rw [eR2] at q2
            exact ⟨_, res2 _ _, St.mk_ex (hit3, false, acc3) (St.mk_pu ⟨rfl, q2⟩ hs.out)⟩
          refine WP_skip ?_
          have hok : ok3 = true := by simpa using hif9
          subst hok
          exact ⟨hit3, acc3, ItD.go hD q1, rfl, rfl, rfl, rfl, rfl, rfl, rfl, rfl, hs.out⟩
        refine WP_skip ?_
        have hb0 : t.kids.length = 0 := by have := of_decide_eq_false hif8; omega
        obtain rfl := kids_zero hO hb0
        exact ⟨hhit, acc2, by rw [show kidL 0 t (i + 1) = [] from rfl]; simpa using hD, rfl, rfl, rfl, rfl, rfl, rfl, rfl, rfl, hs⟩
      rintro σ w ⟨hhit, acc3, hD3, g20, g0, g1, g4, g5, g6, g9, g10, hs⟩
      obtain ⟨σ, rfl⟩ := rebase g20
      obtain ⟨σ, rfl⟩ := rebase (σ := σ) g0
      obtain ⟨σ, rfl⟩ := rebase (σ := σ) g1
      obtain ⟨σ, rfl⟩ := rebase (σ := σ) g4
      obtain ⟨σ, rfl⟩ := rebase (σ := σ) g5
      obtain ⟨σ, rfl⟩ := rebase (σ := σ) g6
      obtain ⟨σ, rfl⟩ := rebase (σ := σ) g9
      obtain ⟨σ, rfl⟩ := rebase (σ := σ) g10
      clear g20 g0 g1 g4 g5 g6 g9 g10
      refine WP_seq ?_ -- S8
      refine WP_seq_cut (fun σ w => σ 304 = .bool (!gtS sp x) ∧ σ 20 = .int .i64 (((i + 1 : Nat) : Int) - 1) ∧ σ 0 = ptr b ∧ σ 1 = .int .i64 (-1) ∧ σ 4 = .bool inc ∧ σ 5 = .bool hhit ∧ σ 6 = seeV vb ∧ σ 9 = .pointer (some ⟨b9, 0, none⟩) ∧ σ 10 = .pointer (some ⟨b10, 0, none⟩) ∧ St w0 (pts b9 (.cells (ovC st) 116 (0, 0)) * (pts b10 (.cells (ovC sp) 116 (0, 0)) * (Tp c h t b * (Ctx c fl * (VisP vb acc3 most * F))))) w) ?_ ?_ -- R40.cut
      · rcases (show sp = none ∨ ∃ s, sp = some s from by
          cases sp with
          | none => exact .inl rfl
          | some s => exact .inr ⟨s, rfl⟩) with rfl | ⟨s, rfl⟩
        · -- R40
          refine WP_net hs mix [0, 1, 3, 7, 15, 31, 63, 127, 255, 511, 7, 1031, 7, 4103, 12295, 28679, 7, 126983, 258055, 524287, 1048575, 2097151] [⟨0, 0, []⟩, ⟨1, 1, []⟩, ⟨2, 0, []⟩, ⟨3, 0, []⟩, ⟨4, 0, []⟩, ⟨5, 0, []⟩, ⟨6, 0, []⟩, ⟨7, 0, []⟩, ⟨8, 0, []⟩, ⟨9, 0, []⟩, ⟨10, 0, []⟩, ⟨11, 0, []⟩, ⟨12, 0, []⟩, ⟨13, 0, []⟩, ⟨14, 0, []⟩, ⟨15, 0, []⟩, ⟨16, 0, []⟩, ⟨17, 0, []⟩, ⟨18, 0, []⟩, ⟨19, 0, []⟩, ⟨20, 0, []⟩, ⟨21, 0, []⟩] (by kernel_rfl) ?_
          intro w hs
          refine ns_fld fo_116_1 rfl rfl rfl ?_
          refine ns_ldB pl_4 hs rfl rfl rfl (by rfl) ?_
          refine ns_move rfl rfl ?_
          refine ns_no rfl rfl ?_
          refine ns_no rfl rfl ?_
          refine ns_no rfl rfl ?_
          refine ns_no rfl rfl ?_
          refine ns_no rfl rfl ?_
          refine ns_no rfl rfl ?_
          refine ns_no rfl rfl ?_
          refine ns_no rfl rfl ?_
          refine ns_no rfl rfl ?_
          refine ns_no rfl rfl ?_
          refine ns_no rfl rfl ?_
          refine ns_no rfl rfl ?_
          refine ns_no rfl rfl ?_
          refine ns_no rfl rfl ?_
          refine ns_no rfl rfl ?_
          refine ns_no rfl rfl ?_
          refine ns_no rfl rfl ?_
          refine ns_no rfl rfl ?_
          refine ns_pick rfl rfl rfl ?_
          refine ns_done ?_
          exact ⟨rfl, rfl, rfl, rfl, rfl, rfl, rfl, rfl, rfl, hs⟩
        · obtain ⟨bs, hlen, hs⟩ := St.tree (hs.foc (Tp c h t b))
          obtain ⟨⟨v1, v2⟩, hs⟩ := hs.ex
          simp only [mul_assoc'] at hs
          obtain ⟨a1, c1, rfl, hc1, hcm1⟩ := (hs.foc (IArr v1 t.its)).arr_form
          obtain ⟨a2, c2, rfl, hc2, hcm2⟩ := (hs.foc (PArr v2 bs)).arr_form
          unfold Ctx CowP at hs
          simp only [mul_assoc'] at hs
          obtain ⟨_, hz, _⟩ | ⟨g, cap, cur, hv, hc, hcm, hsz, htk, hs⟩ := (hs.foc (IArr (.slice a1 t.its.length c1) (t.its))).arr
          · omega
          cases hv
          -- R40
          refine WP_net hs mix [0, 1, 3, 7, 15, 31, 63, 127, 255, 511, 7, 1031, 7, 4103, 12295, 28679, 7, 126983, 258055, 524287, 1048575, 2097151] [⟨0, 0, []⟩, ⟨1, 1, []⟩, ⟨2, 0, []⟩, ⟨3, 0, []⟩, ⟨4, 0, []⟩, ⟨5, 0, []⟩, ⟨6, 1, []⟩, ⟨7, 0, []⟩, ⟨8, 0, []⟩, ⟨9, 1, []⟩, ⟨10, 0, []⟩, ⟨11, 1, []⟩, ⟨12, 0, []⟩, ⟨13, 0, []⟩, ⟨14, 0, []⟩, ⟨15, 1, []⟩, ⟨16, 0, []⟩, ⟨17, 0, []⟩, ⟨18, 1, []⟩, ⟨19, 2, []⟩, ⟨20, 0, []⟩, ⟨21, 0, []⟩] (by kernel_rfl) ?_
          intro w hs
          refine ns_fld fo_116_1 rfl rfl rfl ?_
          refine ns_ldB pl_4 hs rfl rfl rfl (by rfl) ?_
          refine ns_move rfl rfl ?_
          refine ns_move rfl rfl ?_
          refine ns_nil rfl rfl rfl ?_
          refine ns_fld fo_103_2 rfl rfl rfl ?_
          refine ns_ldB pl_82 hs rfl rfl rfl (by rfl) ?_
          refine ns_nil rfl rfl rfl ?_
          refine ns_fld fo_84_1 rfl rfl rfl ?_
          refine ns_ldB pl_69 hs rfl rfl rfl (by rfl) ?_
          refine ns_fld fo_116_0 rfl rfl rfl ?_
          refine ns_ldAB [.int .i64 s.key, .int .i64 s.val] ag_45 hs rfl rfl rfl (by rfl) (by rfl) (by decide) ?_
          refine ns_move rfl rfl ?_
          refine ns_nil rfl rfl rfl ?_
          refine ns_fld fo_103_0 rfl rfl rfl ?_
          refine ns_ldB pl_100 hs rfl rfl rfl (by rfl) ?_
          refine ns_move rfl rfl ?_
          refine ns_idx i sl_100 rfl rfl rfl rfl (by omega) hi ?_
          refine ns_ldA [.int .i64 x.key, .int .i64 x.val] ag_45 rfl rfl rfl rfl (by decide) (it_cells hs htk _ hx) ?_
          refine ns_call (f40_ok s x) ck_40 (hs.foc 1) rfl rfl rfl rfl ?_
          intro v302 w hs
          replace hs := hs.pure
          obtain ⟨rfl, hs⟩ := hs
          refine ns_not rfl rfl rfl ?_
          refine ns_pick rfl rfl rfl ?_
          refine ns_done ?_
          have hs := (hs.foc (pts g (.cells cur 45 (0, 0)))).mk_arr' hc hcm hsz htk
          have hs := hs.fold (ctx_fold c fl)
          have hs := hs.fold (node_fold c b (.slice (some ⟨g, 0, none⟩) t.its.length c1) (.slice a2 bs.length c2) t.its bs)
          have hs := hs.fold (tree_fold (c := c) (h := h) (b := b) (its := t.its) (kids := t.kids) hlen)
          rw [Tr.eta] at hs
          exact ⟨rfl, rfl, rfl, rfl, rfl, rfl, rfl, rfl, rfl, hs.out⟩
      rintro σ w ⟨g304, g20, g0, g1, g4, g5, g6, g9, g10, hs⟩
      obtain ⟨σ, rfl⟩ := rebase g304
      obtain ⟨σ, rfl⟩ := rebase (σ := σ) g20
      obtain ⟨σ, rfl⟩ := rebase (σ := σ) g0
      obtain ⟨σ, rfl⟩ := rebase (σ := σ) g1
      obtain ⟨σ, rfl⟩ := rebase (σ := σ) g4
      obtain ⟨σ, rfl⟩ := rebase (σ := σ) g5
      obtain ⟨σ, rfl⟩ := rebase (σ := σ) g6
      obtain ⟨σ, rfl⟩ := rebase (σ := σ) g9
      obtain ⟨σ, rfl⟩ := rebase (σ := σ) g10
      clear g304 g20 g0 g1 g4 g5 g6 g9 g10
      refine WP_if rfl (fun hif10 => ?_) (fun hif10 => ?_)
      · refine WP_seq ?_
        -- R41
        refine WP_seqr [⟨0, 0, []⟩, ⟨1, 0, []⟩, ⟨2, 0, []⟩] (by kernel_rfl) ?_
        refine ns_move rfl rfl ?_
        refine ns_asg rfl rfl ?_
        refine ns_asg rfl rfl ?_
        refine ns_done ?_
        refine WP_ret ?_
        have hlt : gtS sp x = false := by simpa using hif10
        have q2 := (ItD.go hD3 (ItD.one_stop (st := st) (acc := acc3) (most := most) hlt)).stop (b := (pfx h t i ++ kidL h t i).reverse) (by rw [eR]; exact hDs)
        rw [eR] at q2
        exact ⟨_, res2 _ _, St.mk_ex (hhit, false, acc3) (St.mk_pu ⟨rfl, q2⟩ hs.out)⟩
      refine WP_skip ?_
      have hlt : gtS sp x = true := by simpa using hif10
      have hD3l := ItD_len hD3
      simp only [List.length_append, List.length_reverse] at hD3l
      refine WP_seq ?_
      -- R42
      refine WP_seqr [⟨0, 0, []⟩] (by kernel_rfl) ?_
      refine ns_asg rfl rfl ?_
      refine ns_done ?_
      refine WP_seq ?_
      obtain ⟨bs, hlen, hs⟩ := St.tree (hs.foc (Tp c h t b))
      obtain ⟨⟨v1, v2⟩, hs⟩ := hs.ex
      simp only [mul_assoc'] at hs
      obtain ⟨a1, c1, rfl, hc1, hcm1⟩ := (hs.foc (IArr v1 t.its)).arr_form
      obtain ⟨a2, c2, rfl, hc2, hcm2⟩ := (hs.foc (PArr v2 bs)).arr_form
      obtain ⟨_, hz, _⟩ | ⟨g, cap, cur, hv, hc, hcm, hsz, htk, hs⟩ := (hs.foc (IArr (.slice a1 t.its.length c1) (t.its))).arr
      · omega
      cases hv
      -- R43
      refine WP_seqr [⟨0, 0, []⟩, ⟨1, 0, []⟩, ⟨2, 0, []⟩, ⟨3, 0, []⟩, ⟨4, 1, []⟩, ⟨5, 0, []⟩, ⟨6, 0, []⟩, ⟨7, 1, []⟩, ⟨8, 2, []⟩, ⟨9, 0, []⟩] (by kernel_rfl) ?_
      refine ns_move rfl rfl ?_
      refine ns_move rfl rfl ?_
      refine ns_nil rfl rfl rfl ?_
      refine ns_fld fo_103_0 rfl rfl rfl ?_
      refine ns_ldB pl_100 hs rfl rfl rfl (by rfl) ?_
      refine ns_move rfl rfl ?_
      refine ns_idx i sl_100 rfl rfl rfl rfl (by omega) hi ?_
      refine ns_ldA [.int .i64 x.key, .int .i64 x.val] ag_45 rfl rfl rfl rfl (by decide) (it_cells hs htk _ hx) ?_
      refine ns_call (f58_ok vb x acc3 most (by omega)) ck_58 (hs.foc (VisP vb acc3 most)) rfl rfl rfl rfl ?_
      intro v314 w hs
      replace hs := hs.pu
      obtain ⟨rfl, hs⟩ := hs
      refine ns_not rfl rfl rfl ?_
      refine ns_done ?_
      have hs := (hs.foc (pts g (.cells cur 45 (0, 0)))).mk_arr' hc hcm hsz htk
      have hs := hs.fold (node_fold c b (.slice (some ⟨g, 0, none⟩) t.its.length c1) (.slice a2 bs.length c2) t.its bs)
      have hs := hs.fold (tree_fold (c := c) (h := h) (b := b) (its := t.its) (kids := t.kids) hlen)
      rw [Tr.eta] at hs
      have hone := ItD.one (most := most) (acc := acc3) hxle hlt
      refine WP_if rfl (fun hif11 => ?_) (fun hif11 => ?_)
      · refine WP_seq ?_
        -- R44
        refine WP_seqr [⟨0, 0, []⟩, ⟨1, 0, []⟩, ⟨2, 0, []⟩] (by kernel_rfl) ?_
        refine ns_move rfl rfl ?_
        refine ns_asg rfl rfl ?_
        refine ns_asg rfl rfl ?_
        refine ns_done ?_
        refine WP_ret ?_
        have hok : decide (((acc3 ++ [x]).length : Int) < most) = false := by simpa using hif11
        rw [hok] at hone
        have q2 := (ItD.go hD3 hone).stop (b := (pfx h t i ++ kidL h t i).reverse) (by rw [eR]; exact hDs)
        rw [eR] at q2
        exact ⟨_, res2 _ _, St.mk_ex (true, false, acc3 ++ [x]) (St.mk_pu ⟨rfl, q2⟩ hs.out)⟩
      refine WP_skip ?_
      have hok : decide (((acc3 ++ [x]).length : Int) < most) = true := by simpa using hif11
      rw [hok] at hone
      -- R33
      refine WP_seqr [⟨0, 0, []⟩, ⟨1, 0, []⟩, ⟨2, 0, []⟩] (by kernel_rfl) ?_
      refine ns_move rfl rfl ?_
      refine ns_sub rfl rfl rfl rfl (by omega) (by omega) ?_
      refine ns_asg rfl rfl ?_
      refine ns_done ?_
      exact ⟨i, by omega, i, true, acc3 ++ [x], x :: (kidL h t (i + 1) ++ up), rfl, by omega, by rw [eD, hp]; simp, by simpa using ItD.go hD3 hone, (fun _ y hy => bel_of hxle (hbx y hy)), congrArg (Value.int .i64) (by omega : ((((i + 1 : Nat) : Int) - 1) - 1) = ((i : Nat) : Int) - 1), rfl, rfl, rfl, rfl, rfl, rfl, rfl, hs.out⟩
      
    rintro σ w ⟨hhit, acc2, up, eD, hD, hH, g0, g1, g4, g5, g6, g9, g10, hs⟩
    obtain ⟨σ, rfl⟩ := rebase g0
    obtain ⟨σ, rfl⟩ := rebase (σ := σ) g1
    obtain ⟨σ, rfl⟩ := rebase (σ := σ) g4
    obtain ⟨σ, rfl⟩ := rebase (σ := σ) g5
    obtain ⟨σ, rfl⟩ := rebase (σ := σ) g6
    obtain ⟨σ, rfl⟩ := rebase (σ := σ) g9
    obtain ⟨σ, rfl⟩ := rebase (σ := σ) g10
    clear g0 g1 g4 g5 g6 g9 g10
    have hlenD := congrArg List.length eD
    simp only [List.length_append] at hlenD
    have hDl := ItD_len hD
    simp only [List.length_reverse] at hDl
    have eR : up.reverse ++ (kidL h t 0).reverse = (flat h t).reverse := by rw [eD]; simp
    refine WP_seq ?_
    have hs0 := hs
    obtain ⟨bs, hlen, hs⟩ := St.tree (hs.foc (Tp c h t b))
    obtain ⟨⟨v1, v2⟩, hs⟩ := hs.ex
    simp only [mul_assoc'] at hs
    obtain ⟨a1, c1, rfl, hc1, hcm1⟩ := (hs.foc (IArr v1 t.its)).arr_form
    obtain ⟨a2, c2, rfl, hc2, hcm2⟩ := (hs.foc (PArr v2 bs)).arr_form
    -- R45
    refine WP_seqr [⟨0, 0, []⟩, ⟨1, 0, []⟩, ⟨2, 0, []⟩, ⟨3, 1, []⟩, ⟨4, 0, []⟩, ⟨5, 0, []⟩] (by kernel_rfl) ?_
    refine ns_move rfl rfl ?_
    refine ns_nil rfl rfl rfl ?_
    refine ns_fld fo_103_1 rfl rfl rfl ?_
    refine ns_ldB pl_101 hs rfl rfl rfl (by rfl) ?_
    refine ns_len sl_101 rfl rfl rfl ?_
    refine ns_cmp _ rfl rfl rfl rfl rfl ?_
    refine ns_done ?_
    have hs := hs0
    refine WP_if rfl (fun hif12 => ?_) (fun hif12 => ?_)
    · refine WP_seq ?_
      have hb0 : t.kids.length ≠ 0 := by have := of_decide_eq_true hif12; omega
      have hkl := kids_len hO hb0
      obtain ⟨k, hk⟩ : ∃ k, t.kids[0]? = some k := ⟨t.kids[0]'(by omega), List.getElem?_eq_getElem (by omega)⟩
      obtain ⟨h, rfl⟩ : ∃ h', h = h' + 1 := by
        cases h with
        | zero => rw [show t.kids = [] from hO] at hk; simp at hk
        | succ h => exact ⟨h, rfl⟩
      have hko := kid_ok hO hk
      have hkS : Srt (flat h k) := kid_srt hO hS hk
      have hkL := kidL_at hO hk
      obtain ⟨bs, hlen, hs⟩ := St.tree (hs.foc (Tp c (h + 1) t b))
      obtain ⟨xb, hxb⟩ : ∃ xb, bs[0]? = some xb := ⟨bs[0]'(by omega), List.getElem?_eq_getElem (by omega)⟩
      rw [Ks_at hk hxb] at hs
      simp only [mul_assoc'] at hs
      obtain ⟨⟨v1, v2⟩, hs⟩ := (hs.foc (NodeP c b t.its bs)).ex
      simp only [mul_assoc'] at hs
      obtain ⟨_, hz, _⟩ | ⟨g, cap, cur, hv, hc, hcm, hsz, htk, hs⟩ := (hs.foc (PArr (v2) (bs))).arr
      · omega
      cases hv
      -- R46
      refine WP_net hs mix [0, 1, 3, 7, 15, 31, 0, 0, 0, 0, 0, 0, 4095, 8191, 16383, 16383, 32767, 131071] [⟨0, 0, []⟩, ⟨1, 0, []⟩, ⟨2, 0, []⟩, ⟨3, 1, []⟩, ⟨4, 0, []⟩, ⟨5, 1, []⟩, ⟨6, 0, []⟩, ⟨7, 1, []⟩, ⟨8, 1, []⟩, ⟨9, 0, []⟩, ⟨10, 0, []⟩, ⟨11, 0, []⟩, ⟨12, 2, []⟩, ⟨13, 0, []⟩, ⟨14, 0, []⟩, ⟨15, 0, []⟩, ⟨16, 0, []⟩, ⟨17, 0, []⟩] (by kernel_rfl) ?_
      intro w hs
      refine ns_move rfl rfl ?_
      refine ns_nil rfl rfl rfl ?_
      refine ns_fld fo_103_1 rfl rfl rfl ?_
      refine ns_ldB pl_101 hs rfl rfl rfl (by rfl) ?_
      refine ns_idx 0 sl_101 rfl rfl rfl rfl rfl (by omega) ?_
      refine ns_ld pl_85 rfl rfl rfl (ptr_cell hs htk _ hxb) ?_
      refine ns_move rfl rfl ?_
      refine ns_ldAB (ovC st).toList ag_116 hs rfl rfl rfl (by rfl) (by rfl) (by decide) ?_
      refine ns_ldAB (ovC sp).toList ag_116 hs rfl rfl rfl (by rfl) (by rfl) (by decide) ?_
      refine ns_move rfl rfl ?_
      refine ns_move rfl rfl ?_
      refine ns_move rfl rfl ?_
      refine ns_call (hkid h k xb hhit acc2 rfl hko.2.2 hko.2.1 hkS (by rw [← hkL]; omega) (fun e y hy => hH e y (by rw [hkL]; exact hy))) ck_76 (hs.foc (Tq c (h + 1) k xb * (Ctx c fl * VisP vb acc2 most))) rfl rfl rfl rfl ?_
      intro v336 w hs
      unfold ItQ at hs
      replace hs := hs.ex
      obtain ⟨⟨hit3, ok3, acc3⟩, hs⟩ := hs
      replace hs := hs.pu
      obtain ⟨⟨rfl, q1⟩, hs⟩ := hs
      simp only [mul_assoc'] at hs
      rw [← hkL] at q1
      refine ns_move rfl rfl ?_
      refine ns_ext rfl rfl rfl rfl ?_
      refine ns_ext rfl rfl rfl rfl ?_
      refine ns_asg rfl rfl ?_
      refine ns_asg rfl rfl ?_
      refine ns_done ?_
      have hs := (hs.foc (pts g (.cells cur 85 (0, 0)))).mk_arr' hc hcm hsz htk
      have hs := hs.fold (node_fold c b v1 (.slice (some ⟨g, 0, none⟩) bs.length cap) t.its bs)
      rw [show Tp c h k xb = Tq c (h + 1) k xb from rfl] at hs
      have hs := hs.fold (Ent.of_eq (Ks_at (c := c) (h := h + 1) hk hxb).symm)
      have hs := hs.fold (tree_fold (c := c) (h := h + 1) (b := b) (its := t.its) (kids := t.kids) hlen)
      rw [Tr.eta] at hs
      refine WP_seq ?_
      -- R47
      refine WP_seqr [⟨0, 0, []⟩, ⟨1, 0, []⟩] (by kernel_rfl) ?_
      refine ns_move rfl rfl ?_
      refine ns_not rfl rfl rfl ?_
      refine ns_done ?_
      refine WP_if rfl (fun hif13 => ?_) (fun hif13 => ?_)
      · refine WP_seq ?_
        -- R48
        refine WP_seqr [⟨0, 0, []⟩, ⟨1, 0, []⟩, ⟨2, 0, []⟩] (by kernel_rfl) ?_
        refine ns_move rfl rfl ?_
        refine ns_asg rfl rfl ?_
        refine ns_asg rfl rfl ?_
        refine ns_done ?_
        refine WP_ret ?_
        have hok : ok3 = false := by simpa using hif13
        subst hok
        have q2 := ItD.go hD q1
        rw [eR] at q2
        exact ⟨_, res2 _ _, St.mk_ex (hit3, false, acc3) (St.mk_pu ⟨rfl, q2⟩ hs.out)⟩
      refine WP_skip ?_
      have hok : ok3 = true := by simpa using hif13
      subst hok
      have q2 := ItD.go hD q1
      rw [eR] at q2
      exact ⟨hit3, acc3, rfl, q2, hs.out⟩
    refine WP_skip ?_
    have hb0 : t.kids.length = 0 := by have := of_decide_eq_false hif12; omega
    obtain rfl := kids_zero hO hb0
    rw [show kidL 0 t 0 = [] from rfl, List.nil_append] at eD
    rw [← eD] at hD
    exact ⟨hhit, acc2, rfl, hD, hs⟩
  rintro σ w ⟨hit2, acc2, g5, hD, hs⟩
  obtain ⟨σ, rfl⟩ := rebase g5
  refine WP_seq ?_
  -- R49
  refine WP_seqr [⟨0, 0, []⟩, ⟨1, 0, []⟩, ⟨2, 0, []⟩] (by kernel_rfl) ?_
  refine ns_move rfl rfl ?_
  refine ns_asg rfl rfl ?_
  refine ns_asg rfl rfl ?_
  refine ns_done ?_
  refine WP_ret ?_
  exact ⟨_, res2 _ _, St.mk_ex (hit2, true, acc2) (St.mk_pu ⟨rfl, hD⟩ hs.out)⟩
theorem f76d_ok (c fl mn mx vb : Nat) (most : Int) (st sp : Option It) (inc : Bool) (hm : mx < 10000) (hinc : st ≠ none → inc = true) : ∀ (h b : Nat) (t : Tr) (hit : Bool) (acc : List It), Ok mn mx h t → t.its.length ≤ mx → Srt (flat h t) → acc.length + (flat h t).length < 1000000 → (hit = true → ∀ y ∈ flat h t, belS st y) →
    Tri Try.prog 76 #[ptr b, .int .i64 (-1), ov st, ov sp, .bool inc, .bool hit, seeV vb] (Tp c h t b * (Ctx c fl * VisP vb acc most)) (ItQ c fl vb h b t most st sp acc) := by
  intro h
  induction h with
  | zero => exact fun b t hit acc hO hl hS ha hh => f76_desc c fl mn mx vb 0 b t most st sp inc hit acc hm hO hl hS hinc ha hh fun h' k xb hit' acc' e => by cases e
  | succ h ih => exact fun b t hit acc hO hl hS ha hh => f76_desc c fl mn mx vb (h + 1) b t most st sp inc hit acc hm hO hl hS hinc ha hh fun h' k xb hit' acc' e hO' hl' hS' ha' hh' => by cases e; exact ih xb k hit' acc' hO' hl' hS' ha' hh'
end Go.Proofs.Ytnnembkganlbpaa
