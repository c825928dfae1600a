/- The walks of a search and a taking out in a list, and of the law on what is found: FnFound. -/
import Derived.Test.YtnnembkganlbpaaW27
namespace Go.Wk
open Go Go.Sl Go.Net Go.RowKit
section
variable {P : Program} {ops : Array Oper} {Q : Slots → World → Prop} {σ : Slots} {w w0 : World} {H : HProp} {rest : Tre} {held : Nat → World → Prop} {i : Nat} {kp : List Nat}
variable {d : Option Tmp} {ty : TypeId} {ps : String} {af : Array Edge} {gd : Option (Nat × Bool)}
theorem ns_beq2 {t t' : TypeId} {x y : Operand} {a b : Bool} (r : Bool) (hu : P.underlying t = some .bool) (ho : ops[i]? = some ⟨d, .binOp .eql t x y t', ty, ps, af, gd⟩) (hw : Region.wanted ⟨d, .binOp .eql t x y t', ty, ps, af, gd⟩ (yieldS ops σ) = true)
    (hx : evS σ x = .bool a) (hy : evS σ y = .bool b) (hr : (a == b) = r) (h : NetS P ops Q rest held (updO σ d (.bool r)) w) : NetS P ops Q (.cons ⟨i, 0, kp⟩ rest) held σ w := by
  subst hr; exact ns_beq hu ho hw hx hy h
end
end Go.Wk
namespace Go.Proofs.Ytnnembkganlbpaa
open Go Go.Sl Go.Net Go.Wk Go.Bt Go.RowKit

theorem filt_snoc {p : It → Bool} {l : List It} {i : Nat} {x : It} (h : l[i]? = some x) : (l.take (i + 1)).filter p = (l.take i).filter p ++ if p x then [x] else [] := by
  rw [take_snoc h, List.filter_append, List.filter_cons, List.filter_nil]
theorem find_at {l : List It} {i : Nat} {x : It} {k : Int} (h : l[i]? = some x) (hn : ∀ y ∈ l.take i, y.key ≠ k) (hx : x.key = k) : get l k = some x := by
  have e : l = l.take i ++ x :: l.drop (i + 1) := by
    obtain ⟨hi, rfl⟩ := List.getElem?_eq_some_iff.1 h
    rw [List.getElem_cons_drop, List.take_append_drop]
  rw [e, get_append, get_none.2 hn]
  show (none : Option It).or (List.find? _ (x :: _)) = _
  rw [List.find?_cons, hx]; simp
set_option maxHeartbeats 1600000 in
theorem f30_ok (R : HProp) (v : Value) (l : List It) (k : Int) (hR : RdI R v l) (hll : l.length < 1000000) : Tri Try.prog 30 #[v, .int .i64 k] R fun r => R * IArr r (rem l k) := by
  obtain ⟨hxl, a1, c1, rfl, hc1, hrd⟩ := hR
  intro w0 F w hs
  refine calls_WP 25 #[.tmp 4] Try.func30 rfl Try.ntmps30 rfl (Nat.le_of_ble_eq_true rfl) ?_
  refine WP_seq ?_
  -- R0
  refine WP_seqr [⟨0, 0, []⟩] (by kernel_rfl) ?_
  refine ns_asg rfl rfl ?_
  refine ns_done ?_
  refine WP_seq ?_
  -- R1
  refine WP_seqr [⟨0, 2, []⟩, ⟨1, 0, []⟩] (by kernel_rfl) ?_
  refine ns_lit0 sl_34 hs rfl rfl ?_
  refine fun b8 w hs hx => ⟨trivial, ?_⟩
  refine ns_asg rfl rfl ?_
  refine ns_done ?_
  refine WP_seq_cut (fun σ w => ∃ out, σ 5 = out ∧ St w0 (R * (IArr out (rem l k) * F)) w) ?_ ?_ -- S1
  · refine WP_seq ?_
    -- R2
    refine WP_seqr [⟨0, 0, []⟩, ⟨1, 0, []⟩, ⟨2, 0, []⟩] (by kernel_rfl) ?_
    refine ns_move rfl rfl ?_
    refine ns_len sl_34 rfl rfl rfl ?_
    refine ns_move rfl rfl ?_
    refine ns_done ?_
    refine WP_block ?_
    refine WP_loop (fun m σ w => ∃ (i : Nat) (out : Value), m = l.length - i ∧ i ≤ l.length ∧ σ 1 = .int .i64 k ∧ σ 5 = out ∧ σ 9 = .slice a1 l.length c1 ∧ σ 10 = .int .i64 (l.length : Int) ∧ σ 11 = .int .i64 (i : Int) ∧ St w0 (R * (IArr out ((l.take i).filter fun y => y.key != k) * F)) w) l.length ?_ ?_ -- L1
    · refine ⟨0, .slice (some ⟨b8, 0, none⟩) 0 0, rfl, Nat.zero_le _, rfl, rfl, rfl, rfl, rfl, ?_⟩
      show St w0 (R * (Arr 45 2 _ 0 [] * F)) w
      exact hs.out
    rintro m σ w ⟨i, out, rfl, hi, g1, g5, g9, g10, g11, hs⟩
    obtain ⟨σ, rfl⟩ := rebase g1
    obtain ⟨σ, rfl⟩ := rebase (σ := σ) g5
    obtain ⟨σ, rfl⟩ := rebase (σ := σ) g9
    obtain ⟨σ, rfl⟩ := rebase (σ := σ) g10
    obtain ⟨σ, rfl⟩ := rebase (σ := σ) g11
    clear g1 g5 g9 g10 g11
    refine WP_seq ?_
    -- R3
    refine WP_seqr [⟨0, 0, []⟩] (by kernel_rfl) ?_
    refine ns_cmp _ rfl rfl rfl rfl rfl ?_
    refine ns_done ?_
    refine WP_seq ?_ -- S2
    refine WP_if' rfl (fun hif1 => ?_) (fun hif1 => ?_)
    · refine WP_exit ?_
      have hi2 : i = l.length := by have := of_decide_eq_false hif1; omega
      subst hi2
      refine ⟨out, rfl, ?_⟩
      rw [List.take_length] at hs
      exact hs
    refine WP_skip ?_
    have hi2 : i < l.length := by have := of_decide_eq_true hif1; omega
    obtain ⟨x, hxi⟩ : ∃ x, l[i]? = some x := ⟨l[i]'hi2, List.getElem?_eq_getElem hi2⟩
    obtain ⟨g, q, rfl, hat⟩ := hrd (by omega)
    have e2 := filt_snoc (p := fun y => y.key != k) hxi
    have hfl : ((l.take i).filter fun y => y.key != k).length ≤ i := Nat.le_trans (List.length_filter_le ..) (by rw [List.length_take]; omega)
    refine WP_seq_cut (fun σ w => ∃ out, σ 1 = .int .i64 k ∧ σ 5 = out ∧ σ 9 = .slice (some ⟨g, q, none⟩) l.length c1 ∧ σ 10 = .int .i64 (l.length : Int) ∧ σ 11 = .int .i64 (i : Int) ∧ St w0 (R * (IArr out ((l.take (i + 1)).filter fun y => y.key != k) * F)) w) ?_ ?_ -- S3
    · refine WP_block ?_
      refine WP_seq ?_
      -- R4
      refine WP_seqr [⟨0, 0, []⟩, ⟨1, 1, []⟩, ⟨2, 2, []⟩, ⟨3, 2, []⟩] (by kernel_rfl) ?_
      refine ns_idx i sl_34 rfl rfl rfl rfl rfl hi2 ?_
      refine ns_ldA [.int .i64 x.key, .int .i64 x.val] ag_45 rfl rfl rfl rfl (by decide) (item_cells hat (hs.foc R) hxi) ?_
      refine ns_alloc zc_45 hs rfl rfl ?_
      intro b7 w hs
      refine ns_stA (#[.int .i64 x.key, .int .i64 x.val]) ag_45 rfl (by decide) hs rfl rfl rfl rfl (by intro u hu; simp at hu; rcases hu with rfl | rfl <;> rfl) (by simp) ?_
      refine fun w hs => ⟨trivial, ?_⟩
      refine ns_done ?_
      have hs : St w0 (pts b7 (.cells #[.int .i64 x.key, .int .i64 x.val] 45 (0, 0)) * _) w := hs
      refine WP_seq ?_
      -- R5
      refine WP_seqr [⟨0, 0, []⟩, ⟨1, 1, []⟩, ⟨2, 0, []⟩, ⟨3, 0, []⟩] (by kernel_rfl) ?_
      refine ns_fld fo_45_0 rfl rfl rfl ?_
      refine ns_ldB pl_2 hs rfl rfl rfl (by rfl) ?_
      refine ns_move rfl rfl ?_
      refine ns_cmp _ rfl rfl rfl rfl rfl ?_
      refine ns_done ?_
      refine WP_if rfl (fun hif2 => ?_) (fun hif2 => ?_)
      · -- R6
        refine WP_seqr [⟨0, 0, []⟩, ⟨1, 1, []⟩, ⟨2, 2, []⟩, ⟨3, 2, []⟩, ⟨4, 0, []⟩] (by kernel_rfl) ?_
        refine ns_move rfl rfl ?_
        refine ns_ldAB [.int .i64 x.key, .int .i64 x.val] ag_45 hs rfl rfl rfl (by rfl) (by rfl) (by decide) ?_
        refine ns_lit [itV x] [.int .i64 x.key, .int .i64 x.val] sl_34 zr_45 (by decide) (by decide) hs rfl rfl rfl rfl (by simp [Value.cells, itV]) rfl ?_
        refine fun b21 w hs hx => ⟨trivial, ?_⟩
        refine ns_app [.int .i64 x.key, .int .i64 x.val] sl_34 zr_45 by_45 rfl (by decide) (hs.foc (IArr out ((l.take i).filter fun y => y.key != k))) rfl rfl rfl rfl rfl (St.cells (n := 2) hs (by rfl)) (by intro u hu; simp at hu; rcases hu with rfl | rfl <;> rfl) (by simp only [maxLen]; omega) (by omega) ?_
        refine fun v22 w hs hv => ⟨trivial, ?_⟩
        refine ns_asg rfl rfl ?_
        refine ns_done ?_
        have hif2 : (x.key != k) = true := hif2
        rw [if_pos hif2] at e2
        refine ⟨v22, rfl, rfl, rfl, rfl, rfl, ?_⟩
        rw [e2]
        have hs := hs.up (Ent.of_eq (IArr_eq (l := ((l.take i).filter fun y => y.key != k) ++ [x]) (by simp) (by rw [encs_append]; rfl)))
        exact hs.out
      refine WP_skip ?_
      have hif2 : (x.key != k) = false := hif2
      rw [hif2, if_neg (by decide), List.append_nil] at e2
      refine ⟨out, rfl, rfl, rfl, rfl, rfl, ?_⟩
      rw [e2]
      exact hs.out
    rintro σ w ⟨out, g1, g5, g9, g10, g11, hs⟩
    obtain ⟨σ, rfl⟩ := rebase g1
    obtain ⟨σ, rfl⟩ := rebase (σ := σ) g5
    obtain ⟨σ, rfl⟩ := rebase (σ := σ) g9
    obtain ⟨σ, rfl⟩ := rebase (σ := σ) g10
    obtain ⟨σ, rfl⟩ := rebase (σ := σ) g11
    clear g1 g5 g9 g10 g11
    -- R7
    refine WP_seqr [⟨0, 0, []⟩, ⟨1, 0, []⟩] (by kernel_rfl) ?_
    refine ns_add rfl rfl rfl rfl (by omega) (by omega) ?_
    refine ns_move rfl rfl ?_
    refine ns_done ?_
    exact ⟨l.length - (i + 1), by omega, i + 1, out, rfl, by omega, rfl, rfl, rfl, rfl, rfl, hs⟩
    
  rintro σ w ⟨out, g5, hs⟩
  obtain ⟨σ, rfl⟩ := rebase g5
  refine WP_seq ?_
  -- R8
  refine WP_seqr [⟨0, 0, []⟩, ⟨1, 0, []⟩] (by kernel_rfl) ?_
  refine ns_move rfl rfl ?_
  refine ns_asg rfl rfl ?_
  refine ns_done ?_
  refine WP_ret ?_
  refine ⟨_, res1 _, ?_⟩
  show St w0 ((R * IArr out (rem l k)) * F) w
  exact hs.out
set_option maxHeartbeats 1600000 in
theorem f31_ok (R : HProp) (v : Value) (l : List It) (k : Int) (hR : RdI R v l) (hll : l.length < 1000000) : Tri Try.prog 31 #[v, .int .i64 k] R fun r => pu (r = ans (get l k)) * R := by
  obtain ⟨hxl, a1, c1, rfl, hc1, hrd⟩ := hR
  intro w0 F w hs
  refine calls_WP 21 #[.cell 4 45, .tmp 5] Try.func31 rfl Try.ntmps31 rfl (Nat.le_of_ble_eq_true rfl) ?_
  refine WP_seq ?_
  -- R0
  refine WP_seqr [⟨0, 2, []⟩, ⟨1, 0, []⟩] (by kernel_rfl) ?_
  refine ns_alloc zc_45 hs rfl rfl ?_
  intro b4 w hs
  refine ns_asg rfl rfl ?_
  refine ns_done ?_
  refine WP_seq_cut (fun σ w => σ 4 = .pointer (some ⟨b4, 0, none⟩) ∧ get l k = none ∧ St w0 (pts b4 (.cells #[.int .i64 0, .int .i64 0] 45 (0, 0)) * (R * F)) w) ?_ ?_ -- S1
  · refine WP_seq ?_
    -- R1
    refine WP_seqr [⟨0, 0, []⟩, ⟨1, 0, []⟩, ⟨2, 0, []⟩] (by kernel_rfl) ?_
    refine ns_move rfl rfl ?_
    refine ns_len sl_34 rfl rfl rfl ?_
    refine ns_move rfl rfl ?_
    refine ns_done ?_
    refine WP_block ?_
    refine WP_loop (fun m σ w => ∃ i : Nat, m = l.length - i ∧ i ≤ l.length ∧ (∀ y ∈ l.take i, y.key ≠ k) ∧ σ 1 = .int .i64 k ∧ σ 4 = .pointer (some ⟨b4, 0, none⟩) ∧ σ 8 = .slice a1 l.length c1 ∧ σ 9 = .int .i64 (l.length : Int) ∧ σ 10 = .int .i64 (i : Int) ∧ St w0 (pts b4 (.cells #[.int .i64 0, .int .i64 0] 45 (0, 0)) * (R * F)) w) l.length ?_ ?_ -- L1
    · exact ⟨0, rfl, Nat.zero_le _, (fun y hy => by simp at hy), rfl, rfl, rfl, rfl, rfl, hs.out⟩
    rintro m σ w ⟨i, rfl, hi, hn, g1, g4, g8, g9, g10, hs⟩
    obtain ⟨σ, rfl⟩ := rebase g1
    obtain ⟨σ, rfl⟩ := rebase (σ := σ) g4
    obtain ⟨σ, rfl⟩ := rebase (σ := σ) g8
    obtain ⟨σ, rfl⟩ := rebase (σ := σ) g9
    obtain ⟨σ, rfl⟩ := rebase (σ := σ) g10
    clear g1 g4 g8 g9 g10
    refine WP_seq ?_
    -- R2
    refine WP_seqr [⟨0, 0, []⟩] (by kernel_rfl) ?_
    refine ns_cmp _ rfl rfl rfl rfl rfl ?_
    refine ns_done ?_
    refine WP_seq ?_ -- S2
    refine WP_if' rfl (fun hif1 => ?_) (fun hif1 => ?_)
    · refine WP_exit ?_
      have hi2 : i = l.length := by have := of_decide_eq_false hif1; omega
      subst hi2
      rw [List.take_length] at hn
      exact ⟨rfl, get_none.2 hn, hs⟩
    refine WP_skip ?_
    have hi2 : i < l.length := by have := of_decide_eq_true hif1; omega
    obtain ⟨x, hxi⟩ : ∃ x, l[i]? = some x := ⟨l[i]'hi2, List.getElem?_eq_getElem hi2⟩
    obtain ⟨g, q, rfl, hat⟩ := hrd (by omega)
    refine WP_seq ?_ -- S3
    refine WP_block ?_
    refine WP_seq ?_
    -- R3
    refine WP_seqr [⟨0, 0, []⟩, ⟨1, 1, []⟩, ⟨2, 2, []⟩, ⟨3, 2, []⟩] (by kernel_rfl) ?_
    refine ns_idx i sl_34 rfl rfl rfl rfl rfl hi2 ?_
    refine ns_ldA [.int .i64 x.key, .int .i64 x.val] ag_45 rfl rfl rfl rfl (by decide) (item_cells hat (hs.foc R) hxi) ?_
    refine ns_alloc zc_45 hs rfl rfl ?_
    intro b7 w hs
    refine ns_stA (#[.int .i64 x.key, .int .i64 x.val]) ag_45 rfl (by decide) hs rfl rfl rfl rfl (by intro u hu; simp at hu; rcases hu with rfl | rfl <;> rfl) (by simp) ?_
    refine fun w hs => ⟨trivial, ?_⟩
    refine ns_done ?_
    have hs : St w0 (pts b7 (.cells #[.int .i64 x.key, .int .i64 x.val] 45 (0, 0)) * _) w := hs
    refine WP_seq ?_
    -- R4
    refine WP_seqr [⟨0, 0, []⟩, ⟨1, 1, []⟩, ⟨2, 0, []⟩, ⟨3, 0, []⟩] (by kernel_rfl) ?_
    refine ns_fld fo_45_0 rfl rfl rfl ?_
    refine ns_ldB pl_2 hs rfl rfl rfl (by rfl) ?_
    refine ns_move rfl rfl ?_
    refine ns_cmp _ rfl rfl rfl rfl rfl ?_
    refine ns_done ?_
    refine WP_if rfl (fun hif2 => ?_) (fun hif2 => ?_)
    · refine WP_seq ?_
      -- R5
      refine WP_seqr [⟨0, 1, []⟩, ⟨1, 2, []⟩, ⟨2, 0, []⟩] (by kernel_rfl) ?_
      refine ns_ldAB [.int .i64 x.key, .int .i64 x.val] ag_45 hs rfl rfl rfl (by rfl) (by rfl) (by decide) ?_
      refine ns_stA (#[.int .i64 x.key, .int .i64 x.val]) ag_45 rfl (by decide) hs rfl rfl rfl rfl (by intro u hu; simp at hu; rcases hu with rfl | rfl <;> rfl) (by simp) ?_
      refine fun w hs => ⟨trivial, ?_⟩
      refine ns_asg rfl rfl ?_
      refine ns_done ?_
      refine WP_ret ?_
      have hk : x.key = k := by have : (x.key == k) = true := hif2; simpa using this
      have hg := find_at hxi hn hk
      have hload := run_loadVarA (P := Try.prog) (t := 45) (n := 2) (ad := ⟨b4, 0, none⟩) (vs := [.int .i64 x.key, .int .i64 x.val]) ag_45 rfl (by decide) w (St.cells (n := 2) hs (by rfl))
      refine ⟨_, resCT 4 45 5 rfl hload, ?_⟩
      rw [hg]
      exact St.mk_pu rfl hs.out
    refine WP_skip ?_
    have hk : x.key ≠ k := by have : (x.key == k) = false := hif2; simpa using this
    -- R6
    refine WP_seqr [⟨0, 0, []⟩, ⟨1, 0, []⟩] (by kernel_rfl) ?_
    refine ns_add rfl rfl rfl rfl (by omega) (by omega) ?_
    refine ns_move rfl rfl ?_
    refine ns_done ?_
    exact ⟨l.length - (i + 1), by omega, i + 1, rfl, by omega, (fun y hy => by
      rw [take_snoc hxi] at hy
      rcases List.mem_append.1 hy with hy | hy
      · exact hn y hy
      · rw [List.mem_singleton.1 hy]; exact hk), rfl, rfl, rfl, rfl, rfl, hs.out⟩
    
  rintro σ w ⟨g4, hg, hs⟩
  obtain ⟨σ, rfl⟩ := rebase g4
  clear g4
  refine WP_seq ?_
  -- R7
  refine WP_seqr [⟨0, 0, []⟩, ⟨1, 2, []⟩, ⟨2, 0, []⟩] (by kernel_rfl) ?_
  refine ns_build [] (#[.int .i64 0, .int .i64 0]) pp_45 zc_45 rfl rfl rfl rfl ?_
  refine ns_stA (#[.int .i64 0, .int .i64 0]) ag_45 rfl (by decide) hs rfl rfl rfl rfl (by intro u hu; simp at hu; rcases hu with rfl | rfl <;> rfl) (by simp) ?_
  refine fun w hs => ⟨trivial, ?_⟩
  refine ns_asg rfl rfl ?_
  refine ns_done ?_
  refine WP_ret ?_
  have hload := run_loadVarA (P := Try.prog) (t := 45) (n := 2) (ad := ⟨b4, 0, none⟩) (vs := [.int .i64 zero.key, .int .i64 zero.val]) ag_45 rfl (by decide) w (St.cells (n := 2) hs (by rfl))
  refine ⟨_, resCT 4 45 5 rfl hload, ?_⟩
  rw [hg]
  exact St.mk_pu rfl hs.out
set_option maxHeartbeats 3200000 in
theorem f11_ok (R : HProp) (v : Value) (os : List Sop) (d key : Int) (hR : RdO R v os) : Tri Try.prog 11 #[.int .i64 d, v, .int .i64 key] R fun r => pu (r = .bool true) * R := by
  obtain ⟨_, a1, c1, rfl, hc1, hrd⟩ := id hR
  intro w0 F w hs
  refine calls_WP 60 #[.tmp 6] Try.func11 rfl Try.ntmps11 rfl (Nat.le_of_ble_eq_true rfl) ?_
  refine WP_seq ?_
  -- R0
  refine WP_seqr [⟨0, 0, []⟩] (by kernel_rfl) ?_
  refine ns_asg rfl rfl ?_
  refine ns_done ?_
  refine WP_seq ?_ -- S1
  refine WP_seq ?_
  -- R1
  refine WP_seqr [⟨0, 0, []⟩, ⟨1, 0, []⟩, ⟨2, 0, []⟩] (by kernel_rfl) ?_
  refine ns_move rfl rfl ?_
  refine ns_len sl_24 rfl rfl rfl ?_
  refine ns_cmp _ rfl rfl rfl rfl rfl ?_
  refine ns_done ?_
  refine WP_if rfl (fun hif1 => ?_) (fun hif1 => ?_)
  · refine WP_seq ?_
    -- R2
    refine WP_seqr [⟨0, 0, []⟩] (by kernel_rfl) ?_
    refine ns_asg rfl rfl ?_
    refine ns_done ?_
    refine WP_ret ?_
    exact ⟨_, res1 _, St.mk_pu rfl hs.out⟩
  refine WP_skip ?_
  refine WP_seq ?_ -- S2
  refine WP_seq ?_
  -- R3
  refine WP_seqr [⟨0, 0, []⟩, ⟨1, 0, []⟩, ⟨2, 2, []⟩, ⟨3, 0, []⟩] (by kernel_rfl) ?_
  refine ns_move rfl rfl ?_
  refine ns_move rfl rfl ?_
  refine ns_call (f20_ok d a1 os.length c1) ck_20 (hs.foc 1) rfl rfl rfl rfl ?_
  intro v17 w hs
  replace hs := hs.pure
  obtain ⟨rfl, hs⟩ := hs
  refine ns_not rfl rfl rfl ?_
  refine ns_done ?_
  refine WP_if rfl (fun hif2 => ?_) (fun hif2 => ?_)
  · refine WP_seq ?_
    -- R4
    refine WP_seqr [⟨0, 0, []⟩] (by kernel_rfl) ?_
    refine ns_asg rfl rfl ?_
    refine ns_done ?_
    refine WP_ret ?_
    exact ⟨_, res1 _, St.mk_pu rfl hs.out⟩
  refine WP_skip ?_
  have hfit : 2 ≤ d ∧ d ≤ 1000 ∧ os.length ≤ 2000 := by simpa using hif2
  obtain ⟨hd, hd2, hn⟩ := hfit
  obtain ⟨D, rfl⟩ : ∃ D : Nat, d = D := ⟨d.toNat, by omega⟩
  have hlen := heldT_len os
  have hsrt := held_srt (onT os)
  refine WP_seq ?_
  -- R5
  refine WP_seqr [⟨0, 0, []⟩, ⟨1, 0, []⟩, ⟨2, 0, []⟩, ⟨3, 0, []⟩, ⟨4, 0, []⟩, ⟨5, 0, []⟩, ⟨6, 2, []⟩, ⟨7, 2, []⟩, ⟨8, 2, []⟩, ⟨9, 0, []⟩, ⟨10, 0, []⟩, ⟨11, 0, []⟩, ⟨12, 0, []⟩, ⟨13, 0, []⟩] (by kernel_rfl) ?_
  refine ns_move rfl rfl ?_
  refine ns_move rfl rfl ?_
  refine ns_move rfl rfl ?_
  refine ns_build [(0, .int .i64 2), (2, .int .i64 key)] (opC (kkL 2 key 0)) pp_26 zc_26 rfl rfl rfl rfl ?_
  refine ns_move rfl rfl ?_
  refine ns_build [(0, .int .i64 1), (2, .int .i64 key), (4, .int .i64 7)] (opC (kkL 1 key 7)) pp_26 zc_26 rfl rfl rfl rfl ?_
  refine ns_call (f21_ok 9 0 0) ck_21 (hs.foc 1) rfl rfl rfl rfl ?_
  intro v26 w hs
  replace hs := hs.pure
  obtain ⟨rfl, hs⟩ := hs
  refine ns_lit [opV (kkL 2 key 0), opV (kkL 1 key 7), opV (allL 9 0 0)] (encO [kkL 2 key 0, kkL 1 key 7, allL 9 0 0]) sl_24 zr_26 (by decide) (by decide) hs rfl rfl rfl rfl (by simp [Value.cells, opV, opC]) rfl ?_
  refine fun b27 w hs hx => ⟨trivial, ?_⟩
  have hmore : RdO (R * pts b27 (.cells (encO [kkL 2 key 0, kkL 1 key 7, allL 9 0 0]).toArray 26 (0, 0))) (.slice (some ⟨b27, 0, none⟩) 3 3) [kkL 2 key 0, kkL 1 key 7, allL 9 0 0] := (lit_rdO b27 [kkL 2 key 0, kkL 1 key 7, allL 9 0 0] (0, 0)).up
  refine ns_call (f22_ok (R * pts b27 (.cells (encO [kkL 2 key 0, kkL 1 key 7, allL 9 0 0]).toArray 26 (0, 0))) (.slice a1 os.length c1) _ os [kkL 2 key 0, kkL 1 key 7, allL 9 0 0] D hR.up hmore (by simp) (by omega) (by omega) (by omega) (by simp) (by simp [allL, kkL])) ck_22 (hs.foc (R * pts b27 (.cells (encO [kkL 2 key 0, kkL 1 key 7, allL 9 0 0]).toArray 26 (0, 0)))) rfl rfl rfl rfl ?_
  intro v28 w hs
  replace hs := hs.ex
  obtain ⟨⟨s, R2⟩, hs⟩ := hs
  replace hs := hs.pu
  obtain ⟨⟨rfl, hra⟩, hs⟩ := hs
  simp only [mul_assoc'] at hs
  generalize afterL [] (onT os) = l at hra hlen hsrt
  rw [run_found l key (by omega)] at hra
  obtain ⟨a4, c4, rfl, hc4⟩ := id hra.form
  obtain ⟨g2, o2, _, s2, e, hi2, hc2⟩ := hra.get (i := 2) rfl
  cases e
  have hi2 : RdI R2 s2 l := hi2
  obtain ⟨g0, o0, _, s0, e, hi0, hc0⟩ := hra.get (i := 0) rfl
  cases e
  refine ns_move rfl rfl ?_
  refine ns_ext rfl rfl rfl rfl ?_
  refine ns_ext rfl rfl rfl rfl ?_
  refine ns_asg rfl rfl ?_
  refine ns_asg rfl rfl ?_
  refine ns_done ?_
  refine WP_seq ?_ -- S3
  refine WP_seq ?_
  -- R6
  refine WP_seqr [⟨0, 0, []⟩, ⟨1, 0, []⟩] (by kernel_rfl) ?_
  refine ns_move rfl rfl ?_
  refine ns_not rfl rfl rfl ?_
  refine ns_done ?_
  refine WP_false rfl ?_ -- if3
  refine WP_skip ?_
  refine WP_seq ?_
  -- R8
  refine WP_seqr [⟨0, 0, []⟩, ⟨1, 0, []⟩, ⟨2, 0, []⟩, ⟨3, 1, []⟩, ⟨4, 0, []⟩, ⟨5, 2, []⟩, ⟨6, 0, []⟩, ⟨7, 0, []⟩, ⟨8, 0, []⟩, ⟨9, 2, []⟩, ⟨10, 2, []⟩, ⟨11, 0, []⟩] (by kernel_rfl) ?_
  refine ns_move rfl rfl ?_
  refine ns_idx 2 sl_28 rfl rfl rfl rfl rfl (by simp) ?_
  refine ns_fld fo_36_2 rfl rfl rfl ?_
  refine ns_ld pl_34 rfl rfl rfl ((hc2 _ _ _ (hs.foc R2)).at 2 rfl) ?_
  refine ns_move rfl rfl ?_
  refine ns_call (f31_ok R2 s2 l key hi2 (by omega)) ck_31 (hs.foc R2) rfl rfl rfl rfl ?_
  intro v39 w hs
  replace hs := hs.pu
  obtain ⟨rfl, hs⟩ := hs
  try simp only [mul_assoc'] at hs
  refine ns_move rfl rfl ?_
  refine ns_ext rfl rfl rfl rfl ?_
  refine ns_ext rfl rfl rfl rfl ?_
  refine ns_alloc zc_45 hs rfl rfl ?_
  intro b9 w hs
  refine ns_stA (#[.int .i64 ((get l key).getD zero).key, .int .i64 ((get l key).getD zero).val]) ag_45 rfl (by decide) hs rfl rfl rfl rfl (by intro u hu; simp at hu; rcases hu with rfl | rfl <;> rfl) (by simp) ?_
  refine fun w hs => ⟨trivial, ?_⟩
  refine ns_asg rfl rfl ?_
  refine ns_done ?_
  refine WP_seq ?_
  -- R9
  refine WP_seqr [⟨0, 0, []⟩, ⟨1, 2, []⟩, ⟨2, 2, []⟩] (by kernel_rfl) ?_
  refine ns_build [] (#[.bool false, .int .i64 0, .slice none 0 0]) pp_36 zc_36 rfl rfl rfl rfl ?_
  refine ns_alloc zc_36 hs rfl rfl ?_
  intro b11 w hs
  refine ns_stA (#[.bool false, .int .i64 0, .slice none 0 0]) ag_36 rfl (by decide) hs rfl rfl rfl rfl (by intro u hu; simp at hu; rcases hu with rfl | rfl | rfl <;> rfl) (by simp) ?_
  refine fun w hs => ⟨trivial, ?_⟩
  refine ns_done ?_
  have hs : St w0 (pts b11 (.cells #[.bool false, .int .i64 0, .slice none 0 0] 36 (0, 0)) * (pts b9 (.cells #[.int .i64 ((get l key).getD zero).key, .int .i64 ((get l key).getD zero).val] 45 (0, 0)) * _)) w := hs
  refine WP_seq_cut (fun σ w => ∃ (s11 : Value) (R3 : HProp), RdI R3 s11 (get l key).toList ∧ σ 7 = .slice (some ⟨g2, o2, none⟩) 3 c4 ∧ σ 10 = .bool (get l key).isSome ∧ σ 11 = .pointer (some ⟨b11, 0, none⟩) ∧ St w0 (pts b11 (.cells #[.bool (get l key).isSome, .int .i64 0, s11] 36 (0, 0)) * (R3 * (R * (R2 * F)))) w) ?_ ?_ -- S4
  · refine WP_seq ?_
    -- R10
    refine WP_seqr [⟨0, 0, []⟩] (by kernel_rfl) ?_
    refine ns_move rfl rfl ?_
    refine ns_done ?_
    refine WP_if rfl (fun hif4 => ?_) (fun hif4 => ?_)
    · -- R11
      refine WP_seqr [⟨0, 1, []⟩, ⟨1, 2, []⟩, ⟨2, 0, []⟩, ⟨3, 2, []⟩] (by kernel_rfl) ?_
      refine ns_ldAB [.int .i64 ((get l key).getD zero).key, .int .i64 ((get l key).getD zero).val] ag_45 hs rfl rfl rfl (by rfl) (by rfl) (by decide) ?_
      refine ns_lit [itV ((get l key).getD zero)] (encs [((get l key).getD zero)]) sl_34 zr_45 (by decide) (by decide) hs rfl rfl rfl rfl (by simp [Value.cells, itV]) rfl ?_
      refine fun b45 w hs hx => ⟨trivial, ?_⟩
      refine ns_build [(0, .bool true), (2, .slice (some ⟨b45, 0, none⟩) 1 1)] (#[.bool true, .int .i64 0, .slice (some ⟨b45, 0, none⟩) 1 1]) pp_36 zc_36 rfl rfl rfl rfl ?_
      refine ns_stA (#[.bool true, .int .i64 0, .slice (some ⟨b45, 0, none⟩) 1 1]) ag_36 rfl (by decide) hs rfl rfl rfl rfl (by intro u hu; simp at hu; rcases hu with rfl | rfl | rfl <;> rfl) (by simp) ?_
      refine fun w hs => ⟨trivial, ?_⟩
      refine ns_done ?_
      have hsm : (get l key).isSome = true := hif4
      obtain ⟨x, hx⟩ := Option.isSome_iff_exists.1 hsm
      have hr : RdI (pts b45 (.cells (encs [((get l key).getD zero)]).toArray 45 (0, 0))) (.slice (some ⟨b45, 0, none⟩) 1 1) (get l key).toList := by
        rw [hx]; exact lit_rdI b45 [x] (0, 0)
      refine ⟨_, _, hr, rfl, rfl, rfl, ?_⟩
      rw [hsm]
      have hs : St w0 (_ * (pts b11 (.cells #[.bool true, .int .i64 0, .slice (some ⟨b45, 0, none⟩) 1 1] 36 (0, 0)) * _)) w := hs
      exact hs.out
    refine WP_skip ?_
    have hsm : (get l key).isSome = false := hif4
    have hx : get l key = none := by simpa using hsm
    refine ⟨.slice none 0 0, 1, by rw [hx]; exact nil_rdI 1, rfl, rfl, rfl, ?_⟩
    rw [hsm, one_mul']
    exact hs.out
  rintro σ w ⟨s11, R3, hr3, g7, g10, g11, hs⟩
  obtain ⟨σ, rfl⟩ := rebase g7
  obtain ⟨σ, rfl⟩ := rebase (σ := σ) g10
  obtain ⟨σ, rfl⟩ := rebase (σ := σ) g11
  clear g7 g10 g11
  refine WP_seq ?_
  -- R12
  refine WP_net hs mix [0, 1, 3, 7, 0, 31, 63, 127, 255, 127, 639, 2047, 4095, 8191] [⟨0, 0, []⟩, ⟨1, 0, []⟩, ⟨2, 0, []⟩, ⟨3, 1, []⟩, ⟨4, 0, []⟩, ⟨5, 0, []⟩, ⟨6, 0, []⟩, ⟨7, 0, []⟩, ⟨8, 0, []⟩, ⟨9, 1, []⟩, ⟨10, 2, []⟩, ⟨11, 2, []⟩, ⟨12, 0, []⟩, ⟨13, 0, []⟩] (by kernel_rfl) ?_
  intro w hs
  refine ns_move rfl rfl ?_
  refine ns_idx 0 sl_28 rfl rfl rfl rfl rfl (by decide) ?_
  refine ns_fld fo_36_0 rfl rfl rfl ?_
  refine ns_ld pl_4 rfl rfl rfl ((hc0 _ _ _ (hs.foc R2)).at 0 rfl) ?_
  refine ns_move rfl rfl ?_
  refine ns_beq2 true bl_4 rfl rfl rfl rfl (by simp) ?_
  refine ns_move rfl rfl ?_
  refine ns_move rfl rfl ?_
  refine ns_sliceLH 1 2 sl_28 rfl rfl rfl rfl rfl rfl rfl (by decide) (by simp at hc4; omega) ?_
  refine ns_ldAB [.bool (get l key).isSome, .int .i64 0, s11] ag_36 hs rfl rfl rfl (by rfl) (by rfl) (by decide) ?_
  refine ns_lit [.agg #[.bool (get l key).isSome, .int .i64 0, s11]] (encA [oneA (get l key)] [s11]) sl_28 zr_36 (by decide) (by decide) hs rfl rfl rfl rfl (by simp [Value.cells]) rfl ?_
  refine fun b57 w hs hx => ⟨trivial, ?_⟩
  have hq1 : RdA R2 _ [oneA (get l key)] := RdA.part rfl hra 1 2 (by decide) (by simp)
  have hq2 := lit_rdA b57 [oneA (get l key)] [s11] R3 (0, 0) rfl (rd_one hr3)
  refine ns_call (f25_ok (R2 * (R3 * pts b57 (.cells (encA [oneA (get l key)] [s11]).toArray 36 (0, 0)))) _ _ [oneA (get l key)] (RdA.up hq1) (RdA.up hq2) (by simp) (by
    intro x hx
    rw [List.mem_singleton.1 hx]
    show (get l key).toList.length < 1000000
    cases get l key <;> simp)) ck_25 (hs.foc (R2 * (R3 * pts b57 (.cells (encA [oneA (get l key)] [s11]).toArray 36 (0, 0))))) rfl rfl rfl rfl ?_
  intro v58 w hs
  replace hs := hs.pu
  obtain ⟨rfl, hs⟩ := hs
  try simp only [mul_assoc'] at hs
  refine ns_pick rfl rfl rfl ?_
  refine ns_asg rfl rfl ?_
  refine ns_done ?_
  refine WP_ret ?_
  exact ⟨_, res1 _, St.mk_pu rfl hs.out⟩
end Go.Proofs.Ytnnembkganlbpaa
