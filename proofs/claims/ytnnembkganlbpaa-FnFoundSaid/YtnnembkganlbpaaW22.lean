/- The walks of the script's runner with eight new trees, and of the laws' first helpers. -/
import Derived.Test.YtnnembkganlbpaaRe
namespace Go.Proofs.Ytnnembkganlbpaa
open Go Go.Sl Go.Net Go.Wk Go.Bt Go.RowKit

theorem pp_26 : placesOf Try.prog 26 = some [(0, 1), (1, 1), (2, 1), (3, 1), (4, 1), (5, 1)] := by kernel_rfl
/-- k trees are made; the first is held -/
def T8 (d k : Nat) (cs : Array Value) : HProp := ex fun p : Nat × Nat × Nat => pu (0 < k → cs[0]? = some (ptr p.1)) * (if k = 0 then 1 else BT p.2.1 d p.1 [] * Ctx p.2.1 p.2.2)
theorem t8_zero (d : Nat) (cs : Array Value) : Ent 1 (T8 d 0 cs) := fun x hx => ⟨(0, 0, 0), by
  show (pu _ * (1 : HProp)) x
  rw [pu_true (fun h => absurd h (Nat.lt_irrefl 0))]; exact hx⟩
theorem t8_one (d b c fl k : Nat) (cs : Array Value) (hk : 0 < k) (h : cs[0]? = some (ptr b)) : Ent (BT c d b [] * Ctx c fl) (T8 d k cs) := fun x hx => ⟨(b, c, fl), by
  show (pu _ * (if k = 0 then 1 else BT c d b [] * Ctx c fl)) x
  rw [pu_true (fun _ => h), if_neg (by omega)]; exact hx⟩
theorem t8_up (d k : Nat) (cs cs2 : Array Value) (hk : 0 < k) (h : cs2[0]? = cs[0]?) : Ent (T8 d k cs) (T8 d (k + 1) cs2) := fun x hx => by
  obtain ⟨p, hp⟩ := hx
  refine ⟨p, ?_⟩
  show (pu _ * (if k + 1 = 0 then 1 else _)) x
  rw [if_neg (by omega)] at hp ⊢
  rw [pu_mul] at hp ⊢
  exact ⟨fun _ => by rw [h]; exact hp.1 hk, hp.2⟩
theorem St.t8 {w0 w : World} {d k : Nat} {cs : Array Value} {F : HProp} (hk : 0 < k) (hs : St w0 (T8 d k cs * F) w) : ∃ b c fl, cs[0]? = some (ptr b) ∧ St w0 (BT c d b [] * (Ctx c fl * F)) w := by
  obtain ⟨⟨b, c, fl⟩, hs⟩ := hs.ex
  obtain ⟨h, hs⟩ := hs.pu
  rw [if_neg (by omega), mul_assoc'] at hs
  exact ⟨b, c, fl, h hk, hs⟩
theorem set_ne0 {cs : Array Value} {k : Nat} {v : Value} (hk : 0 < k) : (cs.setIfInBounds k v)[0]? = cs[0]? := by
  rw [Array.getElem?_setIfInBounds]; rw [if_neg (by omega)]
set_option maxHeartbeats 1600000 in
theorem f29_ok (R : HProp) (v : Value) (os : List Sop) (d : Nat) (hR : RdO R v os) (hd : 2 ≤ d) (hd2 : d ≤ 1000) (hll : os.length < 90000) (h0 : ∀ o ∈ os, o.tree = 0 ∧ o.kind ≠ 17) :
    Tri Try.prog 29 #[.int .i64 d, v] R fun r => R * AArr r (runL [] os) := by
  intro w0 F w hs
  refine calls_WP 18 #[.tmp 4] Try.func29 rfl Try.ntmps29 rfl (Nat.le_of_ble_eq_true rfl) ?_
  refine WP_seq ?_
  -- R0
  refine WP_seqr [⟨0, 0, []⟩] (by kernel_rfl) ?_
  refine ns_asg rfl rfl ?_
  refine ns_done ?_
  refine WP_seq ?_
  -- R1
  refine WP_seqr [⟨0, 0, []⟩, ⟨1, 2, []⟩, ⟨2, 2, []⟩] (by kernel_rfl) ?_
  refine ns_buildA ar_60 zc_60 rfl rfl ?_
  refine ns_alloc zc_60 hs rfl rfl ?_
  intro b5 w hs
  refine ns_stA (#[.pointer none, .pointer none, .pointer none, .pointer none, .pointer none, .pointer none, .pointer none, .pointer none]) ag_60 rfl (by decide) hs rfl rfl rfl rfl (by intro u hu; simp at hu; subst hu; rfl) (by simp) ?_
  refine fun w hs => ⟨trivial, ?_⟩
  refine ns_done ?_
  have hs : St w0 (pts b5 (.cells #[.pointer none, .pointer none, .pointer none, .pointer none, .pointer none, .pointer none, .pointer none, .pointer none] 60 (0, 0)) * _) w := hs
  refine WP_seq_cut (fun σ w => ∃ (cs : Array Value), σ 1 = v ∧ σ 5 = .pointer (some ⟨b5, 0, none⟩) ∧ St w0 (T8 d 8 cs * (pts b5 (.cells cs 60 (0, 0)) * (R * F))) w) ?_ ?_ -- S1
  · refine WP_seq ?_
    -- R2
    refine WP_seqr [⟨0, 0, []⟩] (by kernel_rfl) ?_
    refine ns_move rfl rfl ?_
    refine ns_done ?_
    refine WP_block ?_
    refine WP_loop (fun m σ w => ∃ (k : Nat) (cs : Array Value), m = 8 - k ∧ k ≤ 8 ∧ cs.size = 8 ∧ σ 0 = .int .i64 d ∧ σ 1 = v ∧ σ 5 = .pointer (some ⟨b5, 0, none⟩) ∧ σ 8 = .int .i64 (k : Int) ∧ St w0 (T8 d k cs * (pts b5 (.cells cs 60 (0, 0)) * (R * F))) w) 8 ?_ ?_ -- L1
    · refine ⟨0, #[.pointer none, .pointer none, .pointer none, .pointer none, .pointer none, .pointer none, .pointer none, .pointer none], rfl, by omega, rfl, rfl, rfl, rfl, rfl, ?_⟩
      exact ((hs.foc 1).up (t8_zero d #[.pointer none, .pointer none, .pointer none, .pointer none, .pointer none, .pointer none, .pointer none, .pointer none])).out
    rintro m σ w ⟨k, cs, rfl, hk, hsz, g0, g1, g5, g8, hs⟩
    obtain ⟨σ, rfl⟩ := rebase g0
    obtain ⟨σ, rfl⟩ := rebase (σ := σ) g1
    obtain ⟨σ, rfl⟩ := rebase (σ := σ) g5
    obtain ⟨σ, rfl⟩ := rebase (σ := σ) g8
    clear g0 g1 g5 g8
    refine WP_seq ?_
    -- R3
    refine WP_seqr [⟨0, 0, []⟩] (by kernel_rfl) ?_
    refine ns_cmp _ rfl rfl rfl rfl rfl ?_
    refine ns_done ?_
    refine WP_seq ?_ -- S2
    refine WP_if' rfl (fun hif1 => ?_) (fun hif1 => ?_)
    · refine WP_exit ?_
      have hk2 : k = 8 := by have := of_decide_eq_false hif1; omega
      subst hk2
      exact ⟨cs, rfl, rfl, hs⟩
    refine WP_skip ?_
    have hk2 : k < 8 := by have := of_decide_eq_true hif1; omega
    refine WP_seq ?_ -- S3
    refine WP_block ?_
    refine WP_seq ?_
    -- R4
    refine WP_seqr [⟨0, 0, []⟩, ⟨1, 0, []⟩] (by kernel_rfl) ?_
    refine ns_move rfl rfl ?_
    refine ns_asg rfl rfl ?_
    refine ns_done ?_
    -- R5
    refine WP_seqr [⟨0, 0, []⟩, ⟨1, 0, []⟩, ⟨2, 2, []⟩, ⟨3, 0, []⟩, ⟨4, 2, []⟩] (by kernel_rfl) ?_
    refine ns_move rfl rfl ?_
    refine ns_move rfl rfl ?_
    refine ns_call (f39_ok d hd) ck_39 (hs.foc 1) rfl rfl rfl rfl ?_
    intro v13 w hs
    replace hs := hs.ex
    obtain ⟨⟨b, c, fl⟩, hs⟩ := hs
    replace hs := hs.pu
    obtain ⟨rfl, hs⟩ := hs
    simp only [mul_assoc'] at hs
    refine ns_idxA k ar_60 rfl rfl rfl rfl rfl hk2 ?_
    refine ns_st (ptr b) pl_59 hs rfl rfl rfl rfl rfl (by rw [hsz]; omega) ?_
    refine fun w hs => ⟨trivial, ?_⟩
    simp only [Nat.zero_add, Nat.mul_one] at hs
    refine ns_done ?_
    -- R6
    refine WP_seqr [⟨0, 0, []⟩, ⟨1, 0, []⟩] (by kernel_rfl) ?_
    refine ns_add rfl rfl rfl rfl (by omega) (by omega) ?_
    refine ns_move rfl rfl ?_
    refine ns_done ?_
    refine ⟨8 - (k + 1), by omega, k + 1, cs.setIfInBounds k (ptr b), rfl, by omega, by simp [hsz], rfl, rfl, rfl, rfl, ?_⟩
    rcases Nat.eq_zero_or_pos k with e | e
    · subst e
      exact (hs.fold (t8_one d b c fl 1 (cs.setIfInBounds 0 (ptr b)) (by omega) (by simp [hsz]))).out
    · exact (hs.fold (t8_up d k cs (cs.setIfInBounds k (ptr b)) e (set_ne0 e))).out
    
  rintro σ w ⟨cs, g1, g5, hs⟩
  obtain ⟨σ, rfl⟩ := rebase g1
  obtain ⟨σ, rfl⟩ := rebase (σ := σ) g5
  clear g1 g5
  replace hs := St.t8 (by omega) hs
  obtain ⟨b, c, fl, hcs, hs⟩ := hs
  refine WP_seq ?_
  -- R7
  refine WP_seqr [⟨0, 0, []⟩, ⟨1, 2, []⟩, ⟨2, 0, []⟩] (by kernel_rfl) ?_
  refine ns_move rfl rfl ?_
  refine ns_call (f41_ok c fl d b5 b R v os [] cs hcs hR hd hd2 (by simp only [List.length_nil]; omega) h0) ck_41 (hs.foc (R * (pts b5 (.cells cs 60 (0, 0)) * (BT c d b [] * Ctx c fl)))) rfl rfl rfl rfl ?_
  intro v17 w hs
  simp only [mul_assoc'] at hs
  refine ns_asg rfl rfl ?_
  refine ns_done ?_
  refine WP_ret ?_
  refine ⟨_, res1 _, ?_⟩
  show St w0 ((R * AArr v17 (runL [] os)) * F) w
  exact hs.out
theorem f20_ok (d : Int) (a : Option Addr) (n c : Nat) : Tri Try.prog 20 #[.int .i64 d, .slice a n c] 1 fun r => pu (r = .bool (decide (2 ≤ d ∧ d ≤ 1000 ∧ n ≤ 2000))) := by
  intro w0 F w hs
  rw [one_mul'] at hs
  refine calls_WP 16 #[.tmp 4] Try.func20 rfl Try.ntmps20 rfl (Nat.le_of_ble_eq_true rfl) ?_
  refine WP_seq ?_
  -- R0
  refine WP_seqr [⟨0, 0, []⟩] (by kernel_rfl) ?_
  refine ns_asg rfl rfl ?_
  refine ns_done ?_
  refine WP_seq_cut (fun σ w => σ 4 = .bool (decide (2 ≤ d ∧ d ≤ 1000 ∧ n ≤ 2000)) ∧ St w0 F w) ?_ ?_ -- R1.cut
  · rcases (show d < 2 ∨ (2 ≤ d ∧ 1000 < d) ∨ (2 ≤ d ∧ d ≤ 1000) from by omega) with h1 | ⟨h1, h2⟩ | ⟨h1, h2⟩
    · -- R1
      refine WP_seqr [⟨0, 0, []⟩, ⟨1, 0, []⟩, ⟨2, 0, []⟩, ⟨3, 0, []⟩, ⟨4, 0, []⟩, ⟨5, 0, []⟩, ⟨6, 0, []⟩, ⟨7, 0, []⟩, ⟨8, 0, []⟩, ⟨9, 0, []⟩, ⟨10, 0, []⟩, ⟨11, 0, []⟩] (by kernel_rfl) ?_
      refine ns_move rfl rfl ?_
      refine ns_cmp false rfl rfl rfl rfl (by simp [cmpI]; omega) ?_
      refine ns_move rfl rfl ?_
      refine ns_no rfl rfl ?_
      refine ns_no rfl rfl ?_
      refine ns_pick rfl rfl rfl ?_
      refine ns_move rfl rfl ?_
      refine ns_no rfl rfl ?_
      refine ns_no rfl rfl ?_
      refine ns_no rfl rfl ?_
      refine ns_pick rfl rfl rfl ?_
      refine ns_asg rfl rfl ?_
      refine ns_done ?_
      exact ⟨congrArg Value.bool (decide_eq_false (by omega)).symm, hs⟩
    · -- R1
      refine WP_seqr [⟨0, 0, []⟩, ⟨1, 0, []⟩, ⟨2, 0, []⟩, ⟨3, 0, []⟩, ⟨4, 0, []⟩, ⟨5, 0, []⟩, ⟨6, 0, []⟩, ⟨7, 0, []⟩, ⟨8, 0, []⟩, ⟨9, 0, []⟩, ⟨10, 0, []⟩, ⟨11, 0, []⟩] (by kernel_rfl) ?_
      refine ns_move rfl rfl ?_
      refine ns_cmp true rfl rfl rfl rfl (by simp [cmpI]; omega) ?_
      refine ns_move rfl rfl ?_
      refine ns_move rfl rfl ?_
      refine ns_cmp false rfl rfl rfl rfl (by simp [cmpI]; omega) ?_
      refine ns_pick rfl rfl rfl ?_
      refine ns_move rfl rfl ?_
      refine ns_no rfl rfl ?_
      refine ns_no rfl rfl ?_
      refine ns_no rfl rfl ?_
      refine ns_pick rfl rfl rfl ?_
      refine ns_asg rfl rfl ?_
      refine ns_done ?_
      exact ⟨congrArg Value.bool (decide_eq_false (by omega)).symm, hs⟩
    · -- R1
      refine WP_seqr [⟨0, 0, []⟩, ⟨1, 0, []⟩, ⟨2, 0, []⟩, ⟨3, 0, []⟩, ⟨4, 0, []⟩, ⟨5, 0, []⟩, ⟨6, 0, []⟩, ⟨7, 0, []⟩, ⟨8, 0, []⟩, ⟨9, 0, []⟩, ⟨10, 0, []⟩, ⟨11, 0, []⟩] (by kernel_rfl) ?_
      refine ns_move rfl rfl ?_
      refine ns_cmp true rfl rfl rfl rfl (by simp [cmpI]; omega) ?_
      refine ns_move rfl rfl ?_
      refine ns_move rfl rfl ?_
      refine ns_cmp true rfl rfl rfl rfl (by simp [cmpI]; omega) ?_
      refine ns_pick rfl rfl rfl ?_
      refine ns_move rfl rfl ?_
      refine ns_move rfl rfl ?_
      refine ns_len sl_24 rfl rfl rfl ?_
      refine ns_cmp _ rfl rfl rfl rfl rfl ?_
      refine ns_pick rfl rfl rfl ?_
      refine ns_asg rfl rfl ?_
      refine ns_done ?_
      exact ⟨congrArg Value.bool (decide_eq_decide.2 (by omega)), hs⟩
  rintro σ w ⟨g4, hs⟩
  obtain ⟨σ, rfl⟩ := rebase g4
  refine WP_ret ?_
  exact ⟨_, res1 _, St.mk_pure rfl hs⟩
theorem f21_ok (k key to : Int) : Tri Try.prog 21 #[.int .i64 k, .int .i64 key, .int .i64 to] 1 fun r => pu (r = opV (allL k key to)) := by
  intro w0 F w hs
  rw [one_mul'] at hs
  refine calls_WP 11 #[.cell 6 26] Try.func21 rfl Try.ntmps21 rfl (Nat.le_of_ble_eq_true rfl) ?_
  refine WP_seq ?_
  -- R0
  refine WP_seqr [⟨0, 2, []⟩] (by kernel_rfl) ?_
  refine ns_alloc zc_26 hs rfl rfl ?_
  intro b6 w hs
  refine ns_done ?_
  refine WP_seq ?_
  -- R1
  refine WP_seqr [⟨0, 0, []⟩, ⟨1, 0, []⟩, ⟨2, 0, []⟩, ⟨3, 0, []⟩, ⟨4, 2, []⟩] (by kernel_rfl) ?_
  refine ns_move rfl rfl ?_
  refine ns_move rfl rfl ?_
  refine ns_move rfl rfl ?_
  refine ns_build [(0, .int .i64 k), (2, .int .i64 key), (3, .int .i64 to), (5, .int .i64 4000)] (#[.int .i64 k, .int .i64 0, .int .i64 key, .int .i64 to, .int .i64 0, .int .i64 4000]) pp_26 zc_26 rfl rfl rfl rfl ?_
  refine ns_stA (#[.int .i64 k, .int .i64 0, .int .i64 key, .int .i64 to, .int .i64 0, .int .i64 4000]) ag_26 rfl (by decide) hs rfl rfl rfl rfl (by intro u hu; simp at hu; rcases hu with rfl | rfl | rfl | rfl | rfl | rfl <;> rfl) (by simp) ?_
  refine fun w hs => ⟨trivial, ?_⟩
  refine ns_done ?_
  refine WP_ret ?_
  have hload := run_loadVarA (P := Try.prog) (t := 26) (n := 6) (ad := ⟨b6, 0, none⟩) (vs := [.int .i64 k, .int .i64 0, .int .i64 key, .int .i64 to, .int .i64 0, .int .i64 4000]) ag_26 rfl (by decide) w (St.cells (n := 6) hs (by rfl))
  exact ⟨_, resC 6 26 rfl hload, St.mk_pure rfl hs.drop⟩
set_option maxHeartbeats 1600000 in
theorem f28_ok (R : HProp) (v : Value) (os : List Sop) (hR : RdO R v os) (hll : os.length < 90000) : Tri Try.prog 28 #[v] R fun r => R * OArr r (onT os) := by
  obtain ⟨hxl, a1, c1, rfl, hc1, hrd⟩ := hR
  intro w0 F w hs
  refine calls_WP 23 #[.tmp 2] Try.func28 rfl Try.ntmps28 rfl (Nat.le_of_ble_eq_true rfl) ?_
  refine WP_seq ?_
  -- R0
  refine WP_seqr [⟨0, 0, []⟩] (by kernel_rfl) ?_
  refine ns_asg rfl rfl ?_
  refine ns_done ?_
  refine WP_seq ?_
  -- R1
  refine WP_seqr [⟨0, 2, []⟩, ⟨1, 0, []⟩] (by kernel_rfl) ?_
  refine ns_lit0 sl_24 hs rfl rfl ?_
  refine fun b6 w hs hx => ⟨trivial, ?_⟩
  refine ns_asg rfl rfl ?_
  refine ns_done ?_
  refine WP_seq_cut (fun σ w => ∃ (out : Value), σ 3 = out ∧ St w0 (R * (OArr out (onT os) * F)) w) ?_ ?_ -- S1
  · refine WP_seq ?_
    -- R2
    refine WP_seqr [⟨0, 0, []⟩, ⟨1, 0, []⟩, ⟨2, 0, []⟩] (by kernel_rfl) ?_
    refine ns_move rfl rfl ?_
    refine ns_len sl_24 rfl rfl rfl ?_
    refine ns_move rfl rfl ?_
    refine ns_done ?_
    refine WP_block ?_
    refine WP_loop (fun m σ w => ∃ (i : Nat) (out : Value), m = os.length - i ∧ i ≤ os.length ∧ σ 3 = out ∧ σ 7 = .slice a1 os.length c1 ∧ σ 8 = .int .i64 (os.length : Int) ∧ σ 9 = .int .i64 (i : Int) ∧ St w0 (R * (OArr out (onT (os.take i)) * F)) w) os.length ?_ ?_ -- L1
    · refine ⟨0, .slice (some ⟨b6, 0, none⟩) 0 0, rfl, Nat.zero_le _, rfl, rfl, rfl, rfl, ?_⟩
      show St w0 (R * (Arr 26 6 _ 0 [] * F)) w
      exact hs.out
    rintro m σ w ⟨i, out, rfl, hi, g3, g7, g8, g9, hs⟩
    obtain ⟨σ, rfl⟩ := rebase g3
    obtain ⟨σ, rfl⟩ := rebase (σ := σ) g7
    obtain ⟨σ, rfl⟩ := rebase (σ := σ) g8
    obtain ⟨σ, rfl⟩ := rebase (σ := σ) g9
    clear g3 g7 g8 g9
    refine WP_seq ?_
    -- R3
    refine WP_seqr [⟨0, 0, []⟩] (by kernel_rfl) ?_
    refine ns_cmp _ rfl rfl rfl rfl rfl ?_
    refine ns_done ?_
    refine WP_seq ?_ -- S2
    refine WP_if' rfl (fun hif1 => ?_) (fun hif1 => ?_)
    · refine WP_exit ?_
      have hi2 : i = os.length := by have := of_decide_eq_false hif1; omega
      subst hi2
      refine ⟨out, rfl, ?_⟩
      rw [List.take_length] at hs
      exact hs
    refine WP_skip ?_
    have hi2 : i < os.length := by have := of_decide_eq_true hif1; omega
    obtain ⟨x, hxi⟩ : ∃ x, os[i]? = some x := ⟨os[i]'hi2, List.getElem?_eq_getElem hi2⟩
    obtain ⟨g, o, rfl, hat⟩ := hrd (by omega)
    have hal := onT_len (os.take i)
    rw [List.length_take] at hal
    have e2 : onT (os.take (i + 1)) = onT (os.take i) ++ onT [x] := by rw [take_snoc hxi, onT_append]
    refine WP_seq_cut (fun σ w => ∃ (out : Value), σ 3 = out ∧ σ 7 = .slice (some ⟨g, o, none⟩) os.length c1 ∧ σ 8 = .int .i64 (os.length : Int) ∧ σ 9 = .int .i64 (i : Int) ∧ St w0 (R * (OArr out (onT (os.take (i + 1))) * F)) w) ?_ ?_ -- S3
    · refine WP_block ?_
      refine WP_seq ?_
      -- R4
      refine WP_seqr [⟨0, 0, []⟩, ⟨1, 1, []⟩, ⟨2, 2, []⟩, ⟨3, 2, []⟩] (by kernel_rfl) ?_
      refine ns_idx i sl_24 rfl rfl rfl rfl rfl hi2 ?_
      refine ns_ldA [.int .i64 x.kind, .int .i64 x.tree, .int .i64 x.key, .int .i64 x.to, .int .i64 x.val, .int .i64 x.cnt] ag_26 rfl rfl rfl rfl (by decide) (op_cells hat (hs.foc R) hxi) ?_
      refine ns_alloc zc_26 hs rfl rfl ?_
      intro b5 w hs
      refine ns_stA (#[.int .i64 x.kind, .int .i64 x.tree, .int .i64 x.key, .int .i64 x.to, .int .i64 x.val, .int .i64 x.cnt]) ag_26 rfl (by decide) hs rfl rfl rfl rfl (by intro u hu; simp at hu; rcases hu with rfl | rfl | rfl | rfl | rfl | rfl <;> rfl) (by simp) ?_
      refine fun w hs => ⟨trivial, ?_⟩
      refine ns_done ?_
      have hs : St w0 (pts b5 (.cells #[.int .i64 x.kind, .int .i64 x.tree, .int .i64 x.key, .int .i64 x.to, .int .i64 x.val, .int .i64 x.cnt] 26 (0, 0)) * _) w := hs
      refine WP_seq ?_
      -- R5
      refine WP_seqr [⟨0, 0, []⟩, ⟨1, 1, []⟩, ⟨2, 0, []⟩] (by kernel_rfl) ?_
      refine ns_fld fo_26_0 rfl rfl rfl ?_
      refine ns_ldB pl_2 hs rfl rfl rfl (by rfl) ?_
      refine ns_cmp _ rfl rfl rfl rfl rfl ?_
      refine ns_done ?_
      refine WP_if rfl (fun hif2 => ?_) (fun hif2 => ?_)
      · refine WP_seq ?_
        -- R6
        refine WP_seqr [⟨0, 0, []⟩, ⟨1, 2, []⟩] (by kernel_rfl) ?_
        refine ns_fld fo_26_1 rfl rfl rfl ?_
        refine ns_st (.int .i64 0) pl_2 hs rfl rfl rfl rfl rfl (by simp) ?_
        refine fun w hs => ⟨trivial, ?_⟩
        try simp only [Nat.zero_add] at hs
        try simp only [List.setIfInBounds_toArray] at hs
        try simp only [List.set_cons_succ] at hs
        try simp only [List.set_cons_zero] at hs
        refine ns_done ?_
        -- R7
        refine WP_seqr [⟨0, 0, []⟩, ⟨1, 1, []⟩, ⟨2, 2, []⟩, ⟨3, 2, []⟩, ⟨4, 0, []⟩] (by kernel_rfl) ?_
        refine ns_move rfl rfl ?_
        refine ns_ldAB [.int .i64 x.kind, .int .i64 0, .int .i64 x.key, .int .i64 x.to, .int .i64 x.val, .int .i64 x.cnt] ag_26 hs rfl rfl rfl (by rfl) (by rfl) (by decide) ?_
        refine ns_lit [.agg #[.int .i64 x.kind, .int .i64 0, .int .i64 x.key, .int .i64 x.to, .int .i64 x.val, .int .i64 x.cnt]] [.int .i64 x.kind, .int .i64 0, .int .i64 x.key, .int .i64 x.to, .int .i64 x.val, .int .i64 x.cnt] sl_24 zr_26 (by decide) (by decide) hs rfl rfl rfl rfl (by simp [Value.cells]) rfl ?_
        refine fun b19 w hs hx => ⟨trivial, ?_⟩
        refine ns_app [.int .i64 x.kind, .int .i64 0, .int .i64 x.key, .int .i64 x.to, .int .i64 x.val, .int .i64 x.cnt] sl_24 zr_26 by_26 rfl (by decide) (hs.foc (OArr out (onT (os.take i)))) rfl rfl rfl rfl rfl (St.cells (n := 6) hs (by rfl)) (by intro u hu; simp at hu; rcases hu with rfl | rfl | rfl | rfl | rfl | rfl <;> rfl) (by simp only [maxLen]; omega) (by omega) ?_
        refine fun v20 w hs hv => ⟨trivial, ?_⟩
        refine ns_asg rfl rfl ?_
        refine ns_done ?_
        have hk : x.kind ≠ 17 := by simpa using hif2
        have e3 : onT [x] = [{ x with tree := 0 }] := by rw [onT_one, if_neg hk]
        refine ⟨v20, rfl, rfl, rfl, rfl, ?_⟩
        rw [e2, e3]
        have e4 : OArr v20 (onT (os.take i) ++ [{ x with tree := 0 }]) = Arr 26 6 v20 ((onT (os.take i)).length + 1) (encO (onT (os.take i)) ++ [.int .i64 x.kind, .int .i64 0, .int .i64 x.key, .int .i64 x.to, .int .i64 x.val, .int .i64 x.cnt]) := by
          show Arr 26 6 v20 _ _ = _
          rw [List.length_append, encO_append]; rfl
        rw [e4]
        exact hs.out
      refine WP_skip ?_
      have hk : x.kind = 17 := by simpa using hif2
      have e3 : onT [x] = [] := by rw [onT_one, if_pos hk]
      rw [e3, List.append_nil] at e2
      refine ⟨out, rfl, rfl, rfl, rfl, ?_⟩
      rw [e2]
      exact hs.out
    rintro σ w ⟨out, g3, g7, g8, g9, hs⟩
    obtain ⟨σ, rfl⟩ := rebase g3
    obtain ⟨σ, rfl⟩ := rebase (σ := σ) g7
    obtain ⟨σ, rfl⟩ := rebase (σ := σ) g8
    obtain ⟨σ, rfl⟩ := rebase (σ := σ) g9
    clear g3 g7 g8 g9
    -- R8
    refine WP_seqr [⟨0, 0, []⟩, ⟨1, 0, []⟩] (by kernel_rfl) ?_
    refine ns_add rfl rfl rfl rfl (by omega) (by omega) ?_
    refine ns_move rfl rfl ?_
    refine ns_done ?_
    exact ⟨os.length - (i + 1), by omega, i + 1, out, rfl, by omega, rfl, rfl, rfl, rfl, hs⟩
    
  rintro σ w ⟨out, g3, hs⟩
  obtain ⟨σ, rfl⟩ := rebase g3
  refine WP_seq ?_
  -- R9
  refine WP_seqr [⟨0, 0, []⟩, ⟨1, 0, []⟩] (by kernel_rfl) ?_
  refine ns_move rfl rfl ?_
  refine ns_asg rfl rfl ?_
  refine ns_done ?_
  refine WP_ret ?_
  refine ⟨_, res1 _, ?_⟩
  show St w0 ((R * OArr out (onT os)) * F) w
  exact hs.out
theorem encO_one (l : List Sop) : ∀ u ∈ encO l, u.oneCell' = true := by
  intro u hu
  simp only [encO, List.mem_flatMap] at hu
  obtain ⟨x, _, hx⟩ := hu
  simp [opC] at hx
  rcases hx with rfl | rfl | rfl | rfl | rfl | rfl <;> rfl
set_option maxHeartbeats 1600000 in
theorem f22_ok (R : HProp) (v v2 : Value) (os more : List Sop) (d : Nat) (hR : RdO R v os) (hR2 : RdO R v2 more) (hm : more ≠ []) (hd : 2 ≤ d) (hd2 : d ≤ 1000) (hll : os.length < 20000) (hlm : more.length < 20000) (h0 : ∀ o ∈ more, o.tree = 0 ∧ o.kind ≠ 17) :
    Tri Try.prog 22 #[.int .i64 d, v, v2] R fun r => ex fun p : Value × HProp => pu (r = .tuple #[p.1, .bool true] ∧ RdA p.2 p.1 (runL (afterL [] (onT os)) more)) * (R * p.2) := by
  obtain ⟨hxl, a2, c2, rfl, hc2, hrd⟩ := hR2
  have hmp : 0 < more.length := List.length_pos_iff.2 hm
  obtain ⟨g, o, rfl, hat⟩ := hrd (by omega)
  have hol := onT_len os
  intro w0 F w hs
  refine calls_WP 29 #[.tmp 6, .tmp 7] Try.func22 rfl Try.ntmps22 rfl (Nat.le_of_ble_eq_true rfl) ?_
  refine WP_seq ?_
  -- R0
  refine WP_seqr [⟨0, 0, []⟩, ⟨1, 0, []⟩] (by kernel_rfl) ?_
  refine ns_asg rfl rfl ?_
  refine ns_asg rfl rfl ?_
  refine ns_done ?_
  refine WP_seq ?_
  -- R1
  refine WP_seqr [⟨0, 0, []⟩, ⟨1, 2, []⟩, ⟨2, 0, []⟩] (by kernel_rfl) ?_
  refine ns_move rfl rfl ?_
  refine ns_call (f28_ok R v os hR (by omega)) ck_28 (hs.foc R) rfl rfl rfl rfl ?_
  intro v12 w hs
  simp only [mul_assoc'] at hs
  obtain ⟨a3, c3, rfl, _, _⟩ := (hs.foc (OArr v12 (onT os))).arr_form
  refine ns_asg rfl rfl ?_
  refine ns_done ?_
  refine WP_seq ?_
  -- R2
  refine WP_seqr [⟨0, 0, []⟩, ⟨1, 0, []⟩, ⟨2, 0, []⟩] (by kernel_rfl) ?_
  refine ns_move rfl rfl ?_
  refine ns_len sl_24 rfl rfl rfl ?_
  refine ns_asg rfl rfl ?_
  refine ns_done ?_
  refine WP_seq ?_
  -- R3
  refine WP_seqr [⟨0, 0, []⟩, ⟨1, 0, []⟩, ⟨2, 2, []⟩, ⟨3, 0, []⟩] (by kernel_rfl) ?_
  refine ns_move rfl rfl ?_
  refine ns_move rfl rfl ?_
  refine ns_app (encO more) sl_24 zr_26 by_26 rfl (by decide) (hs.foc (OArr (.slice a3 (onT os).length c3) (onT os))) rfl rfl rfl rfl (encO_len more) (fun j u hj => by rw [add_plain]; exact hat w0 w _ (hs.foc R) j u hj) (encO_one more) (by simp only [maxLen]; omega) (by omega) ?_
  refine fun v17 w hs hv => ⟨trivial, ?_⟩
  have hs := hs.up (Ent.of_eq (show Arr 26 6 v17 ((onT os).length + more.length) (encO (onT os) ++ encO more) = OArr v17 (onT os ++ more) from by rw [← encO_append, ← List.length_append]))
  have hr17 := Arr.rd hs
  refine ns_asg rfl rfl ?_
  refine ns_done ?_
  refine WP_seq ?_
  -- R4
  refine WP_seqr [⟨0, 0, []⟩, ⟨1, 0, []⟩, ⟨2, 2, []⟩, ⟨3, 0, []⟩] (by kernel_rfl) ?_
  refine ns_move rfl rfl ?_
  refine ns_move rfl rfl ?_
  refine ns_call (f29_ok (OArr v17 (onT os ++ more)) v17 (onT os ++ more) d hr17 hd hd2 (by rw [List.length_append]; omega) (fun o ho => (List.mem_append.1 ho).elim (onT_ok o) (h0 o))) ck_29 (hs.foc (OArr v17 (onT os ++ more))) rfl rfl rfl rfl ?_
  intro v20 w hs
  simp only [mul_assoc'] at hs
  replace hs := (hs.foc (AArr v20 (runL [] (onT os ++ more)))).ex
  obtain ⟨ss, hs⟩ := hs
  replace hs := hs.pu
  obtain ⟨hss, hs⟩ := hs
  have hra := aarr_rd hss hs
  have hrl := run_length (onT os ++ more) []
  generalize hal : runL [] (onT os ++ more) = al at hs hra hss hrl
  simp only [mul_assoc'] at hs
  obtain ⟨a4, c4, rfl, _⟩ := hra.form
  obtain ⟨a5, c5, rfl, _, _⟩ := (hs.foc (OArr v17 (onT os ++ more))).arr_form
  refine ns_asg rfl rfl ?_
  refine ns_done ?_
  refine WP_seq ?_ -- S1
  refine WP_seq ?_
  -- R5
  refine WP_seqr [⟨0, 0, []⟩, ⟨1, 0, []⟩, ⟨2, 0, []⟩, ⟨3, 0, []⟩, ⟨4, 0, []⟩] (by kernel_rfl) ?_
  refine ns_move rfl rfl ?_
  refine ns_len sl_28 rfl rfl rfl ?_
  refine ns_move rfl rfl ?_
  refine ns_len sl_24 rfl rfl rfl ?_
  refine ns_cmp false rfl rfl rfl rfl (by simp only [cmpI, hrl, bne_self_eq_false]) ?_
  refine ns_done ?_
  refine WP_false rfl ?_ -- if1
  refine WP_skip ?_
  refine WP_seq ?_
  -- R7
  refine WP_seqr [⟨0, 0, []⟩, ⟨1, 0, []⟩, ⟨2, 0, []⟩, ⟨3, 0, []⟩, ⟨4, 0, []⟩] (by kernel_rfl) ?_
  refine ns_move rfl rfl ?_
  refine ns_move rfl rfl ?_
  refine ns_sliceLo (onT os).length sl_28 rfl rfl rfl rfl rfl (by rw [hrl, List.length_append]; omega) ?_
  refine ns_asg rfl rfl ?_
  refine ns_asg rfl rfl ?_
  refine ns_done ?_
  refine WP_ret ?_
  have hlt : (onT os).length ≤ al.length := by rw [hrl, List.length_append]; omega
  have ht := RdA.tail rfl hra (onT os).length hlt
  have e : al.drop (onT os).length = runL (afterL [] (onT os)) more := by
    rw [← hal, run_append, ← run_length (onT os) [], List.drop_left]
  rw [e] at ht
  refine ⟨_, res2 _ _, St.mk_ex (_, Arr 36 3 (.slice a4 al.length c4) al.length (encA al ss) * itsS al ss) (St.mk_pu ⟨rfl, ht⟩ ?_)⟩
  show St w0 ((R * (Arr 36 3 (.slice a4 al.length c4) al.length (encA al ss) * itsS al ss)) * F) w
  exact hs.out
end Go.Proofs.Ytnnembkganlbpaa
