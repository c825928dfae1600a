/- Part 4 of the ground on which the laws stand: La Rs Rt. -/
import Derived.Test.YtnnembkganlbpaaQ3
/- What walks over all answer: plain lists. -/
namespace Go.Proofs.Ytnnembkganlbpaa
open Go.Bt
theorem RdO.up {R R' G : Go.Sl.HProp} {v : Go.Value} {l : List Sop} [h : Go.Sl.Foc R R' G] (hr : RdO R v l) : RdO R' v l := Rd.up hr
theorem RdI.up {R R' G : Go.Sl.HProp} {v : Go.Value} {l : List It} [h : Go.Sl.Foc R R' G] (hr : RdI R v l) : RdI R' v l := Rd.up hr
theorem RdK.up {R R' G : Go.Sl.HProp} {v : Go.Value} {l : List Int} [h : Go.Sl.Foc R R' G] (hr : RdK R v l) : RdK R' v l := Rd.up hr
theorem lit_rdO (b : Nat) (l : List Sop) (fr : Nat × Nat) : RdO (Go.Sl.pts b (.cells (encO l).toArray 26 fr)) (.slice (some ⟨b, 0, none⟩) l.length l.length) l :=
  pts_rd b (encO l).toArray 26 fr 6 l.length l.length (by rw [List.size_toArray, encO_len]) (Nat.le_refl _)
theorem feed_all {most : Int} {l : List It} (h : (l.length : Int) ≤ most) : (feed most [] l).1 = l := by
  have e := feed_take most l [] (.inr rfl)
  rw [e, List.nil_append, List.take_of_length_le]
  simp only [List.length_nil]
  omega
theorem sel_nn (l : List It) : sel none none l = l := by
  unfold sel; exact List.filter_eq_self.2 fun x _ => rfl
theorem selD_nn (l : List It) : selD none none l = l := by
  unfold selD; exact List.filter_eq_self.2 fun x _ => rfl
theorem rangeL_le (o : Sop) (l : List It) : (rangeL o l).length ≤ l.length := by
  unfold rangeL
  repeat' split
  all_goals first
    | exact List.length_filter_le ..
    | exact Nat.zero_le _
    | exact Nat.le_trans (List.length_filter_le ..) (Nat.le_of_eq (List.length_reverse))
theorem step_walk {l : List It} {k : Int} (key to : Int) (hl : l.length ≤ 4000) (hk : 9 ≤ k) (hk2 : k ≤ 16) : stepL l (allL k key to) = (l, ⟨false, 0, rangeL (allL k key to) l⟩) := by
  have hr := rangeL_le (allL k key to) l
  have hw : walkL (allL k key to) l = rangeL (allL k key to) l := feed_all (by show _ ≤ (4000 : Int); omega)
  have hkk : (allL k key to).kind = k := rfl
  unfold stepL
  rw [if_neg (show ¬ (allL k key to).kind = 0 by rw [hkk]; omega), if_neg (show ¬ (allL k key to).kind = 1 by rw [hkk]; omega), if_neg (show ¬ (allL k key to).kind = 2 by rw [hkk]; omega), if_neg (show ¬ (allL k key to).kind = 3 by rw [hkk]; omega), if_neg (show ¬ (allL k key to).kind = 4 by rw [hkk]; omega), if_neg (show ¬ (allL k key to).kind = 5 by rw [hkk]; omega), if_neg (show ¬ (allL k key to).kind = 6 by rw [hkk]; omega), if_neg (show ¬ (allL k key to).kind = 7 by rw [hkk]; omega), if_neg (show ¬ (allL k key to).kind = 8 by rw [hkk]; omega), if_neg (show ¬ (allL k key to).kind = 18 by rw [hkk]; omega), hw]
theorem run_walk {l : List It} {k : Int} (key to : Int) (os : List Sop) (hl : l.length ≤ 4000) (hk : 9 ≤ k) (hk2 : k ≤ 16) : runL l (allL k key to :: os) = ⟨false, 0, rangeL (allL k key to) l⟩ :: runL l os := by
  show (stepL l (allL k key to)).2 :: runL (stepL l (allL k key to)).1 os = _
  rw [step_walk key to hl hk hk2]
theorem range_up (key to : Int) (l : List It) : rangeL (allL 9 key to) l = l := sel_nn l
theorem range_down (key to : Int) (l : List It) : rangeL (allL 13 key to) l = l.reverse := selD_nn _
/-- what a tree holds behind a script from nothing -/
theorem held_srt (os : List Sop) : Srt (afterL [] os) := after_srt os List.Pairwise.nil
theorem held_len (os : List Sop) : (afterL [] os).length ≤ os.length := by
  have := after_len os []
  simpa using this
theorem heldT_len (os : List Sop) : (afterL [] (onT os)).length ≤ os.length := Nat.le_trans (held_len _) (onT_len os)
theorem rises_plain (l : List It) (hl : l.length ≤ 4000) : runL l [allL 9 0 0, allL 13 0 0] = [⟨false, 0, l⟩, ⟨false, 0, l.reverse⟩] := by
  rw [run_walk 0 0 _ hl (by decide) (by decide), run_walk 0 0 _ hl (by decide) (by decide), range_up, range_down]
  rfl
end Go.Proofs.Ytnnembkganlbpaa
/- A rule: a slice that is read is appended. -/
namespace Go.Wk
open Go Go.Sl Go.Net Go.RowKit Go.Proofs.Ytnnembkganlbpaa
section
variable {P : Program} {ops : Array Oper} {Q : Slots → World → Prop} {σ : Slots} {w w0 : World} {H : HProp} {rest : Tre} {held : Nat → World → Prop} {i : Nat} {kp : List Nat}
variable {d : Option Tmp} {ty : TypeId} {ps : String} {af : Array Edge} {gd : Option (Nat × Bool)}
theorem ns_appd {t E : TypeId} {sz : Nat} {z : Value} {by' : Nat} {s x : Operand} {u v : Value} {n m : Nat} {xs news : List Value} {F F2 R : HProp}
    (hT : sliceT P t E sz = true) (hz : zeroOf P E = some z) (hby : P.bytesOf E = by') (hzs : z.cells.size = sz) (hsz : 0 < sz)
    (hr : Rd sz R u m news) (hsR : St w0 (R * F2) w) (hs : St w0 (Arr E sz v n xs * F) w) (ho : ops[i]? = some ⟨d, .call { callee := .builtin .append, args := #[s, x], argTypes := #[t, t] }, ty, ps, af, gd⟩)
    (hw : Region.wanted ⟨d, .call { callee := .builtin .append, args := #[s, x], argTypes := #[t, t] }, ty, ps, af, gd⟩ (yieldS ops σ) = true)
    (hsv : evS σ s = v) (hx : evS σ x = u) (h1 : ∀ u ∈ news, u.oneCell' = true)
    (h63 : n + m ≤ maxLen) (hb : (n + m) * by' ≤ 140737488355328)
    (h : ∀ v' w', St w0 (Arr E sz v' (n + m) (xs ++ news) * F) w' → keepAll held kp w' ∧ NetS P ops Q rest held (updO σ d v') w') : NetS P ops Q (.cons ⟨i, 2, kp⟩ rest) held σ w := by
  obtain ⟨hl, a, c, rfl, hmc, hrd⟩ := hr
  cases a with
  | none =>
    have hm : m = 0 := by
      rcases Nat.eq_zero_or_pos m with e | e
      · exact e
      · obtain ⟨_, _, e2, _⟩ := hrd (by omega); cases e2
    subst hm
    have hn : news = [] := List.eq_nil_of_length_eq_zero (by simpa using hl)
    subst hn
    exact ns_app0 hT hs ho hw hsv hx (h v w (by rw [List.append_nil]; exact hs))
  | some ad =>
    refine ns_app news hT hz hby hzs hsz hs ho hw hsv hx hl ?_ h1 h63 hb (fun v' w' h2 _ => h v' w' h2)
    intro j u hj
    have hm : m ≠ 0 := by
      intro e; subst e
      have hn : news = [] := List.eq_nil_of_length_eq_zero (by simpa using hl)
      subst hn; simp at hj
    obtain ⟨g, o, e2, hat⟩ := hrd hm
    cases e2
    rw [add_plain]; exact hat w0 w F2 hsR j u hj
end
end Go.Wk
namespace Go.Proofs.Ytnnembkganlbpaa
open Go.Bt
/-- a sorted list, cut by a key -/
theorem cut_plain {l : List It} (h : Srt l) (k : Int) : (l.filter fun y => decide (y.key < k)) ++ (l.filter fun y => decide (k ≤ y.key)) = l := by
  induction l with
  | nil => rfl
  | cons x l ih =>
    by_cases hx : x.key < k
    · have hx2 : ¬ k ≤ x.key := by omega
      simp only [List.filter_cons, hx, hx2, decide_true, decide_false, if_true, List.cons_append, Bool.false_eq_true, if_false]
      rw [ih h.tail]
    · have hx2 : k ≤ x.key := by omega
      have h1 : (l.filter fun y => decide (y.key < k)) = [] := List.filter_eq_nil_iff.2 fun y hy => by
        have := h.head y hy
        simp; omega
      have h2 : (l.filter fun y => decide (k ≤ y.key)) = l := List.filter_eq_self.2 fun y hy => by
        have := h.head y hy
        simp; omega
      simp only [List.filter_cons, hx, hx2, decide_true, decide_false, if_true, Bool.false_eq_true, if_false, h1, h2, List.nil_append]
theorem cutD_plain {l : List It} (h : Srt l) (k : Int) : (l.reverse.filter fun y => decide (k < y.key)) ++ (l.reverse.filter fun y => decide (y.key ≤ k)) = l.reverse := by
  have e : ∀ y : It, decide (k < y.key) = decide (k + 1 ≤ y.key) := fun y => decide_eq_decide.2 (by omega)
  have e2 : ∀ y : It, decide (y.key ≤ k) = decide (y.key < k + 1) := fun y => decide_eq_decide.2 (by omega)
  simp only [e, e2, List.filter_reverse]
  rw [← List.reverse_append, cut_plain h]
theorem range_10 (key to : Int) (l : List It) : rangeL (allL 10 key to) l = l.filter fun y => decide (key ≤ y.key) := by
  show List.filter _ l = _
  exact List.filter_congr fun y _ => by simp [geS, ltS, Sop.it, allL]; rfl
theorem range_11 (key to : Int) (l : List It) : rangeL (allL 11 key to) l = l.filter fun y => decide (y.key < key) := by
  show List.filter _ l = _
  exact List.filter_congr fun y _ => by simp [geS, ltS, Sop.it, allL]; rfl
theorem range_12 (key to : Int) (l : List It) : rangeL (allL 12 key to) l = l.filter fun y => decide (key ≤ y.key) && decide (y.key < to) := by
  show List.filter _ l = _
  exact List.filter_congr fun y _ => by simp [geS, ltS, Sop.it, Sop.it2, allL]; rfl
theorem range_14 (key to : Int) (l : List It) : rangeL (allL 14 key to) l = l.reverse.filter fun y => decide (y.key ≤ key) := by
  show List.filter _ l.reverse = _
  exact List.filter_congr fun y _ => by simp [leS, gtS, Sop.it, allL]; rfl
theorem range_15 (key to : Int) (l : List It) : rangeL (allL 15 key to) l = l.reverse.filter fun y => decide (key < y.key) := by
  show List.filter _ l.reverse = _
  exact List.filter_congr fun y _ => by simp [leS, gtS, Sop.it, allL]; rfl
theorem range_16 (key to : Int) (l : List It) : rangeL (allL 16 key to) l = l.reverse.filter fun y => decide (y.key ≤ key) && decide (to < y.key) := by
  show List.filter _ l.reverse = _
  exact List.filter_congr fun y _ => by simp [leS, gtS, Sop.it, Sop.it2, allL]; rfl
theorem run_end (l : List It) : runL l [] = [] := rfl
end Go.Proofs.Ytnnembkganlbpaa
/- Literal answers that are read; zeroed rows; what short scripts behind a script answer. -/
namespace Go.Wk
open Go Go.Sl Go.Net Go.RowKit
section
variable {P : Program} {ops : Array Oper} {Q : Slots → World → Prop} {σ : Slots} {w w0 : World} {H : HProp} {rest : Tre} {held : Nat → World → Prop} {i : Nat} {kp : List Nat}
variable {d : Option Tmp} {ty : TypeId} {ps : String} {af : Array Edge} {gd : Option (Nat × Bool)}
/-- a slice of n zeros -/
theorem ns_makeN {t E : TypeId} {sz n : Nat} {z : Value} {by' : Nat} {l c : Operand} {k k2 : IntKind} (cells : Array Value) (hT : sliceT P t E sz = true) (hz : zeroOf P E = some z) (hby : P.bytesOf E = by') (hb : by' * n ≤ 140737488355328) (hn : n ≠ 0) (hsz : sz ≠ 0)
    (hs : St w0 H w) (ho : ops[i]? = some ⟨d, .makeSlice t l c, ty, ps, af, gd⟩) (hw : Region.wanted ⟨d, .makeSlice t l c, ty, ps, af, gd⟩ (yieldS ops σ) = true) (hl : evS σ l = .int k n) (hc : evS σ c = .int k2 n) (h63 : n ≤ 9223372036854775807)
    (hcs : (Array.range (n * sz)).map (z.cells[· % z.cells.size]!) = cells)
    (h : ∀ b w', St w0 (pts b (.cells cells E (0, 0)) * H) w' → Ext w w' → keepAll held kp w' ∧ NetS P ops Q rest held (updO σ d (.slice (some ⟨b, 0, none⟩) n n)) w') : NetS P ops Q (.cons ⟨i, 2, kp⟩ rest) held σ w := by
  obtain ⟨hu, inf, hinf, rfl⟩ := sliceT_spec hT
  have hzi := info_zero hinf hz
  have hbi : inf.bytes = by' := by rw [← hby]; unfold Program.bytesOf; rw [hinf]; rfl
  subst hbi
  subst hcs
  refine ns_eff ho hw ?_
  have wc : IntKind.i64.wrap (n : Int) = n := by rw [IntKind.wrap_i64]; omega
  have hb' : n * inf.bytes ≤ 140737488355328 := by rw [Nat.mul_comm]; exact hb
  have n2 : ¬ (281474976710656 < (inf.bytes : Int) * (n : Int)) := by
    have : ((inf.bytes * n : Nat) : Int) ≤ 140737488355328 := by omega
    rw [Int.natCast_mul] at this; omega
  have n1 : ¬ ((n : Int) < 0) := by omega
  have hnn : ¬ (n = 0 ∨ inf.size = 0) := by omega
  have hnn2 : ¬ (n * inf.size = 0) := by simpa [Nat.mul_eq_zero] using hnn
  have h2 := h w.heap.size _ (hs.alloc (.cells ((Array.range (n * inf.size)).map (z.cells[· % z.cells.size]!)) E (0, 0))) (ext_alloc w _)
  have hr : (execOp (evS σ) ⟨d, .makeSlice t l c, ty, ps, af, gd⟩).run P w = .ok (.value (.slice (some ⟨w.heap.size, 0, none⟩) n n)) (w.alloc (.cells ((Array.range (n * inf.size)).map (z.cells[· % z.cells.size]!)) E (0, 0))) := by
    simp [execOp, hl, hc, Instr.makeSlice, run_underlying hu, asInt, asIntOf, typeInfo, hinf, sizeOf, zeroValue, hzi, wc, n1, n2, hnn2, newRow, askRoom, roomBytes]
  rw [hr]
  exact h2
end
end Go.Wk
namespace Go.Proofs.Ytnnembkganlbpaa
open Go Go.Sl Go.Wk Go.Bt
/-- answers laid down by hand are read -/
theorem lit_rdA (b : Nat) (al : List An) (ss : List Value) (R : HProp) (fr : Nat × Nat) (hl : ss.length = al.length) (hs : ∀ (i : Nat) (a : An) (s : Value), al[i]? = some a → ss[i]? = some s → RdI R s a.items) :
    RdA (R * pts b (.cells (encA al ss).toArray 36 fr)) (.slice (some ⟨b, 0, none⟩) al.length al.length) al := by
  have hz : (al.zip ss).length = al.length := by rw [List.length_zip]; omega
  have hsz : (encA al ss).length = al.length * 3 := by
    unfold encA; rw [row_len (fun p : An × Value => [Value.bool p.1.ok, .int .i64 p.1.n, p.2]) 3 (fun _ => rfl), hz]
  refine ⟨ss, hl, ?_, fun i a s ha hss => RdI.up (hs i a s ha hss)⟩
  have := pts_rd b (encA al ss).toArray 36 fr 3 al.length al.length (by rw [List.size_toArray, hsz]) (Nat.le_refl _)
  exact this.up
theorem nil_rdI (R : HProp) : RdI R (.slice none 0 0) [] := nil_rd 2 R
theorem lit_rdI (b : Nat) (l : List It) (fr : Nat × Nat) : RdI (pts b (.cells (encs l).toArray 45 fr)) (.slice (some ⟨b, 0, none⟩) l.length l.length) l :=
  pts_rd b (encs l).toArray 45 fr 2 l.length l.length (by rw [List.size_toArray, encs_len]) (Nat.le_refl _)
theorem RdI.head {R : HProp} {a : Option Addr} {c : Nat} {l : List It} {n : Nat} (hn : n = l.length) (hr : RdI R (.slice a n c) l) (j : Nat) (hj : j ≤ n) : RdI R (.slice a j c) (l.take j) := by
  subst hn
  exact rd_len (Rd.head hr j hj) (by rw [List.length_take]; omega) (encs_take ..).symm
theorem RdI.tail {R : HProp} {a : Option Addr} {c : Nat} {l : List It} {n : Nat} (hn : n = l.length) (hr : RdI R (.slice a n c) l) (i : Nat) (hi : i ≤ n) : RdI R (.slice (if c = i then a else a.map (·.add (i * 2))) (n - i) (c - i)) (l.drop i) := by
  have h := RdI.part hn hr i n hi (Nat.le_refl _)
  rwa [List.take_of_length_le (by rw [List.length_drop]; omega)] at h
theorem RdI.form {R : HProp} {v : Value} {l : List It} (hr : RdI R v l) : ∃ a c, v = .slice a l.length c ∧ l.length ≤ c := by
  obtain ⟨_, a, c, e, h, _⟩ := hr
  exact ⟨a, c, e, h⟩
/-! ### short scripts -/
def kdL (k : Int) : Sop := ⟨k, 0, 0, 0, 0, 0⟩
def kkL (k key val : Int) : Sop := ⟨k, 0, key, 0, val, 0⟩
theorem get_put {l : List It} (h : Srt l) (x : It) : get (put l x) x.key = some x := (get_iff (srt_put h x)).2 ⟨(mem_put h).2 (.inl rfl), rfl⟩
theorem rem_put {l : List It} (x : It) : rem (put l x) x.key = rem l x.key := by
  induction l with
  | nil => simp [put_nil, rem]
  | cons y l ih =>
    rw [put_cons]
    split
    · show List.filter _ (y :: put l x) = List.filter _ (y :: l)
      rw [List.filter_cons, List.filter_cons]
      unfold rem at ih
      rw [ih]
    · split
      · rename_i h1 h2
        simp [rem, h2]
      · simp [rem, List.filter_cons]
theorem get_rem (l : List It) (k : Int) : get (rem l k) k = none := get_none.2 fun x hx => by
  simp only [rem, List.mem_filter, bne_iff_ne, ne_eq] at hx
  exact hx.2
theorem rem_rem (l : List It) (k : Int) : rem (rem l k) k = rem l k := by
  unfold rem; rw [List.filter_filter]; simp
theorem len_put_put {l : List It} (h : Srt l) (x y : It) (hk : y.key = x.key) : (put (put l x) y).length = (put l x).length := by
  rw [length_put, hk, if_pos]
  exact (fnd_iff (srt_put h x) x.key).2 ⟨x, (mem_put h).2 (.inl rfl), rfl⟩
theorem len_put_pos {l : List It} (h : Srt l) (x : It) : 1 ≤ (put l x).length := by
  have : x ∈ put l x := (mem_put h).2 (.inl rfl)
  exact List.length_pos_of_mem this
theorem run_cons (l : List It) (o : Sop) (os : List Sop) : runL l (o :: os) = (stepL l o).2 :: runL (stepL l o).1 os := rfl
theorem st_put (l : List It) (k v : Int) : stepL l (kkL 0 k v) = (put l ⟨k, v⟩, oneA (get l k)) := step_0 rfl
theorem st_get (l : List It) (k v : Int) : stepL l (kkL 1 k v) = (l, oneA (get l k)) := step_1 rfl
theorem st_has (l : List It) (k v : Int) : stepL l (kkL 2 k v) = (l, ⟨(get l k).isSome, 0, []⟩) := step_2 rfl
theorem st_del (l : List It) (k v : Int) : stepL l (kkL 3 k v) = (rem l k, oneA (get l k)) := step_3 rfl
theorem st_least (l : List It) : stepL l (kdL 4) = (l, oneA l.head?) := step_4 rfl
theorem st_greatest (l : List It) : stepL l (kdL 5) = (l, oneA l.getLast?) := step_5 rfl
theorem st_count (l : List It) : stepL l (kdL 8) = (l, ⟨false, l.length, []⟩) := step_8 rfl
theorem run_ends (l : List It) (h : l.length ≤ 4000) : runL l [kdL 4, kdL 5, allL 9 0 0] = [oneA l.head?, oneA l.getLast?, ⟨false, 0, l⟩] := by
  rw [run_cons, st_least, run_cons, st_greatest, run_walk 0 0 _ h (by decide) (by decide), range_up, run_end]
theorem run_found (l : List It) (k : Int) (h : l.length ≤ 4000) : runL l [kkL 2 k 0, kkL 1 k 7, allL 9 0 0] = [⟨(get l k).isSome, 0, []⟩, oneA (get l k), ⟨false, 0, l⟩] := by
  rw [run_cons, st_has, run_cons, st_get, run_walk 0 0 _ h (by decide) (by decide), range_up, run_end]
theorem run_twice {l : List It} (hS : Srt l) (k v u : Int) : runL l [kkL 0 k v, kkL 1 k 0, kdL 8, kkL 0 k u, kkL 1 k 0, kdL 8] =
    [oneA (get l k), ⟨true, 0, [⟨k, v⟩]⟩, ⟨false, (put l ⟨k, v⟩).length, []⟩, ⟨true, 0, [⟨k, v⟩]⟩, ⟨true, 0, [⟨k, u⟩]⟩, ⟨false, (put l ⟨k, v⟩).length, []⟩] := by
  have e1 : get (put l ⟨k, v⟩) k = some ⟨k, v⟩ := get_put hS ⟨k, v⟩
  have e2 : get (put (put l ⟨k, v⟩) ⟨k, u⟩) k = some ⟨k, u⟩ := get_put (srt_put hS _) ⟨k, u⟩
  rw [run_cons, st_put, run_cons, st_get, run_cons, st_count, run_cons, st_put, run_cons, st_get, run_cons, st_count, run_end]
  show [_, oneA (get (put l ⟨k, v⟩) k), _, oneA (get (put l ⟨k, v⟩) k), oneA (get (put (put l ⟨k, v⟩) ⟨k, u⟩) k), (⟨false, ((put (put l ⟨k, v⟩) ⟨k, u⟩).length : Nat), []⟩ : An)] = _
  rw [e1, e2, len_put_put hS ⟨k, v⟩ ⟨k, u⟩ rfl]
  rfl
theorem run_deleted (l : List It) (k : Int) (h : l.length ≤ 4000) : runL l [allL 9 0 0, kkL 1 k 0, kkL 3 k 5, kkL 1 k 0, kkL 3 k 5, allL 9 0 0] =
    [⟨false, 0, l⟩, oneA (get l k), oneA (get l k), ⟨false, 0, []⟩, ⟨false, 0, []⟩, ⟨false, 0, rem l k⟩] := by
  have hr : (rem l k).length ≤ 4000 := Nat.le_trans (List.length_filter_le ..) h
  rw [run_walk 0 0 _ h (by decide) (by decide), run_cons, st_get, run_cons, st_del, run_cons, st_get, run_cons, st_del]
  show [_, _, _, oneA (get (rem l k) k), oneA (get (rem l k) k)] ++ runL (rem (rem l k) k) [allL 9 0 0] = _
  rw [rem_rem, get_rem, run_walk 0 0 _ hr (by decide) (by decide), range_up, range_up, run_end]
  rfl
theorem run_undone {l : List It} (hS : Srt l) (k : Int) (h : l.length ≤ 4000) : runL l [kkL 3 k 0, allL 9 0 0, allL 13 0 0, kkL 0 k 3, kkL 3 k 0, allL 9 0 0, allL 13 0 0] =
    [oneA (get l k), ⟨false, 0, rem l k⟩, ⟨false, 0, (rem l k).reverse⟩, ⟨false, 0, []⟩, ⟨true, 0, [⟨k, 3⟩]⟩, ⟨false, 0, rem l k⟩, ⟨false, 0, (rem l k).reverse⟩] := by
  have hr : (rem l k).length ≤ 4000 := Nat.le_trans (List.length_filter_le ..) h
  have e1 : get (put (rem l k) ⟨k, 3⟩) k = some ⟨k, 3⟩ := get_put (srt_rem hS k) ⟨k, 3⟩
  have e2 : rem (put (rem l k) ⟨k, 3⟩) k = rem l k := by rw [show rem (put (rem l k) ⟨k, 3⟩) k = rem (rem l k) k from rem_put (l := rem l k) ⟨k, 3⟩, rem_rem]
  rw [run_cons, st_del]
  show _ :: runL (rem l k) _ = _
  rw [run_walk 0 0 _ hr (by decide) (by decide), run_walk 0 0 _ hr (by decide) (by decide), run_cons, st_put, run_cons, st_del]
  show [_, _, _, oneA (get (rem l k) k), oneA (get (put (rem l k) ⟨k, 3⟩) k)] ++ runL (rem (put (rem l k) ⟨k, 3⟩) k) _ = _
  rw [e1, e2, get_rem, run_walk 0 0 _ hr (by decide) (by decide), run_walk 0 0 _ hr (by decide) (by decide), range_up, range_down, run_end]
  rfl
end Go.Proofs.Ytnnembkganlbpaa
