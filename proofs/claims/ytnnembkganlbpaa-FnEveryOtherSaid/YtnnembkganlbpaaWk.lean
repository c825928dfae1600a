/- Walking code over frames that are functions of the slot's number, in the separation logic of Sl: one rule a kind of operation. Over any program. -/
import Derived.Test.YtnnembkganlbpaaSl
import Derived.Test.YtnnembkganlbpaaNt
namespace Go.Wk
open Go Go.Sl Go.Net Go.RowKit

abbrev Slots := Nat → Value
def upd (σ : Slots) (d : Nat) (v : Value) : Slots := fun t => bif Nat.beq t d then v else σ t
def updO (σ : Slots) : Option Tmp → Value → Slots
  | some d, v => upd σ d v
  | none, _ => σ
def evS (σ : Slots) : Operand → Value
  | .tmp t => σ t
  | .const v => v
  | .global g => .pointer (some ⟨g, 0, none⟩)
  | .func f => .func (.func f) #[] #[]
def Rep (n : Nat) (σ : Slots) (a : Act) : Prop := a.defers = [] ∧ a.tmps.size = n ∧ ∀ t, a.tmps.getD t undef = σ t
theorem Rep.eval {n : Nat} {σ : Slots} {a : Act} (h : Rep n σ a) : a.eval = evS σ := by
  funext x
  cases x with
  | tmp t => exact h.2.2 t
  | const v => rfl
  | global g => rfl
  | func f => rfl
theorem beq_ne {t d : Nat} (e : t ≠ d) : Nat.beq t d = false := by
  cases hh : Nat.beq t d with
  | false => rfl
  | true => exact absurd (Nat.eq_of_beq_eq_true hh) e
theorem beq_same (t : Nat) : Nat.beq t t = true := Nat.beq_refl t
theorem upd_same (σ : Slots) (d : Nat) (v : Value) : upd σ d v d = v := by simp only [upd, beq_same, cond_true]
theorem upd_ne {σ : Slots} {d t : Nat} {v : Value} (e : t ≠ d) : upd σ d v t = σ t := by simp only [upd, beq_ne e, cond_false]
theorem Rep.put {n : Nat} {σ : Slots} {a : Act} (h : Rep n σ a) {dst : Option Tmp} (hd : ∀ d : Nat, dst = some d → d < n) (v : Value) : Rep n (updO σ dst v) (a.put dst v) := by
  cases dst with
  | none => exact h
  | some d =>
    obtain ⟨h1, h2, h3⟩ := h
    refine ⟨h1, by simp [Act.put, h2], fun t => ?_⟩
    have hdn : (d : Nat) < n := hd d rfl
    show (a.tmps.setIfInBounds d v).getD t undef = upd σ d v t
    rw [Array.getD_eq_getD_getElem?]
    by_cases e : t = d
    · subst e
      have : t < a.tmps.size := by rw [h2]; exact hdn
      rw [upd_same]
      simp [this]
    · rw [upd_ne e, ← h3 t, Array.getD_eq_getD_getElem?, Array.getElem?_setIfInBounds_ne (by omega)]
theorem rebase {σ : Slots} {d : Nat} {v : Value} (h : σ d = v) : ∃ σ', σ = upd σ' d v :=
  ⟨σ, by funext t; by_cases e : t = d
         · subst e; rw [upd_same, h]
         · rw [upd_ne e]⟩

/-! ### Code -/
section
variable {P : Program} {n : Nat} {Q : Exit → Slots → World → Prop} {σ : Slots} {w : World}

def LQ (n : Nat) (Q : Exit → Slots → World → Prop) : Exit → Act → World → Prop := fun e a w => ∃ σ, Rep n σ a ∧ Q e σ w
def WP (P : Program) (n : Nat) (c : Code) (Q : Exit → Slots → World → Prop) (σ : Slots) (w : World) : Prop :=
  ∀ a, Rep n σ a → c.wp P (LQ n Q) a w
def thenS (K : Slots → World → Prop) (Q : Exit → Slots → World → Prop) : Exit → Slots → World → Prop
  | .normal, σ, w => K σ w
  | e, σ, w => Q e σ w
def blockS (id : Nat) (Q : Exit → Slots → World → Prop) : Exit → Slots → World → Prop
  | .exit id', σ, w => if id' = id then Q .normal σ w else Q (.exit id') σ w
  | e, σ, w => Q e σ w

theorem WP.mono {c : Code} {Q' : Exit → Slots → World → Prop} (h : WP P n c Q σ w) (hq : ∀ e σ w, Q e σ w → Q' e σ w) : WP P n c Q' σ w :=
  fun a ha => Code.wp_mono (fun e _ w' ⟨σ', r, q⟩ => ⟨σ', r, hq e σ' w' q⟩) (h a ha)
theorem WP_seq {x y : Code} (h : WP P n x (thenS (fun σ w => WP P n y Q σ w) Q) σ w) : WP P n (.seq x y) Q σ w := by
  intro a ha
  refine wp_seq (Code.wp_mono ?_ (h a ha))
  rintro e a' w' ⟨σ', r, q⟩
  cases e <;> first | exact q a' r | exact ⟨σ', r, q⟩
theorem WP_skip (h : Q .normal σ w) : WP P n .skip Q σ w := fun _ ha => wp_skip ⟨σ, ha, h⟩
theorem WP_ret (h : Q .ret σ w) : WP P n .ret Q σ w := fun _ ha => wp_ret ⟨σ, ha, h⟩
theorem WP_exit {id : Nat} (h : Q (.exit id) σ w) : WP P n (.exit id) Q σ w := fun _ ha => wp_exit ⟨σ, ha, h⟩
theorem WP_block {id : Nat} {c : Code} (h : WP P n c (blockS id Q) σ w) : WP P n (.block id c) Q σ w := by
  intro a ha
  refine wp_block (Code.wp_mono ?_ (h a ha))
  rintro e a' w' ⟨σ', r, q⟩
  cases e <;> try exact ⟨σ', r, q⟩
  rename_i id'
  simp only [Exit.inBlock]
  simp only [blockS] at q
  split at q
  · rename_i hh; rw [if_pos hh]; exact ⟨σ', r, q⟩
  · rename_i hh; rw [if_neg hh]; exact ⟨σ', r, q⟩
theorem WP_if {c : Operand} {x y : Code} {b : Bool} (hc : evS σ c = .bool b) (ht : b = true → WP P n x Q σ w) (hf : b = false → WP P n y Q σ w) : WP P n (.cond c x y) Q σ w := by
  intro a ha
  refine wp_cond_split (t := b) (by rw [ha.eval]; exact hc) (fun e => ht e a ha) (fun e => hf e a ha)
theorem WP_if' {c : Operand} {x y : Code} {b : Bool} (hc : evS σ c = .bool b) (hf : b = false → WP P n y Q σ w) (ht : b = true → WP P n x Q σ w) : WP P n (.cond c x y) Q σ w := WP_if hc ht hf
theorem WP_true {c : Operand} {x y : Code} (hc : evS σ c = .bool true) (h : WP P n x Q σ w) : WP P n (.cond c x y) Q σ w := WP_if hc (fun _ => h) (fun e => by cases e)
theorem WP_false {c : Operand} {x y : Code} (hc : evS σ c = .bool false) (h : WP P n y Q σ w) : WP P n (.cond c x y) Q σ w := WP_if hc (fun e => by cases e) (fun _ => h)
theorem WP_seq_cut {x y : Code} (J : Slots → World → Prop) (h1 : WP P n x (thenS J Q) σ w) (h2 : ∀ σ w, J σ w → WP P n y Q σ w) : WP P n (.seq x y) Q σ w :=
  WP_seq (h1.mono fun e σ w q => by cases e <;> first | exact h2 σ w q | exact q)
theorem least {p : Nat → Prop} (h : ∃ m, p m) : ∃ m, p m ∧ ∀ k, p k → m ≤ k := by
  obtain ⟨m, hm⟩ := h
  induction m using Nat.strongRecOn with
  | _ m ih =>
    by_cases hk : ∃ k, k < m ∧ p k
    · obtain ⟨k, hk, hp⟩ := hk
      exact ih k hk hp
    · refine ⟨m, hm, fun k hp => ?_⟩
      rcases Nat.lt_or_ge k m with h | h
      · exact absurd ⟨k, h, hp⟩ hk
      · exact h
/-- A loop: 'I m' holds at the head of each round, with an ever smaller m. -/
theorem WP_loop {c : Code} (I : Nat → Slots → World → Prop) (m : Nat) (h0 : I m σ w)
    (round : ∀ m σ w, I m σ w → WP P n c (thenS (fun σ' w' => ∃ m', m' < m ∧ I m' σ' w') Q) σ w) : WP P n (.loop c) Q σ w := by
  intro a ha
  let J : Act → World → Nat → Prop := fun a w m => ∃ σ, Rep n σ a ∧ I m σ w
  have hμ : ∃ μ : Act → World → Nat, ∀ a w, (∃ m, J a w m) → J a w (μ a w) ∧ ∀ k, J a w k → μ a w ≤ k :=
    ⟨fun a w => Classical.epsilon fun m => J a w m ∧ ∀ k, J a w k → m ≤ k, fun a w h => Classical.epsilon_spec (least h)⟩
  obtain ⟨μ, hμ⟩ := hμ
  refine wp_loop (fun a w => ∃ m, J a w m) μ ⟨m, σ, ha, h0⟩ ?_
  intro a1 w1 hJ
  obtain ⟨⟨σ1, r1, i1⟩, _⟩ := hμ a1 w1 hJ
  refine Code.wp_mono ?_ (round _ σ1 w1 i1 a1 r1)
  rintro e a2 w2 ⟨σ2, r2, q⟩
  cases e <;> try exact ⟨σ2, r2, q⟩
  obtain ⟨m', hlt, i2⟩ := q
  have hJ2 : ∃ m, J a2 w2 m := ⟨m', σ2, r2, i2⟩
  exact ⟨hJ2, Nat.lt_of_le_of_lt ((hμ a2 w2 hJ2).2 m' ⟨σ2, r2, i2⟩) hlt⟩
end

/-! ### Regions -/
section
variable {P : Program} {ops : Array Oper} {σ : Slots} {w : World}
def yieldS (ops : Array Oper) (σ : Slots) (j : Nat) : Option Bool :=
  match (ops[j]?).bind (·.dst) with
  | some t => match σ t with
    | .bool b => some b
    | _ => none
  | none => none
theorem yielded_eq {n : Nat} {a : Act} (h : Rep n σ a) : yielded ops a.tmps = yieldS ops σ := by
  funext j
  unfold yielded yieldS
  cases (ops[j]?).bind (·.dst) with
  | none => rfl
  | some t =>
    have ht := h.2.2 t
    rw [Array.getD_eq_getD_getElem?] at ht
    simp only [Option.bind_some]
    cases hh : a.tmps[t]? with
    | none =>
      rw [hh] at ht
      simp only [Option.getD_none] at ht
      rw [← ht]; rfl
    | some v =>
      rw [hh] at ht
      simp only [Option.getD_some] at ht
      rw [← ht]
      cases v <;> rfl
/-- What an operation that is carried out comes to. -/
def Eff (P : Program) (K : Value → World → Prop) : Result Next → Prop
  | .ok (.value v) w' => K v w'
  | .ok .skip w' => K undef w'
  | .ok (.enter f args) w' => Calls P f args w' fun e w'' => ∃ v, e = .returned v ∧ K v w''
  | _ => False
def NetS (P : Program) (ops : Array Oper) (Q : Slots → World → Prop) : Tre → (Nat → World → Prop) → Slots → World → Prop
  | .nil, _, σ, w => Q σ w
  | .cons s rest, held, σ, w =>
    match s.k with
    | 0 => ∃ o v, ops[s.i]? = some o ∧ ((Region.wanted o (yieldS ops σ) = true ∧ ∀ w, (execOp (evS σ) o).run P w = .ok (.value v) w) ∨ (Region.wanted o (yieldS ops σ) = false ∧ v = undef)) ∧ NetS P ops Q rest held (updO σ o.dst v) w
    | 1 => ∃ o v I, ops[s.i]? = some o ∧ I w ∧ ((Region.wanted o (yieldS ops σ) = true ∧ ∀ w, I w → (execOp (evS σ) o).run P w = .ok (.value v) w) ∨ (Region.wanted o (yieldS ops σ) = false ∧ v = undef)) ∧ NetS P ops Q rest (fun n => if n = s.i then I else held n) (updO σ o.dst v) w
    | _ => ∃ o, ops[s.i]? = some o ∧ Region.wanted o (yieldS ops σ) = true ∧ Eff P (fun v w' => keepAll held s.keep w' ∧ NetS P ops Q rest held (updO σ o.dst v) w') ((execOp (evS σ) o).run P w)
  | .fork s r s2 r2, held, σ, w =>
    (∃ o, ops[s.i]? = some o ∧ Region.wanted o (yieldS ops σ) = true ∧ Eff P (fun v w' => keepAll held s.keep w' ∧ NetS P ops Q r held (updO σ o.dst v) w') ((execOp (evS σ) o).run P w)) ∧
    (∃ o, ops[s2.i]? = some o ∧ Region.wanted o (yieldS ops σ) = true ∧ Eff P (fun v w' => keepAll held s2.keep w' ∧ NetS P ops Q r2 held (updO σ o.dst v) w') ((execOp (evS σ) o).run P w))
theorem ns_fork {i j : Nat} {kp kp2 : List Nat} {r r2 : Tre} {Q : Slots → World → Prop} {held : Nat → World → Prop} {σ : Slots} {w : World} (h1 : NetS P ops Q (.cons ⟨i, 2, kp⟩ r) held σ w) (h2 : NetS P ops Q (.cons ⟨j, 2, kp2⟩ r2) held σ w) :
    NetS P ops Q (.fork ⟨i, 2, kp⟩ r ⟨j, 2, kp2⟩ r2) held σ w := by
  unfold NetS at h1 h2 ⊢
  exact ⟨h1, h2⟩
def dstOk (n : Nat) (ops : Array Oper) : Bool := ops.all fun o => match o.dst with | some d => Nat.blt d n | none => true
theorem dstOk_spec {n : Nat} (h : dstOk n ops = true) {i : Nat} {o : Oper} (ho : ops[i]? = some o) : ∀ d : Nat, o.dst = some d → d < n := by
  intro d hd
  have := Array.all_eq_true_iff_forall_mem.1 h o (Array.mem_of_getElem? ho)
  rw [hd] at this
  exact Nat.blt_eq.mp this
theorem upon_of_eff {o : Oper} {a : Act} {K : Value → World → Prop} {K' : Act → World → Prop} {r : Result Next} (hk : ∀ v w', K v w' → K' (a.put o.dst v) w') (h : Eff P K r) : o.upon P a K' (fun _ _ _ => False) r := by
  cases r with
  | ok x w' =>
    cases x <;> simp only [Eff] at h <;> simp only [Oper.upon] <;> first | exact h.elim | exact hk _ _ h | skip
    case enter f args =>
      refine Calls.mono h ?_
      rintro e w'' ⟨v, rfl, hv⟩
      exact hk _ _ hv
  | halt x w' => exact h.elim
theorem net_of_S {n : Nat} {Q : Slots → World → Prop} (hd : dstOk n ops = true) : ∀ (π : Tre) (held : Nat → World → Prop) (σ : Slots) (w : World) (a : Act), Rep n σ a → NetS P ops Q π held σ w → wpTre P ops (fun a w => ∃ σ, Rep n σ a ∧ Q σ w) π held a w
  | .nil, _, σ, w, a, r, h => ⟨σ, r, h⟩
  | .cons s rest, held, σ, w, a, r, h => by
    unfold NetS at h
    unfold wpTre
    split at h
    · rename_i hk
      rw [hk]
      obtain ⟨o, v, ho, hy, h⟩ := h
      refine ⟨o, v, ho, ?_, net_of_S hd rest held _ w _ (r.put (dstOk_spec hd ho) v) h⟩
      unfold YieldsIf
      rw [yielded_eq r, r.eval]
      exact hy.imp (fun x => ⟨x.1, fun w _ => x.2 w⟩) id
    · rename_i hk
      rw [hk]
      obtain ⟨o, v, I, ho, hI, hy, h⟩ := h
      refine ⟨o, v, I, ho, hI, ?_, net_of_S hd rest _ _ w _ (r.put (dstOk_spec hd ho) v) h⟩
      unfold YieldsIf
      rw [yielded_eq r, r.eval]
      exact hy
    · rename_i hk0 hk1
      split
      · rename_i e; exact absurd e hk0
      · rename_i e; exact absurd e hk1
      obtain ⟨o, ho, hw, h⟩ := h
      refine ⟨o, ho, by rw [yielded_eq r]; exact hw, ?_⟩
      unfold Oper.wp
      rw [r.eval]
      exact upon_of_eff (fun v w' hh => ⟨hh.1, net_of_S hd rest held _ w' _ (r.put (dstOk_spec hd ho) v) hh.2⟩) h
  | .fork s r1 s2 r2, held, σ, w, a, r, h => by
    unfold NetS at h
    unfold wpTre
    obtain ⟨⟨o, ho, hw, h⟩, ⟨o2, ho2, hw2, h2⟩⟩ := h
    refine ⟨⟨o, ho, by rw [yielded_eq r]; exact hw, ?_⟩, ⟨o2, ho2, by rw [yielded_eq r]; exact hw2, ?_⟩⟩
    · unfold Oper.wp
      rw [r.eval]
      exact upon_of_eff (fun v w' hh => ⟨hh.1, net_of_S hd r1 held _ w' _ (r.put (dstOk_spec hd ho) v) hh.2⟩) h
    · unfold Oper.wp
      rw [r.eval]
      exact upon_of_eff (fun v w' hh => ⟨hh.1, net_of_S hd r2 held _ w' _ (r.put (dstOk_spec hd ho2) v) hh.2⟩) h2

theorem WP_net {n id : Nat} {Q : Exit → Slots → World → Prop} {w0 : World} {H : HProp} (hs : St w0 H w) (hm : P.follows .mixedOrders = true) (T : List Nat) (π : List Stp) (hchk : (chkAll T ops π && dstOk n ops) = true)
    (h : ∀ w, St w0 H w → NetS P ops (fun σ w => Q .normal σ w) (ofL π) (fun _ _ => True) σ w) : WP P n (.region id ops true) Q σ w := by
  intro a ha
  rw [Bool.and_eq_true] at hchk
  exact wp_region_net hm T π hchk.1 (wpNet_of_ofL π _ a _ (net_of_S hchk.2 (ofL π) _ σ _ a ha (h _ hs.drew)))
theorem WP_seqr {n id : Nat} {Q : Exit → Slots → World → Prop} (π : List Stp) (hchk : ((π.map (·.i) == List.range ops.size) && dstOk n ops) = true)
    (h : NetS P ops (fun σ w => Q .normal σ w) (ofL π) (fun _ _ => True) σ w) : WP P n (.region id ops false) Q σ w := by
  intro a ha
  rw [Bool.and_eq_true, beq_iff_eq] at hchk
  exact wp_region_seq π hchk.1 (wpNet_of_ofL π _ a _ (net_of_S hchk.2 (ofL π) _ σ _ a ha h))
theorem WP_tre {n id : Nat} {Q : Exit → Slots → World → Prop} {w0 : World} {H : HProp} (hs : St w0 H w) (hm : P.follows .mixedOrders = true) (T : List Nat) (π : Tre) (hchk : (chkTree T ops π && dstOk n ops) = true)
    (h : ∀ w, St w0 H w → NetS P ops (fun σ w => Q .normal σ w) π (fun _ _ => True) σ w) : WP P n (.region id ops true) Q σ w := by
  intro a ha
  rw [Bool.and_eq_true] at hchk
  exact wp_region_tre hm T π hchk.1 (net_of_S hchk.2 π _ σ _ a ha (h _ hs.drew))
end

/-! ### A function -/
def resultsS (rs : Array ResultVar) (σ : Slots) : Sem Value := do
  let vs ← rs.mapM fun
    | .tmp t => pure (σ t)
    | .cell a t => do loadVar t (← asAddr (σ a))
  pure (if h : vs.size = 1 then vs[0] else .tuple vs)
theorem results_eq {n : Nat} {σ : Slots} {a : Act} (h : Rep n σ a) (fn : Func) : results fn a.tmps = resultsS fn.results σ := by
  unfold results resultsS
  congr 1
  congr 1
  funext r
  cases r with
  | tmp t => show pure (a.tmps.getD t undef) = _; rw [h.2.2 t]
  | cell a' t => show (do loadVar t (← asAddr (a.tmps.getD a' undef))) = _; rw [h.2.2 a']
def Fin (P : Program) (rs : Array ResultVar) (R : Value → World → Prop) : Exit → Slots → World → Prop
  | .normal, σ, w | .ret, σ, w => ∃ v, (resultsS rs σ).run P w = .ok v w ∧ R v w
  | _, _, _ => False
def ini (args : Array Value) : Slots := fun t => args.getD t undef
theorem calls_WP {P : Program} {f : FuncId} {fn : Func} {c : Code} {args : Array Value} {w : World} {R : Value → World → Prop} (n : Nat) (rs : Array ResultVar)
    (hf : P.funcs[f]? = some fn) (hb : fn.body = some c) (hn : fn.ntmps = n) (hr : fn.results = rs) (ha : args.size ≤ n)
    (h : WP P n c (Fin P rs R) (ini args) w) : Calls P f args w fun e w' => ∃ v, e = .returned v ∧ R v w' := by
  refine calls_of_wp hf hb ?_
  have hrep : Rep n (ini args) { tmps := args ++ Array.replicate (fn.ntmps - args.size) undef, defers := [] } := by
    refine ⟨rfl, by simp [hn]; omega, fun t => ?_⟩
    show (args ++ Array.replicate (fn.ntmps - args.size) undef).getD t undef = args.getD t undef
    rw [Array.getD_eq_getD_getElem?, Array.getD_eq_getD_getElem?, Array.getElem?_append]
    split
    · rfl
    · rename_i hh
      rw [Array.getElem?_eq_none (by omega : args.size ≤ t)]
      rw [Array.getElem?_replicate]
      split <;> rfl
  refine Code.wp_mono ?_ (h _ hrep)
  rintro e a w' ⟨σ, r, q⟩
  cases e <;> simp only [Fin] at q <;> first
    | exact q.elim
    | (obtain ⟨v, h1, h2⟩ := q
       exact ⟨r.1, v, by rw [results_eq r, hr]; exact h1, v, rfl, h2⟩)
theorem res0 {P : Program} {σ : Slots} {w : World} : (resultsS #[] σ).run P w = .ok (.tuple #[]) w := by simp [resultsS]
theorem res1 {P : Program} {σ : Slots} {w : World} (t : Tmp) : (resultsS #[.tmp t] σ).run P w = .ok (σ t) w := by simp [resultsS]
theorem res2 {P : Program} {σ : Slots} {w : World} (t u : Tmp) : (resultsS #[.tmp t, .tmp u] σ).run P w = .ok (.tuple #[σ t, σ u]) w := by simp [resultsS]
theorem resC {P : Program} {σ : Slots} {w : World} (a : Tmp) (t : TypeId) {ad : Addr} {v : Value} (ha : σ a = .pointer (some ad)) (hl : (loadVar t ad).run P w = .ok v w) : (resultsS #[.cell a t] σ).run P w = .ok v w := by
  simp [resultsS, ha, asAddr, hl]
theorem resCT {P : Program} {σ : Slots} {w : World} (a : Tmp) (t : TypeId) (u : Tmp) {ad : Addr} {v : Value} (ha : σ a = .pointer (some ad)) (hl : (loadVar t ad).run P w = .ok v w) : (resultsS #[.cell a t, .tmp u] σ).run P w = .ok (.tuple #[v, σ u]) w := by
  simp [resultsS, ha, asAddr, hl]
end Go.Wk
