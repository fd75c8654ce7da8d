import Derived.Test.Qxb6605494aTarjan
namespace Go.Proofs.Qxb6605494a.Tj
set_option linter.unusedVariables false

/-! ### the work that is left -/
def wUn (s : Nat → List Nat) (V : Nat → Nat) : Nat → Nat
  | 0 => 0
  | n + 1 => wUn s V n + if V n = 0 then (s n).length + 2 else 0
def wFr (s : Nat → List Nat) : List Fr → Nat
  | [] => 0
  | f :: fs => wFr s fs + ((s f.p).length - f.k + 1)

theorem wUn_out (s : Nat → List Nat) (V : Nat → Nat) (t x : Nat) : ∀ n, n ≤ t → wUn s (upd V t x) n = wUn s V n := by
  intro n
  induction n with
  | zero => intro _; rfl
  | succ n ih =>
    intro h
    simp only [wUn]
    rw [ih (by omega), upd_ne _ _ (by omega)]

theorem wUn_in (s : Nat → List Nat) (V : Nat → Nat) (t x : Nat) (h0 : V t = 0) (hx : x ≠ 0) : ∀ n, t < n → wUn s (upd V t x) n + ((s t).length + 2) = wUn s V n := by
  intro n
  induction n with
  | zero => intro h; omega
  | succ n ih =>
    intro h
    simp only [wUn]
    by_cases e : t = n
    · subst e
      rw [wUn_out s V t x t (Nat.le_refl _), upd_same, if_neg hx, if_pos h0]; omega
    · rw [upd_ne _ _ (by omega)]
      have := ih (by omega)
      omega

/-! ### lists without a repetition -/
theorem nod_len : ∀ (n : Nat) (l : List Nat), l.Nodup → (∀ x ∈ l, x < n) → l.length ≤ n := by
  intro n
  induction n with
  | zero =>
    intro l _ h
    cases l with
    | nil => simp
    | cons a l => exact absurd (h a List.mem_cons_self) (Nat.not_lt_zero _)
  | succ n ih =>
    intro l hn h
    have h1 := ih (l.erase n) (hn.erase n) (fun x hx => by
      have h2 := (hn.mem_erase_iff).1 hx
      have h3 := h x h2.2
      have h4 : x ≠ n := h2.1
      omega)
    by_cases e : n ∈ l
    · rw [List.length_erase_of_mem e] at h1; omega
    · rw [List.erase_of_not_mem e] at h1; omega

theorem cov_len : ∀ (n : Nat) (l : List Nat), (∀ v, v < n → v ∈ l) → n ≤ l.length := by
  intro n
  induction n with
  | zero => intro l _; omega
  | succ n ih =>
    intro l h
    have h0 := h n (by omega)
    have h1 := ih (l.erase n) (fun v hv => (List.mem_erase_of_ne (by omega)).2 (h v (by omega)))
    rw [List.length_erase_of_mem h0] at h1
    have : 0 < l.length := List.length_pos_of_mem h0
    omega

/-! ### the whole state -/
structure TS (s : Nat → List Nat) (n r M : Nat) (V Lo : Nat → Nat) (O : Nat → Bool) (cnt : Nat) (fs : List Fr) (gs : List (List Nat)) : Prop where
  inv : Inv s n V Lo cnt fs gs
  onS : ∀ v, O v = decide (v ∈ stk fs)
  num : cnt = (stk fs).length + gs.flatten.length
  vis : ∀ v, v < r → V v ≠ 0
  mea : M = wUn s V n + wFr s fs

theorem cls_len : ∀ fs : List Fr, (cls fs).length = fs.length ∧ fs.length ≤ (stk fs).length := by
  intro fs
  induction fs with
  | nil => simp [cls, stk]
  | cons f fs ih => simp only [cls, stk, List.length_append, List.length_cons, List.length_nil]; omega

theorem TS.bounds {s : Nat → List Nat} {n r M : Nat} {V Lo : Nat → Nat} {O : Nat → Bool} {cnt : Nat} {fs : List Fr} {gs : List (List Nat)} (h : TS s n r M V Lo O cnt fs gs) :
    cnt ≤ n ∧ (stk fs).length ≤ n ∧ (cls fs).length ≤ n ∧ gs.length ≤ n := by
  have h1 := nod_len n _ h.inv.nod (fun x hx => h.inv.bnd x (h.inv.pos x (List.mem_append.1 hx)))
  rw [List.length_append] at h1
  have h2 := cls_len fs
  have h3 := h.num
  have h4 : gs.length ≤ gs.flatten.length := by
    have := h.inv.ne
    clear h h1 h2 h3
    induction gs with
    | nil => simp
    | cons g gs ih =>
      have h5 := ih (fun g' hg' => this g' (List.mem_cons_of_mem _ hg'))
      have h6 : g ≠ [] := this g List.mem_cons_self
      have h7 : 0 < g.length := List.length_pos_iff.2 h6
      simp only [List.flatten_cons, List.length_append, List.length_cons]
      omega
  omega


theorem TS.Vle {s : Nat → List Nat} {n r M : Nat} {V Lo : Nat → Nat} {O : Nat → Bool} {cnt : Nat} {fs : List Fr} {gs : List (List Nat)} (h : TS s n r M V Lo O cnt fs gs) (v : Nat) : V v ≤ n := by
  have h1 := h.inv.num v
  have h2 := h.bounds
  omega

theorem upd_vis {V : Nat → Nat} {r t x : Nat} (h : ∀ v, v < r → V v ≠ 0) (hx : x ≠ 0) : ∀ v, v < r → upd V t x v ≠ 0 := by
  intro v hv
  by_cases e : v = t
  · rw [e, upd_same]; exact hx
  · rw [upd_ne _ _ e]; exact h v hv

theorem dec_congr {a b : Prop} [Decidable a] [Decidable b] (h : a ↔ b) : decide a = decide b := by simp [h]

theorem TS.init (s : Nat → List Nat) (n : Nat) (O : Nat → Bool) (Lo : Nat → Nat) (hO : ∀ v, O v = false) : TS s n 0 (wUn s (fun _ => 0) n) (fun _ => 0) Lo O 0 [] [] := by
  refine ⟨⟨?_, ?_, ?_, ?_, ?_, ?_, ?_, ?_, trivial⟩, ?_, rfl, ?_, rfl⟩
  · intro v hv; exact absurd rfl hv
  · intro v; exact Nat.le_refl _
  · intro v hv; exact absurd rfl hv
  · intro v hv; rcases hv with hv | hv <;> cases hv
  · exact List.nodup_nil
  · intro g hg; cases hg
  · intro i v hv; simp at hv
  · intro i v w hv; simp at hv
  · intro v; rw [hO v]; simp [stk]
  · intro v hv; exact absurd hv (Nat.not_lt_zero _)

/-- a root that was seen -/
theorem TS.seen {s : Nat → List Nat} {n r M : Nat} {V Lo : Nat → Nat} {O : Nat → Bool} {cnt : Nat} {fs : List Fr} {gs : List (List Nat)} (h : TS s n r M V Lo O cnt fs gs) (h0 : V r ≠ 0) : TS s n (r + 1) M V Lo O cnt fs gs := by
  refine ⟨h.inv, h.onS, h.num, fun v hv => ?_, h.mea⟩
  by_cases e : v = r
  · rw [e]; exact h0
  · exact h.vis v (by omega)

theorem TS.start {s : Nat → List Nat} {n r M : Nat} {V Lo : Nat → Nat} {O : Nat → Bool} {cnt : Nat} {gs : List (List Nat)} (h : TS s n r M V Lo O cnt [] gs) (hr : r < n) (h0 : V r = 0) :
    ∃ M', TS s n (r + 1) M' (upd V r (cnt + 1)) (upd Lo r (cnt + 1)) (upd O r true) (cnt + 1) [⟨r, 0, []⟩] gs := by
  refine ⟨_, h.inv.start r hr h0, fun v => ?_, ?_, fun v hv => ?_, rfl⟩
  · by_cases e : v = r
    · rw [e, upd_same]; simp [stk]
    · rw [upd_ne _ _ e, h.onS v]; simp [stk, e]
  · have := h.num; simp [stk] at this ⊢; omega
  · by_cases e : v = r
    · rw [e, upd_same]; omega
    · rw [upd_ne _ _ e]; exact h.vis v (by omega)

theorem TS.enter {s : Nat → List Nat} {n r M : Nat} {V Lo : Nat → Nat} {O : Nat → Bool} {cnt p k : Nat} {rest : List Nat} {fs : List Fr} {gs : List (List Nat)} (h : TS s n r M V Lo O cnt (⟨p, k, rest⟩ :: fs) gs)
    {t : Nat} (hk : (s p)[k]? = some t) (ht : t < n) (h0 : V t = 0) :
    ∃ M', M' < M ∧ TS s n r M' (upd V t (cnt + 1)) (upd Lo t (cnt + 1)) (upd O t true) (cnt + 1) (⟨t, 0, []⟩ :: ⟨p, k + 1, rest⟩ :: fs) gs := by
  have hl : k < (s p).length := by
    by_cases e : k < (s p).length
    · exact e
    · rw [List.getElem?_eq_none (by omega)] at hk; cases hk
  refine ⟨_, ?_, h.inv.enter hk ht h0, fun v => ?_, ?_, upd_vis h.vis (by omega), rfl⟩
  · have h1 := wUn_in s V t (cnt + 1) h0 (by omega) n ht
    have h2 := h.mea
    simp only [wFr] at h2 ⊢
    omega
  · by_cases e : v = t
    · rw [e, upd_same]; simp [stk]
    · rw [upd_ne _ _ e, h.onS v]; simp [stk, e]
  · have := h.num; simp [stk] at this ⊢; omega

theorem TS.skip {s : Nat → List Nat} {n r M : Nat} {V Lo : Nat → Nat} {O : Nat → Bool} {cnt p k : Nat} {rest : List Nat} {fs : List Fr} {gs : List (List Nat)} (h : TS s n r M V Lo O cnt (⟨p, k, rest⟩ :: fs) gs)
    {t : Nat} (hk : (s p)[k]? = some t) (h0 : V t ≠ 0) (hO : O t = false) :
    ∃ M', M' < M ∧ TS s n r M' V Lo O cnt (⟨p, k + 1, rest⟩ :: fs) gs := by
  have hl : k < (s p).length := by
    by_cases e : k < (s p).length
    · exact e
    · rw [List.getElem?_eq_none (by omega)] at hk; cases hk
  rw [h.onS t] at hO
  have hO' : t ∉ stk (⟨p, k, rest⟩ :: fs) := of_decide_eq_false hO
  refine ⟨_, ?_, h.inv.skip hk h0 (fun hm => absurd hm hO'), h.onS, h.num, h.vis, rfl⟩
  have h2 := h.mea
  simp only [wFr] at h2 ⊢
  omega

theorem TS.back {s : Nat → List Nat} {n r M : Nat} {V Lo : Nat → Nat} {O : Nat → Bool} {cnt p k : Nat} {rest : List Nat} {fs : List Fr} {gs : List (List Nat)} (h : TS s n r M V Lo O cnt (⟨p, k, rest⟩ :: fs) gs)
    {t : Nat} (hk : (s p)[k]? = some t) (h0 : V t ≠ 0) (hO : O t = true) :
    ∃ M', M' < M ∧ TS s n r M' V (upd Lo p (min (Lo p) (V t))) O cnt (⟨p, k + 1, rest⟩ :: fs) gs := by
  have hl : k < (s p).length := by
    by_cases e : k < (s p).length
    · exact e
    · rw [List.getElem?_eq_none (by omega)] at hk; cases hk
  rw [h.onS t] at hO
  have hO' : t ∈ stk (⟨p, k, rest⟩ :: fs) := of_decide_eq_true hO
  refine ⟨_, ?_, h.inv.back hk h0 hO', h.onS, h.num, h.vis, rfl⟩
  have h2 := h.mea
  simp only [wFr] at h2 ⊢
  omega

theorem TS.fold {s : Nat → List Nat} {n r M : Nat} {V Lo : Nat → Nat} {O : Nat → Bool} {cnt p k q kq : Nat} {rest restq : List Nat} {fs : List Fr} {gs : List (List Nat)} (h : TS s n r M V Lo O cnt (⟨p, k, rest⟩ :: ⟨q, kq, restq⟩ :: fs) gs)
    (hk : (s p).length ≤ k) (hne : Lo p ≠ V p) :
    ∃ M', M' < M ∧ TS s n r M' V (upd Lo q (min (Lo q) (Lo p))) O cnt (⟨q, kq, restq ++ p :: rest⟩ :: fs) gs := by
  have est : stk (⟨q, kq, restq ++ p :: rest⟩ :: fs) = stk (⟨p, k, rest⟩ :: ⟨q, kq, restq⟩ :: fs) := by simp [stk]
  refine ⟨_, ?_, h.inv.fold hk hne, fun v => by rw [est]; exact h.onS v, by rw [est]; exact h.num, h.vis, rfl⟩
  have h2 := h.mea
  simp only [wFr] at h2 ⊢
  omega

theorem TS.emit {s : Nat → List Nat} {n r M : Nat} {V Lo : Nat → Nat} {O O' : Nat → Bool} {cnt p k : Nat} {rest : List Nat} {fs : List Fr} {gs : List (List Nat)} (h : TS s n r M V Lo O cnt (⟨p, k, rest⟩ :: fs) gs)
    (hk : (s p).length ≤ k) (heq : Lo p = V p) (hO : ∀ v, O' v = decide (v ∈ stk fs)) :
    ∃ M', M' < M ∧ TS s n r M' V Lo O' cnt fs (gs ++ [(p :: rest).reverse]) := by
  refine ⟨_, ?_, h.inv.emit hk heq, hO, ?_, h.vis, rfl⟩
  · have h2 := h.mea
    simp only [wFr] at h2
    omega
  · have := h.num
    simp [stk] at this ⊢
    omega

/-- the caller of the top place is another -/
theorem TS.callers {s : Nat → List Nat} {n r M : Nat} {V Lo : Nat → Nat} {O : Nat → Bool} {cnt p k q kq : Nat} {rest restq : List Nat} {fs : List Fr} {gs : List (List Nat)} (h : TS s n r M V Lo O cnt (⟨p, k, rest⟩ :: ⟨q, kq, restq⟩ :: fs) gs) : p ≠ q := by
  intro e
  have := p_not_below (nodup_stk h.inv)
  exact this ((mem_stk_cons _ _ _).2 (.inr (.inl e)))

theorem TS.emit_low {s : Nat → List Nat} {n r M : Nat} {V Lo : Nat → Nat} {O : Nat → Bool} {cnt p k q kq : Nat} {rest restq : List Nat} {fs : List Fr} {gs : List (List Nat)} (h : TS s n r M V Lo O cnt (⟨p, k, rest⟩ :: ⟨q, kq, restq⟩ :: fs) gs)
    (heq : Lo p = V p) : upd Lo q (min (Lo q) (Lo p)) = Lo := by
  have h1 : Lo q ≤ Lo p := h.inv.emit_low heq
  rw [Nat.min_eq_left h1]
  funext v
  by_cases e : v = q
  · rw [e, upd_same]
  · rw [upd_ne _ _ e]

theorem TS.alone {s : Nat → List Nat} {n r M : Nat} {V Lo : Nat → Nat} {O : Nat → Bool} {cnt p k : Nat} {rest : List Nat} {gs : List (List Nat)} (h : TS s n r M V Lo O cnt [⟨p, k, rest⟩] gs) : Lo p = V p := h.inv.alone

/-- the low numbers after the caller has taken note of a finished place -/
def loU (Lo : Nat → Nat) (fs : List Fr) (p : Nat) : Nat → Nat :=
  match fs with
  | [] => Lo
  | f :: _ => upd Lo f.p (min (Lo f.p) (Lo p))

theorem TS.loU_p {s : Nat → List Nat} {n r M : Nat} {V Lo : Nat → Nat} {O : Nat → Bool} {cnt p k : Nat} {rest : List Nat} {fs : List Fr} {gs : List (List Nat)} (h : TS s n r M V Lo O cnt (⟨p, k, rest⟩ :: fs) gs) : loU Lo fs p p = Lo p := by
  cases fs with
  | nil => rfl
  | cons f fs =>
    obtain ⟨q, kq, restq⟩ := f
    exact upd_ne _ _ h.callers

theorem TS.loU_eq {s : Nat → List Nat} {n r M : Nat} {V Lo : Nat → Nat} {O : Nat → Bool} {cnt p k : Nat} {rest : List Nat} {fs : List Fr} {gs : List (List Nat)} (h : TS s n r M V Lo O cnt (⟨p, k, rest⟩ :: fs) gs) (heq : Lo p = V p) : loU Lo fs p = Lo := by
  cases fs with
  | nil => rfl
  | cons f fs =>
    obtain ⟨q, kq, restq⟩ := f
    exact h.emit_low heq

theorem TS.folds {s : Nat → List Nat} {n r M : Nat} {V Lo : Nat → Nat} {O : Nat → Bool} {cnt p k : Nat} {rest : List Nat} {fs : List Fr} {gs : List (List Nat)} (h : TS s n r M V Lo O cnt (⟨p, k, rest⟩ :: fs) gs)
    (hk : (s p).length ≤ k) (hne : Lo p ≠ V p) : ∃ M' fs', M' < M ∧ TS s n r M' V (loU Lo fs p) O cnt fs' gs ∧ stk fs' = stk (⟨p, k, rest⟩ :: fs) ∧ cls fs' = cls fs := by
  cases fs with
  | nil => exact absurd h.alone hne
  | cons f fs =>
    obtain ⟨q, kq, restq⟩ := f
    obtain ⟨M', hM, h'⟩ := h.fold hk hne
    exact ⟨M', _, hM, h', by simp [stk], rfl⟩

/-- the stack's top, while a group is taken off -/
theorem pop_cases {S0 : List Nat} {p : Nat} {r1 : List Nat} (hn : (S0 ++ p :: r1).Nodup) : ∃ K1 t, S0 ++ p :: r1 = S0 ++ K1 ++ [t] ∧ t ∈ p :: r1 ∧ ((t = p ∧ K1 = [] ∧ r1 = []) ∨ (t ≠ p ∧ ∃ r2, K1 = p :: r2 ∧ r1 = r2 ++ [t])) := by
  rcases List.eq_nil_or_concat r1 with e | ⟨r2, t, e⟩
  · subst e
    exact ⟨[], p, by simp, by simp, .inl ⟨rfl, rfl, rfl⟩⟩
  · rw [List.concat_eq_append] at e
    subst e
    refine ⟨p :: r2, t, by simp, by simp, .inr ⟨?_, r2, rfl, rfl⟩⟩
    intro e
    subst e
    have h2 := (List.nodup_append.1 hn).2.1
    have h3 := (List.nodup_cons.1 h2).1
    exact h3 (by simp)

theorem pop_on {K : List Nat} {t : Nat} {O : Nat → Bool} (hn : (K ++ [t]).Nodup) (hO : ∀ v, O v = decide (v ∈ K ++ [t])) : ∀ v, upd O t false v = decide (v ∈ K) := by
  intro v
  by_cases e : v = t
  · rw [e, upd_same]
    have : t ∉ K := fun hm => (List.nodup_append.1 hn).2.2 t hm t (List.mem_singleton.2 rfl) rfl
    simp [this]
  · rw [upd_ne _ _ e, hO v]
    simp [e]

/-- places on the stack lie below n -/
theorem TS.stk_lt {s : Nat → List Nat} {n r M : Nat} {V Lo : Nat → Nat} {O : Nat → Bool} {cnt : Nat} {fs : List Fr} {gs : List (List Nat)} (h : TS s n r M V Lo O cnt fs gs) (v : Nat) (hv : v ∈ stk fs) : v < n := h.inv.bnd v (h.inv.pos v (.inl hv))

/-- low numbers of stacked places -/
theorem TS.Lo_le {s : Nat → List Nat} {n r M : Nat} {V Lo : Nat → Nat} {O : Nat → Bool} {cnt p k : Nat} {rest : List Nat} {fs : List Fr} {gs : List (List Nat)} (h : TS s n r M V Lo O cnt (⟨p, k, rest⟩ :: fs) gs) : Lo p ≤ n := by
  obtain ⟨hf, _⟩ := h.inv.fi
  exact Nat.le_trans hf.lowp (h.Vle p)

/-! ### at the end -/
structure Fin (s : Nat → List Nat) (n : Nat) (gs : List (List Nat)) : Prop where
  ne : ∀ g ∈ gs, g ≠ []
  nod : gs.flatten.Nodup
  lt : ∀ v ∈ gs.flatten, v < n
  cov : ∀ v, v < n → v ∈ gs.flatten
  len : gs.flatten.length = n
  num : gs.length ≤ n
  done : ∀ i v : Nat, v ∈ (gs[i]?).getD [] → ∀ w ∈ s v, ∃ j : Nat, j ≤ i ∧ w ∈ (gs[j]?).getD []
  scc : ∀ i v w : Nat, v ∈ (gs[i]?).getD [] → w ∈ (gs[i]?).getD [] → Rch s v w

theorem TS.fin {s : Nat → List Nat} {n M : Nat} {V Lo : Nat → Nat} {O : Nat → Bool} {cnt : Nat} {gs : List (List Nat)} (h : TS s n n M V Lo O cnt [] gs) : Fin s n gs := by
  have hn : gs.flatten.Nodup := by have := h.inv.nod; simpa [stk] using this
  have hlt : ∀ v ∈ gs.flatten, v < n := fun v hv => h.inv.bnd v (h.inv.pos v (.inr hv))
  have hcov : ∀ v, v < n → v ∈ gs.flatten := by
    intro v hv
    rcases h.inv.part v (h.vis v hv) with h1 | h1
    · cases h1
    · exact h1
  refine ⟨h.inv.ne, hn, hlt, hcov, ?_, h.bounds.2.2.2, h.inv.done, h.inv.scc⟩
  have h1 := nod_len n _ hn hlt
  have h2 := cov_len n _ hcov
  omega

theorem uniq : ∀ (gs : List (List Nat)), gs.flatten.Nodup → ∀ (i j v : Nat), v ∈ (gs[i]?).getD [] → v ∈ (gs[j]?).getD [] → i = j := by
  intro gs
  induction gs with
  | nil => intro _ i j v h; simp at h
  | cons g gs ih =>
    intro hn i j v hi hj
    rw [List.flatten_cons] at hn
    obtain ⟨_, h2, h3⟩ := List.nodup_append.1 hn
    have hm : ∀ i : Nat, v ∈ (gs[i]?).getD [] → v ∈ gs.flatten := by
      intro i h
      by_cases e : i < gs.length
      · rw [List.getElem?_eq_getElem e] at h
        exact List.mem_flatten.2 ⟨_, List.getElem_mem e, h⟩
      · rw [List.getElem?_eq_none (by omega)] at h; cases h
    cases i with
    | zero =>
      cases j with
      | zero => rfl
      | succ j => exact absurd rfl (h3 v (by simpa using hi) v (hm j (by simpa using hj)))
    | succ i =>
      cases j with
      | zero => exact absurd rfl (h3 v (by simpa using hj) v (hm i (by simpa using hi)))
      | succ j => rw [ih h2 i j v (by simpa using hi) (by simpa using hj)]

theorem Fin.down {s : Nat → List Nat} {n : Nat} {gs : List (List Nat)} (h : Fin s n gs) {i j p q : Nat} (hp : p ∈ (gs[i]?).getD []) (hq : q ∈ (gs[j]?).getD []) (hr : Rch s p q) : j ≤ i := by
  obtain ⟨a, ha, hqa⟩ := hr.closed (P := fun u => ∃ a : Nat, a ≤ i ∧ u ∈ (gs[a]?).getD []) (by
    rintro u v ⟨a, ha, hu⟩ hv
    obtain ⟨b, hb, hvb⟩ := h.done a u hu v hv
    exact ⟨b, by omega, hvb⟩) ⟨i, Nat.le_refl _, hp⟩
  rw [uniq gs h.nod j a q hq hqa]; exact ha

theorem Fin.same {s : Nat → List Nat} {n : Nat} {gs : List (List Nat)} (h : Fin s n gs) {i j p q : Nat} (hp : p ∈ (gs[i]?).getD []) (hq : q ∈ (gs[j]?).getD []) : i = j ↔ Rch s p q ∧ Rch s q p := by
  constructor
  · intro e; subst e; exact ⟨h.scc i p q hp hq, h.scc i q p hq hp⟩
  · rintro ⟨h1, h2⟩
    have := h.down hp hq h1
    have := h.down hq hp h2
    omega

theorem Fin.edge {s : Nat → List Nat} {n : Nat} {gs : List (List Nat)} (h : Fin s n gs) {i j p q : Nat} (hp : p ∈ (gs[i]?).getD []) (hq : q ∈ (gs[j]?).getD []) (he : q ∈ s p) : j ≤ i := h.down hp hq (Rch.edge he)
end Go.Proofs.Qxb6605494a.Tj
