import Derived.WalkKit
namespace Go.Proofs.Qxb6605494a.Tj
set_option linter.unusedVariables false

/-! ### reachability -/
def RN (s : Nat → List Nat) : Nat → Nat → Nat → Prop
  | 0, u, v => u = v
  | k + 1, u, v => ∃ w, w ∈ s u ∧ RN s k w v
def Rch (s : Nat → List Nat) (u v : Nat) : Prop := ∃ k, RN s k u v

theorem RN_add {s : Nat → List Nat} : ∀ (j k u v w : Nat), RN s j u v → RN s k v w → RN s (j + k) u w := by
  intro j
  induction j with
  | zero => intro k u v w h1 h2; cases h1; rw [Nat.zero_add]; exact h2
  | succ j ih =>
    intro k u v w h1 h2
    obtain ⟨x, hx, h1⟩ := h1
    rw [show j + 1 + k = (j + k) + 1 by omega]
    exact ⟨x, hx, ih k x v w h1 h2⟩

theorem Rch.refl {s : Nat → List Nat} (u : Nat) : Rch s u u := ⟨0, rfl⟩
theorem Rch.trans {s : Nat → List Nat} {u v w : Nat} (h1 : Rch s u v) (h2 : Rch s v w) : Rch s u w := by
  obtain ⟨j, h1⟩ := h1; obtain ⟨k, h2⟩ := h2; exact ⟨j + k, RN_add j k u v w h1 h2⟩
theorem Rch.edge {s : Nat → List Nat} {u v : Nat} (h : v ∈ s u) : Rch s u v := ⟨1, v, h, rfl⟩

/-- what holds of u and is handed on along edges holds of all that u reaches -/
theorem Rch.closed {s : Nat → List Nat} {P : Nat → Prop} (hc : ∀ u v, P u → v ∈ s u → P v) {u v : Nat} (h : Rch s u v) (hu : P u) : P v := by
  obtain ⟨k, h⟩ := h
  induction k generalizing u with
  | zero => cases h; exact hu
  | succ k ih => obtain ⟨w, hw, h⟩ := h; exact ih (hc _ _ hu hw) h

/-! ### the state: frames (top first), each with the finished places that lie above its own on the stack -/
structure Fr where
  p : Nat
  k : Nat
  rest : List Nat

def stk : List Fr → List Nat
  | [] => []
  | f :: fs => stk fs ++ (f.p :: f.rest)

def cls : List Fr → List (Nat × Nat)
  | [] => []
  | f :: fs => cls fs ++ [(f.p, f.k)]

structure FOk (s : Nat → List Nat) (visit low : Nat → Nat) (f : Fr) (fs : List Fr) : Prop where
  below : ∀ w ∈ stk fs, visit w < visit f.p
  above : ∀ w ∈ f.rest, visit f.p < visit w
  lowp : low f.p ≤ visit f.p
  lowr : ∀ v ∈ f.rest, low v < visit v ∧ low f.p ≤ low v
  reach : ∀ v ∈ f.rest, Rch s f.p v
  link : ∀ g gs, fs = g :: gs → Rch s g.p f.p
  target : ∀ v, v ∈ f.p :: f.rest → ∃ w, w ∈ stk (f :: fs) ∧ visit w = low v ∧ Rch s v w
  edges : ∀ v ∈ f.rest, ∀ w ∈ s v, visit w ≠ 0 ∧ (w ∈ stk (f :: fs) → low v ≤ visit w)
  edgep : ∀ i, i < f.k → ∀ w, (s f.p)[i]? = some w → visit w ≠ 0 ∧ (w ∈ stk (f :: fs) → low f.p ≤ visit w)

def FI (s : Nat → List Nat) (visit low : Nat → Nat) : List Fr → Prop
  | [] => True
  | f :: fs => FOk s visit low f fs ∧ FI s visit low fs

structure Inv (s : Nat → List Nat) (n : Nat) (visit low : Nat → Nat) (cnt : Nat) (fs : List Fr) (gs : List (List Nat)) : Prop where
  bnd : ∀ v, visit v ≠ 0 → v < n
  num : ∀ v, visit v ≤ cnt
  part : ∀ v, visit v ≠ 0 → v ∈ stk fs ∨ v ∈ gs.flatten
  pos : ∀ v, (v ∈ stk fs ∨ v ∈ gs.flatten) → visit v ≠ 0
  nod : (stk fs ++ gs.flatten).Nodup
  ne : ∀ g ∈ gs, g ≠ []
  done : ∀ i v : Nat, v ∈ (gs[i]?).getD [] → ∀ w ∈ s v, ∃ j : Nat, j ≤ i ∧ w ∈ (gs[j]?).getD []
  scc : ∀ i v w : Nat, v ∈ (gs[i]?).getD [] → w ∈ (gs[i]?).getD [] → Rch s v w
  fi : FI s visit low fs

def upd {α : Type} (f : Nat → α) (t : Nat) (x : α) : Nat → α := fun v => if v = t then x else f v
theorem upd_same {α : Type} (f : Nat → α) (t : Nat) (x : α) : upd f t x t = x := by simp [upd]
theorem upd_ne {α : Type} (f : Nat → α) {t v : Nat} (x : α) (h : v ≠ t) : upd f t x v = f v := by simp [upd, h]

theorem mem_stk_cons (f : Fr) (fs : List Fr) (w : Nat) : w ∈ stk (f :: fs) ↔ w ∈ stk fs ∨ w = f.p ∨ w ∈ f.rest := by
  simp [stk]

/-- a frame's facts do not look at k -/
theorem stk_k (p k k' : Nat) (rest : List Nat) (fs : List Fr) : stk (⟨p, k, rest⟩ :: fs) = stk (⟨p, k', rest⟩ :: fs) := rfl

/-- changes of visit and low away from the stack -/
theorem FI.congr {s : Nat → List Nat} {visit low visit' low' : Nat → Nat} : ∀ fs, FI s visit low fs → (∀ v ∈ stk fs, visit' v = visit v ∧ low' v = low v) → (∀ v, visit v ≠ 0 → visit' v ≠ 0) → FI s visit' low' fs := by
  intro fs
  induction fs with
  | nil => intro _ _ _; trivial
  | cons f fs ih =>
    rintro ⟨h, hf⟩ he hm
    have es : ∀ w ∈ stk fs, visit' w = visit w ∧ low' w = low w := fun w hw => he w ((mem_stk_cons _ _ _).2 (.inl hw))
    have ep := he f.p ((mem_stk_cons _ _ _).2 (.inr (.inl rfl)))
    have er : ∀ w ∈ f.rest, visit' w = visit w ∧ low' w = low w := fun w hw => he w ((mem_stk_cons _ _ _).2 (.inr (.inr hw)))
    refine ⟨⟨?_, ?_, ?_, ?_, h.reach, h.link, ?_, ?_, ?_⟩, ih hf es hm⟩
    · intro w hw; rw [(es w hw).1, ep.1]; exact h.below w hw
    · intro w hw; rw [(er w hw).1, ep.1]; exact h.above w hw
    · rw [ep.1, ep.2]; exact h.lowp
    · intro v hv; rw [(er v hv).1, (er v hv).2, ep.2]; exact h.lowr v hv
    · intro v hv
      obtain ⟨w, hw, e, hr⟩ := h.target v hv
      have ev : low' v = low v := by
        rcases List.mem_cons.1 hv with rfl | hv
        · exact ep.2
        · exact (er v hv).2
      exact ⟨w, hw, by rw [(he w hw).1, ev]; exact e, hr⟩
    · intro v hv w hw
      obtain ⟨h1, h2⟩ := h.edges v hv w hw
      exact ⟨hm w h1, fun hs => by rw [(er v hv).2, (he w hs).1]; exact h2 hs⟩
    · intro i hi w hw
      obtain ⟨h1, h2⟩ := h.edgep i hi w hw
      exact ⟨hm w h1, fun hs => by rw [ep.2, (he w hs).1]; exact h2 hs⟩

/-- a new frame on top -/
theorem FOk.fresh {s : Nat → List Nat} {visit low : Nat → Nat} {t : Nat} {fs : List Fr} (hb : ∀ w ∈ stk fs, visit w < visit t) (hl : low t = visit t) (hk : ∀ g gs, fs = g :: gs → Rch s g.p t) : FOk s visit low ⟨t, 0, []⟩ fs := by
  refine ⟨hb, (fun w hw => by cases hw), (by show low t ≤ visit t; rw [hl]; exact Nat.le_refl _), (fun w hw => by cases hw), (fun w hw => by cases hw), hk, ?_, (fun w hw => by cases hw), fun i hi => absurd hi (Nat.not_lt_zero _)⟩
  intro v hv
  rcases List.mem_cons.1 hv with e | hv
  · have e' : v = t := e
    subst e'
    exact ⟨v, (mem_stk_cons _ _ _).2 (.inr (.inl rfl)), hl.symm, Rch.refl _⟩
  · cases hv

/-- a root is entered -/
theorem Inv.start {s : Nat → List Nat} {n : Nat} {visit low : Nat → Nat} {cnt : Nat} {gs : List (List Nat)} (h : Inv s n visit low cnt [] gs) (t : Nat) (ht : t < n) (h0 : visit t = 0) :
    Inv s n (upd visit t (cnt + 1)) (upd low t (cnt + 1)) (cnt + 1) [⟨t, 0, []⟩] gs := by
  have hg : t ∉ gs.flatten := fun hm => h.pos t (.inr hm) h0
  refine ⟨?_, ?_, ?_, ?_, ?_, h.ne, h.done, h.scc, ⟨FOk.fresh (fun w hw => by cases hw) (by rw [upd_same, upd_same]) (fun g gs e => by cases e), trivial⟩⟩
  · intro v hv
    by_cases e : v = t
    · rw [e]; exact ht
    · rw [upd_ne _ _ e] at hv; exact h.bnd v hv
  · intro v
    by_cases e : v = t
    · rw [e, upd_same]; exact Nat.le_refl _
    · rw [upd_ne _ _ e]; have := h.num v; omega
  · intro v hv
    by_cases e : v = t
    · left; rw [e]; simp [stk]
    · rw [upd_ne _ _ e] at hv
      rcases h.part v hv with h1 | h1
      · cases h1
      · exact .inr h1
  · intro v hv
    by_cases e : v = t
    · rw [e, upd_same]; omega
    · rw [upd_ne _ _ e]
      refine h.pos v (.inr ?_)
      rcases hv with h1 | h1
      · simp [stk] at h1; exact absurd h1 e
      · exact h1
  · have := h.nod
    simp only [stk, List.nil_append] at this ⊢
    simp only [List.singleton_append, List.nodup_cons]
    exact ⟨hg, this⟩

/-- an edge to a place not yet seen: it is entered -/
theorem Inv.enter {s : Nat → List Nat} {n : Nat} {visit low : Nat → Nat} {cnt p k : Nat} {rest : List Nat} {fs : List Fr} {gs : List (List Nat)} (h : Inv s n visit low cnt (⟨p, k, rest⟩ :: fs) gs)
    {t : Nat} (hk : (s p)[k]? = some t) (ht : t < n) (h0 : visit t = 0) :
    Inv s n (upd visit t (cnt + 1)) (upd low t (cnt + 1)) (cnt + 1) (⟨t, 0, []⟩ :: ⟨p, k + 1, rest⟩ :: fs) gs := by
  have hg : t ∉ gs.flatten := fun hm => h.pos t (.inr hm) h0
  have hst : t ∉ stk (⟨p, k, rest⟩ :: fs) := fun hm => h.pos t (.inl hm) h0
  have hst' : t ∉ stk (⟨p, k + 1, rest⟩ :: fs) := hst
  have htp : t ∈ s p := List.mem_of_getElem? hk
  obtain ⟨hf, hfs⟩ := h.fi
  have hkeep : ∀ v ∈ stk (⟨p, k, rest⟩ :: fs), upd visit t (cnt + 1) v = visit v ∧ upd low t (cnt + 1) v = low v := fun v hv => by
    have e : v ≠ t := fun e => hst (e ▸ hv)
    exact ⟨upd_ne _ _ e, upd_ne _ _ e⟩
  have hmono : ∀ v, visit v ≠ 0 → upd visit t (cnt + 1) v ≠ 0 := fun v hv => by
    by_cases e : v = t
    · rw [e, upd_same]; omega
    · rw [upd_ne _ _ e]; exact hv
  obtain ⟨hf', hfs'⟩ := FI.congr (⟨p, k, rest⟩ :: fs) h.fi hkeep hmono
  refine ⟨?_, ?_, ?_, ?_, ?_, h.ne, h.done, h.scc, ⟨FOk.fresh ?_ (by rw [upd_same, upd_same]) ?_, ?_, hfs'⟩⟩
  · intro v hv
    by_cases e : v = t
    · rw [e]; exact ht
    · rw [upd_ne _ _ e] at hv; exact h.bnd v hv
  · intro v
    by_cases e : v = t
    · rw [e, upd_same]; exact Nat.le_refl _
    · rw [upd_ne _ _ e]; have := h.num v; omega
  · intro v hv
    by_cases e : v = t
    · left; rw [e]; simp [stk]
    · rw [upd_ne _ _ e] at hv
      rcases h.part v hv with h1 | h1
      · exact .inl ((mem_stk_cons _ _ _).2 (.inl h1))
      · exact .inr h1
  · intro v hv
    by_cases e : v = t
    · rw [e, upd_same]; omega
    · rw [upd_ne _ _ e]
      refine h.pos v ?_
      rcases hv with h1 | h1
      · rcases (mem_stk_cons _ _ _).1 h1 with h1 | h1 | h1
        · exact .inl h1
        · exact absurd h1 e
        · cases h1
      · exact .inr h1
  · have hn := h.nod
    show ((stk (⟨p, k, rest⟩ :: fs) ++ [t]) ++ gs.flatten).Nodup
    rw [List.append_assoc, List.singleton_append]
    have hnot : t ∉ stk (⟨p, k, rest⟩ :: fs) ++ gs.flatten := by simp only [List.mem_append]; exact fun h => h.elim hst hg
    exact (List.perm_middle.nodup_iff).2 (List.nodup_cons.2 ⟨hnot, hn⟩)
  · intro w hw
    have hw' : w ∈ stk (⟨p, k, rest⟩ :: fs) := hw
    show upd visit t (cnt + 1) w < upd visit t (cnt + 1) t
    rw [(hkeep w hw').1, upd_same]
    have := h.num w; omega
  · intro g gs' e
    injection e with e1 e2
    rw [← e1]; exact Rch.edge htp
  · refine ⟨hf'.below, hf'.above, hf'.lowp, hf'.lowr, hf'.reach, hf'.link, hf'.target, hf'.edges, ?_⟩
    intro i hi w hw
    by_cases e : i < k
    · exact hf'.edgep i e w hw
    · have : i = k := by show i = k; have : i < k + 1 := hi; omega
      subst this
      have hw2 : (s p)[i]? = some w := hw
      rw [hk] at hw2
      injection hw2 with hw2
      subst hw2
      exact ⟨by rw [upd_same]; omega, fun hm => absurd hm hst'⟩

/-- an edge to a place that is done, or that lies on the stack and is not lower than what is known -/
theorem Inv.skip {s : Nat → List Nat} {n : Nat} {visit low : Nat → Nat} {cnt p k : Nat} {rest : List Nat} {fs : List Fr} {gs : List (List Nat)} (h : Inv s n visit low cnt (⟨p, k, rest⟩ :: fs) gs)
    {t : Nat} (hk : (s p)[k]? = some t) (h0 : visit t ≠ 0) (hn : t ∈ stk (⟨p, k, rest⟩ :: fs) → low p ≤ visit t) :
    Inv s n visit low cnt (⟨p, k + 1, rest⟩ :: fs) gs := by
  obtain ⟨hf, hfs⟩ := h.fi
  refine ⟨h.bnd, h.num, h.part, h.pos, h.nod, h.ne, h.done, h.scc, ⟨?_, hfs⟩⟩
  refine ⟨hf.below, hf.above, hf.lowp, hf.lowr, hf.reach, hf.link, hf.target, hf.edges, ?_⟩
  intro i hi w hw
  by_cases e : i < k
  · exact hf.edgep i e w hw
  · have : i = k := by show i = k; have : i < k + 1 := hi; omega
    subst this
    have hw2 : (s p)[i]? = some w := hw
    rw [hk] at hw2
    injection hw2 with hw2
    subst hw2
    exact ⟨h0, hn⟩

/-- the low number of the top place comes down to that of a place on the stack that it reaches -/
theorem FOk.lower {s : Nat → List Nat} {visit low : Nat → Nat} {p k : Nat} {rest : List Nat} {fs : List Fr} (hf : FOk s visit low ⟨p, k, rest⟩ fs) (hnd : (stk (⟨p, k, rest⟩ :: fs)).Nodup) (x : Nat)
    (hx : x ≤ low p) (w : Nat) (hw : w ∈ stk (⟨p, k, rest⟩ :: fs)) (hwx : visit w = x) (hr : Rch s p w) : FOk s visit (upd low p x) ⟨p, k, rest⟩ fs := by
  have hpr : ∀ v ∈ rest, v ≠ p := by
    intro v hv e
    subst e
    have := (List.nodup_append.1 hnd).2.1
    exact (List.nodup_cons.1 this).1 hv
  refine ⟨hf.below, hf.above, ?_, ?_, hf.reach, hf.link, ?_, ?_, ?_⟩
  · show upd low p x p ≤ visit p
    rw [upd_same]; exact Nat.le_trans hx hf.lowp
  · intro v hv
    have hv' : v ∈ rest := hv
    show upd low p x v < visit v ∧ upd low p x p ≤ upd low p x v
    rw [upd_same, upd_ne _ _ (hpr v hv')]
    exact ⟨(hf.lowr v hv).1, Nat.le_trans hx (hf.lowr v hv).2⟩
  · intro v hv
    rcases List.mem_cons.1 hv with e | hv'
    · subst e
      exact ⟨w, hw, by rw [upd_same]; exact hwx, hr⟩
    · rw [upd_ne _ _ (hpr v hv')]
      exact hf.target v hv
  · intro v hv w' hw'
    have hv' : v ∈ rest := hv
    rw [upd_ne _ _ (hpr v hv')]
    exact hf.edges v hv w' hw'
  · intro i hi w' hw'
    obtain ⟨h1, h2⟩ := hf.edgep i hi w' hw'
    refine ⟨h1, fun hm => ?_⟩
    show upd low p x p ≤ visit w'
    rw [upd_same]; exact Nat.le_trans hx (h2 hm)

theorem FI.low_away {s : Nat → List Nat} {visit low : Nat → Nat} {fs : List Fr} (h : FI s visit low fs) (p x : Nat) (hp : p ∉ stk fs) : FI s visit (upd low p x) fs :=
  FI.congr fs h (fun v hv => ⟨rfl, upd_ne _ _ (fun e => hp (e ▸ hv))⟩) (fun v hv => hv)

theorem nodup_stk {s : Nat → List Nat} {n : Nat} {visit low : Nat → Nat} {cnt : Nat} {fs : List Fr} {gs : List (List Nat)} (h : Inv s n visit low cnt fs gs) : (stk fs).Nodup := (List.nodup_append.1 h.nod).1

theorem p_not_below {f : Fr} {fs : List Fr} (h : (stk (f :: fs)).Nodup) : f.p ∉ stk fs := by
  intro hm
  exact (List.nodup_append.1 h).2.2 _ hm _ (List.mem_cons_self) rfl

/-- an edge to a place on the stack: the low number takes note of it -/
theorem Inv.back {s : Nat → List Nat} {n : Nat} {visit low : Nat → Nat} {cnt p k : Nat} {rest : List Nat} {fs : List Fr} {gs : List (List Nat)} (h : Inv s n visit low cnt (⟨p, k, rest⟩ :: fs) gs)
    {t : Nat} (hk : (s p)[k]? = some t) (h0 : visit t ≠ 0) (hn : t ∈ stk (⟨p, k, rest⟩ :: fs)) :
    Inv s n visit (upd low p (min (low p) (visit t))) cnt (⟨p, k + 1, rest⟩ :: fs) gs := by
  have hnd := nodup_stk h
  have hp := p_not_below hnd
  obtain ⟨hf, hfs⟩ := h.fi
  have htp : t ∈ s p := List.mem_of_getElem? hk
  have key : Inv s n visit (upd low p (min (low p) (visit t))) cnt (⟨p, k, rest⟩ :: fs) gs := by
    refine ⟨h.bnd, h.num, h.part, h.pos, h.nod, h.ne, h.done, h.scc, ⟨?_, hfs.low_away _ _ hp⟩⟩
    by_cases hc : low p ≤ visit t
    · rw [Nat.min_eq_left hc]
      obtain ⟨w, hw, e, hr⟩ := hf.target p (List.mem_cons_self)
      exact hf.lower hnd _ (Nat.le_refl _) w hw e hr
    · rw [Nat.min_eq_right (by omega)]
      exact hf.lower hnd _ (by omega) t hn rfl (Rch.edge htp)
  refine key.skip hk h0 (fun _ => ?_)
  rw [upd_same]; exact Nat.min_le_right _ _

/-- a place is finished that is no root: what lies above it goes to its caller -/
theorem Inv.fold {s : Nat → List Nat} {n : Nat} {visit low : Nat → Nat} {cnt p k q kq : Nat} {rest restq : List Nat} {fs : List Fr} {gs : List (List Nat)} (h : Inv s n visit low cnt (⟨p, k, rest⟩ :: ⟨q, kq, restq⟩ :: fs) gs)
    (hk : (s p).length ≤ k) (hne : low p ≠ visit p) :
    Inv s n visit (upd low q (min (low q) (low p))) cnt (⟨q, kq, restq ++ p :: rest⟩ :: fs) gs := by
  have hnd := nodup_stk h
  obtain ⟨hf, hfq, hfs⟩ := h.fi
  have est : stk (⟨q, kq, restq ++ p :: rest⟩ :: fs) = stk (⟨p, k, rest⟩ :: ⟨q, kq, restq⟩ :: fs) := by simp [stk]
  have hq : q ∉ stk fs := by
    have h2 : (stk (⟨q, kq, restq⟩ :: fs)).Nodup := (List.nodup_append.1 hnd).1
    exact p_not_below h2
  have hqs : q ∈ stk (⟨q, kq, restq⟩ :: fs) := (mem_stk_cons _ _ _).2 (.inr (.inl rfl))
  have hqp : visit q < visit p := hf.below q hqs
  have hlp : low p < visit p := by have h1 : low p ≤ visit p := hf.lowp; omega
  -- the caller's frame with the places taken over, the old low numbers
  have hrp : Rch s q p := hf.link _ _ rfl
  -- facts on places of the old frames
  have hlow_rest : ∀ v ∈ rest, low v < visit v ∧ low p ≤ low v := hf.lowr
  have hlow_restq : ∀ v ∈ restq, low v < visit v ∧ low q ≤ low v := hfq.lowr
  have hup : ∀ w, w ∈ p :: rest → visit q < visit w := by
    intro w hw
    rcases List.mem_cons.1 hw with e | hw
    · rw [e]; exact hqp
    · have h1 : visit p < visit w := hf.above w hw
      omega
  have hbq : ∀ w, w ∈ q :: restq → visit w < visit p := by
    intro w hw
    refine hf.below w ((mem_stk_cons _ _ _).2 ?_)
    rcases List.mem_cons.1 hw with e | hw
    · exact .inr (.inl e)
    · exact .inr (.inr hw)
  -- q's own place is none of the others
  have hqne : ∀ v ∈ restq ++ p :: rest, v ≠ q := by
    intro v hv e
    rw [← est] at hnd
    have h3 := (List.nodup_append.1 hnd).2.1
    exact (List.nodup_cons.1 h3).1 (e ▸ hv)
  refine ⟨h.bnd, h.num, ?_, ?_, by rw [est]; exact h.nod, h.ne, h.done, h.scc, ⟨?_, hfs.low_away _ _ hq⟩⟩
  · intro v hv; rw [est]; exact h.part v hv
  · intro v hv; rw [est] at hv; exact h.pos v hv
  refine ⟨hfq.below, ?_, ?_, ?_, ?_, hfq.link, ?_, ?_, ?_⟩
  · intro w hw
    show visit q < visit w
    rcases List.mem_append.1 hw with hw | hw
    · exact hfq.above w hw
    · exact hup w hw
  · show upd low q (min (low q) (low p)) q ≤ visit q
    rw [upd_same]; exact Nat.le_trans (Nat.min_le_left _ _) hfq.lowp
  · intro v hv
    show upd low q (min (low q) (low p)) v < visit v ∧ upd low q (min (low q) (low p)) q ≤ upd low q (min (low q) (low p)) v
    rw [upd_same, upd_ne _ _ (hqne v hv)]
    rcases List.mem_append.1 hv with hv | hv
    · exact ⟨(hlow_restq v hv).1, Nat.le_trans (Nat.min_le_left _ _) (hlow_restq v hv).2⟩
    · rcases List.mem_cons.1 hv with e | hv
      · rw [e]; exact ⟨hlp, Nat.min_le_right _ _⟩
      · exact ⟨(hlow_rest v hv).1, Nat.le_trans (Nat.min_le_right _ _) (hlow_rest v hv).2⟩
  · intro v hv
    show Rch s q v
    rcases List.mem_append.1 hv with hv | hv
    · exact hfq.reach v hv
    · rcases List.mem_cons.1 hv with e | hv
      · rw [e]; exact hrp
      · exact hrp.trans (hf.reach v hv)
  · intro v hv
    rw [est]
    rcases List.mem_cons.1 hv with e | hv
    · have e' : v = q := e
      subst e'
      rw [upd_same]
      by_cases hc : low v ≤ low p
      · rw [Nat.min_eq_left hc]
        obtain ⟨w, hw, e1, hr⟩ := hfq.target v (List.mem_cons_self)
        exact ⟨w, (mem_stk_cons _ _ _).2 (.inl hw), e1, hr⟩
      · rw [Nat.min_eq_right (by omega)]
        obtain ⟨w, hw, e1, hr⟩ := hf.target p (List.mem_cons_self)
        exact ⟨w, hw, e1, hrp.trans hr⟩
    · rw [upd_ne _ _ (hqne v hv)]
      rcases List.mem_append.1 hv with hv | hv
      · obtain ⟨w, hw, e1, hr⟩ := hfq.target v (List.mem_cons_of_mem _ hv)
        exact ⟨w, (mem_stk_cons _ _ _).2 (.inl hw), e1, hr⟩
      · exact hf.target v hv
  · intro v hv w hw
    rw [est, upd_ne _ _ (hqne v hv)]
    rcases List.mem_append.1 hv with hv' | hv'
    · obtain ⟨h1, h2⟩ := hfq.edges v hv' w hw
      refine ⟨h1, fun hm => ?_⟩
      rcases (mem_stk_cons _ _ _).1 hm with hm | hm
      · exact h2 hm
      · have h3 : visit v < visit p := hbq v (List.mem_cons_of_mem _ hv')
        have h4 := (hlow_restq v hv').1
        have h5 : visit p ≤ visit w := by
          rcases hm with e | hm
          · have e' : w = p := e
            rw [e']; exact Nat.le_refl _
          · have := hf.above w hm; exact Nat.le_of_lt this
        omega
    · rcases List.mem_cons.1 hv' with e | hv''
      · subst e
        obtain ⟨i, hi, e2⟩ := List.getElem_of_mem hw
        exact hf.edgep i (Nat.lt_of_lt_of_le hi hk) w (by rw [← e2]; exact List.getElem?_eq_getElem hi)
      · exact hf.edges v hv'' w hw
  · intro i hi w hw
    rw [est]
    show visit w ≠ 0 ∧ (w ∈ _ → upd low q (min (low q) (low p)) q ≤ visit w)
    rw [upd_same]
    obtain ⟨h1, h2⟩ := hfq.edgep i hi w hw
    refine ⟨h1, fun hm => ?_⟩
    rcases (mem_stk_cons _ _ _).1 hm with hm | hm
    · exact Nat.le_trans (Nat.min_le_left _ _) (h2 hm)
    · have h3 : low q ≤ visit q := hfq.lowp
      have h5 : visit q < visit w := by
        rcases hm with e | hm
        · have e' : w = p := e
          rw [e']; exact hqp
        · exact hup w (List.mem_cons_of_mem _ hm)
      exact Nat.le_trans (Nat.min_le_left _ _) (by omega)

/-- a root is finished: it and what lies above it is a group -/
theorem Inv.emit {s : Nat → List Nat} {n : Nat} {visit low : Nat → Nat} {cnt p k : Nat} {rest : List Nat} {fs : List Fr} {gs : List (List Nat)} (h : Inv s n visit low cnt (⟨p, k, rest⟩ :: fs) gs)
    (hk : (s p).length ≤ k) (heq : low p = visit p) : Inv s n visit low cnt fs (gs ++ [(p :: rest).reverse]) := by
  obtain ⟨hf, hfs⟩ := h.fi
  have hlowv : ∀ v, v ∈ p :: rest → visit p ≤ low v := by
    intro v hv
    rcases List.mem_cons.1 hv with e | hv
    · rw [e, heq]; exact Nat.le_refl _
    · have h1 : low p ≤ low v := (hf.lowr v hv).2
      omega
  have hseg : ∀ w, w ∈ stk (⟨p, k, rest⟩ :: fs) → visit p ≤ visit w → w ∈ p :: rest := by
    intro w hw hle
    rcases (mem_stk_cons _ _ _).1 hw with hw | hw | hw
    · have := hf.below w hw; have : visit w < visit p := this; omega
    · rw [hw]; exact List.mem_cons_self
    · exact List.mem_cons_of_mem _ hw
  have hedge : ∀ v, v ∈ p :: rest → ∀ w ∈ s v, visit w ≠ 0 ∧ (w ∈ stk (⟨p, k, rest⟩ :: fs) → w ∈ p :: rest) := by
    intro v hv w hw
    have key : visit w ≠ 0 ∧ (w ∈ stk (⟨p, k, rest⟩ :: fs) → low v ≤ visit w) := by
      rcases List.mem_cons.1 hv with e | hv
      · subst e
        obtain ⟨i, hi, e2⟩ := List.getElem_of_mem hw
        exact hf.edgep i (Nat.lt_of_lt_of_le hi hk) w (by rw [← e2]; exact List.getElem?_eq_getElem hi)
      · exact hf.edges v hv w hw
    exact ⟨key.1, fun hm => hseg w hm (Nat.le_trans (hlowv v hv) (key.2 hm))⟩
  have hback : ∀ m v, visit v ≤ m → v ∈ p :: rest → Rch s v p := by
    intro m
    induction m with
    | zero =>
      intro v hv hm
      exfalso
      have : visit v ≠ 0 := h.pos v (.inl ((mem_stk_cons _ _ _).2 (by
        rcases List.mem_cons.1 hm with e | hm
        · exact .inr (.inl e)
        · exact .inr (.inr hm))))
      omega
    | succ m ih =>
      intro v hv hm
      rcases List.mem_cons.1 hm with e | hm'
      · rw [e]; exact Rch.refl _
      · obtain ⟨w, hw, e1, hr⟩ := hf.target v hm
        have h1 := (hf.lowr v hm').1
        refine hr.trans (ih w (by omega) (hseg w hw ?_))
        rw [e1]; exact hlowv v hm
  have hto : ∀ v, v ∈ p :: rest → Rch s p v := by
    intro v hv
    rcases List.mem_cons.1 hv with e | hv
    · rw [e]; exact Rch.refl _
    · exact hf.reach v hv
  have hget : ∀ i v : Nat, v ∈ ((gs ++ [(p :: rest).reverse])[i]?).getD [] → (i < gs.length ∧ v ∈ (gs[i]?).getD []) ∨ (i = gs.length ∧ v ∈ p :: rest) := by
    intro i v hv
    by_cases hi : i < gs.length
    · left; rw [List.getElem?_append_left hi] at hv; exact ⟨hi, hv⟩
    · by_cases e : i = gs.length
      · right
        subst e
        rw [List.getElem?_append_right (Nat.le_refl _), Nat.sub_self] at hv
        exact ⟨rfl, List.mem_reverse.1 hv⟩
      · exfalso
        rw [List.getElem?_eq_none (by simp; omega)] at hv
        cases hv
  have hput : ∀ j w : Nat, j < gs.length → w ∈ (gs[j]?).getD [] → w ∈ ((gs ++ [(p :: rest).reverse])[j]?).getD [] := by
    intro j w hj hw; rw [List.getElem?_append_left hj]; exact hw
  have hputl : ∀ w, w ∈ p :: rest → w ∈ ((gs ++ [(p :: rest).reverse])[gs.length]?).getD [] := by
    intro w hw; rw [List.getElem?_append_right (Nat.le_refl _), Nat.sub_self]; exact List.mem_reverse.2 hw
  refine ⟨h.bnd, h.num, ?_, ?_, ?_, ?_, ?_, ?_, hfs⟩
  · intro v hv
    rw [List.flatten_append]
    rcases h.part v hv with h1 | h1
    · rcases (mem_stk_cons _ _ _).1 h1 with h1 | h1 | h1
      · exact .inl h1
      · right; simp [h1]
      · have h1' : v ∈ rest := h1
        exact .inr (List.mem_append.2 (.inr (by simp [h1'])))
    · right; exact List.mem_append.2 (.inl h1)
  · intro v hv
    rcases hv with h1 | h1
    · exact h.pos v (.inl ((mem_stk_cons _ _ _).2 (.inl h1)))
    · rw [List.flatten_append] at h1
      rcases List.mem_append.1 h1 with h1 | h1
      · exact h.pos v (.inr h1)
      · simp at h1
        exact h.pos v (.inl ((mem_stk_cons _ _ _).2 (.inr (by
          rcases h1 with h1 | h1
          · exact .inr h1
          · exact .inl h1))))
  · have hn := h.nod
    rw [List.flatten_append]
    refine (List.Perm.nodup_iff ?_).1 hn
    show (stk fs ++ (p :: rest) ++ gs.flatten).Perm (stk fs ++ (gs.flatten ++ [(p :: rest).reverse].flatten))
    rw [List.append_assoc]
    refine List.Perm.append_left _ ?_
    refine List.perm_append_comm.trans (List.Perm.append_left _ ?_)
    simp only [List.flatten_cons, List.flatten_nil, List.append_nil]
    exact (List.reverse_perm _).symm
  · intro g hg
    rcases List.mem_append.1 hg with hg | hg
    · exact h.ne g hg
    · rw [List.mem_singleton.1 hg]; simp
  · intro i v hv w hw
    rcases hget i v hv with ⟨hi, hv⟩ | ⟨hi, hv⟩
    · obtain ⟨j, hj, hwj⟩ := h.done i v hv w hw
      exact ⟨j, hj, hput j w (by omega) hwj⟩
    · obtain ⟨h0, hs⟩ := hedge v hv w hw
      rcases h.part w h0 with h1 | h1
      · exact ⟨gs.length, by omega, hputl w (hs h1)⟩
      · obtain ⟨g, hg, hwg⟩ := List.mem_flatten.1 h1
        obtain ⟨j, hj, e⟩ := List.getElem_of_mem hg
        refine ⟨j, by omega, hput j w hj ?_⟩
        rw [List.getElem?_eq_getElem hj, e]; exact hwg
  · intro i v w hv hw
    rcases hget i v hv with ⟨hi, hv⟩ | ⟨hi, hv⟩
    · rcases hget i w hw with ⟨_, hw⟩ | ⟨hi2, _⟩
      · exact h.scc i v w hv hw
      · omega
    · rcases hget i w hw with ⟨hi2, _⟩ | ⟨_, hw⟩
      · omega
      · exact (hback (visit v) v (Nat.le_refl _) hv).trans (hto w hw)

/-- the caller's low number does not feel a root -/
theorem Inv.emit_low {s : Nat → List Nat} {n : Nat} {visit low : Nat → Nat} {cnt p k : Nat} {rest : List Nat} {f : Fr} {fs : List Fr} {gs : List (List Nat)} (h : Inv s n visit low cnt (⟨p, k, rest⟩ :: f :: fs) gs)
    (heq : low p = visit p) : low f.p ≤ low p := by
  obtain ⟨hf, hfq, _⟩ := h.fi
  have h1 : visit f.p < visit p := hf.below f.p ((mem_stk_cons _ _ _).2 (.inr (.inl rfl)))
  have h2 := hfq.lowp
  omega

/-- with no caller a finished place is a root -/
theorem Inv.alone {s : Nat → List Nat} {n : Nat} {visit low : Nat → Nat} {cnt p k : Nat} {rest : List Nat} {gs : List (List Nat)} (h : Inv s n visit low cnt [⟨p, k, rest⟩] gs) : low p = visit p := by
  obtain ⟨hf, _⟩ := h.fi
  obtain ⟨w, hw, e, _⟩ := hf.target p (List.mem_cons_self)
  have h1 : low p ≤ visit p := hf.lowp
  rcases (mem_stk_cons _ _ _).1 hw with hw | hw | hw
  · cases hw
  · rw [← e, hw]
  · have := hf.above w hw
    have h2 : visit p < visit w := this
    omega
end Go.Proofs.Qxb6605494a.Tj
