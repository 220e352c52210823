/-
  THE PLAIN SIDE OF LawS5405CWhole: lists threaded through two tables ('next', 'latest'). No Go in sight.
-/
namespace Go.Proofs.Ybulkdgxk.C

/-- A table with one entry turned. -/
def updI (f : Nat → Int) (i : Nat) (v : Int) : Nat → Int := fun j => if j = i then v else f j
theorem updI_same (f : Nat → Int) (i : Nat) (v : Int) : updI f i v i = v := by simp [updI]
theorem updI_ne (f : Nat → Int) (i : Nat) (v : Int) (j : Nat) (h : j ≠ i) : updI f i v j = f j := by simp [updI, h]

/-- From h on, 'next' runs through just l, and ends with -1. -/
def Chain (next : Nat → Int) (h : Int) : List Nat → Prop
  | [] => h = -1
  | i :: l => h = i ∧ Chain next (next i) l

theorem Chain.congr {f g : Nat → Int} : ∀ {l : List Nat} {h : Int}, (∀ i ∈ l, f i = g i) → Chain f h l → Chain g h l
  | [], _, _, c => c
  | i :: l, _, hl, c => ⟨c.1, by rw [← hl i (by simp)]; exact Chain.congr (fun j hj => hl j (by simp [hj])) c.2⟩

/-- Two tables that run through one list agree on it. -/
theorem Chain.agree {f g : Nat → Int} : ∀ {l : List Nat} {h k : Int}, Chain f h l → Chain g k l → h = k ∧ ∀ i ∈ l, f i = g i
  | [], _, _, c, d => ⟨by rw [c, d], fun _ h => by simp at h⟩
  | i :: l, _, _, c, d => by
    obtain ⟨e1, e2⟩ := Chain.agree c.2 d.2
    refine ⟨by rw [c.1, d.1], fun j hj => ?_⟩
    rcases List.mem_cons.1 hj with e | e
    · subst e; exact e1
    · exact e2 j e

/-- What follows the k-th of a list, or -1. -/
def headOr : List Nat → Int
  | [] => -1
  | j :: _ => (j : Int)
def after (l : List Nat) (k : Nat) : Int := headOr (l.drop (k + 1))

theorem chain_of {f : Nat → Int} : ∀ (l : List Nat), (∀ k i, l[k]? = some i → f i = after l k) → Chain f (headOr l) l
  | [], _ => rfl
  | i :: l, h => by
    refine ⟨rfl, ?_⟩
    have h0 := h 0 i rfl
    have e : after (i :: l) 0 = headOr l := by simp [after]
    rw [h0, e]
    exact chain_of l (fun k j hk => by have := h (k + 1) j (by simpa using hk); simpa [after] using this)

/-- The state: the tables 'next' and 'latest'. -/
abbrev S := (Nat → Int) × (Nat → Int)
/-- Entry i is laid first on the list of its owner. -/
def linkS (on : Nat → Nat) (s : S) (i : Nat) : S := (updI s.1 i (s.2 (on i)), updI s.2 (on i) i)
def s0 : S := (fun _ => -1, fun _ => -1)
def lnk (on : Nat → Nat) (L : List Nat) : S := L.foldl (linkS on) s0
theorem lnk_snoc (on : Nat → Nat) (L : List Nat) (i : Nat) : lnk on (L ++ [i]) = linkS on (lnk on L) i := by simp [lnk, List.foldl_append]

/-- The list of owner p, from its head. -/
def chainL (on : Nat → Nat) (L : List Nat) (p : Nat) : List Nat := (L.filter (fun i => on i == p)).reverse

theorem snoc_ind {P : List Nat → Prop} (h0 : P []) (h1 : ∀ l i, P l → P (l ++ [i])) (l : List Nat) : P l := by
  rw [← List.reverse_reverse l]
  induction l.reverse with
  | nil => exact h0
  | cons a r ih => rw [List.reverse_cons]; exact h1 _ _ ih

theorem lnk_chain (on : Nat → Nat) (L : List Nat) (hnd : L.Nodup) (p : Nat) : Chain (lnk on L).1 ((lnk on L).2 p) (chainL on L p) := by
  revert hnd p
  refine snoc_ind (P := fun L => L.Nodup → ∀ p, Chain (lnk on L).1 ((lnk on L).2 p) (chainL on L p)) (fun _ _ => rfl) (fun L i ih hnd p => ?_) L
  · have hn : L.Nodup ∧ i ∉ L := by
      rw [List.nodup_append] at hnd
      exact ⟨hnd.1, fun h => hnd.2.2 i h i (by simp) rfl⟩
    have ih' := fun p => ih hn.1 p
    rw [lnk_snoc]
    have keep : ∀ q, Chain (linkS on (lnk on L) i).1 ((lnk on L).2 q) (chainL on L q) := fun q =>
      (ih' q).congr (fun j hj => by
        have hj' : j ∈ L := by simp [chainL] at hj; exact hj.1
        exact (updI_ne _ _ _ _ (fun e => hn.2 (by rw [← e]; exact hj'))).symm)
    by_cases hp : on i = p
    · subst hp
      have e : chainL on (L ++ [i]) (on i) = i :: chainL on L (on i) := by simp [chainL, List.filter_append]
      rw [e]
      refine ⟨?_, ?_⟩
      · show updI _ _ _ _ = _; rw [updI_same]
      · have e2 : (linkS on (lnk on L) i).1 i = (lnk on L).2 (on i) := updI_same _ _ _
        rw [e2]; exact keep _
    · have e : chainL on (L ++ [i]) p = chainL on L p := by simp [chainL, List.filter_append, hp]
      rw [e]
      have e2 : (linkS on (lnk on L) i).2 p = (lnk on L).2 p := updI_ne _ _ _ _ (fun h => hp h.symm)
      rw [e2]; exact keep p

/-- Entry x is taken off: what pointed at it now points behind it; its own entry is marked -2. -/
theorem take_head {f : Nat → Int} {h : Int} {x : Nat} {l : List Nat} (c : Chain f h (x :: l)) (hx : x ∉ l) (v : Int) : Chain (updI f x v) (f x) l :=
  c.2.congr (fun i hi => (updI_ne _ _ _ _ (fun e => hx (by rw [← e]; exact hi))).symm)

theorem take_mid {f : Nat → Int} {x y : Nat} {l2 : List Nat} (v : Int) : ∀ {l1 : List Nat} {h : Int}, Chain f h (l1 ++ y :: x :: l2) → (l1 ++ y :: x :: l2).Nodup →
    Chain (updI (updI f y (f x)) x v) h (l1 ++ y :: l2)
  | [], h, c, hn => by
    simp only [List.nil_append] at c hn ⊢
    have hxy : y ≠ x := by intro e; subst e; simp at hn
    refine ⟨c.1, ?_⟩
    rw [updI_ne _ _ _ _ hxy, updI_same]
    refine c.2.2.congr (fun i hi => ?_)
    have h1 : i ≠ x := by intro e; subst e; simp at hn; exact hn.2.1 hi
    have h2 : i ≠ y := by intro e; subst e; simp at hn; exact hn.1.2 hi
    rw [updI_ne _ _ _ _ h1, updI_ne _ _ _ _ h2]
  | j :: l1, h, c, hn => by
    simp only [List.cons_append] at c hn ⊢
    have hj : j ∉ l1 ++ y :: x :: l2 := (List.nodup_cons.1 hn).1
    have h1 : j ≠ x := by intro e; subst e; exact hj (by simp)
    have h2 : j ≠ y := by intro e; subst e; exact hj (by simp)
    refine ⟨c.1, ?_⟩
    rw [updI_ne _ _ _ _ h1, updI_ne _ _ _ _ h2]
    exact take_mid v c.2 (List.nodup_cons.1 hn).2

/-- Walking k steps down a chain. -/
theorem chain_at {f : Nat → Int} : ∀ {l : List Nat} {h : Int} (k : Nat) (i : Nat), Chain f h l → l[k]? = some i → (k = 0 → h = i) ∧ (∀ j, 0 < k → l[k - 1]? = some j → f j = i)
  | [], _, _, _, _, hk => by simp at hk
  | a :: l, _, 0, i, c, hk => by simp at hk; subst hk; exact ⟨fun _ => c.1, fun _ h => by omega⟩
  | a :: l, _, k + 1, i, c, hk => by
    have r := chain_at k i c.2 (by simpa using hk)
    refine ⟨fun h => by omega, fun j _ hj => ?_⟩
    by_cases h0 : k = 0
    · subst h0; simp at hj; subst hj; exact r.1 rfl
    · exact r.2 j (by omega) (by
        have e : k + 1 - 1 = (k - 1) + 1 := by omega
        rw [e] at hj; simpa using hj)

/-! ### The entries: those not pending in order, then the pending ones -/
def given (pend : Nat → Bool) (n : Nat) : List Nat := (List.range n).filter (fun i => !pend i) ++ (List.range n).filter pend

theorem given_nodup (pend : Nat → Bool) (n : Nat) : (given pend n).Nodup := by
  rw [given, List.nodup_append]
  refine ⟨List.Pairwise.filter _ List.nodup_range, List.Pairwise.filter _ List.nodup_range, ?_⟩
  intro a ha b hb e
  subst e
  simp at ha hb
  rw [ha.2] at hb; simp at hb
theorem given_mem (pend : Nat → Bool) (n i : Nat) : i ∈ given pend n ↔ i < n := by
  simp only [given, List.mem_append, List.mem_filter, List.mem_range]
  cases pend i <;> simp
theorem given_length (pend : Nat → Bool) (n : Nat) : (given pend n).length = n := by
  have : ∀ l : List Nat, (l.filter (fun i => !pend i)).length + (l.filter pend).length = l.length := by
    intro l
    induction l with
    | nil => rfl
    | cons a l ih => cases h : pend a <;> simp [h] <;> omega
  simp only [given, List.length_append]; rw [this]; simp

/-- What the law's model gathers for owner p: the pending ones downwards, then the others downwards, x left out. -/
def seqL (on : Nat → Nat) (pend : Nat → Bool) (n x p : Nat) : List Nat :=
  (List.range n).reverse.filter (fun i => on i == p && pend i && i != x) ++ (List.range n).reverse.filter (fun i => on i == p && !pend i && i != x)

theorem seqL_eq (on : Nat → Nat) (pend : Nat → Bool) (n x p : Nat) : seqL on pend n x p = (chainL on (given pend n) p).filter (fun i => i != x) := by
  simp only [seqL, chainL, given, List.filter_append, List.reverse_append, List.filter_reverse, List.filter_filter]
  congr 2
  · apply List.filter_congr; intro i _; cases pend i <;> cases (on i == p) <;> simp
  · apply List.filter_congr; intro i _; cases pend i <;> cases (on i == p) <;> simp

theorem filter_ne_self {l : List Nat} {x : Nat} (h : x ∉ l) : l.filter (fun i => i != x) = l := by
  apply List.filter_eq_self.2
  intro a ha; simp; intro e; exact h (e ▸ ha)

theorem chainL_nodup (on : Nat → Nat) {L : List Nat} (h : L.Nodup) (p : Nat) : (chainL on L p).Nodup := by
  have h1 : (L.filter (fun i => on i == p)).Nodup := List.Pairwise.filter _ h
  exact (List.Perm.nodup_iff (List.reverse_perm _)).2 h1
theorem chainL_mem (on : Nat → Nat) (L : List Nat) (p i : Nat) : i ∈ chainL on L p ↔ i ∈ L ∧ on i = p := by simp [chainL]

/-- The state behind the taking off of x, which stands behind c1 on its owner's list. -/
def takenS (s : S) (x p : Nat) : List Nat → S
  | [] => (updI s.1 x (-2), updI s.2 p (s.1 x))
  | a :: l => (updI (updI s.1 ((a :: l).getLast (by simp)) (s.1 x)) x (-2), s.2)

theorem filter_mid {c1 c2 : List Nat} {x : Nat} (hn : (c1 ++ x :: c2).Nodup) : (c1 ++ x :: c2).filter (fun i => i != x) = c1 ++ c2 := by
  rw [List.nodup_append] at hn
  have h1 : x ∉ c1 := fun h => hn.2.2 x h x (by simp) rfl
  have h2 : x ∉ c2 := (List.nodup_cons.1 hn.2.1).1
  rw [List.filter_append, List.filter_cons, filter_ne_self h1, filter_ne_self h2]; simp

theorem taken_chain (on : Nat → Nat) (L : List Nat) (hnd : L.Nodup) (x : Nat) (c1 c2 : List Nat) (hc : chainL on L (on x) = c1 ++ x :: c2) (q : Nat) :
    Chain (takenS (lnk on L) x (on x) c1).1 ((takenS (lnk on L) x (on x) c1).2 q) ((chainL on L q).filter (fun i => i != x)) ∧ (takenS (lnk on L) x (on x) c1).1 x = -2 := by
  have hch := lnk_chain on L hnd
  have hn := chainL_nodup on hnd (on x)
  rw [hc] at hn
  have hx : ∀ q, q ≠ on x → x ∉ chainL on L q := fun q hq h => hq ((chainL_mem on L q x).1 h).2.symm
  cases c1 with
  | nil =>
    refine ⟨?_, updI_same _ _ _⟩
    by_cases hq : q = on x
    · subst hq
      have e : (takenS (lnk on L) x (on x) []).2 (on x) = (lnk on L).1 x := updI_same _ _ _
      rw [e, hc, filter_mid hn]
      have h := hch (on x)
      rw [hc] at h
      exact take_head h (List.nodup_cons.1 hn).1 _
    · have e : (takenS (lnk on L) x (on x) []).2 q = (lnk on L).2 q := updI_ne _ _ _ _ hq
      rw [e, filter_ne_self (hx q hq)]
      exact (hch q).congr (fun i hi => (updI_ne _ _ _ _ (fun e => hx q hq (by rw [← e]; exact hi))).symm)
  | cons a l =>
    refine ⟨?_, updI_same _ _ _⟩
    obtain ⟨l1, y, hl⟩ : ∃ l1 y, a :: l = l1 ++ [y] := ⟨(a :: l).dropLast, (a :: l).getLast (by simp), (List.dropLast_concat_getLast (by simp)).symm⟩
    have hy : (a :: l).getLast (by simp) = y := by simp [hl]
    have e0 : (takenS (lnk on L) x (on x) (a :: l)).1 = updI (updI (lnk on L).1 y ((lnk on L).1 x)) x (-2) := by simp only [takenS, hy]
    have e1 : (takenS (lnk on L) x (on x) (a :: l)).2 = (lnk on L).2 := rfl
    rw [e0, e1]
    have hyc : y ∈ chainL on L (on x) := by rw [hc, hl]; simp
    by_cases hq : q = on x
    · subst hq
      have h := hch (on x)
      rw [hc, hl] at h
      rw [hl] at hn
      rw [hc, hl, filter_mid hn]
      have e2 : l1 ++ [y] ++ x :: c2 = l1 ++ y :: x :: c2 := by simp
      have e3 : l1 ++ [y] ++ c2 = l1 ++ y :: c2 := by simp
      rw [e2] at h hn
      rw [e3]
      exact take_mid (-2) h hn
    · rw [filter_ne_self (hx q hq)]
      refine (hch q).congr (fun i hi => ?_)
      have h1 : i ≠ x := fun e => hx q hq (by rw [← e]; exact hi)
      have h2 : i ≠ y := fun e => by
        have a1 := ((chainL_mem on L q i).1 hi).2
        have a2 := ((chainL_mem on L (on x) y).1 hyc).2
        rw [e] at a1
        exact hq (a1.symm.trans a2)
      rw [updI_ne _ _ _ _ h1, updI_ne _ _ _ _ h2]
end Go.Proofs.Ybulkdgxk.C
