import PyProof.Rows.All
import Wide.All
import OpenK.AllK
import Wide.FinOn
import KE.KSortTup
import PySem.Builtin.Re_Pattern.W2All
import PyProof.StrLawsReplace
import KE.KMinBuiltin
import PySem.Challenge.RW_nq0198_01
set_option compiler.extract_closed false
section
open PySem PySem.W PyProof.Rows PySem.Calls
set_option Elab.async false
set_option maxRecDepth 100000
namespace Mine
/-- along the answers of K every question lies in range, and the end is as R says -/
noncomputable def Good {α : Type} (n : Nat) (K : Nat → Nat) : KasT α → (α → Prop) → Prop
  | .ret a, R => R a
  | .ask i j k, R => i < n ∧ j < n ∧ Good n K (k (decide (K i < K j))) R
theorem good_bind {α β : Type} {n : Nat} {K : Nat → Nat} {f : α → KasT β} {R : α → Prop} {R' : β → Prop} (h : ∀ a, R a → Good n K (f a) R') : ∀ t : KasT α, Good n K t R → Good n K (t.bind f) R'
  | .ret a, g => h a g
  | .ask i j k, g => ⟨g.1, g.2.1, good_bind h (k _) g.2.2⟩
theorem good_mono {α : Type} {n : Nat} {K : Nat → Nat} {R R' : α → Prop} (h : ∀ a, R a → R' a) : ∀ t : KasT α, Good n K t R → Good n K t R'
  | .ret a, g => h a g
  | .ask i j k, g => ⟨g.1, g.2.1, good_mono h (k _) g.2.2⟩
/-- so the walk of the tree goes -/
theorem good_wp {α : Type} {n : Nat} {K : Nat → Nat} {R : α → Prop} {cmp : Nat → Nat → (Bool → Shared → Prop) → Shared → Prop} {I : Shared → Prop} {Q : α → Shared → Prop}
    (hc : ∀ i j (C : Bool → Shared → Prop) s, i < n → j < n → I s → (∀ s', I s' → C (decide (K i < K j)) s') → cmp i j C s) (hq : ∀ a s, I s → R a → Q a s) : ∀ (t : KasT α) (s : Shared), Good n K t R → I s → t.kasWp cmp Q s
  | .ret a, s, g, hs => hq a s hs g
  | .ask i j k, s, g, hs => hc i j _ s g.1 g.2.1 hs fun s' hs' => good_wp hc hq (k _) s' g.2.2 hs'
section
variable {n : Nat} {K : Nat → Nat}
noncomputable def PermN (n : Nat) (p : Array Nat) : Prop := p.toList.Perm (List.range n)
theorem PermN.size {p : Array Nat} (h : PermN n p) : p.size = n := by
  have := h.length_eq
  simpa using this
theorem PermN.lt {p : Array Nat} (h : PermN n p) {k : Nat} (hk : k < n) : p.getD k 0 < n := by
  have hs : k < p.size := by rw [h.size]; exact hk
  have e : p.getD k 0 = p[k] := by simp [Array.getD, hs]
  rw [e]
  have : p[k] ∈ p.toList := Array.getElem_mem_toList hs
  exact List.mem_range.mp (h.mem_iff.mp this)
noncomputable def kk (K : Nat → Nat) (p : Array Nat) (i : Nat) : Nat := K (p.getD i 0)
theorem kk_congr {p q : Array Nat} {i j : Nat} (h : p[i]? = q[j]?) : kk K p i = kk K q j := by
  unfold kk
  rw [Array.getD_eq_getD_getElem?, Array.getD_eq_getD_getElem?, h]
theorem kk_bubble {p : Array Nat} {src d : Nat} (hs : src < p.size) (hd : d ≤ src) (k : Nat) : kk K (bubble p src d) k = if k = src - d then kk K p src else if src - d < k ∧ k ≤ src then kk K p (k - 1) else kk K p k := by
  have e := getElem?_bubble hs d hd k
  by_cases h1 : k = src - d
  · rw [if_pos h1] at e ⊢; exact kk_congr e
  · rw [if_neg h1] at e ⊢
    by_cases h2 : src - d < k ∧ k ≤ src
    · rw [if_pos h2] at e ⊢; exact kk_congr e
    · rw [if_neg h2] at e ⊢; exact kk_congr e
theorem kk_rev {p : Array Nat} {i j : Nat} (hj : j ≤ p.size) (k : Nat) : kk K (kas_rev p i j) k = if i ≤ k ∧ k < j then kk K p (i + j - 1 - k) else kk K p k := by
  have e := getElem?_mirror_all (i := i) hj k
  unfold kas_rev
  by_cases h1 : i ≤ k ∧ k < j
  · rw [if_pos h1] at e ⊢; exact kk_congr e
  · rw [if_neg h1] at e ⊢; exact kk_congr e
theorem kk_rev_eq {p : Array Nat} {i j : Nat} (hj : j ≤ p.size) (heq : ∀ k, i ≤ k → k < j → kk K p k = kk K p (j - 1)) (k : Nat) : kk K (kas_rev p i j) k = kk K p k := by
  rw [kk_rev hj]
  split
  · rename_i h
    rw [heq k h.1 h.2, heq (i + j - 1 - k) (by lia) (by lia)]
  · rfl
theorem PermN.rev {p : Array Nat} (h : PermN n p) (i j : Nat) : PermN n (kas_rev p i j) := (Array.perm_iff_toList_perm.mp (mirror_perm p i j _)).trans h
theorem PermN.bubble {p : Array Nat} (h : PermN n p) (i j : Nat) : PermN n (bubble p i j) := (Array.perm_iff_toList_perm.mp (bubble_perm p i j)).trans h
noncomputable def Up (K : Nat → Nat) (p : Array Nat) (k : Nat) : Prop := ∀ i j, i ≤ j → j < k → kk K p i ≤ kk K p j
noncomputable def Down (K : Nat → Nat) (p : Array Nat) (k : Nat) : Prop := ∀ i j, i ≤ j → j < k → kk K p j ≤ kk K p i
theorem Up.next {p : Array Nat} {k : Nat} (h : Up K p k) (h1 : 1 ≤ k) (hk : kk K p (k - 1) ≤ kk K p k) : Up K p (k + 1) := by
  intro i j hij hj
  rcases Nat.lt_or_ge j k with h2 | h2
  · exact h i j hij h2
  · obtain rfl : j = k := by lia
    rcases Nat.lt_or_ge i j with h3 | h3
    · exact Nat.le_trans (h i (j - 1) (by lia) (by lia)) hk
    · obtain rfl : i = j := by lia
      exact Nat.le_refl _
theorem Down.next {p : Array Nat} {k : Nat} (h : Down K p k) (h1 : 1 ≤ k) (hk : kk K p k ≤ kk K p (k - 1)) : Down K p (k + 1) := by
  intro i j hij hj
  rcases Nat.lt_or_ge j k with h2 | h2
  · exact h i j hij h2
  · obtain rfl : j = k := by lia
    rcases Nat.lt_or_ge i j with h3 | h3
    · exact Nat.le_trans hk (h i (j - 1) (by lia) (by lia))
    · obtain rfl : i = j := by lia
      exact Nat.le_refl _
theorem asc_good {p : Array Nat} (hp : PermN n p) : ∀ (f a : Nat), 1 ≤ a → a + f ≤ n → Up K p a → Good n K (kas_asc p f a) fun m => a ≤ m ∧ m ≤ a + f ∧ Up K p m ∧ (m < a + f → kk K p m < kk K p (m - 1))
  | 0, a, h1, hn, hu => ⟨Nat.le_refl _, Nat.le_refl _, hu, fun h => absurd h (Nat.lt_irrefl _)⟩
  | f + 1, a, h1, hn, hu => by
    refine ⟨hp.lt (by lia), hp.lt (by lia), ?_⟩
    by_cases h : K (p.getD a 0) < K (p.getD (a - 1) 0)
    · rw [decide_eq_true h]; show Good n K (if true = true then _ else _) _; rw [if_pos rfl]
      exact ⟨Nat.le_refl _, by lia, hu, fun _ => h⟩
    · rw [decide_eq_false h]; show Good n K (if false = true then _ else _) _; rw [if_neg Bool.false_ne_true]
      refine good_mono (fun m hm => ?_) _ (asc_good hp f (a + 1) (by lia) (by lia) (hu.next h1 (Nat.le_of_not_lt h)))
      exact ⟨by lia, by lia, hm.2.2.1, fun hlt => hm.2.2.2 (by lia)⟩
noncomputable def Blk (K : Nat → Nat) (p : Array Nat) (a q : Nat) : Prop := ∀ i, a - (q + 1) ≤ i → i < a → kk K p i = kk K p (a - 1)
theorem desc_good : ∀ (f : Nat) (p : Array Nat) (a q : Nat), PermN n p → 1 ≤ a → q + 1 ≤ a → a + f ≤ n → Down K p a → Blk K p a q →
    Good n K (kas_desc f p a q) fun r => PermN n r.1 ∧ a ≤ r.2.1 ∧ r.2.1 ≤ a + f ∧ Down K r.1 r.2.1 ∧ r.2.2 + 1 ≤ r.2.1 ∧ Blk K r.1 r.2.1 r.2.2
  | 0, p, a, q, hp, h1, hq, hn, hd, hb => ⟨hp, Nat.le_refl _, Nat.le_refl _, hd, hq, hb⟩
  | f + 1, p, a, q, hp, h1, hq, hn, hd, hb => by
    refine ⟨hp.lt (by lia), hp.lt (by lia), ?_⟩
    by_cases h : K (p.getD a 0) < K (p.getD (a - 1) 0)
    · rw [decide_eq_true h]; show Good n K (if true = true then _ else _) _; rw [if_pos rfl]
      have hk : kk K p a ≤ kk K p (a - 1) := Nat.le_of_lt h
      split
      · have hs : a ≤ p.size := by rw [hp.size]; lia
        have ek : ∀ k, kk K (kas_rev p (a - (q + 1)) a) k = kk K p k := kk_rev_eq hs hb
        have hd' : Down K (kas_rev p (a - (q + 1)) a) (a + 1) := by
          intro i j hij hj
          rw [ek, ek]
          exact hd.next h1 hk i j hij hj
        refine good_mono (fun r hr => ?_) _ (desc_good f _ (a + 1) 0 (hp.rev _ _) (by lia) (by lia) (by lia) hd' ?_)
        · exact ⟨hr.1, by lia, by lia, hr.2.2.2⟩
        · intro i hi1 hi2
          obtain rfl : i = a := by lia
          rfl
      · refine good_mono (fun r hr => ?_) _ (desc_good f p (a + 1) 0 hp (by lia) (by lia) (by lia) (hd.next h1 hk) ?_)
        · exact ⟨hr.1, by lia, by lia, hr.2.2.2⟩
        · intro i hi1 hi2
          obtain rfl : i = a := by lia
          rfl
    · rw [decide_eq_false h]; show Good n K (if false = true then _ else _) _; rw [if_neg Bool.false_ne_true]
      refine ⟨hp.lt (by lia), hp.lt (by lia), ?_⟩
      by_cases h' : K (p.getD (a - 1) 0) < K (p.getD a 0)
      · rw [decide_eq_true h']; show Good n K (if true = true then _ else _) _; rw [if_pos rfl]
        exact ⟨hp, Nat.le_refl _, by show a ≤ _; lia, hd, hq, hb⟩
      · rw [decide_eq_false h']; show Good n K (if false = true then _ else _) _; rw [if_neg Bool.false_ne_true]
        have e : kk K p a = kk K p (a - 1) := Nat.le_antisymm (Nat.le_of_not_lt h') (Nat.le_of_not_lt h)
        refine good_mono (fun r hr => ?_) _ (desc_good f p (a + 1) (q + 1) hp (by lia) (by lia) (by lia) (hd.next h1 (Nat.le_of_eq e)) ?_)
        · exact ⟨hr.1, by lia, by lia, hr.2.2.2⟩
        · intro i hi1 hi2
          show kk K p i = kk K p a
          rcases Nat.lt_or_ge i a with h3 | h3
          · rw [e]; exact hb i (by lia) h3
          · obtain rfl : i = a := by lia
            rfl
noncomputable def Run (n : Nat) (K : Nat → Nat) (r : Nat × Array Nat) : Prop := PermN n r.2 ∧ 1 ≤ r.1 ∧ r.1 ≤ n ∧ Up K r.2 r.1
theorem tail3_good {p : Array Nat} {a : Nat} (hp : PermN n p) (h1 : 1 ≤ a) (hn : a ≤ n) (hd : Down K p a) : Good n K (kas_tail3 a n p) (Run n K) := by
  unfold kas_tail3
  have hs : a ≤ p.size := by rw [hp.size]; lia
  have hu : Up K (kas_rev p 0 a) a := by
    intro i j hij hj
    rw [kk_rev hs, kk_rev hs, if_pos ⟨Nat.zero_le _, by lia⟩, if_pos ⟨Nat.zero_le _, hj⟩]
    exact hd _ _ (by lia) (by lia)
  refine good_bind (fun m hm => ?_) _ (asc_good (hp.rev 0 a) (n - a) a h1 (by lia) hu)
  exact ⟨hp.rev 0 a, by show 1 ≤ m; lia, by show m ≤ n; lia, hm.2.2.1⟩
theorem descPart_good {p : Array Nat} {a : Nat} (hp : PermN n p) (h1 : 1 ≤ a) (hn : a + 1 ≤ n) (hd : Down K p (a + 1)) : Good n K (kas_descPart a n p) (Run n K) := by
  unfold kas_descPart
  have hb0 : Blk K p (a + 1) 0 := fun i hi1 hi2 => by
    obtain rfl : i = a := by lia
    rfl
  refine good_bind (fun r hr => ?_) _ (desc_good (n - (a + 1)) p (a + 1) 0 hp (by lia) (by lia) (by lia) hd hb0)
  obtain ⟨hp', h2, h3, hd', hq, hb⟩ := hr
  split
  · have hs : r.2.1 ≤ r.1.size := by rw [hp'.size]; lia
    refine tail3_good (hp'.rev _ _) (by lia) (by lia) ?_
    intro i j hij hj
    rw [kk_rev_eq hs hb, kk_rev_eq hs hb]
    exact hd' i j hij hj
  · exact tail3_good hp' (by lia) (by lia) hd'
theorem count_good {p : Array Nat} (hp : PermN n p) (h1 : 1 ≤ n) : Good n K (kas_count n p) (Run n K) := by
  unfold kas_count
  have hu : Up K p 1 := fun i j hij hj => by
    obtain rfl : j = 0 := by lia
    obtain rfl : i = 0 := by lia
    exact Nat.le_refl _
  refine good_bind (fun m hm => ?_) _ (asc_good hp (n - 1) 1 (Nat.le_refl _) (by lia) hu)
  obtain ⟨h2, h3, hum, hst⟩ := hm
  split
  · exact ⟨hp, h2, by show m ≤ n; lia, hum⟩
  · rename_i hne
    have hne' : m ≠ n := by simpa using hne
    have hst' : kk K p m < kk K p (m - 1) := hst (by lia)
    split
    · rename_i hm1
      refine ⟨hp.lt (by lia), hp.lt (by lia), ?_⟩
      by_cases h : K (p.getD 0 0) < K (p.getD (m - 1) 0)
      · rw [decide_eq_true h]; show Good n K (if true = true then _ else _) _; rw [if_pos rfl]
        exact ⟨hp, h2, by show m ≤ n; lia, hum⟩
      · rw [decide_eq_false h]; show Good n K (if false = true then _ else _) _; rw [if_neg Bool.false_ne_true]
        have heq : ∀ k, 0 ≤ k → k < m → kk K p k = kk K p (m - 1) := fun k _ hk => Nat.le_antisymm (hum k (m - 1) (by lia) (by lia)) (Nat.le_trans (Nat.le_of_not_lt h) (hum 0 k (Nat.zero_le _) hk))
        have hs : m ≤ p.size := by rw [hp.size]; lia
        refine descPart_good (hp.rev 0 m) h2 (by lia) ?_
        intro i j hij hj
        rw [kk_rev_eq hs heq, kk_rev_eq hs heq]
        rcases Nat.lt_or_ge j m with h4 | h4
        · rw [heq i (Nat.zero_le _) (by lia), heq j (Nat.zero_le _) h4]; exact Nat.le_refl _
        · obtain rfl : j = m := by lia
          rcases Nat.lt_or_ge i j with h5 | h5
          · rw [heq i (Nat.zero_le _) h5]; exact Nat.le_of_lt hst'
          · obtain rfl : i = j := by lia
            exact Nat.le_refl _
    · obtain rfl : m = 1 := by lia
      refine descPart_good hp (Nat.le_refl _) (by lia) ?_
      intro i j hij hj
      rcases Nat.lt_or_ge i j with h5 | h5
      · obtain rfl : j = 1 := by lia
        obtain rfl : i = 0 := by lia
        exact Nat.le_of_lt hst'
      · obtain rfl : i = j := by lia
        exact Nat.le_refl _
theorem place_good {p : Array Nat} {k : Nat} (hp : PermN n p) (hk : k < n) (hu : Up K p k) : ∀ (f l r : Nat), r - l ≤ f → l ≤ r → r ≤ k → (∀ i, i < l → kk K p i ≤ kk K p k) → (∀ i, r ≤ i → i < k → kk K p k < kk K p i) →
    Good n K (kas_place p k f l r) fun x => x ≤ k ∧ (∀ i, i < x → kk K p i ≤ kk K p k) ∧ (∀ i, x ≤ i → i < k → kk K p k < kk K p i)
  | 0, l, r, hf, hlr, hrk, ha, hb => by
    obtain rfl : l = r := by lia
    exact ⟨hrk, ha, hb⟩
  | f + 1, l, r, hf, hlr, hrk, ha, hb => by
    unfold kas_place
    split
    · obtain rfl : l = r := by lia
      exact ⟨hrk, ha, hb⟩
    · refine ⟨hp.lt hk, hp.lt (by lia), ?_⟩
      by_cases h : K (p.getD k 0) < K (p.getD ((l + r) / 2) 0)
      · rw [decide_eq_true h]; show Good n K (if true = true then _ else _) _; rw [if_pos rfl]
        exact place_good hp hk hu f l ((l + r) / 2) (by lia) (by lia) (by lia) ha fun i h1 h2 => Nat.lt_of_lt_of_le h (hu ((l + r) / 2) i h1 h2)
      · rw [decide_eq_false h]; show Good n K (if false = true then _ else _) _; rw [if_neg Bool.false_ne_true]
        exact place_good hp hk hu f ((l + r) / 2 + 1) r (by lia) (by lia) hrk (fun i h1 => Nat.le_trans (hu i ((l + r) / 2) (by lia) (by lia)) (Nat.le_of_not_lt h)) hb
theorem bin_good : ∀ (f : Nat) (p : Array Nat) (k : Nat), PermN n p → k + f ≤ n → Up K p k → Good n K (kas_bin f p k) fun p' => PermN n p' ∧ Up K p' (k + f)
  | 0, p, k, hp, hn, hu => ⟨hp, hu⟩
  | f + 1, p, k, hp, hn, hu => by
    unfold kas_bin
    refine good_bind (fun l hl => ?_) _ (place_good hp (by lia) hu k 0 k (by lia) (Nat.zero_le _) (Nat.le_refl _) (fun i h => absurd h (Nat.not_lt_zero _)) (fun i h1 h2 => by lia))
    obtain ⟨hl1, ha, hb⟩ := hl
    have hs : k < p.size := by rw [hp.size]; lia
    have hd : k - l ≤ k := Nat.sub_le _ _
    have hkl : k - (k - l) = l := by lia
    refine good_mono (fun p' hp' => ?_) _ (bin_good f (bubble p k (k - l)) (k + 1) (hp.bubble _ _) (by lia) ?_)
    · rw [show k + (f + 1) = k + 1 + f by lia]; exact hp'
    · intro i j hij hj
      rw [kk_bubble hs hd, kk_bubble hs hd, hkl]
      by_cases i1 : i = l
      · by_cases j1 : j = l
        · rw [if_pos i1, if_pos j1]; exact Nat.le_refl _
        · rw [if_pos i1, if_neg j1, if_pos (by lia)]
          exact Nat.le_of_lt (hb (j - 1) (by lia) (by lia))
      · rw [if_neg i1]
        by_cases i2 : l < i ∧ i ≤ k
        · rw [if_pos i2, if_neg (by lia), if_pos (by lia)]
          exact hu _ _ (by lia) (by lia)
        · rw [if_neg i2]
          have hil : i < l := by lia
          by_cases j1 : j = l
          · rw [if_pos j1]; exact ha i hil
          · rw [if_neg j1]
            by_cases j2 : l < j ∧ j ≤ k
            · rw [if_pos j2]; exact hu _ _ (by lia) (by lia)
            · rw [if_neg j2]; exact hu _ _ hij (by lia)
/-- the sort sorts -/
theorem sort_good (h1 : 1 ≤ n) : Good n K (kas_sort n) fun p => PermN n p ∧ Up K p n := by
  unfold kas_sort
  have hp : PermN n (List.toArray (List.range n)) := List.Perm.refl _
  refine good_bind (fun r hr => ?_) _ (count_good hp h1)
  obtain ⟨hp', h2, h3, hu⟩ := hr
  split
  · rw [Nat.max_eq_left h2]
    refine good_mono (fun p' h' => ?_) _ (bin_good (n - r.1) r.2 r.1 hp' (by lia) hu)
    rw [show n = r.1 + (n - r.1) by lia]
    rw [show r.1 + (n - r.1) = n by lia]
    refine ⟨h'.1, ?_⟩
    have := h'.2
    rw [show r.1 + (n - r.1) = n by lia] at this
    exact this
  · obtain e : r.1 = n := by lia
    rw [e] at hu
    exact ⟨hp', hu⟩
end
end Mine
end

section
open PySem PySem.W PyProof.Rows PySem.Calls
set_option Elab.async false
set_option maxRecDepth 100000
set_option maxHeartbeats 4000000
namespace Mine
section
variable {prog : Program} {w : World} {A : Around} {E : Value → Shared → Prop} {s : Shared} {h₀ : Heap} {L : Addr} {m : Str → Option Value} {news : List (Addr × Obj)} {vs : List Value}
theorem list_sort_one {a : Addr} {n : Nat} {P : PySem.Fin → Shared → Prop} (ho : s.heap.get? a = some (seqObj "list" vs.toArray n)) (h2 : vs.length < 2)
    (h : P (.done (.ret .none)) { s with heap := sortedHeap s.heap a vs vs.toArray }) : wpAny (model prog w) A (Builtin.«list.sort» ⟨[.ref a], []⟩) P E s := by
  rw [list_sort_plain]
  have ha : a < s.heap.objs.size := Heap.lt_size ho
  refine wpAny_bind (listItems_at ho rfl ?_)
  refine wpAny_bind (listUpdate_at ho rfl ?_)
  obtain ⟨e1, ho1⟩ : ∃ e1, (s.heap.update a (Obj.mapSeq fun _ => #[])).get? a = some (seqObj "list" #[] e1) := ⟨_, get?_update_seq ho (fun _ => #[])⟩
  refine wpAny_bind (seqEpoch_at ho1 rfl ?_)
  refine wpAny_bind (wpAny_newTuple ?_ (by rw [sizeLine_eq]; show vs.length ≤ _; lia))
  refine wpAny_bind (wpAny_newList ?_)
  refine wpAny_holding ?_
  have ho6 : (((s.heap.update a (Obj.mapSeq fun _ => #[])).push (seqObj "tuple" vs.toArray 0)).push (seqObj "list" #[] 0)).get? a = some (seqObj "list" #[] e1) := by
    rw [Heap.get?_push_ne _ _ _ (by rw [size_push', Heap.size_update]; exact Nat.ne_of_lt (Nat.lt_succ_of_lt ha)), Heap.get?_push_ne _ _ _ (by rw [Heap.size_update]; exact Nat.ne_of_lt ha)]
    exact ho1
  show wpAny (model prog w) A _ P E { s with heap := ((s.heap.update a (Obj.mapSeq fun _ => #[])).push (seqObj "tuple" vs.toArray 0)).push (seqObj "list" #[] 0) }
  dsimp only
  have hs2 : vs.toArray.size < 2 := by simpa using h2
  have hz : (vs.toArray.zip vs.toArray).map (·.2) = vs.toArray := by
    have := pairsOf_size vs
    apply Array.ext
    · simp
    · intro i h1 h2
      simp
  rw [if_pos hs2, if_pos hs2]
  refine wpAny_bind (wpAny_pure ?_)
  rw [StateT.run_pure]
  refine wpAny_bind (wpAny_pure ?_)
  dsimp only
  refine wpAny_bind (seqEpoch_at ho6 rfl ?_)
  refine wpAny_bind (listUpdate_at ho6 rfl ?_ (hsz2 := by rw [Array.size_map]; show (pairsOf vs).size ≤ _; rw [pairsOf_size, sizeLine_eq]; lia))
  simp only [bne_self_eq_false, Bool.false_eq_true, if_false]
  refine wpAny_pure ?_
  have e : (arrOf (SortSt.mk' general' (vs.toArray.zip vs.toArray) #[] 7 none)).map (·.2) = vs.toArray := hz
  show P _ { s with heap := (((s.heap.update a (Obj.mapSeq fun _ => #[])).push (seqObj "tuple" vs.toArray 0)).push (seqObj "list" #[] 0)).update a (Obj.mapSeq fun _ => (arrOf (SortSt.mk' general' (vs.toArray.zip vs.toArray) #[] 7 none)).map (·.2)) }
  rw [e]
  exact h
theorem sorted_one {l : Addr} {Q : Value → Shared → Prop} (F : Fr h₀ L s.heap m) (N : News h₀ L s.heap news) (hl : s.heap.IsList l vs.toArray) (h2 : vs.length < 2)
    (h : ∀ D c h', Fr h₀ L h' m → News h₀ L h' ((D, seqObj "list" vs.toArray c) :: news) → (∀ q ∈ news, q.1 < D) → Q (.ref D) { s with heap := h' }) :
    wpAny (model prog w) A (call (.builtin "sorted") [.ref l]) Q E s := by
  refine Calls.call_function_entry kind_sorted plain_sorted entry_sorted (args_sorted1 _) ?_
  unfold Builtin.«sorted»
  refine wpAny_bind (m := checkCount "sorted" 1 1 _) (wpAny_pure ?_)
  refine wpAny_bind (collect_list hl ?_ (by rw [sizeLine_eq]; lia))
  refine wpAny_bind (wpAny_newList ?_ (by rw [sizeLine_eq]; lia))
  have hsz : ((s.heap.push (seqObj "list" #[] 0)).update s.heap.objs.size (Obj.mapSeq (· ++ vs.toArray))).objs.size = s.heap.objs.size + 1 := by
    rw [Heap.size_update, size_push']
  have hoL : (((s.heap.push (seqObj "list" #[] 0)).update s.heap.objs.size (Obj.mapSeq (· ++ vs.toArray))).push (seqObj "list" vs.toArray 0)).get? (s.heap.objs.size + 1) = some (seqObj "list" vs.toArray 0) := by
    rw [← hsz]; exact Heap.get?_push_size _ rfl
  show wpAny _ _ _ _ _ { s with heap := ((s.heap.push (seqObj "list" #[] 0)).update s.heap.objs.size (Obj.mapSeq (· ++ vs.toArray))).push (seqObj "list" vs.toArray 0) }
  rw [hsz]
  obtain ⟨e, he⟩ := sortedAll_at s.heap vs vs.toArray
  refine wpAny_bind (wpAny_holding (wpAny_call_entry slot_list_sort ⟨_, hoL, rfl⟩ entry_list_sort (list_sort_one hoL h2 ⟨_, rfl, ?_⟩) (args_list_sort _)))
  exact wpAny_pure ⟨_, rfl, h _ e _ (F.kept fun _ _ => sortedAll_old) (N.kept_cons F (fun _ _ => sortedAll_old) (Nat.le_succ _) he) fun q hq => Nat.lt_succ_of_lt (Heap.lt_size (N q hq).1)⟩
/-- sorted(), by any keys that the comparisons follow -/
theorem sorted_any {l : Addr} {K : Nat → Nat} {κ₀ : SortKind} {Q : Value → Shared → Prop} (F : Fr h₀ L s.heap m) (N : News h₀ L s.heap news) (hl : s.heap.IsList l vs.toArray) (h1 : 1 ≤ vs.length) (h64 : vs.length < 64)
    (hkind : ∀ h', 2 ≤ vs.length → Fr h₀ L h' m → News h₀ L h' news → ∀ (Q' : SortKind → Shared → Prop), Q' κ₀ { s with heap := h' } → wpAny (model prog w) A.in1.in1 (keyKind' vs.toArray) Q' (fun _ _ => False) { s with heap := h' })
    (hlt : ∀ i j (C : Bool → Shared → Prop) h' tk, i < vs.length → j < vs.length → Fr h₀ L h' m → News h₀ L h' news → (∀ tk', C (decide (K i < K j)) { s with heap := h', toks := tk' }) → wpAny (model prog w) A.in1.in1 (keyLt' κ₀ (vs.getD i .none) (vs.getD j .none)) C (fun _ _ => False) { s with heap := h', toks := tk })
    (h : ∀ D c h' tk p, Fr h₀ L h' m → News h₀ L h' ((D, listOf (List.toArray (p.toList.map fun i => vs.getD i .none)) c) :: news) → (∀ q ∈ news, q.1 < D) → PermN vs.length p → Up K p vs.length → Q (.ref D) { s with heap := h', toks := tk }) :
    wpAny (model prog w) A (call (.builtin "sorted") [.ref l]) Q E s := by
  rcases Nat.lt_or_ge vs.length 2 with h2 | h2
  · refine sorted_one F N hl h2 fun D c h' F' N' lt => ?_
    obtain ⟨v, rfl⟩ : ∃ v, vs = [v] := List.length_eq_one_iff.mp (by lia)
    refine h D c h' s.toks #[0] F' N' lt (List.Perm.refl _) ?_
    intro i j hij hj
    have hj' : j < 1 := hj
    obtain rfl : j = 0 := by lia
    obtain rfl : i = 0 := by lia
    exact Nat.le_refl _
  · refine kat_sorted F N hl h2 h64 fun D e1 h' F' N' lt => ?_
    refine hkind h' h2 F' (fun q hq => N' q (.tail _ hq)) _ ?_
    refine good_wp (n := vs.length) (K := K) (I := fun s' => ∃ tk, s' = { s with heap := h', toks := tk }) ?_ ?_ _ _ (sort_good h1) ⟨s.toks, rfl⟩
    · rintro i j C s' hi hj ⟨tk, rfl⟩ hC
      exact hlt i j C h' tk hi hj F' (fun q hq => N' q (.tail _ hq)) fun tk' => hC _ ⟨tk', rfl⟩
    · rintro p s' ⟨tk, rfl⟩ ⟨hp, hu⟩
      refine KasFin.intro F' N' (UpdF.head ?_) fun h'' c F'' N'' => ?_
      · intro q hq
        exact Nat.ne_of_lt (lt q hq)
      · exact h D c h'' tk p F'' N'' lt hp hu
end
end Mine
end

section
open PySem PySem.Sre
set_option maxRecDepth 100000
namespace Mine
/-- the words of the search -/
noncomputable def rCode : Array Nat := #[14, 17, 4, 1, 1, 21, 9, 0, 604043296, 1, 0, 0, 0, 0, 0, 8, 4, 0, 13, 14, 21, 9, 0, 604043296, 1, 0, 0, 0, 0, 0, 8, 4, 0, 1]
/-- the words of its set -/
noncomputable def rSet (k : Nat) : Nat := (#[0, 604043296, 1, 0, 0, 0, 0, 0] : Array Nat).getD k 0
/-- a sign that a shell might read -/
noncomputable def risky (c : Nat) : Bool := !((decide (c < 256) && (rCode.getD (6 + (1 + c / 32)) 0).testBit (c % 32)) || isWord c)
theorem in5 (c n : Nat) (seen : Seen) : inSet rCode c (n + 1) 5 true seen = inSet rCode c n 6 false (seen.add 21) := rfl
theorem in20 (c n : Nat) (seen : Seen) : inSet rCode c (n + 1) 20 true seen = inSet rCode c n 21 false (seen.add 21) := rfl
theorem in6 (c n : Nat) (seen : Seen) : inSet rCode c (n + 1) 6 false seen = if (decide (c < 256) && (rCode.getD (6 + (1 + c / 32)) 0).testBit (c % 32)) = true then .ok (false, seen.add 9) else inSet rCode c n 15 false (seen.add 9) := rfl
theorem in21 (c n : Nat) (seen : Seen) : inSet rCode c (n + 1) 21 false seen = if (decide (c < 256) && (rCode.getD (21 + (1 + c / 32)) 0).testBit (c % 32)) = true then .ok (false, seen.add 9) else inSet rCode c n 30 false (seen.add 9) := rfl
theorem cat4 (c : Nat) : category 4 c = .ok (isWord c) := by
  show Except.ok (isWord c != (4 % 2 == 1)) = _
  cases isWord c <;> rfl
theorem in15 (c n : Nat) (seen : Seen) : ∃ s', inSet rCode c (n + 2) 15 false seen = .ok (!isWord c, s') := by
  have e : inSet rCode c (n + 2) 15 false seen = (do if ← category 4 c then pure (false, (seen.add 8).add 59) else inSet rCode c (n + 1) 17 false ((seen.add 8).add 59)) := rfl
  rw [e, cat4]
  cases h : isWord c
  · exact ⟨_, rfl⟩
  · exact ⟨_, rfl⟩
theorem in30 (c n : Nat) (seen : Seen) : ∃ s', inSet rCode c (n + 2) 30 false seen = .ok (!isWord c, s') := by
  have e : inSet rCode c (n + 2) 30 false seen = (do if ← category 4 c then pure (false, (seen.add 8).add 59) else inSet rCode c (n + 1) 32 false ((seen.add 8).add 59)) := rfl
  rw [e, cat4]
  cases h : isWord c
  · exact ⟨_, rfl⟩
  · exact ⟨_, rfl⟩
theorem code_shift (c : Nat) (h : c < 256) : rCode.getD (21 + (1 + c / 32)) 0 = rCode.getD (6 + (1 + c / 32)) 0 := by
  have : c / 32 < 8 := by lia
  revert this
  generalize c / 32 = k
  revert k
  decide
theorem set5 (c : Nat) (seen : Seen) : ∃ s', inSet rCode c 34 5 true seen = .ok (risky c, s') := by
  rw [in5, in6]
  unfold risky
  split
  · rename_i h; rw [h]; exact ⟨_, rfl⟩
  · rename_i h; rw [Bool.not_eq_true] at h; rw [h]; exact in15 c 30 _
theorem set20 (c : Nat) (seen : Seen) : ∃ s', inSet rCode c 34 20 true seen = .ok (risky c, s') := by
  have e : (decide (c < 256) && (rCode.getD (21 + (1 + c / 32)) 0).testBit (c % 32)) = (decide (c < 256) && (rCode.getD (6 + (1 + c / 32)) 0).testBit (c % 32)) := by
    by_cases h : c < 256
    · rw [code_shift c h]
    · simp [h]
  rw [in20, in21, e]
  unfold risky
  split
  · rename_i h; rw [h]; exact ⟨_, rfl⟩
  · rename_i h; rw [Bool.not_eq_true] at h; rw [h]; exact in30 c 30 _
theorem adm_none (m : M) (hc : m.code = rCode) (hall : ∀ i, i < m.lim → risky (m.text.getD i 0) = false) : ∀ (fuel s : Nat) (seen : Seen), ∃ s', M.admitted m fuel s seen = .ok (none, s')
  | 0, _, _ => ⟨_, rfl⟩
  | fuel + 1, s, seen => by
    unfold M.admitted
    split
    · exact ⟨_, rfl⟩
    · rename_i hs
      obtain ⟨s', e⟩ := set5 (m.text.getD s 0) seen
      rw [hc, show rCode.size = 34 from rfl, e, hall s (by lia)]
      exact adm_none m hc hall fuel (s + 1) s'
theorem adm_some (m : M) (hc : m.code = rCode) : ∀ (fuel s : Nat) (seen : Seen), m.lim < fuel + s → (∃ i, s ≤ i ∧ i < m.lim ∧ risky (m.text.getD i 0) = true) → ∃ i s', M.admitted m fuel s seen = .ok (some i, s') ∧ i < m.lim ∧ risky (m.text.getD i 0) = true
  | 0, s, _, h, ⟨i, h1, h2, _⟩ => by lia
  | fuel + 1, s, seen, h, ⟨i, h1, h2, h3⟩ => by
    unfold M.admitted
    split
    · lia
    · rename_i hs
      obtain ⟨s', e⟩ := set5 (m.text.getD s 0) seen
      rw [hc, show rCode.size = 34 from rfl, e]
      cases hr : risky (m.text.getD s 0)
      · refine adm_some m hc fuel (s + 1) s' (by lia) ⟨i, ?_, h2, h3⟩
        rcases Nat.eq_or_lt_of_le h1 with rfl | h
        · rw [h3] at hr; cases hr
        · exact h
      · exact ⟨s, s', rfl, by lia, hr⟩
/-- the machine at its start -/
noncomputable def rM (text : Array Nat) : M := { code := rCode, text, lim := text.size, start := 0, pc := 18, pos := 0, handed := 0, marks := #[], seen := ({} : Seen).add 14, lastStart := text.size }
theorem search_eq (text : Array Nat) (h : 1 ≤ text.size) : forSearch rCode text 0 0 text.size false = (rM text).attemptFrom 0 true := by
  have e : forSearch rCode text 0 0 text.size false = if (decide (0 > text.size) || decide (text.size - 0 < 1)) = true then (M.say { rM text with lastStart := 0 } false) else (rM text).attemptFrom 0 true := rfl
  rw [e, if_neg (by simp only [Bool.or_eq_true, decide_eq_true_eq]; lia)]
theorem from_eq (text : Array Nat) : (rM text).attemptFrom 0 true = match M.admitted (rM text) (text.size + 1 - 0) 0 (rM text).seen with
  | .ok (some s, seen) => { rM text with mustAdvance := false, seen }.attemptAt s true
  | .ok (none, seen) => { rM text with seen }.say false
  | .error why => (rM text).stick why := rfl
theorem search_none (text : Array Nat) (h : 1 ≤ text.size) (hall : ∀ i, i < text.size → risky (text.getD i 0) = false) :
    (((forSearch rCode text 0 0 text.size false).runFor 4).outcome = some .failed) := by
  rw [search_eq text h, from_eq]
  obtain ⟨s', e⟩ := adm_none (rM text) rfl hall (text.size + 1 - 0) 0 (rM text).seen
  rw [e]
  rfl
theorem search_some (text : Array Nat) (h : 1 ≤ text.size) (hall : ∃ i, i < text.size ∧ risky (text.getD i 0) = true) :
    (((forSearch rCode text 0 0 text.size false).runFor 4).outcome = some .matched) := by
  rw [search_eq text h, from_eq]
  obtain ⟨i, hi, hr⟩ := hall
  obtain ⟨k, s', e, hk, hr⟩ := adm_some (rM text) rfl (text.size + 1 - 0) 0 (rM text).seen (by show text.size < _; lia) ⟨i, Nat.zero_le _, hi, hr⟩
  rw [e]
  have hk' : ¬ (k ≥ text.size) := Nat.not_le.mpr hk
  obtain ⟨s'', e2⟩ := set20 (text.getD k 0) (s'.add 13)
  have hr' : risky (text.getD k 0) = true := hr
  rw [hr'] at e2
  -- the four steps
  have e3 : ({ rM text with mustAdvance := false, seen := s' } : M).attemptAt k true = { rM text with seen := s', start := k, pos := k, handed := k, outermost := true, frames := [{ wait := .nextStart, pc := 18, pos := k, outermost := true }], weight := 1 } := rfl
  show ((M.runFor 4 (({ rM text with mustAdvance := false, seen := s' } : M).attemptAt k true)).outcome = _)
  rw [e3]
  generalize hm : ({ rM text with seen := s', start := k, pos := k, handed := k, outermost := true, frames := [{ wait := .nextStart, pc := 18, pos := k, outermost := true }], weight := 1 } : M) = m
  have e4 : m.step = if m.pos ≥ m.lim then ({ m with seen := s'.add 13 } : M).say false else match accepts rCode 18 (text.getD k 0) (s'.add 13) with
    | .error why => ({ m with seen := s'.add 13 } : M).stick why
    | .ok (false, seen) => ({ m with seen } : M).say false
    | .ok (true, seen) => { m with seen, pc := 33, pos := k + 1 } := by subst hm; rfl
  have e5 : accepts rCode 18 (text.getD k 0) (s'.add 13) = .ok (true, s'') := e2
  have e6 : m.step = { m with seen := s'', pc := 33, pos := k + 1 } := by
    rw [e4, if_neg (by subst hm; exact hk'), e5]
  have e7 : m.runFor 4 = (m.step).runFor 3 := by subst hm; rfl
  rw [e7, e6]
  subst hm
  rfl
end Mine
end

section
namespace Mine

/-- strict lexicographic order on words of numbers -/
noncomputable def lexLt : List Nat → List Nat → Bool
  | _, [] => false
  | [], _ :: _ => true
  | a :: x, b :: y => decide (a < b) || (a == b && lexLt x y)

theorem lexLt_nil_right (x : List Nat) : lexLt x [] = false := by cases x <;> rfl
theorem lexLt_nil_cons (b : Nat) (y : List Nat) : lexLt [] (b :: y) = true := rfl
theorem lexLt_cons (a b : Nat) (x y : List Nat) : lexLt (a :: x) (b :: y) = (decide (a < b) || (a == b && lexLt x y)) := rfl
theorem lexLt_cons_iff {a b : Nat} {x y : List Nat} : lexLt (a :: x) (b :: y) = true ↔ a < b ∨ (a = b ∧ lexLt x y = true) := by
  simp [lexLt_cons]
theorem lexLt_irrefl : ∀ x : List Nat, lexLt x x = false
  | [] => rfl
  | a :: x => by simp [lexLt_cons, lexLt_irrefl x]
theorem lexLt_trans : ∀ {x y z : List Nat}, lexLt x y = true → lexLt y z = true → lexLt x z = true
  | x, y, [], _, h => by rw [lexLt_nil_right] at h; cases h
  | x, [], _ :: _, h, _ => by rw [lexLt_nil_right] at h; cases h
  | [], _ :: _, _ :: _, _, _ => rfl
  | a :: x, b :: y, c :: z, h1, h2 => by
    rw [lexLt_cons_iff] at *
    rcases h1 with h1 | ⟨rfl, h1⟩ <;> rcases h2 with h2 | ⟨rfl, h2⟩
    · left; lia
    · left; lia
    · left; lia
    · exact .inr ⟨rfl, lexLt_trans h1 h2⟩
theorem lexLt_total : ∀ {x y : List Nat}, lexLt x y = false → lexLt y x = false → x = y
  | [], [], _, _ => rfl
  | [], _ :: _, h, _ => by cases h
  | _ :: _, [], _, h => by cases h
  | a :: x, b :: y, h1, h2 => by
    have n1 : ¬ (a < b ∨ (a = b ∧ lexLt x y = true)) := by rw [← lexLt_cons_iff, h1]; simp
    have n2 : ¬ (b < a ∨ (b = a ∧ lexLt y x = true)) := by rw [← lexLt_cons_iff, h2]; simp
    have e : a = b := by lia
    subst e
    have q1 : lexLt x y = false := by cases h : lexLt x y with | false => rfl | true => exact absurd (Or.inr ⟨rfl, h⟩) n1
    have q2 : lexLt y x = false := by cases h : lexLt y x with | false => rfl | true => exact absurd (Or.inr ⟨rfl, h⟩) n2
    rw [lexLt_total q1 q2]
theorem lexLt_asymm {x y : List Nat} (h : lexLt x y = true) : lexLt y x = false := by
  cases q : lexLt y x with
  | false => rfl
  | true => have := lexLt_trans h q; rw [lexLt_irrefl] at this; cases this
/-- ≤ as «not greater» -/
noncomputable def lexLe (x y : List Nat) : Prop := lexLt y x = false
theorem lexLe_refl (x : List Nat) : lexLe x x := lexLt_irrefl x
theorem lexLe_of_lt {x y : List Nat} (h : lexLt x y = true) : lexLe x y := lexLt_asymm h
theorem lexLt_or {x y : List Nat} (h : lexLe x y) : x = y ∨ lexLt x y = true := by
  cases q : lexLt x y with
  | true => exact .inr rfl
  | false => exact .inl (lexLt_total q h)
theorem lexLe_trans {x y z : List Nat} (h1 : lexLe x y) (h2 : lexLe y z) : lexLe x z := by
  rcases lexLt_or h1 with rfl | a
  · exact h2
  · rcases lexLt_or h2 with rfl | b
    · exact h1
    · exact lexLe_of_lt (lexLt_trans a b)
theorem lexLt_of_le_lt {x y z : List Nat} (h1 : lexLe x y) (h2 : lexLt y z = true) : lexLt x z = true := by
  rcases lexLt_or h1 with rfl | a
  · exact h2
  · exact lexLt_trans a h2
theorem lexLt_of_lt_le {x y z : List Nat} (h1 : lexLt x y = true) (h2 : lexLe y z) : lexLt x z = true := by
  rcases lexLt_or h2 with rfl | a
  · exact h1
  · exact lexLt_trans h1 a
theorem lexLe_antisymm {x y : List Nat} (h1 : lexLe x y) (h2 : lexLe y x) : x = y := lexLt_total h2 h1
theorem lexLe_total (x y : List Nat) : lexLe x y ∨ lexLe y x := by
  cases q : lexLt x y with
  | true => exact .inl (lexLe_of_lt q)
  | false => exact .inr q

theorem lexLt_append_left (p : List Nat) (x y : List Nat) : lexLt (p ++ x) (p ++ y) = lexLt x y := by
  induction p with
  | nil => rfl
  | cons a p ih => simp [lexLt_cons, ih]
theorem lexLt_prefix (x : List Nat) (b : Nat) (y : List Nat) : lexLt x (x ++ b :: y) = true := by
  have := lexLt_append_left x [] (b :: y)
  rw [List.append_nil] at this
  exact this
theorem lexLt_prefix' {x y : List Nat} (h : y ≠ []) : lexLt x (x ++ y) = true := by
  cases y with
  | nil => exact absurd rfl h
  | cons b y => exact lexLt_prefix x b y

/-- x and y part at a letter, x's is the less -/
noncomputable def parts (x y : List Nat) : Prop := ∃ p a b x' y', x = p ++ a :: x' ∧ y = p ++ b :: y' ∧ a < b
theorem parts.lt {x y : List Nat} (h : parts x y) (r s : List Nat) : lexLt (x ++ r) (y ++ s) = true := by
  obtain ⟨p, a, b, x', y', rfl, rfl, hab⟩ := h
  rw [List.append_assoc, List.append_assoc, lexLt_append_left]
  simp [lexLt_cons, hab]
theorem lexLt_cases : ∀ {x y : List Nat}, lexLt x y = true → parts x y ∨ ∃ b z, y = x ++ b :: z
  | _, [], h => by rw [lexLt_nil_right] at h; cases h
  | [], b :: y, _ => .inr ⟨b, y, rfl⟩
  | a :: x, b :: y, h => by
    rw [lexLt_cons_iff] at h
    rcases h with h | ⟨rfl, h⟩
    · exact .inl ⟨[], a, b, x, y, rfl, rfl, h⟩
    · rcases lexLt_cases h with ⟨p, c, d, x', y', rfl, rfl, hcd⟩ | ⟨c, z, rfl⟩
      · exact .inl ⟨a :: p, c, d, x', y', rfl, rfl, hcd⟩
      · exact .inr ⟨c, z, rfl⟩
theorem parts.trans_le {x y z : List Nat} (h : parts x y) (h2 : lexLe y z) : parts x z := by
  have hx : lexLt x z = true := lexLt_of_lt_le (by simpa using h.lt [] []) h2
  rcases lexLt_cases hx with q | ⟨b, w, rfl⟩
  · exact q
  · exfalso
    obtain ⟨p, c, d, x', y', rfl, rfl, hcd⟩ := h
    have : lexLt ((p ++ c :: x') ++ b :: w) (p ++ d :: y') = true := by
      rw [List.append_assoc, lexLt_append_left]; simp [lexLt_cons, hcd]
    unfold lexLe at h2
    rw [this] at h2
    cases h2

theorem lexLt_same_length {x y r s : List Nat} (hl : x.length = y.length) : lexLt (x ++ r) (y ++ s) = true ↔ lexLt x y = true ∨ (x = y ∧ lexLt r s = true) := by
  induction x generalizing y with
  | nil =>
    cases y with
    | nil => simp [lexLt_irrefl]
    | cons _ _ => cases hl
  | cons a x ih =>
    cases y with
    | nil => cases hl
    | cons b y =>
      simp only [List.length_cons, Nat.add_right_cancel_iff] at hl
      simp only [List.cons_append, lexLt_cons_iff, ih hl, List.cons.injEq]
      constructor
      · rintro (h | ⟨rfl, h | ⟨rfl, h⟩⟩)
        · exact .inl (.inl h)
        · exact .inl (.inr ⟨rfl, h⟩)
        · exact .inr ⟨⟨rfl, rfl⟩, h⟩
      · rintro ((h | ⟨rfl, h⟩) | ⟨⟨rfl, rfl⟩, h⟩)
        · exact .inl h
        · exact .inr ⟨rfl, .inl h⟩
        · exact .inr ⟨rfl, .inr ⟨rfl, h⟩⟩

/-- a Lyndon word: not empty, less than each of its proper suffixes -/
noncomputable def Lyndon (w : List Nat) : Prop := w ≠ [] ∧ ∀ x v, w = x ++ v → x ≠ [] → v ≠ [] → lexLt w v = true

theorem Lyndon.parts {w x v : List Nat} (h : Lyndon w) (e : w = x ++ v) (hx : x ≠ []) (hv : v ≠ []) : Mine.parts w v := by
  rcases lexLt_cases (h.2 x v e hx hv) with q | ⟨b, z, q⟩
  · exact q
  · exfalso
    have := congrArg List.length q
    have := congrArg List.length e
    simp only [List.length_append, List.length_cons] at *
    lia

/-- a proper suffix z of a Lyndon word w, and words none of which is greater than w: they stand below z -/
theorem Lyndon.below {w : List Nat} (h : Lyndon w) (Y : List Nat) : ∀ (xs : List (List Nat)) (x z : List Nat), w = x ++ z → x ≠ [] → z ≠ [] → (∀ v ∈ xs, lexLe v w) → lexLt xs.flatten (z ++ Y) = true
  | [], x, z, e, hx, hz, _ => by
    cases z with
    | nil => exact absurd rfl hz
    | cons b z => rfl
  | v :: xs, x, z, e, hx, hz, hv => by
    have hp := h.parts e hx hz
    have hle : lexLe v w := hv v (.head _)
    rcases lexLt_or hle with rfl | hlt
    · rw [List.flatten_cons]; exact hp.lt _ _
    · rcases lexLt_cases hlt with q | ⟨b, r, hw⟩
      · rw [List.flatten_cons]
        exact (q.trans_le (lexLe_of_lt (by simpa using hp.lt [] []))).lt _ _
      · -- v is a prefix of w
        obtain ⟨p, c, d, w', z', hw1, hz1, hcd⟩ := hp
        rw [List.flatten_cons]
        by_cases hlen : p.length < v.length
        · -- v goes beyond the parting
          have hv1 : ∃ v', v = p ++ c :: v' := by
            have e1 : p ++ c :: w' = v ++ b :: r := hw1.symm.trans hw
            obtain ⟨k, hk⟩ : ∃ k, v.length = p.length + 1 + k := ⟨v.length - p.length - 1, by lia⟩
            refine ⟨w'.take k, ?_⟩
            have := congrArg (List.take v.length) e1
            rw [List.take_left, hk, List.take_append] at this
            rw [← this]
            have e2 : p.length + 1 + k - p.length = k + 1 := by lia
            rw [e2, List.take_of_length_le (by lia), List.take_succ_cons]
          obtain ⟨v', rfl⟩ := hv1
          rw [hz1]
          exact (show Mine.parts (p ++ c :: v') (p ++ d :: z') from ⟨p, c, d, v', z', rfl, rfl, hcd⟩).lt _ _
        · -- v is a prefix of z too
          have hvp : ∃ p', p = v ++ p' := by
            have e1 : p ++ c :: w' = v ++ b :: r := hw1.symm.trans hw
            refine ⟨p.drop v.length, ?_⟩
            have h1 := congrArg (List.take v.length) e1
            rw [List.take_left, List.take_append_of_le_length (by lia)] at h1
            conv => lhs; rw [← List.take_append_drop v.length p, h1]
          obtain ⟨p', rfl⟩ := hvp
          have hz2 : z = v ++ (p' ++ d :: z') := by rw [hz1, List.append_assoc]
          rw [hz2, List.append_assoc, lexLt_append_left]
          refine Lyndon.below h Y xs (x ++ v) (p' ++ d :: z') ?_ ?_ ?_ fun y hy => hv y (.tail _ hy)
          · rw [List.append_assoc, ← hz2]; exact e
          · cases x <;> simp at hx ⊢
          · simp
end Mine
end

section
namespace Mine

noncomputable def cutsGo (u : List Nat) : Nat → Nat → Nat → List Nat
  | 0, _, _ => []
  | f + 1, place, c => if lexLt (u.drop place) (u.drop c) = true then place :: cutsGo u f (place + 1) place else cutsGo u f (place + 1) c
noncomputable def cuts (u : List Nat) : List Nat := 0 :: cutsGo u (u.length - 1) 1 0 ++ [u.length]
noncomputable def segs (u : List Nat) : List Nat → List (List Nat)
  | a :: b :: r => ((u.drop a).take (b - a)) :: segs u (b :: r)
  | _ => []
noncomputable def factors (u : List Nat) : List (List Nat) := segs u (cuts u)
noncomputable def starts : Nat → List (List Nat) → List Nat
  | _, [] => []
  | k, w :: r => k :: starts (k + w.length) r

theorem Lyndon.desc {w : List Nat} (h : Lyndon w) : ∀ ws : List (List Nat), (∀ v ∈ ws, Lyndon v) → (∀ v ∈ ws, lexLe v w) → lexLt ws.flatten (w ++ ws.flatten) = true
  | [], _, _ => by
    have := lexLt_prefix' (x := []) (y := w) h.1
    simpa using this
  | v :: r, hL, hle => by
    rw [List.flatten_cons]
    rcases lexLt_or (hle v (.head _)) with rfl | hlt
    · rw [lexLt_append_left]
      exact Lyndon.desc h r (fun y hy => hL y (.tail _ hy)) fun y hy => hle y (.tail _ hy)
    · rcases lexLt_cases hlt with q | ⟨b, z, hw⟩
      · exact q.lt _ _
      · have hv := hL v (.head _)
        have := Lyndon.below h (v ++ r.flatten) r v (b :: z) hw hv.1 (by simp) fun y hy => hle y (.tail _ hy)
        rw [show w ++ (v ++ r.flatten) = v ++ ((b :: z) ++ (v ++ r.flatten)) by rw [← List.append_assoc v, ← hw], lexLt_append_left]
        exact this

theorem cutsGo_inner {w : List Nat} (h : Lyndon w) (pre R : List Nat) : ∀ (z x : List Nat), w = x ++ z → x ≠ [] →
    cutsGo (pre ++ (w ++ R)) (z.length + R.length) (pre.length + x.length) pre.length = cutsGo (pre ++ (w ++ R)) R.length (pre.length + w.length) pre.length
  | [], x, e, _ => by
    rw [List.append_nil] at e
    subst e
    simp
  | b :: z, x, e, hx => by
    have e1 : (b :: z).length + R.length = (z.length + R.length) + 1 := by simp; lia
    rw [e1, cutsGo]
    have d1 : (pre ++ (w ++ R)).drop (pre.length + x.length) = (b :: z) ++ R := by
      rw [e, List.append_assoc, ← List.append_assoc pre, ← List.length_append, List.drop_left]
    have d2 : (pre ++ (w ++ R)).drop pre.length = w ++ R := List.drop_left ..
    have hp := h.parts e hx (by simp)
    rw [d1, d2, if_neg (by rw [lexLt_asymm (hp.lt R R)]; simp)]
    have := cutsGo_inner h pre R z (x ++ [b]) (by rw [e]; simp) (by simp)
    rw [List.length_append, List.length_singleton, ← Nat.add_assoc] at this
    exact this

theorem cutsGo_words : ∀ (rest : List (List Nat)) (w pre : List Nat), Lyndon w → (∀ v ∈ rest, Lyndon v) → (w :: rest).Pairwise (fun a b => lexLe b a) →
    cutsGo (pre ++ (w ++ rest.flatten)) (w.length - 1 + rest.flatten.length) (pre.length + 1) pre.length = starts (pre.length + w.length) rest
  | rest, w, pre, hw, hL, hP => by
    obtain ⟨b, w', rfl⟩ : ∃ b w', w = b :: w' := by
      cases w with
      | nil => exact absurd rfl hw.1
      | cons b w' => exact ⟨b, w', rfl⟩
    have := cutsGo_inner hw pre rest.flatten w' [b] rfl (by simp)
    rw [List.length_singleton] at this
    rw [show (b :: w').length - 1 = w'.length by simp, this]
    cases rest with
    | nil => simp [cutsGo, starts]
    | cons v r =>
      obtain ⟨c, v', rfl⟩ : ∃ c v', v = c :: v' := by
        cases v with
        | nil => exact absurd rfl (hL [] (.head _)).1
        | cons c v' => exact ⟨c, v', rfl⟩
      have hle : ∀ y ∈ ((c :: v') :: r), lexLe y (b :: w') := (List.pairwise_cons.mp hP).1
      have hd := hw.desc ((c :: v') :: r) hL hle
      have e1 : ((c :: v') :: r).flatten.length = (v'.length + r.flatten.length) + 1 := by simp
      rw [e1, cutsGo]
      have d1 : (pre ++ ((b :: w') ++ ((c :: v') :: r).flatten)).drop (pre.length + (b :: w').length) = ((c :: v') :: r).flatten := by
        rw [← List.append_assoc, ← List.length_append, List.drop_left]
      have d2 : (pre ++ ((b :: w') ++ ((c :: v') :: r).flatten)).drop pre.length = (b :: w') ++ ((c :: v') :: r).flatten := List.drop_left ..
      rw [d1, d2, if_pos hd, starts]
      have ih := cutsGo_words r (c :: v') (pre ++ (b :: w')) (hL _ (.head _)) (fun y hy => hL y (.tail _ hy)) (List.pairwise_cons.mp hP).2
      rw [List.length_append, List.append_assoc] at ih
      rw [show (c :: v').length - 1 = v'.length by simp] at ih
      rw [List.flatten_cons, ih]

theorem segs_starts : ∀ (ws : List (List Nat)) (pre : List Nat), segs (pre ++ ws.flatten) (starts pre.length ws ++ [pre.length + ws.flatten.length]) = ws
  | [], pre => by simp [starts, segs]
  | [w], pre => by simp [starts, segs]
  | w :: v :: r, pre => by
    have ih := segs_starts (v :: r) (pre ++ w)
    simp only [starts, List.cons_append, segs] at ih ⊢
    rw [List.length_append, List.append_assoc] at ih
    have e : pre.length + w.length + (v :: r).flatten.length = pre.length + (w :: v :: r).flatten.length := by simp; lia
    rw [e] at ih
    rw [show (w :: v :: r).flatten = w ++ (v :: r).flatten from rfl] at ih ⊢
    rw [ih]
    congr 1
    rw [List.drop_left, Nat.add_sub_cancel_left, List.take_left]

theorem factors_words {ws : List (List Nat)} (hne : ws ≠ []) (hL : ∀ v ∈ ws, Lyndon v) (hP : ws.Pairwise (fun a b => lexLe b a)) : factors ws.flatten = ws := by
  cases ws with
  | nil => exact absurd rfl hne
  | cons w rest =>
    have hw := hL w (.head _)
    have h1 := cutsGo_words rest w [] hw (fun v hv => hL v (.tail _ hv)) hP
    have hlen : (w :: rest).flatten.length - 1 = w.length - 1 + rest.flatten.length := by
      have : w.length ≠ 0 := fun e => hw.1 (List.eq_nil_of_length_eq_zero e)
      simp; lia
    unfold factors cuts
    rw [hlen]
    simp only [List.nil_append, List.length_nil, Nat.zero_add] at h1
    rw [show (w :: rest).flatten = w ++ rest.flatten from rfl, h1]
    have := segs_starts (w :: rest) []
    simp only [List.nil_append, List.length_nil, Nat.zero_add, starts, List.cons_append] at this
    rw [List.cons_append]
    exact this
end Mine
end

section
namespace Mine

noncomputable def rot {α : Type} (w : List α) (k : Nat) : List α := w.drop k ++ w.take k

theorem lyndon_of_rot {w : List Nat} (hne : w ≠ []) (h : ∀ j, 0 < j → j < w.length → lexLt w (rot w j) = true) : Lyndon w := by
  refine ⟨hne, fun x v e hx hv => ?_⟩
  have lx : x.length ≠ 0 := fun q => hx (List.eq_nil_of_length_eq_zero q)
  have lv : v.length ≠ 0 := fun q => hv (List.eq_nil_of_length_eq_zero q)
  have lw : w.length = x.length + v.length := by rw [e, List.length_append]
  cases q : lexLt w v with
  | true => rfl
  | false =>
    exfalso
    have hx1 := h x.length (by lia) (by lia)
    rw [rot, e, List.drop_left, List.take_left] at hx1
    rcases lexLt_or (show lexLe v w from q) with q1 | q1
    · have := congrArg List.length q1; lia
    · rcases lexLt_cases q1 with q2 | ⟨b, z, q2⟩
      · have := q2.lt x []
        rw [List.append_nil, e] at this
        rw [lexLt_asymm this] at hx1
        cases hx1
      · -- w = v ++ y
        have hv1 := h v.length (by lia) (by lia)
        rw [rot] at hv1
        have d1 : w.drop v.length = b :: z := by rw [q2, List.drop_left]
        have d2 : w.take v.length = v := by rw [q2, List.take_left]
        rw [d1, d2] at hv1
        rw [← e] at hx1
        have ly : x.length = (b :: z).length := by
          have := congrArg List.length q2
          rw [List.length_append] at this
          lia
        rw [e] at hv1
        rw [q2, lexLt_append_left] at hx1
        rcases (lexLt_same_length ly).mp hv1 with q3 | ⟨_, q3⟩
        · rw [lexLt_asymm q3] at hx1; cases hx1
        · rw [lexLt_irrefl] at q3; cases q3

noncomputable def it (nx : Nat → Nat) : Nat → Nat → Nat
  | 0, p => p
  | k + 1, p => it nx k (nx p)
theorem it_add (nx : Nat → Nat) : ∀ (a b p : Nat), it nx (a + b) p = it nx b (it nx a p)
  | 0, b, p => by rw [Nat.zero_add]; rfl
  | a + 1, b, p => by rw [Nat.add_right_comm, it, it, it_add nx a b]
theorem it_succ (nx : Nat → Nat) (k p : Nat) : it nx (k + 1) p = nx (it nx k p) := by rw [it_add]; rfl

structure Std (n : Nat) (F nx t : Nat → Nat) : Prop where
  lt : ∀ i, i < n → nx i < n
  inj : ∀ i j, i < n → j < n → nx i = nx j → i = j
  rise : ∀ i j, i < j → j < n → F i < F j ∨ (F i = F j ∧ nx i < nx j)
  back : ∀ i, i < n → t (nx i) = F i

theorem Std.it_lt {n : Nat} {F nx t : Nat → Nat} (S : Std n F nx t) : ∀ (k p : Nat), p < n → it nx k p < n
  | 0, _, h => h
  | k + 1, p, h => S.it_lt k _ (S.lt p h)

/-- a closed ring: k steps from a lead back to a -/
noncomputable def Ring (nx : Nat → Nat) (n : Nat) (c : List Nat) : Prop := ∃ a k, 0 < k ∧ c = (List.range k).map (fun j => it nx j a) ∧ it nx k a = a ∧ a < n

theorem it_period {nx : Nat → Nat} {k a : Nat} (h : it nx k a = a) (i : Nat) : it nx (k + i) a = it nx i a := by rw [it_add, h]
theorem it_periods {nx : Nat → Nat} {k a : Nat} (h : it nx k a = a) : ∀ r i, it nx (r * k + i) a = it nx i a
  | 0, i => by rw [Nat.zero_mul, Nat.zero_add]
  | r + 1, i => by rw [Nat.succ_mul, Nat.add_right_comm, Nat.add_comm, it_period h, it_periods h r]
theorem it_ring {nx : Nat → Nat} {k a : Nat} (h : it nx k a = a) (j : Nat) : it nx k (it nx j a) = it nx j a := by
  rw [← it_add, Nat.add_comm, it_period h]

theorem ring_rot {nx : Nat → Nat} {k a j : Nat} (h : it nx k a = a) (hj : j ≤ k) :
    rot ((List.range k).map (fun i => it nx i a)) j = (List.range k).map (fun i => it nx i (it nx j a)) := by
  apply List.ext_getElem
  · simp [rot]; lia
  · intro i h1 h2
    simp only [rot, List.getElem_append, List.length_drop, List.length_map, List.length_range, List.getElem_map, List.getElem_range, List.getElem_drop, List.getElem_take]
    rw [← it_add]
    split
    · rfl
    · rename_i hi
      have : j + i = k + (i - (k - j)) := by lia
      rw [this, it_period h]

noncomputable def Wp (F nx : Nat → Nat) (m p : Nat) : List Nat := (List.range m).map (fun k => F (it nx k p))
theorem Wp_succ (F nx : Nat → Nat) (m p : Nat) : Wp F nx (m + 1) p = F p :: Wp F nx m (nx p) := by
  unfold Wp
  rw [List.range_succ_eq_map, List.map_cons, List.map_map]
  rfl
noncomputable def endl (m : Nat) (row : List Nat) : List Nat := ((List.replicate m row).flatten).take m

theorem ring_rep {nx F : Nat → Nat} {k a : Nat} (h : it nx k a = a) : ∀ r, (List.replicate r ((List.range k).map (fun i => F (it nx i a)))).flatten = (List.range (r * k)).map (fun i => F (it nx i a))
  | 0 => by simp
  | r + 1 => by
    rw [List.replicate_succ, List.flatten_cons, ring_rep h r, Nat.succ_mul, Nat.add_comm, List.range_add, List.map_append, List.map_map]
    congr 1
    apply List.map_congr_left
    intro i _
    show _ = F (it nx (k + i) a)
    rw [it_period h]
theorem ring_endl {nx F : Nat → Nat} {k a : Nat} (hk : 0 < k) (h : it nx k a = a) (m : Nat) : endl m ((List.range k).map (fun i => F (it nx i a))) = Wp F nx m a := by
  unfold endl Wp
  rw [ring_rep h, ← List.map_take, List.take_range]
  have : min m (m * k) = m := Nat.min_eq_left (Nat.le_mul_of_pos_right m hk)
  rw [this]

noncomputable def rowsOf (m : Nat) (w : List Nat) : List (List Nat × Nat) := (List.range w.length).map fun k => (endl m (rot w k), (rot w k).getLastD 0)

theorem getLastD_map_range (f : Nat → Nat) (k : Nat) (hk : 0 < k) : ((List.range k).map f).getLastD 0 = f (k - 1) := by
  obtain ⟨j, rfl⟩ : ∃ j, k = j + 1 := ⟨k - 1, by lia⟩
  rw [List.range_succ, List.map_append]
  simp

theorem rows_ring {n : Nat} {F nx t : Nat → Nat} (S : Std n F nx t) {c : List Nat} (R : Ring nx n c) (m : Nat) : rowsOf m (c.map F) = c.map fun p => (Wp F nx m p, t p) := by
  obtain ⟨a, k, hk, rfl, h, ha⟩ := R
  unfold rowsOf
  rw [List.length_map, List.length_map, List.length_range, List.map_map (g := fun p => (Wp F nx m p, t p))]
  apply List.map_congr_left
  intro j hj
  rw [List.mem_range] at hj
  have e : rot (List.map F ((List.range k).map fun j => it nx j a)) j = (List.range k).map (fun i => F (it nx i (it nx j a))) := by
    have := congrArg (List.map F) (ring_rot (nx := nx) h (Nat.le_of_lt hj))
    rw [List.map_map] at this
    rw [← show (List.map (F ∘ fun i => it nx i (it nx j a)) (List.range k)) = (List.range k).map (fun i => F (it nx i (it nx j a))) from rfl, ← this]
    simp [rot, List.map_drop, List.map_take]
  rw [e]
  have hr := it_ring h j
  show _ = (Wp F nx m (it nx j a), t (it nx j a))
  rw [ring_endl hk hr, getLastD_map_range _ _ hk]
  have : it nx j a = nx (it nx (k - 1) (it nx j a)) := by
    rw [← it_succ nx (k - 1) (it nx j a), Nat.sub_add_cancel hk, hr]
  congr 1
  conv => rhs; rw [this]
  exact (S.back _ (S.it_lt _ _ (S.it_lt _ _ ha))).symm

theorem Wp_rise {n : Nat} {F nx t : Nat → Nat} (S : Std n F nx t) : ∀ m i j, i ≤ j → j < n → lexLe (Wp F nx m i) (Wp F nx m j)
  | 0, _, _, _, _ => rfl
  | m + 1, i, j, hij, hj => by
    rcases Nat.eq_or_lt_of_le hij with rfl | hij
    · exact lexLe_refl _
    · rw [Wp_succ, Wp_succ]
      rcases S.rise i j hij hj with h | ⟨h1, h2⟩
      · exact lexLe_of_lt (lexLt_cons_iff.mpr (.inl h))
      · have := Wp_rise S m (nx i) (nx j) (Nat.le_of_lt h2) (S.lt j hj)
        unfold lexLe at *
        rw [lexLt_cons, this, h1]
        simp

theorem Wp_tie {n : Nat} {F nx t : Nat → Nat} (S : Std n F nx t) {m p q a b : Nat} (hp : p < n) (hq : q < n) (ha : 0 < a) (hb : 0 < b) (hab : a + b ≤ m) (ra : it nx a p = p) (rb : it nx b q = q) (h : Wp F nx m p = Wp F nx m q) : t p = t q := by
  have hk : ∀ k, k < m → F (it nx k p) = F (it nx k q) := fun k hk => by
    have := congrArg (fun l => l[k]?) h
    simpa [Wp, hk] using this
  have tp : t p = F (it nx (a - 1) p) := by
    rw [← S.back _ (S.it_lt _ _ hp), ← it_succ nx (a - 1) p, Nat.sub_add_cancel ha, ra]
  have tq : t q = F (it nx (b - 1) q) := by
    rw [← S.back _ (S.it_lt _ _ hq), ← it_succ nx (b - 1) q, Nat.sub_add_cancel hb, rb]
  have e1 : it nx (a + b - 1) p = it nx (b - 1) p := by rw [Nat.add_sub_assoc hb, it_period ra]
  have e2 : it nx (a + b - 1) q = it nx (a - 1) q := by rw [Nat.add_comm, Nat.add_sub_assoc ha, it_period rb]
  rw [tp, tq, hk (a - 1) (by lia), ← e2, ← hk (a + b - 1) (by lia), e1, hk (b - 1) (by lia)]

theorem it_rise {n : Nat} {F nx t : Nat → Nat} (S : Std n F nx t) : ∀ i p q, p < q → q < n → (∀ i, F (it nx i p) = F (it nx i q)) → it nx i p < it nx i q
  | 0, _, _, h, _, _ => h
  | i + 1, p, q, h, hq, he => by
    rcases S.rise p q h hq with h1 | ⟨_, h2⟩
    · have := he 0
      simp only [it] at this
      lia
    · exact it_rise S i _ _ h2 (S.lt q hq) fun i => he (i + 1)

theorem ring_primitive {n : Nat} {F nx t : Nat → Nat} (S : Std n F nx t) {k a j : Nat} (kk : 0 < k) (ha : a < n) (hr : it nx k a = a) (hne : it nx j a ≠ a) (he : ∀ i, F (it nx i (it nx j a)) = F (it nx i a)) : False := by
  have hq : it nx j a < n := S.it_lt _ _ ha
  have e := it_periods hr j 0
  rw [Nat.add_zero] at e
  rcases Nat.lt_or_gt_of_ne hne with hlt | hgt
  · have st : ∀ i, it nx ((i + 1) * j) a < it nx (i * j) a := fun i => by
      have := it_rise S (i * j) _ _ hlt ha he
      rw [← it_add] at this
      rw [Nat.succ_mul, Nat.add_comm]; exact this
    have dn : ∀ i, it nx ((i + 1) * j) a < a := fun i => by
      induction i with
      | zero => have := st 0; simpa [it] using this
      | succ i ih => exact Nat.lt_trans (st (i + 1)) ih
    have := dn (k - 1)
    rw [Nat.sub_add_cancel kk, Nat.mul_comm, e] at this
    exact Nat.lt_irrefl _ this
  · have st : ∀ i, it nx (i * j) a < it nx ((i + 1) * j) a := fun i => by
      have := it_rise S (i * j) _ _ hgt hq fun i => (he i).symm
      rw [← it_add] at this
      rw [Nat.succ_mul, Nat.add_comm]; exact this
    have up : ∀ i, a < it nx ((i + 1) * j) a := fun i => by
      induction i with
      | zero => have := st 0; simpa [it] using this
      | succ i ih => exact Nat.lt_trans ih (st (i + 1))
    have := up (k - 1)
    rw [Nat.sub_add_cancel kk, Nat.mul_comm, e] at this
    exact Nat.lt_irrefl _ this

/-- the ring from a least start is a Lyndon word -/
theorem ring_lyndon {n : Nat} {F nx t : Nat → Nat} (S : Std n F nx t) {c : List Nat} (R : Ring nx n c) (hd : c.Nodup) (hmin : ∀ j, j < c.length → lexLe (c.map F) (rot (c.map F) j)) : Lyndon (c.map F) := by
  obtain ⟨a, k, hk, rfl, h, ha⟩ := R
  refine lyndon_of_rot (by simp; lia) fun j hj0 hj => ?_
  rw [List.length_map] at hj
  rcases lexLt_or (hmin j hj) with q | q
  · exfalso
    simp only [List.length_map, List.length_range] at hj
    have e : rot (List.map F ((List.range k).map fun j => it nx j a)) j = (List.range k).map (fun i => F (it nx i (it nx j a))) := by
      have := congrArg (List.map F) (ring_rot (nx := nx) h (Nat.le_of_lt hj))
      rw [List.map_map] at this
      rw [← show (List.map (F ∘ fun i => it nx i (it nx j a)) (List.range k)) = (List.range k).map (fun i => F (it nx i (it nx j a))) from rfl, ← this]
      simp [rot, List.map_drop, List.map_take]
    rw [e, List.map_map] at q
    have small : ∀ i, i < k → F (it nx i (it nx j a)) = F (it nx i a) := fun i hi => by
      have := congrArg (fun l => l[i]?) q
      simpa [hi, eq_comm] using this
    refine ring_primitive S (k := k) (a := a) (j := j) hk ha h ?_ fun i => ?_
    · intro hja
      have h0 := List.pairwise_iff_getElem.mp hd 0 j (by simp; lia) (by simp; lia) hj0
      simp [it] at h0
      exact h0 hja.symm
    · have hr := it_ring h j
      have e1 : i = (i / k) * k + i % k := by rw [Nat.mul_comm]; exact (Nat.div_add_mod i k).symm
      rw [e1, it_periods hr, it_periods h]
      exact small _ (Nat.mod_lt _ hk)
  · exact q
end Mine
end

section
namespace Mine

theorem nodup_length_le : ∀ (n : Nat) (l : List Nat), l.Nodup → (∀ x ∈ l, x < n) → l.length ≤ n
  | 0, l, _, h => by
    cases l with
    | nil => exact Nat.le_refl _
    | cons a r => exact absurd (h a (.head _)) (Nat.not_lt_zero _)
  | n + 1, l, hd, h => by
    by_cases hn : n ∈ l
    · have := nodup_length_le n (l.erase n) (hd.erase n) fun x hx => by
        have hx' := (List.Nodup.mem_erase_iff hd).mp hx
        have := h x hx'.2
        lia
      rw [List.length_erase_of_mem hn] at this
      lia
    · have := nodup_length_le n l hd fun x hx => by
        have h1 := h x hx
        have : x ≠ n := fun e => hn (e ▸ hx)
        lia
      lia

/-- the places from p on until one is met that is gone -/
noncomputable def walkC (nx : Nat → Nat) : Nat → List Nat → Nat → List Nat
  | 0, _, _ => []
  | f + 1, gone, p => if p ∈ gone then [] else p :: walkC nx f (gone ++ [p]) (nx p)
noncomputable def cyclesGo (nx : Nat → Nat) (n : Nat) : List Nat → List Nat → List (List Nat)
  | [], _ => []
  | s :: r, gone => walkC nx (n + 1) gone s :: cyclesGo nx n r (gone ++ walkC nx (n + 1) gone s)

structure Closed (nx : Nat → Nat) (n : Nat) (gone : List Nat) : Prop where
  nodup : gone.Nodup
  lt : ∀ x ∈ gone, x < n
  pre : ∀ x, x < n → nx x ∈ gone → x ∈ gone

theorem walkC_ring {n : Nat} {F nx t : Nat → Nat} (S : Std n F nx t) {gone : List Nat} (C : Closed nx n gone) {a : Nat} (ha : a < n) :
    ∀ (f k : Nat), k + f = n + 1 → (∀ j, j < k → it nx j a ∉ gone) → ((List.range k).map fun j => it nx j a).Nodup →
      ∃ k', k ≤ k' ∧ walkC nx f (gone ++ (List.range k).map fun j => it nx j a) (it nx k a) = (List.range (k' - k)).map (fun j => it nx (k + j) a) ∧
        (∀ j, j < k' → it nx j a ∉ gone) ∧ ((List.range k').map fun j => it nx j a).Nodup ∧ it nx k' a ∈ gone ++ (List.range k').map fun j => it nx j a
  | 0, k, hk, h1, h2 => by
    exfalso
    have := nodup_length_le n _ h2 fun x hx => by
      obtain ⟨j, _, rfl⟩ := List.mem_map.mp hx
      exact S.it_lt j a ha
    simp at this
    lia
  | f + 1, k, hk, h1, h2 => by
    unfold walkC
    by_cases hm : it nx k a ∈ gone ++ (List.range k).map fun j => it nx j a
    · rw [if_pos hm]
      exact ⟨k, Nat.le_refl _, by simp, h1, h2, hm⟩
    · rw [if_neg hm]
      have hg : it nx k a ∉ gone := fun q => hm (List.mem_append_left _ q)
      have hr : it nx k a ∉ (List.range k).map fun j => it nx j a := fun q => hm (List.mem_append_right _ q)
      have e : (List.range (k + 1)).map (fun j => it nx j a) = (List.range k).map (fun j => it nx j a) ++ [it nx k a] := by
        rw [List.range_succ, List.map_append]; rfl
      have h2' : ((List.range (k + 1)).map fun j => it nx j a).Nodup := by
        rw [e, List.nodup_append]
        refine ⟨h2, by simp, fun x hx y hy q => ?_⟩
        rw [List.mem_singleton] at hy
        subst hy
        subst q
        exact hr hx
      obtain ⟨k', hk', hw, g1, g2, g3⟩ := walkC_ring S C ha f (k + 1) (by lia) (fun j hj => by
        rcases Nat.lt_or_ge j k with q | q
        · exact h1 j q
        · have : j = k := by lia
          subst this; exact hg) h2'
      refine ⟨k', by lia, ?_, g1, g2, g3⟩
      rw [e, ← List.append_assoc, it_succ] at hw
      rw [hw]
      have e2 : k' - k = (k' - (k + 1)) + 1 := by lia
      rw [e2, List.range_succ_eq_map, List.map_cons, List.map_map]
      congr 1
      apply List.map_congr_left
      intro j _
      show it nx (k + 1 + j) a = it nx (k + (j + 1)) a
      congr 1
      lia

/-- a walk from a place that is not gone closes a ring -/
theorem walkC_closed {n : Nat} {F nx t : Nat → Nat} (S : Std n F nx t) {gone : List Nat} (C : Closed nx n gone) {a : Nat} (ha : a < n) (hg : a ∉ gone) :
    Ring nx n (walkC nx (n + 1) gone a) ∧ (walkC nx (n + 1) gone a).Nodup ∧ a ∈ walkC nx (n + 1) gone a ∧ Closed nx n (gone ++ walkC nx (n + 1) gone a) := by
  obtain ⟨k, _, hw, h1, h2, h3⟩ := walkC_ring S C ha (n + 1) 0 (by lia) (fun j hj => absurd hj (Nat.not_lt_zero _)) (by simp)
  simp only [List.range_zero, List.map_nil, List.append_nil, Nat.sub_zero, Nat.zero_add, it] at hw
  have hk : 0 < k := by
    rcases Nat.eq_zero_or_pos k with q | q
    · subst q
      simp [it] at h3
      exact absurd h3 hg
    · exact q
  -- the last step leads to the first
  have hlast : it nx k a = nx (it nx (k - 1) a) := by rw [← it_succ nx (k - 1) a, Nat.sub_add_cancel hk]
  have lastlt : it nx (k - 1) a < n := S.it_lt _ _ ha
  have hret : it nx k a = a := by
    rcases List.mem_append.mp h3 with q | q
    · exact absurd (C.pre _ lastlt (hlast ▸ q)) (h1 (k - 1) (by lia))
    · obtain ⟨j, hj, hje⟩ := List.mem_map.mp q
      rw [List.mem_range] at hj
      rcases Nat.eq_zero_or_pos j with q0 | q0
      · subst q0; exact hje.symm
      · exfalso
        have e1 : nx (it nx (j - 1) a) = nx (it nx (k - 1) a) := by
          rw [← hlast, ← hje, ← it_succ nx (j - 1) a, Nat.sub_add_cancel q0]
        have e2 := S.inj _ _ (S.it_lt _ _ ha) lastlt e1
        have := List.pairwise_iff_getElem.mp h2 (j - 1) (k - 1) (by simp; lia) (by simp; lia) (by lia)
        simp at this
        exact this e2
  have hring : Ring nx n (walkC nx (n + 1) gone a) := ⟨a, k, hk, hw, hret, ha⟩
  have hmemC : ∀ x, x ∈ walkC nx (n + 1) gone a ↔ ∃ j, j < k ∧ it nx j a = x := fun x => by
    rw [hw, List.mem_map]; simp [List.mem_range]
  refine ⟨hring, hw ▸ h2, (hmemC a).mpr ⟨0, hk, rfl⟩, ⟨?_, ?_, ?_⟩⟩
  · rw [List.nodup_append]
    refine ⟨C.nodup, hw ▸ h2, fun x hx y hy q => ?_⟩
    subst q
    obtain ⟨j, hj, rfl⟩ := (hmemC x).mp hy
    exact h1 j hj hx
  · intro x hx
    rcases List.mem_append.mp hx with q | q
    · exact C.lt x q
    · obtain ⟨j, _, rfl⟩ := (hmemC x).mp q
      exact S.it_lt _ _ ha
  · intro x hx hm
    rcases List.mem_append.mp hm with q | q
    · exact List.mem_append_left _ (C.pre x hx q)
    · refine List.mem_append_right _ ?_
      obtain ⟨j, hj, hje⟩ := (hmemC _).mp q
      rcases Nat.eq_zero_or_pos j with q0 | q0
      · subst q0
        have : x = it nx (k - 1) a := S.inj _ _ hx lastlt (by rw [← hlast, hret, ← hje]; rfl)
        exact (hmemC x).mpr ⟨k - 1, by lia, this.symm⟩
      · have e1 : nx x = nx (it nx (j - 1) a) := by
          rw [← hje, ← it_succ nx (j - 1) a, Nat.sub_add_cancel q0]
        exact (hmemC x).mpr ⟨j - 1, by lia, (S.inj _ _ hx (S.it_lt _ _ ha) e1).symm⟩

theorem walkC_nil {nx : Nat → Nat} {f : Nat} {gone : List Nat} {a : Nat} (h : a ∈ gone) : walkC nx (f + 1) gone a = [] := by
  unfold walkC; rw [if_pos h]

theorem cyclesGo_spec {n : Nat} {F nx t : Nat → Nat} (S : Std n F nx t) : ∀ (starts gone : List Nat), (∀ x ∈ starts, x < n) → Closed nx n gone →
    (∀ c ∈ cyclesGo nx n starts gone, c ≠ [] → Ring nx n c ∧ c.Nodup) ∧ Closed nx n (gone ++ (cyclesGo nx n starts gone).flatten) ∧ (∀ x ∈ starts, x ∈ gone ++ (cyclesGo nx n starts gone).flatten)
  | [], gone, _, C => by
    simp only [cyclesGo, List.flatten_nil, List.append_nil]
    exact ⟨fun c hc => (nomatch hc), C, fun x hx => (nomatch hx)⟩
  | s :: r, gone, hs, C => by
    simp only [cyclesGo, List.flatten_cons]
    have key : (walkC nx (n + 1) gone s ≠ [] → Ring nx n (walkC nx (n + 1) gone s) ∧ (walkC nx (n + 1) gone s).Nodup) ∧ Closed nx n (gone ++ walkC nx (n + 1) gone s) ∧ s ∈ gone ++ walkC nx (n + 1) gone s := by
      by_cases hg : s ∈ gone
      · rw [walkC_nil hg, List.append_nil]
        exact ⟨fun q => absurd rfl q, C, hg⟩
      · obtain ⟨a, b, c, d⟩ := walkC_closed S C (hs s (.head _)) hg
        exact ⟨fun _ => ⟨a, b⟩, d, List.mem_append_right _ c⟩
    obtain ⟨k1, k2, k3⟩ := key
    obtain ⟨i1, i2, i3⟩ := cyclesGo_spec S r _ (fun x hx => hs x (.tail _ hx)) k2
    rw [List.append_assoc] at i2 i3
    refine ⟨fun c hc hne => ?_, i2, fun x hx => ?_⟩
    · rcases List.mem_cons.mp hc with rfl | hc
      · exact k1 hne
      · exact i1 c hc hne
    · rcases List.mem_cons.mp hx with rfl | hx
      · rw [← List.append_assoc]; exact List.mem_append_left _ k3
      · exact i3 x hx

theorem flatten_filter_ne {α : Type} : ∀ (l : List (List α)), (l.filter (fun c => !c.isEmpty)).flatten = l.flatten
  | [] => rfl
  | c :: r => by
    cases c with
    | nil => simp [flatten_filter_ne r]
    | cons a c => simp [flatten_filter_ne r]

/-- the rings, each once, use every place once -/
theorem cycles_perm {n : Nat} {F nx t : Nat → Nat} (S : Std n F nx t) : (cyclesGo nx n (List.range n) []).flatten.Perm (List.range n) := by
  obtain ⟨_, C, h⟩ := cyclesGo_spec S (List.range n) [] (fun x hx => List.mem_range.mp hx) ⟨List.nodup_nil, fun x hx => (nomatch hx), fun x _ hx => (nomatch hx)⟩
  rw [List.nil_append] at C h
  refine (List.perm_ext_iff_of_nodup C.nodup List.nodup_range).mpr fun x => ⟨fun hx => List.mem_range.mpr (C.lt x hx), h x⟩
end Mine
end

section
namespace Mine

/-- the order of the pairs (sign, place) -/
noncomputable def pairLe (a b : Nat × Nat) : Bool := decide (a.1 < b.1) || (a.1 == b.1 && decide (a.2 ≤ b.2))
theorem pairLe_iff {a b : Nat × Nat} : pairLe a b = true ↔ a.1 < b.1 ∨ (a.1 = b.1 ∧ a.2 ≤ b.2) := by simp [pairLe]
noncomputable def pairsRaw (t : List Nat) : List (Nat × Nat) := (List.range t.length).map fun i => (t.getD i 0, i)
noncomputable def pairsOf (t : List Nat) : List (Nat × Nat) := (pairsRaw t).mergeSort pairLe
noncomputable def fAt (ps : List (Nat × Nat)) (i : Nat) : Nat := (ps.getD i (0, 0)).1
noncomputable def nAt (ps : List (Nat × Nat)) (i : Nat) : Nat := (ps.getD i (0, 0)).2

theorem pairsOf_perm (t : List Nat) : (pairsOf t).Perm (pairsRaw t) := List.mergeSort_perm _ _
theorem pairsOf_sorted (t : List Nat) : (pairsOf t).Pairwise (fun a b => pairLe a b = true) := by
  refine List.pairwise_mergeSort (fun a b c h1 h2 => ?_) (fun a b => ?_) _
  · rw [pairLe_iff] at *; lia
  · rw [Bool.or_eq_true, pairLe_iff, pairLe_iff]; lia
theorem pairsOf_unique {t : List Nat} {ps : List (Nat × Nat)} (hp : ps.Perm (pairsRaw t)) (hs : ps.Pairwise (fun a b => pairLe a b = true)) : ps = pairsOf t :=
  List.Perm.eq_of_pairwise (le := fun a b => pairLe a b = true) (fun a b _ _ h1 h2 => by rw [pairLe_iff] at *; exact Prod.ext (by lia) (by lia)) hs (pairsOf_sorted t) (hp.trans (pairsOf_perm t).symm)
theorem pairsOf_length (t : List Nat) : (pairsOf t).length = t.length := by rw [(pairsOf_perm t).length_eq]; simp [pairsRaw]

theorem std_of (t : List Nat) : Std t.length (fAt (pairsOf t)) (nAt (pairsOf t)) (fun i => t.getD i 0) := by
  have hp := pairsOf_perm t
  have hlen := pairsOf_length t
  have hget : ∀ i (h : i < t.length), (pairsOf t).getD i (0, 0) = (pairsOf t)[i]'(by lia) := fun i h => by
    rw [List.getD_eq_getElem?_getD, List.getElem?_eq_getElem (by lia)]; rfl
  have hmem : ∀ i, i < t.length → (fAt (pairsOf t) i, nAt (pairsOf t) i) ∈ pairsRaw t := fun i h => by
    unfold fAt nAt
    rw [hget i h]
    exact hp.mem_iff.mp (List.getElem_mem _)
  have hraw : ∀ a b, (a, b) ∈ pairsRaw t → b < t.length ∧ a = t.getD b 0 := fun a b h => by
    obtain ⟨i, hi, e⟩ := List.mem_map.mp h
    rw [List.mem_range] at hi
    cases e
    exact ⟨hi, rfl⟩
  have hnd : ((pairsOf t).map (·.2)).Nodup := by
    rw [(hp.map (·.2)).nodup_iff]
    have : (pairsRaw t).map (·.2) = List.range t.length := by
      unfold pairsRaw; rw [List.map_map]; exact List.map_id _
    rw [this]; exact List.nodup_range
  refine ⟨fun i h => (hraw _ _ (hmem i h)).1, fun i j hi hj e => ?_, fun i j hij hj => ?_, fun i h => (hraw _ _ (hmem i h)).2.symm⟩
  · unfold nAt at e
    rw [hget i hi, hget j hj] at e
    rcases Nat.lt_trichotomy i j with q | q | q
    · have := List.pairwise_iff_getElem.mp hnd i j (by simp; lia) (by simp; lia) q
      simp at this; exact absurd e this
    · exact q
    · have := List.pairwise_iff_getElem.mp hnd j i (by simp; lia) (by simp; lia) q
      simp at this; exact absurd e.symm this
  · have h1 := List.pairwise_iff_getElem.mp (pairsOf_sorted t) i j (by lia) (by lia) hij
    have h2 := List.pairwise_iff_getElem.mp hnd i j (by simp; lia) (by simp; lia) hij
    simp at h2
    unfold fAt nAt
    rw [hget i (by lia), hget j hj]
    rw [pairLe_iff] at h1
    lia

/-- the least of some words, the first of like ones -/
noncomputable def minW : List Nat → List (List Nat) → List Nat
  | m, [] => m
  | m, x :: r => minW (if lexLt x m = true then x else m) r
noncomputable def rots (w : List Nat) : List (List Nat) := (List.range w.length).map (rot w)
noncomputable def minRot (w : List Nat) : List Nat := match rots w with
  | [] => []
  | m :: r => minW m r
theorem minW_spec : ∀ (r : List (List Nat)) (m : List Nat), (minW m r = m ∨ minW m r ∈ r) ∧ lexLe (minW m r) m ∧ ∀ x ∈ r, lexLe (minW m r) x
  | [], m => ⟨.inl rfl, lexLe_refl m, fun x hx => (nomatch hx)⟩
  | x :: r, m => by
    unfold minW
    obtain ⟨h1, h2, h3⟩ := minW_spec r (if lexLt x m = true then x else m)
    by_cases hx : lexLt x m = true
    · rw [if_pos hx] at *
      refine ⟨.inr ?_, lexLe_trans h2 (lexLe_of_lt hx), fun y hy => ?_⟩
      · rcases h1 with q | q
        · rw [q]; exact .head _
        · exact .tail _ q
      · rcases List.mem_cons.mp hy with rfl | hy
        · exact h2
        · exact h3 y hy
    · rw [if_neg hx] at *
      refine ⟨?_, h2, fun y hy => ?_⟩
      · rcases h1 with q | q
        · exact .inl q
        · exact .inr (.tail _ q)
      · rcases List.mem_cons.mp hy with rfl | hy
        · refine lexLe_trans h2 ?_
          unfold lexLe
          cases q : lexLt y m with
          | false => rfl
          | true => exact absurd q hx
        · exact h3 y hy
theorem minRot_spec {w : List Nat} (h : w ≠ []) : ∃ j, j < w.length ∧ minRot w = rot w j ∧ ∀ i, i < w.length → lexLe (minRot w) (rot w i) := by
  have hl : 0 < w.length := by
    cases w with
    | nil => exact absurd rfl h
    | cons _ _ => simp
  unfold minRot
  cases e : rots w with
  | nil => have := congrArg List.length e; simp only [rots, List.length_map, List.length_range, List.length_nil] at this; lia
  | cons m r =>
    obtain ⟨h1, h2, h3⟩ := minW_spec r m
    have hm : minW m r ∈ rots w := by
      rw [e]
      rcases h1 with q | q
      · rw [q]; exact .head _
      · exact .tail _ q
    obtain ⟨j, hj, hje⟩ := List.mem_map.mp hm
    refine ⟨j, List.mem_range.mp hj, hje.symm, fun i hi => ?_⟩
    have hi' : rot w i ∈ rots w := List.mem_map.mpr ⟨i, List.mem_range.mpr hi, rfl⟩
    rw [e] at hi'
    rcases List.mem_cons.mp hi' with q | q
    · rw [q]; exact h2
    · exact h3 _ q

noncomputable def wordLe (a b : List Nat) : Bool := !lexLt b a
noncomputable def cyclesOf (t : List Nat) : List (List Nat) := (cyclesGo (nAt (pairsOf t)) t.length (List.range t.length) []).filter fun c => !c.isEmpty
noncomputable def rawWords (t : List Nat) : List (List Nat) := (cyclesOf t).map fun c => minRot (c.map (fAt (pairsOf t)))
noncomputable def wordsOf (t : List Nat) : List (List Nat) := ((rawWords t).mergeSort wordLe).reverse
noncomputable def there (t : List Nat) : List Nat := (wordsOf t).flatten

theorem sortW_sorted (l : List (List Nat)) : (l.mergeSort wordLe).Pairwise (fun a b => lexLe a b) := by
  have := List.pairwise_mergeSort (le := wordLe) (fun a b c h1 h2 => by
    simp only [wordLe, Bool.not_eq_true'] at *
    exact lexLe_trans (y := b) h1 h2) (fun a b => by
    simp only [wordLe, Bool.or_eq_true, Bool.not_eq_true']
    exact (lexLe_total a b)) l
  refine this.imp ?_
  intro a b h
  simp only [wordLe, Bool.not_eq_true'] at h
  exact h
theorem sortW_unique {l l' : List (List Nat)} (hp : l'.Perm l) (hs : l'.Pairwise (fun a b => lexLe a b)) : l' = l.mergeSort wordLe :=
  List.Perm.eq_of_pairwise (le := lexLe) (fun a b _ _ h1 h2 => lexLe_antisymm h1 h2) hs (sortW_sorted l) (hp.trans (List.mergeSort_perm _ _).symm)

noncomputable def spotGo (rows : List (List Nat × Nat)) (key : List Nat) : Nat → Nat
  | 0 => 0
  | s + 1 => if lexLt key (rows.getD s ([], 0)).1 = true then spotGo rows key s else s + 1
noncomputable def insRow (rows : List (List Nat × Nat)) (r : List Nat × Nat) : List (List Nat × Nat) := rows.take (spotGo rows r.1 rows.length) ++ r :: rows.drop (spotGo rows r.1 rows.length)
noncomputable def sortRows (rows : List (List Nat × Nat)) : List (List Nat × Nat) := rows.foldl insRow []
noncomputable def back (u : List Nat) : List Nat := (sortRows ((factors u).flatMap (rowsOf (u.length * 2)))).map (·.2)

theorem spotGo_spec (rows : List (List Nat × Nat)) (key : List Nat) : ∀ s, s ≤ rows.length → spotGo rows key s ≤ s ∧ (∀ i, spotGo rows key s ≤ i → i < s → lexLt key (rows.getD i ([], 0)).1 = true) ∧
    (∀ k, spotGo rows key s = k + 1 → lexLe (rows.getD k ([], 0)).1 key)
  | 0, _ => ⟨Nat.le_refl _, fun i _ h => absurd h (Nat.not_lt_zero _), fun k h => by simp [spotGo] at h⟩
  | s + 1, hs => by
    unfold spotGo
    by_cases h : lexLt key (rows.getD s ([], 0)).1 = true
    · rw [if_pos h]
      obtain ⟨a, b, c⟩ := spotGo_spec rows key s (by lia)
      refine ⟨by lia, fun i h1 h2 => ?_, c⟩
      rcases Nat.lt_or_ge i s with q | q
      · exact b i h1 q
      · have : i = s := by lia
        subst this; exact h
    · rw [if_neg h]
      refine ⟨Nat.le_refl _, fun i h1 h2 => by lia, fun k hk => ?_⟩
      have : k = s := by lia
      subst this
      unfold lexLe
      cases q : lexLt key (rows.getD k ([], 0)).1 with
      | false => rfl
      | true => exact absurd q h

theorem insRow_perm (rows : List (List Nat × Nat)) (r : List Nat × Nat) : (insRow rows r).Perm (r :: rows) := by
  unfold insRow
  refine List.perm_middle.trans ?_
  rw [List.take_append_drop]
theorem insRow_sorted {rows : List (List Nat × Nat)} (r : List Nat × Nat) (h : rows.Pairwise fun a b => lexLe a.1 b.1) : (insRow rows r).Pairwise fun a b => lexLe a.1 b.1 := by
  unfold insRow
  obtain ⟨h1, h2, h3⟩ := spotGo_spec rows r.1 rows.length (Nat.le_refl _)
  generalize spotGo rows r.1 rows.length = k at *
  have hget : ∀ i (hi : i < rows.length), rows.getD i ([], 0) = rows[i] := fun i hi => by
    rw [List.getD_eq_getElem?_getD, List.getElem?_eq_getElem hi]; rfl
  have hlow : ∀ a ∈ rows.take k, lexLe a.1 r.1 := fun a ha => by
    obtain ⟨i, hi, rfl⟩ := List.getElem_of_mem ha
    rw [List.length_take] at hi
    obtain ⟨k', rfl⟩ : ∃ k', k = k' + 1 := ⟨k - 1, by lia⟩
    have h4 := h3 k' rfl
    rw [hget k' (by lia)] at h4
    rw [List.getElem_take]
    rcases Nat.lt_or_ge i k' with q | q
    · exact lexLe_trans (List.pairwise_iff_getElem.mp h i k' (by lia) (by lia) q) h4
    · have : i = k' := by lia
      subst this; exact h4
  have hhigh : ∀ b ∈ rows.drop k, lexLe r.1 b.1 := fun b hb => by
    obtain ⟨i, hi, rfl⟩ := List.getElem_of_mem hb
    rw [List.length_drop] at hi
    rw [List.getElem_drop, ← hget (k + i) (by lia)]
    exact lexLe_of_lt (h2 (k + i) (by lia) (by lia))
  rw [List.pairwise_append]
  refine ⟨h.sublist (List.take_sublist _ _), List.pairwise_cons.mpr ⟨hhigh, h.sublist (List.drop_sublist _ _)⟩, fun a ha b hb => ?_⟩
  rcases List.mem_cons.mp hb with rfl | hb
  · exact hlow a ha
  · exact lexLe_trans (hlow a ha) (hhigh b hb)
theorem sortRows_go : ∀ (rs acc : List (List Nat × Nat)), acc.Pairwise (fun a b => lexLe a.1 b.1) → (rs.foldl insRow acc).Pairwise (fun a b => lexLe a.1 b.1) ∧ (rs.foldl insRow acc).Perm (rs ++ acc)
  | [], acc, h => ⟨h, List.Perm.refl _⟩
  | r :: rs, acc, h => by
    obtain ⟨a, b⟩ := sortRows_go rs (insRow acc r) (insRow_sorted r h)
    refine ⟨a, b.trans ?_⟩
    exact ((insRow_perm acc r).append_left rs).trans List.perm_middle

theorem perm_map_lift {α β : Type} (f : α → β) {l₂ l₁ : List β} (h : l₁.Perm l₂) : ∀ l : List α, l.map f = l₁ → ∃ l' : List α, l'.Perm l ∧ l'.map f = l₂ := by
  induction h with
  | nil => intro l e; exact ⟨l, .refl _, e⟩
  | cons x _ ih =>
    intro l e
    cases l with
    | nil => cases e
    | cons a r =>
      simp only [List.map_cons, List.cons.injEq] at e
      obtain ⟨l', h1, h2⟩ := ih r e.2
      exact ⟨a :: l', h1.cons a, by rw [List.map_cons, h2, e.1]⟩
  | swap x y l0 =>
    intro l e
    cases l with
    | nil => cases e
    | cons a r =>
      cases r with
      | nil => cases e
      | cons b r =>
        simp only [List.map_cons, List.cons.injEq] at e
        exact ⟨b :: a :: r, .swap _ _ _, by simp [e.1, e.2.1, e.2.2]⟩
  | trans _ _ ih1 ih2 =>
    intro l e
    obtain ⟨l', h1, h2⟩ := ih1 l e
    obtain ⟨l'', h3, h4⟩ := ih2 l' h2
    exact ⟨l'', h3.trans h1, h4⟩

theorem rot_perm {α : Type} (c : List α) (j : Nat) : (rot c j).Perm c := by
  unfold rot
  refine List.perm_append_comm.trans ?_
  rw [List.take_append_drop]
theorem rot_map {α β : Type} (f : α → β) (c : List α) (j : Nat) : rot (c.map f) j = (rot c j).map f := by
  simp [rot, List.map_drop, List.map_take]
theorem ring_of_rot {nx : Nat → Nat} {n : Nat} {c : List Nat} {F t : Nat → Nat} (S : Std n F nx t) (R : Ring nx n c) {j : Nat} (hj : j < c.length) : Ring nx n (rot c j) := by
  obtain ⟨a, k, hk, rfl, h, ha⟩ := R
  simp at hj
  exact ⟨it nx j a, k, hk, ring_rot h (Nat.le_of_lt hj), it_ring h j, S.it_lt _ _ ha⟩

theorem rot_rot {w : List Nat} {i j : Nat} (hi : i < w.length) (hj : j < w.length) : ∃ k, k < w.length ∧ rot (rot w j) i = rot w k := by
  have hd : (w.drop j).length = w.length - j := List.length_drop
  rcases Nat.lt_or_ge (j + i) w.length with h | h
  · refine ⟨j + i, h, ?_⟩
    have hle : i ≤ (w.drop j).length := by rw [hd]; exact Nat.le_sub_of_add_le (Nat.add_comm j i ▸ Nat.le_of_lt h)
    show (w.drop j ++ w.take j).drop i ++ (w.drop j ++ w.take j).take i = w.drop (j + i) ++ w.take (j + i)
    rw [List.drop_append_of_le_length hle, List.take_append_of_le_length hle, List.drop_drop, List.take_add, List.append_assoc]
  · have hk : j + i - w.length < j := (Nat.sub_lt_iff_lt_add h).mpr (Nat.add_lt_add_left hi j)
    refine ⟨j + i - w.length, Nat.lt_trans hk hj, ?_⟩
    have ei : i = (w.drop j).length + (j + i - w.length) := by rw [hd, ← Nat.add_sub_assoc h, ← Nat.add_assoc, Nat.sub_add_cancel (Nat.le_of_lt hj), Nat.add_sub_cancel_left]
    generalize j + i - w.length = k at hk ei
    have hl : (w.take j).length = j := by rw [List.length_take]; exact Nat.min_eq_left (Nat.le_of_lt hj)
    show (w.drop j ++ w.take j).drop i ++ (w.drop j ++ w.take j).take i = w.drop k ++ w.take k
    rw [ei, List.drop_length_add_append, List.take_length_add_append, ← List.append_assoc, List.take_take, Nat.min_eq_left (Nat.le_of_lt hk)]
    congr 1
    conv => rhs; rw [← List.take_append_drop j w]
    rw [List.drop_append_of_le_length (by rw [hl]; exact Nat.le_of_lt hk)]

/-- every ring from its least start -/
theorem rings_least {n : Nat} {F nx t : Nat → Nat} (S : Std n F nx t) : ∀ cs : List (List Nat), (∀ c ∈ cs, Ring nx n c ∧ c.Nodup) →
    ∃ cs' : List (List Nat), cs'.map (List.map F) = cs.map (fun c => minRot (c.map F)) ∧ cs'.flatten.Perm cs.flatten ∧ ∀ c ∈ cs', Ring nx n c ∧ Lyndon (c.map F)
  | [], _ => ⟨[], rfl, .refl _, fun c hc => (nomatch hc)⟩
  | c :: cs, h => by
    obtain ⟨cs', h1, h2, h3⟩ := rings_least S cs fun c hc => h c (.tail _ hc)
    obtain ⟨R, hd⟩ := h c (.head _)
    have hne : c.map F ≠ [] := by
      obtain ⟨a, k, hk, rfl, _, _⟩ := R
      intro q
      have := congrArg List.length q
      simp at this
      lia
    obtain ⟨j, hj, he, hm⟩ := minRot_spec hne
    rw [List.length_map] at hj
    refine ⟨rot c j :: cs', ?_, ?_, ?_⟩
    · rw [List.map_cons, List.map_cons, h1, he, rot_map]
    · rw [List.flatten_cons, List.flatten_cons]; exact (rot_perm c j).append h2
    · intro c' hc'
      rcases List.mem_cons.mp hc' with rfl | hc'
      · refine ⟨ring_of_rot S R hj, ring_lyndon S (ring_of_rot S R hj) ((rot_perm c j).nodup_iff.mpr hd) fun i hi => ?_⟩
        have hl : (rot c j).length = c.length := (rot_perm c j).length_eq
        rw [rot_map] at he
        rw [← he]
        rw [he, ← rot_map]
        obtain ⟨k, hk, hke⟩ := rot_rot (w := c.map F) (i := i) (j := j) (by rw [List.length_map]; lia) (by rw [List.length_map]; lia)
        rw [hke]
        have := hm k hk
        rw [he, ← rot_map] at this
        exact this
      · exact h3 c' hc'

theorem words_rings (t : List Nat) : ∃ cs : List (List Nat), cs.map (List.map (fAt (pairsOf t))) = wordsOf t ∧ cs.flatten.Perm (List.range t.length) ∧ (∀ c ∈ cs, Ring (nAt (pairsOf t)) t.length c ∧ Lyndon (c.map (fAt (pairsOf t)))) ∧ (wordsOf t).Pairwise fun a b => lexLe b a := by
  have S := std_of t
  obtain ⟨h1, _, _⟩ := cyclesGo_spec S (List.range t.length) [] (fun x hx => List.mem_range.mp hx) ⟨List.nodup_nil, fun x hx => (nomatch hx), fun x _ hx => (nomatch hx)⟩
  have hc : ∀ c ∈ cyclesOf t, Ring (nAt (pairsOf t)) t.length c ∧ c.Nodup := fun c hc => by
    obtain ⟨a, b⟩ := List.mem_filter.mp hc
    exact h1 c a (by intro e; subst e; simp at b)
  obtain ⟨cs, e1, e2, e3⟩ := rings_least S (cyclesOf t) hc
  have hp : (rawWords t).Perm (wordsOf t) := ((List.mergeSort_perm (rawWords t) wordLe).symm).trans (List.reverse_perm _).symm
  obtain ⟨cs', f1, f2⟩ := perm_map_lift (List.map (fAt (pairsOf t))) hp cs e1
  refine ⟨cs', f2, f1.flatten.trans (e2.trans ?_), fun c hc => e3 c (f1.mem_iff.mp hc), ?_⟩
  · unfold cyclesOf
    rw [flatten_filter_ne]
    exact cycles_perm S
  · unfold wordsOf
    rw [List.pairwise_reverse]
    exact sortW_sorted _

theorem there_length (t : List Nat) : (there t).length = t.length := by
  obtain ⟨cs, h1, h2, _, _⟩ := words_rings t
  unfold there
  rw [← h1, ← List.map_flatten, List.length_map, h2.length_eq, List.length_range]
theorem there_mem (t : List Nat) : ∀ x ∈ there t, x ∈ t := by
  obtain ⟨cs, h1, h2, _, _⟩ := words_rings t
  intro x hx
  unfold there at hx
  rw [← h1, ← List.map_flatten] at hx
  obtain ⟨p, hp, rfl⟩ := List.mem_map.mp hx
  have hp' := List.mem_range.mp (h2.mem_iff.mp hp)
  have S := std_of t
  rw [← S.back p hp']
  have := S.lt p hp'
  rw [List.getD_eq_getElem?_getD, List.getElem?_eq_getElem this]
  exact List.getElem_mem _

theorem flatMap_flatten_map {α β : Type} (g : α → β) : ∀ cs : List (List α), cs.flatMap (List.map g) = cs.flatten.map g
  | [] => rfl
  | c :: cs => by simp [List.flatMap_cons, flatMap_flatten_map g cs]

/-- THE WAY BACK UNDOES THE WAY THERE -/
theorem back_there {t : List Nat} (hne : t ≠ []) : back (there t) = t := by
  obtain ⟨cs, h1, h2, h3, h4⟩ := words_rings t
  have S := std_of t
  have hlen := there_length t
  have hL : ∀ v ∈ wordsOf t, Lyndon v := fun v hv => by
    rw [← h1] at hv
    obtain ⟨c, hc, rfl⟩ := List.mem_map.mp hv
    exact (h3 c hc).2
  have hw : wordsOf t ≠ [] := by
    intro e
    unfold there at hlen
    rw [e] at hlen
    simp at hlen
    exact hne (List.eq_nil_of_length_eq_zero hlen.symm)
  have hf : factors (there t) = wordsOf t := factors_words hw hL h4
  unfold back
  rw [hf, hlen]
  have hm : t.length * 2 = t.length + t.length := by lia
  have hrows : (wordsOf t).flatMap (rowsOf (t.length * 2)) = cs.flatten.map fun p => (Wp (fAt (pairsOf t)) (nAt (pairsOf t)) (t.length * 2) p, t.getD p 0) := by
    rw [← h1, List.flatMap_map, ← flatMap_flatten_map]
    have : ∀ l : List (List Nat), (∀ c ∈ l, Ring (nAt (pairsOf t)) t.length c) → List.flatMap (fun a => rowsOf (t.length * 2) (List.map (fAt (pairsOf t)) a)) l = List.flatMap (List.map fun p => (Wp (fAt (pairsOf t)) (nAt (pairsOf t)) (t.length * 2) p, t.getD p 0)) l := by
      intro l
      induction l with
      | nil => intro _; rfl
      | cons c l ih =>
        intro hl
        rw [List.flatMap_cons, List.flatMap_cons, ih fun c hc => hl c (.tail _ hc), rows_ring S (hl c (.head _))]
    exact this cs fun c hc => (h3 c hc).1
  obtain ⟨s1, s2⟩ := sortRows_go ((wordsOf t).flatMap (rowsOf (t.length * 2))) [] List.Pairwise.nil
  rw [List.append_nil] at s2
  have key : sortRows ((wordsOf t).flatMap (rowsOf (t.length * 2))) = (List.range t.length).map fun p => (Wp (fAt (pairsOf t)) (nAt (pairsOf t)) (t.length * 2) p, t.getD p 0) := by
    refine List.Perm.eq_of_pairwise (le := fun a b => lexLe a.1 b.1) (fun a b ha hb q1 q2 => ?_) s1 ?_ (s2.trans (hrows ▸ (h2.map _)))
    · have ha' := s2.mem_iff.mp ha
      rw [hrows] at ha'
      obtain ⟨p, hp, rfl⟩ := List.mem_map.mp ha'
      obtain ⟨q, hq, rfl⟩ := List.mem_map.mp hb
      have hw := lexLe_antisymm q1 q2
      have hp' := List.mem_range.mp (h2.mem_iff.mp hp)
      have hq' := List.mem_range.mp hq
      have ring : ∀ x, x < t.length → ∃ k, 0 < k ∧ k ≤ t.length ∧ it (nAt (pairsOf t)) k x = x := fun x hx => by
        have hx' : x ∈ cs.flatten := h2.mem_iff.mpr (List.mem_range.mpr hx)
        obtain ⟨c, hc, hxc⟩ := List.mem_flatten.mp hx'
        obtain ⟨a, k, hk, e, hr, _⟩ := (h3 c hc).1
        rw [e] at hxc
        obtain ⟨j, _, rfl⟩ := List.mem_map.mp hxc
        refine ⟨k, hk, ?_, it_ring hr j⟩
        have h5 : c.length ≤ cs.flatten.length := by
          have : ∀ l : List (List Nat), c ∈ l → c.length ≤ l.flatten.length := by
            intro l
            induction l with
            | nil => intro q; cases q
            | cons d l ih =>
              intro q
              rw [List.flatten_cons, List.length_append]
              rcases List.mem_cons.mp q with rfl | q
              · lia
              · have := ih q; lia
          exact this cs hc
        rw [h2.length_eq, List.length_range, e] at h5
        simpa using h5
      obtain ⟨a, a1, a2, a3⟩ := ring p hp'
      obtain ⟨b, b1, b2, b3⟩ := ring q hq'
      have ht := Wp_tie S hp' hq' a1 b1 (m := t.length * 2) (by lia) a3 b3 hw
      exact Prod.ext hw ht
    · rw [List.pairwise_map]
      rw [List.pairwise_iff_getElem]
      intro i j hi hj hij
      simp only [List.getElem_range]
      rw [List.length_range] at hj
      exact Wp_rise S _ i j (Nat.le_of_lt hij) hj
  rw [key, List.map_map]
  apply List.ext_getElem
  · simp
  · intro i h1 h2
    simp only [List.getElem_map, List.getElem_range, Function.comp]
    rw [List.getD_eq_getElem?_getD, List.getElem?_eq_getElem h2]; rfl
end Mine
end

section
namespace Mine

noncomputable def codeB (b : Nat) : List Nat → Nat
  | [] => 0
  | x :: r => x + b * codeB b r
theorem codeB_lt {b : Nat} : ∀ l : List Nat, (∀ x ∈ l, x < b) → codeB b l < b ^ l.length
  | [], _ => by simp [codeB]
  | x :: r, h => by
    have h1 := codeB_lt r fun y hy => h y (.tail _ hy)
    have h2 := h x (.head _)
    simp only [codeB, List.length_cons, Nat.pow_succ]
    have h3 : b * codeB b r + b ≤ b * b ^ r.length := by
      have := Nat.mul_le_mul_left b (Nat.succ_le_of_lt h1)
      rw [Nat.mul_succ] at this
      exact this
    rw [Nat.mul_comm (b ^ r.length) b]
    lia
theorem codeB_inj {b : Nat} : ∀ l l' : List Nat, l.length = l'.length → (∀ x ∈ l, x < b) → (∀ x ∈ l', x < b) → codeB b l = codeB b l' → l = l'
  | [], [], _, _, _, _ => rfl
  | [], _ :: _, h, _, _, _ => by cases h
  | _ :: _, [], h, _, _, _ => by cases h
  | x :: r, y :: r', hl, h1, h2, e => by
    have hx := h1 x (.head _)
    have hy := h2 y (.head _)
    simp only [codeB] at e
    have em : (x + b * codeB b r) % b = (y + b * codeB b r') % b := by rw [e]
    rw [Nat.add_mul_mod_self_left, Nat.add_mul_mod_self_left, Nat.mod_eq_of_lt hx, Nat.mod_eq_of_lt hy] at em
    subst em
    have e2 : b * codeB b r = b * codeB b r' := by lia
    have e3 : codeB b r = codeB b r' := Nat.eq_of_mul_eq_mul_left (by lia) e2
    rw [codeB_inj r r' (by simpa using hl) (fun z hz => h1 z (.tail _ hz)) (fun z hz => h2 z (.tail _ hz)) e3]

theorem pigeon (f : Nat → Nat) (N : Nat) (h : ∀ i, f i < N) : ∃ i j, i < j ∧ f i = f j := by
  refine Classical.byContradiction fun hn => ?_
  have hd : ((List.range (N + 1)).map f).Nodup := by
    rw [List.Nodup, List.pairwise_iff_getElem]
    intro i j hi hj hij e
    simp at e
    exact hn ⟨i, j, hij, e⟩
  have := nodup_length_le N _ hd fun x hx => by
    obtain ⟨i, _, rfl⟩ := List.mem_map.mp hx
    exact h i
  simp at this
  lia

noncomputable def iter {α : Type} (g : α → α) : Nat → α → α
  | 0, x => x
  | k + 1, x => g (iter g k x)
theorem exists_bound : ∀ l : List Nat, ∃ b, ∀ x ∈ l, x < b
  | [] => ⟨0, fun x hx => (nomatch hx)⟩
  | y :: r => by
    obtain ⟨b, hb⟩ := exists_bound r
    refine ⟨b + y + 1, fun x hx => ?_⟩
    rcases List.mem_cons.mp hx with rfl | hx
    · lia
    · have := hb x hx; lia

/-- THE WAY THERE UNDOES THE WAY BACK: texts of one length over finitely many signs are finitely many -/
theorem there_back {u : List Nat} (hne : u ≠ []) : there (back u) = u := by
  obtain ⟨b, hb⟩ := exists_bound u
  have inv : ∀ k, (iter there k u).length = u.length ∧ ∀ x ∈ iter there k u, x < b := fun k => by
    induction k with
    | zero => exact ⟨rfl, hb⟩
    | succ k ih =>
      refine ⟨(there_length _).trans ih.1, fun x hx => ih.2 x (there_mem _ x hx)⟩
  have nn : ∀ k, iter there k u ≠ [] := fun k e => by
    have := (inv k).1
    rw [e] at this
    exact hne (List.eq_nil_of_length_eq_zero this.symm)
  obtain ⟨i, j, hij, hc⟩ := pigeon (fun k => codeB b (iter there k u)) (b ^ u.length) fun k => by
    have := codeB_lt (b := b) (iter there k u) (inv k).2
    rw [(inv k).1] at this
    exact this
  have he := codeB_inj _ _ ((inv i).1.trans (inv j).1.symm) (inv i).2 (inv j).2 hc
  have down : ∀ i j, i < j → iter there i u = iter there j u → ∃ v, v ≠ [] ∧ there v = u := by
    intro i
    induction i with
    | zero =>
      intro j hj e
      obtain ⟨k, rfl⟩ : ∃ k, j = k + 1 := ⟨j - 1, by lia⟩
      exact ⟨iter there k u, nn k, e.symm⟩
    | succ i ih =>
      intro j hj e
      obtain ⟨k, rfl⟩ : ∃ k, j = k + 1 := ⟨j - 1, by lia⟩
      refine ih k (by lia) ?_
      have := congrArg back e
      simp only [iter] at this
      rw [back_there (nn i), back_there (nn k)] at this
      exact this
  obtain ⟨v, hv, hvu⟩ := down i j hij he
  rw [← hvu, back_there hv]
end Mine
end

section
namespace Mine
theorem lex_core : ∀ x y : List Nat, decide (x < y) = lexLt x y
  | x, [] => by rw [lexLt_nil_right, decide_eq_false_iff_not]; exact List.not_lt_nil x
  | [], b :: y => by rw [lexLt_nil_cons, decide_eq_true_eq]; exact List.nil_lt_cons b y
  | a :: x, b :: y => by
    show _ = (decide (a < b) || (a == b && lexLt x y))
    rw [← lex_core x y, Bool.eq_iff_iff, decide_eq_true_eq, List.cons_lt_cons_iff]
    simp
/-- the answer of _strcoll -/
theorem sign_neg (x y : List Nat) : (0 : Int) > ((if decide (y < x) = true then 1 else 0) - (if decide (x < y) = true then 1 else 0) : Int) ↔ lexLt x y = true := by
  rw [lex_core, lex_core]
  cases h1 : lexLt x y <;> cases h2 : lexLt y x <;> simp
  rw [lexLt_asymm h1] at h2
  cases h2
end Mine
end

section
open PySem PySem.W PyProof.Rows
set_option Elab.async false
set_option maxRecDepth 100000
set_option maxHeartbeats 0
namespace Mine
theorem hd : ∃ L W P : Prop, PySem.Challenge.rw_nq0198_01.wellSaid = true → L → W → P → PySem.Challenge.rw_nq0198_01.Holds := by
  apply Exists.intro; apply Exists.intro; apply Exists.intro
  intro ok hl hc hw
  refine holds_law ok fun said => ?_
  w_on
  refine let_mvar% ?hl := hl; let_mvar% ?hc := hc; let_mvar% ?hw := hw; ?_
  k_head
end Mine
end

section
open PySem PySem.W PyProof.Rows PySem.Calls
namespace Mine
local macro_rules | `(tactic| walk_at $k:str) => if ["exec If", "exec Assign", "exec Expr", "exec AugAssign", "isTrue Compare", "isTrue BoolOp", "eval Call Attribute", "eval Call", "eval Compare", "eval Attribute"].contains k.getString then `(tactic| k_fold) else Lean.Macro.throwUnsupported
local macro_rules | `(tactic| walk_at "ite") => `(tactic| with_reducible first | refine ite_tt ?_ | refine ite_ff ?_)
local macro_rules | `(tactic| walk_at "getAttr ref") => `(tactic| (k_here; k_dflt (refine' get_own ?k1 ?k2 ?k3 ?k4 ?k5 ?k6 ?k7 ?k8 ?k9 ?_; (case k1 | k2 => k_asm); (case k3 => k_inst); (case k4 | k5 | k6 | k7 => k_is); (case k8 => k_get); (case k9 => k_handed); k_whole)))
local macro_rules | `(tactic| cell_enter) => `(tactic| (refine' code_defC ?k1 ?k2 ?k3 ?k4 ?k5 ?kA ?kF ?kK ?k6 ?k7 ?k8 ?k9 ?kB ?kD ?_ ?c2 ?c3 ?c4; (case kA | kF => exact rfl); (case kK => first | exact rfl | assumption); (case k1 | k2 | k3 | k4 | k5 => k_asm); (case k6 | k7 => k_is); (case k8 => k_room); (case k9 => first | exact BindsTo.of_eq rfl | exact binds_K (by k_in) rfl (by k_is) rfl rfl rfl); (case kB => exact rfl); (case kD => decide +kernel); (case c2 | c3 | c4 => exact rfl); k_whole; intro g' L' h' tk' cells' FG' F' N' Y' B' X' T' l1; (try k_lt l1); k_cells Y'; (try simp only [List.cons_append, List.nil_append] at N'); (try dsimp only); (try k_lift B'); (try k_fold)))
local macro_rules | `(tactic| cell_enter) => `(tactic| (refine' code_def ?k1 ?k2 ?k3 ?k4 ?k5 ?kA ?kF ?kK ?k6 ?k7 ?k8 ?k9 ?kB ?_ ?c2 ?c3 ?c4 ?c5; (case kA | kF => exact rfl); (case kK => first | exact rfl | assumption); (case k1 | k2 | k3 | k4 | k5 => k_asm); (case k6 | k7 => k_is); (case k8 => k_room); (case k9 => first | exact BindsTo.of_eq rfl | exact binds_K (by k_in) rfl (by k_is) rfl rfl rfl); (case c5 => decide); (case kB => exact locs rfl); (case c2 | c3 | c4 => exact rfl); k_whole; intro _ _ _ _ _ _ B' _ _; (try dsimp only); (try k_lift B'); (try k_fold)))
local macro_rules | `(tactic| k_ne) => `(tactic| (refine neN ?_; (try dsimp only); first | with_reducible assumption | lia))
local macro_rules | `(tactic| k_all) => `(tactic| assumption)

section
open PySem PySem.W PyProof.Rows
set_option Elab.async false
set_option compiler.extract_closed false
set_option maxRecDepth 100000
set_option maxHeartbeats 8000000

noncomputable abbrev loose : List Str := [Str.ofString "_twin_re_1", Str.ofString "UnsupportedOperation", Str.ofString "IOBase", Str.ofString "BufferedIOBase", Str.ofString "TextIOBase", Str.ofString "BytesIO", Str.ofString "StringIO", Str.ofString "shlex", Str.ofString "split", Str.ofString "_find_unsafe"]

theorem useA {M : Model} {A : Around} {cn : Str} {cs : Scope} {L a : Addr} {ccd : Value} {cl : List (Str × Addr)} {outer : List Env} {dp un : Nat} {α : Type} {t : Sem α} {Q : α → Shared → Prop} {E : Value → Shared → Prop} {s : Shared}
    (hh : A.handled = none) (hf : A.frames = some (envX cn cs L a ccd cl :: outer)) (hg : A.guards = some []) (hd : A.depth ≤ dp) (hu : A.units ≤ un)
    (h : wpAny M (ktrTop dp un (some []) cn cs L a ccd cl outer) t Q E s) : wpAny M A t Q E s := fun Γ p hΓ => h Γ p
  ⟨hΓ.1.trans hh, Nat.le_trans hΓ.2.1 hd, fun l hl => hΓ.2.2.1 l (hf.trans hl), fun g hl => hΓ.2.2.2.1 g (hg.trans hl), Nat.le_trans hΓ.2.2.2.2 hu⟩

noncomputable abbrev fsc (ns : List (Str × NameKind)) (ig ic : Bool) (mo : List (Str × Const)) : Scope := { kind := .function, names := ns, isGenerator := ig, isCoroutine := ic, more := mo }
/-- a contract: the tree, run from any frame at depth dp at most over that ledger -/
noncomputable abbrev Con (w : World) (mean : ExcName → Option Value) (mg mb : Str → Option Value) (dp : Nat) (news : List (Addr × Obj)) (tr : Sem Value) (post : Heap → Addr → (Str → Option Value) → Shared → (Value → Shared → Prop) → Prop) : Prop :=
  ∀ (cn : Str) (ns : List (Str × NameKind)) (ig ic : Bool) (mo : List (Str × Const)) (a : Addr) (ccd : Value) (cl : List (Str × Addr)) (outer : List Env) (A₀ : Around) (base h₀ : Heap) (L : Addr) (m : Str → Option Value) (s : Shared) (Q E : Value → Shared → Prop),
    Below A₀ base outer h₀ → Fr h₀ L s.heap m → (hd.heap_1 w.params).In h₀ → News h₀ L s.heap news → Top hd.view_1 (looseW hd.view_1 loose) mean mg mb h₀ → post h₀ L m s Q →
    wpAny (model PySem.Challenge.rw_nq0198_01.row.prog w) (ktrTop dp (dp * 10) (some []) cn (fsc ns ig ic mo) L a ccd cl outer) tr Q E s
/-- a contract at a call of its tree -/
theorem useC {w : World} {mean : ExcName → Option Value} {mg mb : Str → Option Value} {dp : Nat} {news : List (Addr × Obj)} {tr : Sem Value} {post : Heap → Addr → (Str → Option Value) → Shared → (Value → Shared → Prop) → Prop} (C : Con w mean mg mb dp news tr post)
    {cn : Str} {ns : List (Str × NameKind)} {ig ic : Bool} {mo : List (Str × Const)} {a : Addr} {ccd : Value} {cl : List (Str × Addr)} {outer : List Env} {A₀ A : Around} {base h₀ : Heap} {L : Addr} {m : Str → Option Value} {s : Shared} {Q E : Value → Shared → Prop}
    (p : post h₀ L m s Q) (hh : A.handled = none := by exact rfl) (hf : A.frames = some (envX cn (fsc ns ig ic mo) L a ccd cl :: outer) := by exact rfl) (hg : A.guards = some [] := by exact rfl) (hd : A.depth ≤ dp := by exact Nat.le_of_ble_eq_true rfl) (hu : A.units ≤ dp * 10 := by exact Nat.le_of_ble_eq_true rfl)
    (B : Below A₀ base outer h₀ := by k_asm) (F : Fr h₀ L s.heap m := by k_asm) (X : (Mine.hd.heap_1 w.params).In h₀ := by k_asm) (N : News h₀ L s.heap news := by k_asm) (T : Top Mine.hd.view_1 (looseW Mine.hd.view_1 loose) mean mg mb h₀ := by k_asm) : wpAny (model PySem.Challenge.rw_nq0198_01.row.prog w) A tr Q E s :=
  useA hh hf hg hd hu (C cn ns ig ic mo a ccd cl outer A₀ base h₀ L m s Q E B F X N T p)
/-- a call of that object -/
theorem atRef (n : Nat) {M : Model} {A : Around} {pos : List Value} {kw : List (Str × Value)} {Q E : Value → Shared → Prop} {s : Shared} (h : wpAny M A (call (.ref n) pos kw) Q E s) : wpAny M A (call (.ref n) pos kw) Q E s := h
/-- it hands back a value and leaves the ledger as it was -/
noncomputable abbrev Gives (news : List (Addr × Obj)) (v : Tok → Value) : Heap → Addr → (Str → Option Value) → Shared → (Value → Shared → Prop) → Prop :=
  fun h₀ L m s Q => ∀ (t : Tok) (h' : Heap) (tk' : Nat), Fr h₀ L h' m → News h₀ L h' news → Q (v t) { s with heap := h', toks := tk' }

theorem news_sub {h₀ h : Heap} {L : Addr} {news news' : List (Addr × Obj)} (N : News h₀ L h news') (hs : ∀ p ∈ news, p ∈ news') : News h₀ L h news := fun p hp => N p (hs p hp)

theorem allLt_out {d : Nat} : ∀ {l : List (Addr × Obj)}, AllLt d l → ∀ p ∈ l, p.1 < d
  | [], _, _, hp => (nomatch hp)
  | _ :: _, h, _, hp => by
    rcases List.mem_cons.mp hp with rfl | hp
    · exact h.1
    · exact allLt_out h.2 _ hp
theorem drop2 {h₀ h : Heap} {L : Addr} {a b c d : Addr × Obj} {news : List (Addr × Obj)} (N : News h₀ L h (a :: b :: c :: d :: news)) : News h₀ L h (a :: b :: news) := fun p hp => N p (by
  rcases List.mem_cons.mp hp with rfl | hp
  · exact .head _
  · rcases List.mem_cons.mp hp with rfl | hp
    · exact .tail _ (.head _)
    · exact .tail _ (.tail _ (.tail _ (.tail _ hp))))

section
variable (w : World) (mean : ExcName → Option Value) (mg mb : Str → Option Value)
theorem strcoll_c (news : List (Addr × Obj)) (a b : Str) (ta tb : Tok) :
    Con w mean mg mb 500 news (call (.ref 51) [.str a ta, .str b tb]) (Gives news fun t => .int (b2i (decide (b.cps.toList < a.cps.toList)) - b2i (decide (a.cps.toList < b.cps.toList))) t) := by
  unfold Con; k_fill
  intro cn ns ig ic mo a ccd cl outer A₀ base h₀ L m s Q E B F X N T hret
  w_on
  refine wpAny_call ?_
  k_dflt cell_enter
  k_steps
  exact hret _ _ _ (by assumption) (by assumption)
end
end

section
open PySem PySem.W PyProof.Rows
set_option Elab.async false
set_option compiler.extract_closed false
set_option maxRecDepth 100000
set_option maxHeartbeats 8000000
set_option pp.maxSteps 3000
section
variable (w : World) (mean : ExcName → Option Value) (mg mb : Str → Option Value)
theorem read_c (x : Str) (p : Int) (hx : x.length ≤ 1000) (h0 : 0 ≤ p) (hp : p < (x.length : Int)) (si ds : Addr) (h1 h2 h3 : Int) (k1 k2 k3 t1 t2 tp : Tok) (rest : List (Addr × Obj)) (hne : si ≠ ds) (hr : ∀ q ∈ rest, q.1 ≠ ds) (t : Tok) :
    Con w mean mg mb 480 ((si, instObj 604 ds) :: (ds, dictOf [⟨h1, .str (Str.ofString "_StringIO__newline") k1, .str (Str.ofString "\n") t1⟩, ⟨h2, .str (Str.ofString "_StringIO__buf") k2, .str x t2⟩, ⟨h3, .str (Str.ofString "_StringIO__pos") k3, .int p tp⟩] 3) :: rest)
      (call (.ref 550) [.ref si, .int 1 t]) (fun h₀ L m s Q => ∀ (e : Int) (t tp : Tok) (h' : Heap) (tk' : Nat), e = p + 1 → Fr h₀ L h' m → News h₀ L h' ((si, instObj 604 ds) :: (ds, dictOf [⟨h1, .str (Str.ofString "_StringIO__newline") k1, .str (Str.ofString "\n") t1⟩, ⟨h2, .str (Str.ofString "_StringIO__buf") k2, .str x t2⟩, ⟨h3, .str (Str.ofString "_StringIO__pos") k3, .int e tp⟩] 3) :: rest) → Q (.str (Txt.slice x (some p) (some e)) t) { s with heap := h', toks := tk' }) := by
  unfold Con; k_fill
  intro cn ns ig ic mo a ccd cl outer A₀ base h₀ L m s Q E B F X N T hret
  w_on
  refine wpAny_call ?_
  k_dflt cell_enter
  k_steps
  all_goals refine hret _ _ _ _ _ ?_ (by assumption) (by assumption)
  all_goals first | rfl | omega
theorem read_end (x : Str) (p : Int) (hx : x.length ≤ 1000) (h0 : 0 ≤ p) (hp : p = (x.length : Int)) (si ds : Addr) (h1 h2 h3 : Int) (k1 k2 k3 t1 t2 tp : Tok) (rest : List (Addr × Obj)) (hne : si ≠ ds) (hr : ∀ q ∈ rest, q.1 ≠ ds) (t : Tok) :
    Con w mean mg mb 480 ((si, instObj 604 ds) :: (ds, dictOf [⟨h1, .str (Str.ofString "_StringIO__newline") k1, .str (Str.ofString "\n") t1⟩, ⟨h2, .str (Str.ofString "_StringIO__buf") k2, .str x t2⟩, ⟨h3, .str (Str.ofString "_StringIO__pos") k3, .int p tp⟩] 3) :: rest)
      (call (.ref 550) [.ref si, .int 1 t]) (fun h₀ L m s Q => ∀ (t : Tok) (h' : Heap) (tk' : Nat), Fr h₀ L h' m → News h₀ L h' ((si, instObj 604 ds) :: (ds, dictOf [⟨h1, .str (Str.ofString "_StringIO__newline") k1, .str (Str.ofString "\n") t1⟩, ⟨h2, .str (Str.ofString "_StringIO__buf") k2, .str x t2⟩, ⟨h3, .str (Str.ofString "_StringIO__pos") k3, .int p tp⟩] 3) :: rest) → Q (.str (Str.ofString "") t) { s with heap := h', toks := tk' }) := by
  unfold Con; k_fill
  intro cn ns ig ic mo a ccd cl outer A₀ base h₀ L m s Q E B F X N T hret
  w_on
  refine wpAny_call ?_
  k_dflt cell_enter
  k_steps
  all_goals exact hret _ _ _ (by assumption) (by assumption)
end
end

section
open PySem PySem.W PyProof.Rows PySem.Calls
set_option Elab.async false
set_option maxRecDepth 100000
set_option maxHeartbeats 8000000
set_option pp.maxSteps 3000
section
variable {prog : Program} {w : World} {A : Around} {K : Frag} {C x : Addr} {s : Shared} {h₀ : Heap} {L : Addr} {m : Str → Option Value} {R : Result → Shared → Prop}
noncomputable def NewBack (M : Model) (A : Around) (K : Frag) (C fI : Addr) (pos : List Value) (kw : List (Str × Value)) (R : Result → Shared → Prop) (obj : Value) (s₁ : Shared) : Prop :=
  ∃ x ox, obj = .ref x ∧ s₁.heap.get? x = some ox ∧ ox.cls = .ref C ∧ K.In s₁.heap ∧ codeAny M A (.call (.ref fI) ⟨.ref x :: pos, kw⟩) (InitBack x R) s₁
theorem newBack_ {M : Model} {fI : Addr} {pos : List Value} {kw : List (Str × Value)} {s₁ : Shared} {ox : Obj} {news : List (Addr × Obj)} (N : News h₀ L s₁.heap news) (hm : (x, ox) ∈ news) (hc : ox.cls = .ref C) (X : K.In s₁.heap)
    (h : codeAny M A (.call (.ref fI) ⟨.ref x :: pos, kw⟩) (InitBack x R) s₁) : NewBack M A K C fI pos kw R (.ref x) s₁ := ⟨x, ox, rfl, N.get hm, hc, X, h⟩
/-- a class whose own __new__ (a def, by the static method that wraps it) makes the object -/
theorem make_new {fN fI p : Addr} {pos : List Value} {kw : List (Str × Value)} {oc : Value} {od : Option Addr} {cd : ClassData} {sl : Array (Option Value)} {mc : Value} {rest : List Value}
    (F : Fr h₀ L s.heap m) (X₀ : K.In h₀) (hcls : K.lookup C = some ⟨oc, od, .cls cd, sl⟩) (hmro : cd.mro.isEmpty = false)
    (hcall : specialIn K (.ref C) "__call__" = some (some (.builtin "type.__call__"))) (htyp : instIn K (.ref C) (.type "type") = some true) (hsub : subIn K (.ref C) (.ref C) = some true)
    (hmade : peek K ⟨prog, w.params⟩ (Bind.madeBy (.ref C)) = some none) (hm : typeIn K (.ref C) = some mc) (hr : readsIn K C mc = true)
    (e : findCls K (.ref C) mc "__new__" = some (.get (.builtin "staticmethod.__get__") (.ref p) .none (.ref C))) (hp : recIn K p "staticmethod" = some (.ref fN :: rest)) (hv : handedIn (.ref fN) = true)
    (hi : findIn K (.ref C) "__init__" = some (some (.ref fI))) (hf : typeIn K (.ref fI) = some (.type "function"))
    (h : wpAny (model prog w) (A.under (.builtin "type.__call__" ⟨.ref C :: pos, kw⟩)) (call (.ref fN) (.ref C :: pos) kw)
      (NewBack (model prog w) (A.under (.builtin "type.__call__" ⟨.ref C :: pos, kw⟩)) K C fI pos kw R)
      (fun e s' => R (.error e) s') { s with toks := s.toks + 1 }) :
    codeAny (model prog w) A (.call (.ref C) ⟨pos, kw⟩) R s := by
  have X := X₀.keeps F.keep
  have hC := X _ _ hcls
  have call : Looks (model prog w) s.heap (specialOf (.ref C) "__call__") (some (.builtin "type.__call__")) := looks_specialIn X hcall
  have typ : Looks (model prog w) s.heap (isInstance (.ref C) (.type "type")) true := looks_instIn X htyp
  have made : Looks (model prog w) s.heap (Bind.madeBy (.ref C)) none := Looks.of_peek X hmade
  refine codeAny_of_tree ?_
  show wpAny _ _ (callAny (.ref C) _) _ _ _
  refine nd_load hC ?_
  show wpAny _ _ (callAny.viaDunder (.ref C) _) _ _ _
  unfold callAny.viaDunder
  refine wpAny_bind (call.at ?_)
  dsimp only
  rw [tc_bind]
  refine wpAny_bind (wpAny_pure (wpAny_bind (wpAny_pure ?_)))
  refine wpAny_pure (a := Fin.again (.call (.builtin "type.__call__") ⟨.ref C :: pos, kw⟩)) (And.intro rfl ?_)
  refine codeAny_call_builtin_at (Code.quiet_builtin _ (by decide +kernel)) entry_typeCall (check_slot tc_kind tc_split typ (tc_args _ _ _) ?_)
  unfold Builtin.«type.__call__»
  have hmm : Looks (model prog w) s.heap (mroOf (.ref C)) cd.mro := ((Looks.ld (part := none) hC).andThen .now).andThen .now
  repeat (first | with_reducible refine wpAny_mono h ?_ fun _ _ z => z | with_reducible refine cls_sm F X₀ hm hr e hp hv ?_ | simp only [hmro, Bool.false_eq_true, if_false] | lk)
  rintro obj s₁ ⟨x, ox, rfl, hx, hc, X₁, z⟩
  have t1 : Looks (model prog w) s₁.heap (typeOf (.ref x)) (.ref C) := (Looks.ld hx).andThen (by rw [hc]; exact .now)
  have s1 : Looks (model prog w) s₁.heap (isSubtype (.ref C) (.ref C)) true := looks_subIn X₁ hsub
  have i1 : Looks (model prog w) s₁.heap (typeLookup (.ref C) "__init__") (some (.ref fI)) := looks_findIn X₁ hi
  have b1 : Looks (model prog w) s₁.heap (bindSpecial (.ref fI) (.ref x)) (.ref fI, [.ref x]) := bind_fn X₁ _ hf
  unfold isInstance callSpecial? specialOf
  repeat (first | with_reducible refine wpAny_call ?_ | lk)
  refine codeAny_mono z fun r s' z => ?_
  rcases r with e | (v | _ | _ | _) <;> first | exact z | exact z.elim | skip
  obtain ⟨rfl, z⟩ := z
  exact wpAny_pure (wpAny_pure z)

/-- object.__new__(cls) for a class with a maker of its own above it -/
theorem obj_new {h : Heap} {g : Array GenState} {d : Drawn} {t : Nat} {os : OsState} {oc : Value} {od : Option Addr} {cd : ClassData} {sl : Array (Option Value)} (X : K.In h) (hcls : K.lookup C = some ⟨oc, od, .cls cd, sl⟩) (e1 : cd.abstract = false) (e2 : cd.hasDel = false)
    (hbase : peek K ⟨prog, w.params⟩ (Bind.staticBase (.ref C)) = some (.type "object")) (hmade : peek K ⟨prog, w.params⟩ (Bind.madeBy (.type "object")) = some (some "object.__new__")) (htyp : instIn K (.ref C) (.type "type") = some true) (hsub : subIn K (.ref C) (.type "object") = some true)
    (hq : R (.ok (.ret (.ref (h.objs.size + 1)))) ⟨(h.push emptyDict).push (instObj C h.objs.size), g, d, t, os⟩) :
    codeAny (model prog w) A (.call (.builtin "object.__new__") ⟨[.ref C], []⟩) R ⟨h, g, d, t, os⟩ := by
  have hC := X _ _ hcls
  have F := PySem.F.objNew
  have typ : Looks (model prog w) h (isInstance (.ref C) (.type "type")) true := looks_instIn X htyp
  have top : Looks (model prog w) h (isSubtype (.ref C) (.type "object")) true := looks_subIn X hsub
  have base : Looks (model prog w) h (Bind.staticBase (.ref C)) (.type "object") := Looks.of_peek X hbase
  have made : Looks (model prog w) h (Bind.madeBy (.type "object")) (some "object.__new__") := Looks.of_peek X hmade
  have here : Looks (model prog w) h (Bind.madeHere "object.__new__" (.ref C)) () := base.andThen (made.andThen (Looks.of_pure (by simp only [Option.map_some, bne_self_eq_false, Bool.false_eq_true, if_false])))
  refine codeAny_call_builtin_code (Code.quiet_builtin _ F.quiet) ?_
  simp only [checkBuiltinCall, F.kind, F.split, F.row]
  have args : Bind.checkArgs "object.__new__" ⟨.hand, "object.__new__", "__new__", .cls, []⟩ ⟨[.ref C], []⟩ = pure () := by kernel_rfl
  rw [args]
  repeat (first | simp only [bne_self_eq_false, Bool.false_eq_true, if_false] | lk)
  refine codeAny_builtin F.entry ?_
  unfold Builtin.«object.__new__»
  have fin : ∀ A', wpAny (model prog w) A' (do
      let d ← if typeHasDict (.ref C) then some <$> alloc { cls := .type "dict", data := .dict #[] } else pure none
      ret (← newObj (.ref C) .plain d)) (fun fin s' => match fin with | .done f => R (.ok f) s' | .again c' => c'.quiet = true ∧ codeAny (model prog w) A c' R s') (fun e s' => R (.error e) s') ⟨h, g, d, t, os⟩ := by
    intro A'
    show wpAny _ _ ((alloc emptyDict >>= fun x => pure (some x)) >>= _) _ _ _
    refine wpAny_bind (wpAny_bind (wpAny_alloc (wpAny_pure (wpAny_bind ?_))))
    show wpAny _ _ (newObjAsIs _ _ _) _ _ _
    unfold newObjAsIs classHasDel
    refine wpAny_bind (wpAny_alloc (wpAny_bind (wpAny_bind (wpAny_load (Heap.get?_push_of_some _ (Heap.get?_push_of_some _ hC)) (wpAny_pure ?_)))))
    rw [e2]
    refine wpAny_pure (wpAny_pure ?_)
    show R _ _
    rw [Heap.size_push]
    exact hq
  repeat (first | simp only [e1, Bool.false_eq_true, if_false] | exact fin _ | lk)

theorem obj_new_K {oc : Value} {od : Option Addr} {cd : ClassData} {sl : Array (Option Value)} {news : List (Addr × Obj)} {Q E : Value → Shared → Prop} (F : Fr h₀ L s.heap m) (X₀ : K.In h₀) (N : News h₀ L s.heap news) (hcls : K.lookup C = some ⟨oc, od, .cls cd, sl⟩) (e1 : cd.abstract = false) (e2 : cd.hasDel = false)
    (hbase : peek K ⟨prog, w.params⟩ (Bind.staticBase (.ref C)) = some (.type "object")) (hmade : peek K ⟨prog, w.params⟩ (Bind.madeBy (.type "object")) = some (some "object.__new__")) (htyp : instIn K (.ref C) (.type "type") = some true) (hsub : subIn K (.ref C) (.type "object") = some true)
    (h : ∀ x dx h', Fr h₀ L h' m → News h₀ L h' ((x, instObj C dx) :: (dx, dictOf [] 0) :: news) → (∀ p ∈ news, p.1 < dx) → dx < x → Q (.ref x) { s with heap := h' }) :
    wpAny (model prog w) A (call (.builtin "object.__new__") [.ref C]) Q E s := by
  obtain ⟨hh, g, d, t, os⟩ := s
  refine wpAny_call (obj_new (X₀.keeps F.keep) hcls e1 e2 hbase hmade htyp hsub ?_)
  have N' := (N.push F emptyDict).push (F.push _) (instObj C hh.objs.size)
  rw [Heap.size_push] at N'
  exact h _ hh.objs.size _ ((F.push _).push _) N' (fun p hp => Heap.lt_size (N p hp).1) (Nat.lt_succ_self _)
end
end

section
open PySem PySem.W PyProof.Rows PySem.Calls
set_option Elab.async false
set_option compiler.extract_closed false
set_option maxRecDepth 100000
set_option maxHeartbeats 8000000
set_option pp.maxSteps 3000
section
variable (w : World) (mean : ExcName → Option Value) (mg mb : Str → Option Value)
theorem sio_c (news : List (Addr × Obj)) (x : Str) (tx : Tok) (hx : x.length ≤ 1000) :
    Con w mean mg mb 460 news (call (.ref 604) [.str x tx]) (fun h₀ L m s Q => ∀ (si ds : Addr) (h1 h2 h3 : Int) (k1 k2 k3 t1 t2 tp : Tok) (h' : Heap) (tk' : Nat), Fr h₀ L h' m →
      News h₀ L h' ((si, instObj 604 ds) :: (ds, dictOf [⟨h1, .str (Str.ofString "_StringIO__newline") k1, .str (Str.ofString "\n") t1⟩, ⟨h2, .str (Str.ofString "_StringIO__buf") k2, .str x t2⟩, ⟨h3, .str (Str.ofString "_StringIO__pos") k3, .int 0 tp⟩] 3) :: news) →
      (∀ p ∈ news, p.1 < ds) → ds < si → Q (.ref si) { s with heap := h', toks := tk' }) := by
  unfold Con; k_fill
  intro cn ns ig ic mo a ccd cl outer A₀ base h₀ L m s Q E B F X N T hret
  w_on
  refine wpAny_call ?_
  k_dflt (refine' make_new (fN := 97) (fI := 374) (p := 101) ?F ?X ?h1 ?h2 ?h3 ?h4 ?h5 ?h6 ?h7 ?h8 ?h9 ?h10 ?h11 ?h12 ?h13 ?_; (case F => exact F); (case X => exact X); (case h1 => k_is); (case h2 => exact rfl); (case h3 => k_is); (case h4 => k_is); (case h5 => k_is); (case h6 => kernel_rfl); (case h7 => k_is); (case h8 => k_is); (case h9 => k_is); (case h10 => k_is); (case h11 => exact rfl); (case h12 => k_is); (case h13 => k_is))
  k_steps
  k_dflt (refine' obj_new_K ?F ?X ?N ?h1 ?h2 ?h3 ?h4 ?h5 ?h6 ?h7 ?_; (case F => k_asm); (case X => k_asm); (case N => k_asm); (case h1 => k_is); (case h2 => exact rfl); (case h3 => exact rfl); (case h4 => kernel_rfl); (case h5 => kernel_rfl); (case h6 => k_is); (case h7 => k_is))
  intro x' d' h' F' N' l1 l2
  (try k_lt l1); (try k_lt2 l2); (try k_sweep)
  k_steps
  k_dflt (refine' newBack_ ?N ?m ?c ?X ?_; (case N => k_asm); (case m => k_mem); (case c => exact rfl); (case X => k_in); k_whole)
  k_dflt cell_enter
  k_steps
  exact hret _ _ _ _ _ _ _ _ _ _ _ _ _ (by assumption) (drop2 (by assumption)) (allLt_out l1.2.2) l2
end
end

section
open PySem PySem.W PyProof.Rows PySem.Calls
set_option Elab.async false
set_option maxRecDepth 100000
set_option maxHeartbeats 8000000
set_option pp.maxSteps 3000
theorem dq_mro : mroOf (.type "collections.deque") = pure [.type "collections.deque", .type "object"] := by rw [mroOf_type]; kernel_rfl
theorem dq_new_lookup : typeLookup (.type "collections.deque") "__new__" = pure (some (.builtin "collections.deque.__new__")) := by rw [typeLookup_type, builtinLookup_eq_fast]; kernel_rfl
theorem dq_slot_init : Slot "collections.deque" "__init__" "collections.deque.__init__" :=
  .of (owner := "collections.deque") (n := "__init__") (by rw [typeLookup_type, builtinLookup_eq_fast]; kernel_rfl) (by decide +kernel) (by decide +kernel) (by decide +kernel)
    (by first | exact .inl (by decide +kernel) | exact .inr (by decide +kernel)) (by rw [isSubtype_type]; kernel_rfl)
theorem dq_called : TypeCalled "collections.deque" "collections.deque.__new__" "collections.deque.__init__" :=
  ⟨by decide +kernel, by decide +kernel, ⟨_, _, dq_mro⟩, madeBy_type dq_mro dq_new_lookup (by decide +kernel), by decide +kernel, by rw [isSubtype_type]; kernel_rfl, dq_slot_init⟩
theorem dq_typeCall : checkTypeCall "collections.deque" ⟨[], []⟩ = pure () := by kernel_rfl
theorem dq_newCall : checkBuiltinCall "collections.deque.__new__" ⟨[.type "collections.deque"], []⟩ = pure () := by kernel_rfl
theorem dq_entry_new : entryFor table "collections.deque.__new__" = some Builtin.«collections.deque.__new__» := entryFor_of_tree (by kernel_rfl)
theorem dq_entry_init : entryFor table "collections.deque.__init__" = some Builtin.«collections.deque.__init__» := entryFor_of_tree (by kernel_rfl)
theorem dq_plain : plainId "collections.deque.__new__" = true := by decide +kernel
theorem dq_args (a : Value) : argsOk "collections.deque.__init__" ⟨[a], []⟩ := by unfold argsOk; kernel_rfl
theorem dq_sub : isSubtype (.type "collections.deque") (.type "collections.deque") = pure true := by rw [isSubtype_type]; kernel_rfl
noncomputable abbrev dqObj : Obj := { cls := .type "collections.deque", data := .fields #[.none, rawInt 0] }
section
variable {prog : Program} {w : World} {A : Around} {E : Value → Shared → Prop} {s : Shared} {h₀ : Heap} {L : Addr} {m : Str → Option Value} {news : List (Addr × Obj)} {Q : Value → Shared → Prop}
theorem dq_code_new {Q₁ : Value → Shared → Prop} (h : Q₁ (.ref s.heap.objs.size) { s with heap := s.heap.push dqObj }) :
    codeAny (model prog w) A (.call (.builtin "collections.deque.__new__") ⟨[.type "collections.deque"], []⟩) (wants Q₁ E) s := by
  refine codeAny_call_builtin dq_plain dq_entry_new (wpAny_of_eq dq_newCall ?_)
  have hsub := dq_sub
  have hmro := dq_mro
  obtain ⟨hp, g, d, tk, os⟩ := s
  unfold Builtin.«collections.deque.__new__» Builtin.Deque.newArgs Builtin.Deque.ty Builtin.Deque.new
  wp_walk
  exact h
/-- deque() -/
theorem dq_call (F : Fr h₀ L s.heap m) (N : News h₀ L s.heap news) (h : ∀ d h', Fr h₀ L h' m → News h₀ L h' ((d, dqObj) :: news) → (∀ p ∈ news, p.1 < d) → Q (.ref d) { s with heap := h' }) :
    wpAny (model prog w) A (call (.type "collections.deque") []) Q E s := by
  refine callType_codes (Q₁ := fun obj s₁ => obj = .ref s.heap.objs.size ∧ s₁ = { s with heap := s.heap.push dqObj }) dq_called dq_typeCall dq_entry_init (dq_code_new ⟨rfl, rfl⟩) ?_
  rintro obj s₁ ⟨rfl, rfl⟩
  have hg : (s.heap.push dqObj).get? s.heap.objs.size = some dqObj := Heap.get?_push_size _ rfl
  have N' := News.push F N dqObj
  have U := news_upd (pre := []) (f := Obj.mapFields fun x => x.setIfInBounds 0 Value.none) (o' := dqObj) (F.push dqObj) N' (fun p hp => (nomatch hp)) (fun p hp => Nat.ne_of_lt (Heap.lt_size (N p hp).1)) rfl rfl
  have fin := h _ _ U.1 U.2 (fun p hp => Heap.lt_size (N p hp).1)
  refine ⟨⟨_, hg, rfl⟩, dq_args _, ?_⟩
  obtain ⟨hp, g, d, tk, os⟩ := s
  unfold Builtin.«collections.deque.__init__» Builtin.Deque.clear Builtin.Deque.items
  wp_walk
  exact ⟨rfl, fin⟩
end
end

section
open PySem PySem.W PyProof.Rows PySem.Calls
set_option Elab.async false
set_option compiler.extract_closed false
set_option maxRecDepth 100000
set_option maxHeartbeats 8000000
set_option pp.maxSteps 3000
local macro_rules | `(tactic| walk_at "call ref") => `(tactic| (k_here; with_reducible refine atRef 604 ?_; k_dflt (refine' useC (sio_c _ _ _ _ _ _ _ ?hx) ?_; (case hx => assumption); k_whole); intro _ _ _ _ _ _ _ _ _ _ _ _ _ _ _ l1 l2; (try k_lt l1); (try k_lt2 l2); (try k_sweep)))
local macro_rules | `(tactic| walk_at "call type:collections.deque") => `(tactic| (k_here; k_dflt (refine' dq_call ?F ?N ?_; (case F => k_asm); (case N => k_asm); k_whole); intro d' h' F' N' l1; (try k_lt l1); (try k_sweep)))
set_option genInjectivity false in
set_option genSizeOf false in
structure LexC where
  (si pb fs : Addr)
  (h0 h1 h2 h3 h4 h5 h6 h7 h8 h9 h10 h11 h12 h13 h14 h15 h16 h17 h18 : Int)
  (k0 k1 k2 k3 k4 k5 k6 k7 k8 k9 k10 k11 k12 k13 k14 k15 k16 k17 k18 : Tok)
  (t4 t5 t6 t8 t9 t10 t14 t18 : Tok)
noncomputable abbrev lexD (c : LexC) (com : Str) (wsp : Bool) (st tok ln : Value) : Obj := dictOf [⟨c.h0, .str (Str.ofString "instream") c.k0, .ref c.si⟩, ⟨c.h1, .str (Str.ofString "infile") c.k1, .none⟩, ⟨c.h2, .str (Str.ofString "posix") c.k2, .bool true⟩, ⟨c.h3, .str (Str.ofString "eof") c.k3, .none⟩, ⟨c.h4, .str (Str.ofString "commenters") c.k4, .str com c.t4⟩, ⟨c.h5, .str (Str.ofString "wordchars") c.k5, .str (Str.ofString "abcdfeghijklmnopqrstuvwxyzABCDEFGHIJKLMNOPQRSTUVWXYZ0123456789_ßàáâãäåæçèéêëìíîïðñòóôõöøùúûüýþÿÀÁÂÃÄÅÆÇÈÉÊËÌÍÎÏÐÑÒÓÔÕÖØÙÚÛÜÝÞ") c.t5⟩, ⟨c.h6, .str (Str.ofString "whitespace") c.k6, .str (Str.ofString " \t\x0d\n") c.t6⟩, ⟨c.h7, .str (Str.ofString "whitespace_split") c.k7, .bool wsp⟩, ⟨c.h8, .str (Str.ofString "quotes") c.k8, .str (Str.ofString "'\"") c.t8⟩, ⟨c.h9, .str (Str.ofString "escape") c.k9, .str (Str.ofString "\\") c.t9⟩, ⟨c.h10, .str (Str.ofString "escapedquotes") c.k10, .str (Str.ofString "\"") c.t10⟩, ⟨c.h11, .str (Str.ofString "state") c.k11, st⟩, ⟨c.h12, .str (Str.ofString "pushback") c.k12, .ref c.pb⟩, ⟨c.h13, .str (Str.ofString "lineno") c.k13, ln⟩, ⟨c.h14, .str (Str.ofString "debug") c.k14, .int 0 c.t14⟩, ⟨c.h15, .str (Str.ofString "token") c.k15, tok⟩, ⟨c.h16, .str (Str.ofString "filestack") c.k16, .ref c.fs⟩, ⟨c.h17, .str (Str.ofString "source") c.k17, .none⟩, ⟨c.h18, .str (Str.ofString "_punctuation_chars") c.k18, .str (Str.ofString "") c.t18⟩] 19
set_option genInjectivity false in
set_option genSizeOf false in
structure SioC where
  (h1 h2 h3 : Int)
  (k1 k2 k3 t1 t2 : Tok)
noncomputable abbrev sioD (c : SioC) (x : Str) (p : Int) (tp : Tok) : Obj := dictOf [⟨c.h1, .str (Str.ofString "_StringIO__newline") c.k1, .str (Str.ofString "\n") c.t1⟩, ⟨c.h2, .str (Str.ofString "_StringIO__buf") c.k2, .str x c.t2⟩, ⟨c.h3, .str (Str.ofString "_StringIO__pos") c.k3, .int p tp⟩] 3
/-- the ledger of a lexer over the text x, at place p -/
noncomputable abbrev lexN (c : LexC) (e : SioC) (lx dx ds : Addr) (com : Str) (wsp : Bool) (st tok ln : Value) (x : Str) (p : Int) (tp : Tok) (news : List (Addr × Obj)) : List (Addr × Obj) :=
  (c.fs, dqObj) :: (c.pb, dqObj) :: (c.si, instObj 604 ds) :: (ds, sioD e x p tp) :: (lx, instObj 739 dx) :: (dx, lexD c com wsp st tok ln) :: news
/-- the addresses are apart -/
structure LexOk (c : LexC) (lx dx ds : Addr) (news : List (Addr × Obj)) : Prop where
  a1 : dx < lx
  a2 : lx < ds
  a3 : ds < c.si
  a4 : c.si < c.pb
  a5 : c.pb < c.fs
  rest : ∀ q ∈ news, q.1 ≠ dx ∧ q.1 ≠ ds
theorem rest_of {news : List (Addr × Obj)} {dx ds : Addr} (h : ∀ q ∈ news, q.1 < dx) (h2 : dx < ds) : ∀ q ∈ news, q.1 ≠ dx ∧ q.1 ≠ ds := fun q hq => ⟨neN (by have := ltN (h q hq); omega), neN (by have := ltN (h q hq); have := ltN h2; omega)⟩
section
variable (w : World) (mean : ExcName → Option Value) (mg mb : Str → Option Value)
theorem lex_c (news : List (Addr × Obj)) (x : Str) (tx : Tok) (hx : x.length ≤ 1000) :
    Con w mean mg mb 440 news (call (.ref 739) [.str x tx] [(Str.ofString "posix", .bool true)]) (fun h₀ L m s Q => ∀ (c : LexC) (e : SioC) (lx dx ds : Addr) (t1 t2 t3 tp : Tok) (h' : Heap) (tk' : Nat), Fr h₀ L h' m →
      News h₀ L h' (lexN c e lx dx ds (Str.ofString "#") false (.str (Str.ofString " ") t1) (.str (Str.ofString "") t2) (.int 1 t3) x 0 tp news) → LexOk c lx dx ds news → Q (.ref lx) { s with heap := h', toks := tk' }) := by
  unfold Con; k_fill
  intro cn ns ig ic mo a ccd cl outer A₀ base h₀ L m s Q E B F X N T hret
  w_on
  k_steps
  refine' hret ⟨_, _, _, _, _, _, _, _, _, _, _, _, _, _, _, _, _, _, _, _, _, _, _, _, _, _, _, _, _, _, _, _, _, _, _, _, _, _, _, _, _, _, _, _, _, _, _, _, _⟩ ⟨_, _, _, _, _, _, _, _⟩ _ _ _ _ _ _ _ _ _ ?F ?N ?ok
  case F => assumption
  case N => assumption
  case ok =>
    clear hret
    refine ⟨?_, ?_, ?_, ?_, ?_, rest_of ?_ ?_⟩
    all_goals first | assumption | (refine ltN ?_; (try dsimp only); omega)
end
end

section
open PySem PySem.W PyProof.Rows PySem.Calls
set_option Elab.async false
set_option maxRecDepth 100000
set_option maxHeartbeats 8000000
set_option pp.maxSteps 3000
/-- a while by its turns: what is left is shown for all lesser states -/
theorem while_ind {prog : Program} {w : World} {A : Around} {E : Value → Shared → Prop} {s : Shared} {env : Env} {test : PySem.Expr} {body orelse : List Stmt} {Q : Flow → Shared → Prop} {pos : Pos}
    (I : Nat → Shared → Prop) (hE : PassesOwn (model prog w) A env E)
    (turn : ∀ n s, (∀ n' s', n' < n → I n' s' → WhlRest prog w A E env test body orelse Q 0 s') → I n s →
      wpAny (model prog w) A (isTrue test env (eval test env)) (fun b s₂ => WhlIf b (wpAny (model prog w) A (execs body env) (WhlPost prog w A E env test body orelse Q 0) E s₂) (wpAny (model prog w) A (execs orelse env) Q E s₂)) E s)
    (n : Nat) (h : I n s) : wpAny (model prog w) A (exec (.While test body orelse pos) env) Q E s := by
  refine whl_start 0 ?_
  induction n using Nat.strongRecOn generalizing s with
  | ind n ih => exact whl_turn (k := 0) hE (turn n s (fun n' s' hn hI => ih n' hn hI) h)

theorem lex_perm {c : LexC} {e : SioC} {lx dx ds : Addr} {com : Str} {wsp : Bool} {st tok ln : Value} {x : Str} {p : Int} {tp : Tok} {news : List (Addr × Obj)} {h₀ h : Heap} {L : Addr} :
    News h₀ L h (lexN c e lx dx ds com wsp st tok ln x p tp news) ↔ News h₀ L h ((c.si, instObj 604 ds) :: (ds, sioD e x p tp) :: (c.fs, dqObj) :: (c.pb, dqObj) :: (lx, instObj 739 dx) :: (dx, lexD c com wsp st tok ln) :: news) := by
  constructor
  all_goals
    intro N q hq
    refine N q ?_
    simp only [List.mem_cons] at hq ⊢
    rcases hq with h | h | h | h | h | h | h <;> simp only [h, true_or, or_true]

section
variable (w : World) (mean : ExcName → Option Value) (mg mb : Str → Option Value)
theorem lex_rest {c : LexC} {lx dx ds : Addr} {com : Str} {wsp : Bool} {st tok ln : Value} {news : List (Addr × Obj)} (O : LexOk c lx dx ds news) : ∀ q ∈ ((c.fs, dqObj) :: (c.pb, dqObj) :: (lx, instObj 739 dx) :: (dx, lexD c com wsp st tok ln) :: news), q.1 ≠ ds := by
  obtain ⟨a1, a2, a3, a4, a5, hr⟩ := O
  intro q hq
  simp only [List.mem_cons] at hq
  rcases hq with rfl | rfl | rfl | rfl | hq
  · exact neN (by have := ltN a3; have := ltN a4; have := ltN a5; lia)
  · exact neN (by have := ltN a3; have := ltN a4; lia)
  · exact neN (by have := ltN a2; lia)
  · exact neN (by have := ltN a1; have := ltN a2; lia)
  · exact (hr q hq).2
theorem read_lex (c : LexC) (e : SioC) (lx dx ds : Addr) (com : Str) (wsp : Bool) (st tok ln : Value) (x : Str) (p : Int) (tp : Tok) (news : List (Addr × Obj)) (O : LexOk c lx dx ds news) (hx : x.length ≤ 1000) (h0 : 0 ≤ p) (hp : p < (x.length : Int)) (t : Tok) :
    Con w mean mg mb 480 (lexN c e lx dx ds com wsp st tok ln x p tp news) (call (.ref 550) [.ref c.si, .int 1 t]) (fun h₀ L m s Q => ∀ (p' : Int) (t tp : Tok) (h' : Heap) (tk' : Nat), p' = p + 1 → Fr h₀ L h' m → News h₀ L h' (lexN c e lx dx ds com wsp st tok ln x p' tp news) → Q (.str (Txt.slice x (some p) (some p')) t) { s with heap := h', toks := tk' }) := by
  intro cn ns ig ic mo a ccd cl outer A₀ base h₀ L m s Q E B F X N T hret
  exact read_c w mean mg mb x p hx h0 hp c.si ds e.h1 e.h2 e.h3 e.k1 e.k2 e.k3 e.t1 e.t2 tp _ (neN (by have := ltN O.a3; lia)) (lex_rest O) t cn ns ig ic mo a ccd cl outer A₀ base h₀ L m s Q E B F X (lex_perm.mp N) T
    fun p' t tp h' tk' hp' F' N' => hret p' t tp h' tk' hp' F' (lex_perm.mpr N')
theorem read_lex0 (c : LexC) (e : SioC) (lx dx ds : Addr) (com : Str) (wsp : Bool) (st tok ln : Value) (x : Str) (p : Int) (tp : Tok) (news : List (Addr × Obj)) (O : LexOk c lx dx ds news) (hx : x.length ≤ 1000) (h0 : 0 ≤ p) (hp : p = (x.length : Int)) (t : Tok) :
    Con w mean mg mb 480 (lexN c e lx dx ds com wsp st tok ln x p tp news) (call (.ref 550) [.ref c.si, .int 1 t]) (fun h₀ L m s Q => ∀ (t : Tok) (h' : Heap) (tk' : Nat), Fr h₀ L h' m → News h₀ L h' (lexN c e lx dx ds com wsp st tok ln x p tp news) → Q (.str (Str.ofString "") t) { s with heap := h', toks := tk' }) := by
  intro cn ns ig ic mo a ccd cl outer A₀ base h₀ L m s Q E B F X N T hret
  exact read_end w mean mg mb x p hx h0 hp c.si ds e.h1 e.h2 e.h3 e.k1 e.k2 e.k3 e.t1 e.t2 tp _ (neN (by have := ltN O.a3; lia)) (lex_rest O) t cn ns ig ic mo a ccd cl outer A₀ base h₀ L m s Q E B F X (lex_perm.mp N) T
    fun t h' tk' F' N' => hret t h' tk' F' (lex_perm.mpr N')
end
end

section
open PySem PySem.W PyProof.Rows PySem.Calls
set_option Elab.async false
set_option maxRecDepth 100000
set_option maxHeartbeats 8000000
/-- a text of codes -/
noncomputable def txt (l : List Nat) : Str := ⟨l.toArray⟩
theorem txt_len (l : List Nat) : (txt l).length = l.length := by simp [txt, Str.length]
theorem txt_cps (l : List Nat) : (txt l).cps.toList = l := by simp [txt]
theorem txt_of (x : Str) : txt x.cps.toList = x := by cases x; simp [txt]
theorem txt_add (a b : List Nat) : txt a ++ txt b = txt (a ++ b) := by
  show Str.mk (a.toArray ++ b.toArray) = _
  simp [txt]
theorem cps_inj {x y : Str} (h : x.cps.toList = y.cps.toList) : x = y := by rw [← txt_of x, ← txt_of y, h]
theorem slice_txt (x : Str) {a b : Nat} (hab : a ≤ b) (hb : b ≤ x.length) : Txt.slice x (some (a : Int)) (some (b : Int)) = txt ((x.cps.toList.drop a).take (b - a)) := StrLaws.sliceText_nat x hab hb
theorem has_one (x : Str) (c : Nat) : Txt.contains x (txt [c]) = decide (c ∈ x.cps.toList) := StrLaws.found_one x c
/-- a sign with no say in a lexer -/
structure Safe (c : Nat) : Prop where
  nl : ((txt [c]).cps.toList == (Str.ofString "\n").cps.toList) = false
  ws : Txt.contains (Str.ofString " \t\x0d\n") (txt [c]) = false
  es : Txt.contains (Str.ofString "\\") (txt [c]) = false
  qs : Txt.contains (Str.ofString "'\"") (txt [c]) = false
theorem ws_cps : (Str.ofString " \t\x0d\n").cps.toList = [32, 9, 13, 10] := by decide +kernel
theorem es_cps : (Str.ofString "\\").cps.toList = [92] := by decide +kernel
theorem qs_cps : (Str.ofString "'\"").cps.toList = [39, 34] := by decide +kernel
theorem nl_cps : (Str.ofString "\n").cps.toList = [10] := by decide +kernel
theorem no_cps : (Str.ofString "").cps.toList = [] := by decide +kernel
theorem safe_of {c : Nat} (h : c ∉ [32, 9, 13, 10, 92, 39, 34]) : Safe c := by
  simp only [List.mem_cons, List.not_mem_nil, or_false, not_or] at h
  refine ⟨?_, ?_, ?_, ?_⟩
  · rw [txt_cps, nl_cps]; simp only [beq_eq_false_iff_ne, ne_eq, List.cons.injEq, and_true]; lia
  · rw [has_one, ws_cps]; simp only [List.mem_cons, List.not_mem_nil, or_false, decide_eq_false_iff_not, not_or]; lia
  · rw [has_one, es_cps]; simp only [List.mem_cons, List.not_mem_nil, or_false, decide_eq_false_iff_not, not_or]; lia
  · rw [has_one, qs_cps]; simp only [List.mem_cons, List.not_mem_nil, or_false, decide_eq_false_iff_not, not_or]; lia
theorem has_none (c : Nat) : Txt.contains (Str.ofString "") (txt [c]) = false := by
  rw [has_one, no_cps]
  simp
theorem txt39 : txt [39] = Str.ofString "'" := cps_inj (by decide +kernel)
theorem txt34 : txt [34] = Str.ofString "\"" := cps_inj (by decide +kernel)

section
variable {prog : Program} {w : World} {A : Around} {E : Value → Shared → Prop} {s : Shared} {x y : Str} {t u : Tok}
theorem in_fact {b : Bool} {Q : Value → Shared → Prop} (hb : Txt.contains x y = b) (h : Q (.bool b) s) : wpAny (model prog w) A (compareOp .In (.str y u) (.str x t)) Q E s := P.in_str (by rw [← hb] at h; exact h)
theorem notin_fact {Q : Value → Shared → Prop} (hb : Txt.contains x y = false) (h : Q (.bool true) s) : wpAny (model prog w) A (compareOp .NotIn (.str y u) (.str x t)) Q E s := by
  refine P.notIn_str ?_
  have e : (!(!(Builtin.Str.occurrences x y 0 x.length 1).isEmpty)) = true := by
    show (!Txt.contains x y) = true
    rw [hb]; rfl
  rw [e]
  exact h
theorem eq_fact {b : Bool} {Q : Value → Shared → Prop} (hb : (x.cps.toList == y.cps.toList) = b) (h : Q (.bool b) s) : wpAny (model prog w) A (compareOp .Eq (.str x t) (.str y u)) Q E s := P.eq_str (by rw [hb]; exact h)
theorem truthy_fact {b : Bool} {Q : Bool → Shared → Prop} (hl : x.length ≤ 1000) (hb : (x.length != 0) = b) (h : ∀ k, Q b { s with toks := k }) : wpAny (model prog w) A (PySem.truthy (.str x t)) Q E s :=
  KXt.truthy (by rw [← hb, Bool.eq_iff_iff, bne_iff_ne, bne_iff_ne]; lia) (by lia) h
theorem iadd_fact {Q : Value → Shared → Prop} (hx : x.length ≤ 1000) (hy : y.length ≤ 1000) (h : ∀ t k, Q (.str (x ++ y) t) { s with toks := k }) : wpAny (model prog w) A (inplaceOp .Add (.str x t) (.str y u)) Q E s := by
  refine P.iadd_str ?_
  have e0 : ∀ z : Str, z.length = 0 → z = Str.ofString "" := fun z hz => cps_inj (by rw [no_cps]; exact List.eq_nil_of_length_eq_zero (by simpa [Str.length] using hz))
  split
  · rename_i h0
    have := e0 x (by simpa using h0)
    subst this
    have e : Str.ofString "" ++ y = y := by rw [← txt_of y, ← txt_of (Str.ofString ""), no_cps, txt_add, List.nil_append]
    rw [e] at h
    exact h u s.toks
  · split
    · rename_i h0
      have := e0 y (by simpa using h0)
      subst this
      have e : x ++ Str.ofString "" = x := by rw [← txt_of x, ← txt_of (Str.ofString ""), no_cps, txt_add, List.append_nil]
      rw [e] at h
      exact h t s.toks
    · exact ⟨by rw [Str.length_append]; show _ ≤ sizeLine; have : (2000 : Nat) ≤ sizeLine := by decide
                lia, h _ _⟩
end
/-- a while by its turns, what is left hidden in R -/
theorem while_by {prog : Program} {w : World} {A : Around} {E : Value → Shared → Prop} {s : Shared} {env : Env} {test : PySem.Expr} {body orelse : List Stmt} {Q : Flow → Shared → Prop} {pos : Pos}
    (I : Nat → Shared → Prop) (hE : PassesOwn (model prog w) A env E) (n : Nat) (h : I n s)
    (turn : ∀ (R : Shared → Prop) n s, (∀ n' s', n' < n → I n' s' → R s') → I n s →
      wpAny (model prog w) A (isTrue test env (eval test env)) (fun b s₂ => WhlIf b (wpAny (model prog w) A (execs body env) (fun f s' => match f with | .next => R s' | .cont => R s' | .brk => Q .next s' | .ret v => Q (.ret v) s') E s₂) (wpAny (model prog w) A (execs orelse env) Q E s₂)) E s) :
    wpAny (model prog w) A (exec (.While test body orelse pos) env) Q E s := by
  refine while_ind I hE (fun n s ih hI => wpAny_mono (turn (WhlRest prog w A E env test body orelse Q 0) n s ih hI) (fun b s₂ h₂ => ?_) fun _ _ x => x) n h
  unfold WhlIf at h₂ ⊢
  split
  · rename_i hb
    rw [if_pos hb] at h₂
    refine wpAny_mono h₂ (fun f s' h' => ?_) fun _ _ x => x
    cases f <;> exact h'
  · rename_i hb
    rw [if_neg hb] at h₂
    exact h₂
theorem fr_canon {g : Heap} {L : Addr} {h : Heap} {m : Str → Option Value} {n : Str} {v : Option Value} (F : Fr g L h m) (e : m n = v) : Fr g L h (fun y => if y = n then v else m y) := by
  have : (fun y => if y = n then v else m y) = m := by
    funext y
    split
    · subst y; exact e.symm
    · rfl
  rw [this]
  exact F
/-- what a lexer reads off: state, token, rest; the whole -/
inductive LexR : Str → Str → List Nat → Str → Prop
  | sp_safe {c : Nat} {r : List Nat} {o : Str} : Safe c → LexR (Str.ofString "a") (txt [c]) r o → LexR (Str.ofString " ") (Str.ofString "") (c :: r) o
  | sp_quote {r : List Nat} {o : Str} : LexR (Str.ofString "'") (Str.ofString "") r o → LexR (Str.ofString " ") (Str.ofString "") (39 :: r) o
  | a_end {tok : Str} : 1 ≤ tok.length → LexR (Str.ofString "a") tok [] tok
  | a_safe {c : Nat} {r : List Nat} {tok o : Str} : Safe c → LexR (Str.ofString "a") (tok ++ txt [c]) r o → LexR (Str.ofString "a") tok (c :: r) o
  | a_q1 {r : List Nat} {tok o : Str} : LexR (Str.ofString "'") tok r o → LexR (Str.ofString "a") tok (39 :: r) o
  | a_q2 {r : List Nat} {tok o : Str} : LexR (Str.ofString "\"") tok r o → LexR (Str.ofString "a") tok (34 :: r) o
  | q1_end {r : List Nat} {tok o : Str} : LexR (Str.ofString "a") tok r o → LexR (Str.ofString "'") tok (39 :: r) o
  | q1_c {c : Nat} {r : List Nat} {tok o : Str} : c ≠ 39 → LexR (Str.ofString "'") (tok ++ txt [c]) r o → LexR (Str.ofString "'") tok (c :: r) o
  | q2_end {r : List Nat} {tok o : Str} : LexR (Str.ofString "a") tok r o → LexR (Str.ofString "\"") tok (34 :: r) o
  | q2_c {r : List Nat} {tok o : Str} : LexR (Str.ofString "\"") (tok ++ txt [39]) r o → LexR (Str.ofString "\"") tok (39 :: r) o
/-- a stop for the walker -/
noncomputable def Held (P : Prop) : Prop := P
theorem held {P : Prop} (h : Held P) : P := h
theorem unheld {P : Prop} (h : P) : Held P := h
theorem in_any {prog : Program} {w : World} {A : Around} {E : Value → Shared → Prop} {s : Shared} {x y : Str} {t u : Tok} {Q : Value → Shared → Prop} (h : ∀ b, Txt.contains x y = b → Q (.bool b) s) : wpAny (model prog w) A (compareOp .In (.str y u) (.str x t)) Q E s := in_fact rfl (h _ rfl)
/-- one sign more of what a lexer reads -/
theorem lexr_step {st tok o : Str} {k : Nat} {r : List Nat} (h : LexR st tok (k :: r) o) :
    (st = Str.ofString " " ∧ tok = Str.ofString "" ∧ (Txt.contains (Str.ofString " \t\x0d\n") (txt [k]) = false ∧ Txt.contains (Str.ofString "\\") (txt [k]) = false) ∧
      ((Txt.contains (Str.ofString "'\"") (txt [k]) = false ∧ LexR (Str.ofString "a") (txt [k]) r o) ∨ (Txt.contains (Str.ofString "'\"") (txt [k]) = true ∧ k = 39 ∧ LexR (txt [k]) (Str.ofString "") r o))) ∨
    (st = Str.ofString "a" ∧ (Txt.contains (Str.ofString " \t\x0d\n") (txt [k]) = false ∧ Txt.contains (Str.ofString "\\") (txt [k]) = false) ∧
      ((Txt.contains (Str.ofString "'\"") (txt [k]) = false ∧ LexR (Str.ofString "a") (tok ++ txt [k]) r o) ∨ (Txt.contains (Str.ofString "'\"") (txt [k]) = true ∧ LexR (txt [k]) tok r o))) ∨
    ((st.cps.toList == (Str.ofString " ").cps.toList) = false ∧ Txt.contains (Str.ofString "'\"") st = true ∧
      ((((txt [k]).cps.toList == st.cps.toList) = true ∧ LexR (Str.ofString "a") tok r o) ∨
       (((txt [k]).cps.toList == st.cps.toList) = false ∧ (Txt.contains (Str.ofString "\\") (txt [k]) = true → Txt.contains (Str.ofString "\"") st = false) ∧ LexR st (tok ++ txt [k]) r o))) := by
  have c39 : (Str.ofString "'").cps.toList = [39] := by decide +kernel
  have c34 : (Str.ofString "\"").cps.toList = [34] := by decide +kernel
  have q : ∀ c, (c = 39 ∨ c = 34) → (Txt.contains (Str.ofString " \t\x0d\n") (txt [c]) = false ∧ Txt.contains (Str.ofString "\\") (txt [c]) = false) ∧ Txt.contains (Str.ofString "'\"") (txt [c]) = true := by
    intro c hc; rcases hc with rfl | rfl <;> decide +kernel
  cases h with
  | sp_safe f g => exact .inl ⟨rfl, rfl, ⟨f.ws, f.es⟩, .inl ⟨f.qs, g⟩⟩
  | sp_quote g => exact .inl ⟨rfl, rfl, (q 39 (.inl rfl)).1, .inr ⟨(q 39 (.inl rfl)).2, rfl, txt39 ▸ g⟩⟩
  | a_safe f g => exact .inr (.inl ⟨rfl, ⟨f.ws, f.es⟩, .inl ⟨f.qs, g⟩⟩)
  | a_q1 g => exact .inr (.inl ⟨rfl, (q 39 (.inl rfl)).1, .inr ⟨(q 39 (.inl rfl)).2, txt39 ▸ g⟩⟩)
  | a_q2 g => exact .inr (.inl ⟨rfl, (q 34 (.inr rfl)).1, .inr ⟨(q 34 (.inr rfl)).2, txt34 ▸ g⟩⟩)
  | q1_end g => exact .inr (.inr ⟨by decide +kernel, by decide +kernel, .inl ⟨by rw [txt_cps, c39]; rfl, g⟩⟩)
  | q1_c f g => exact .inr (.inr ⟨by decide +kernel, by decide +kernel, .inr ⟨by rw [txt_cps, c39]; simpa using f, fun _ => by decide +kernel, g⟩⟩)
  | q2_end g => exact .inr (.inr ⟨by decide +kernel, by decide +kernel, .inl ⟨by rw [txt_cps, c34]; rfl, g⟩⟩)
  | q2_c g => exact .inr (.inr ⟨by decide +kernel, by decide +kernel, .inr ⟨by rw [txt_cps, c34]; rfl, fun hx => absurd hx (by decide +kernel), g⟩⟩)
end

section
open PySem PySem.W PyProof.Rows PySem.Calls
set_option Elab.async false
set_option compiler.extract_closed false
set_option maxRecDepth 100000
set_option maxHeartbeats 8000000
set_option pp.maxSteps 3000
section
variable (w : World) (mean : ExcName → Option Value) (mg mb : Str → Option Value)
theorem read_one (c : LexC) (e : SioC) (lx dx ds : Addr) (com : Str) (wsp : Bool) (st tok ln : Value) (x : Str) (p : Nat) (tp : Tok) (news : List (Addr × Obj)) (O : LexOk c lx dx ds news) (hx : x.length ≤ 1000) (k : Nat) (r : List Nat) (hr : x.cps.toList.drop p = k :: r) (y : Str) (hy : txt [k] = y) (t : Tok) :
    Con w mean mg mb 480 (lexN c e lx dx ds com wsp st tok ln x (p : Int) tp news) (call (.ref 550) [.ref c.si, .int 1 t]) (fun h₀ L m s Q => ∀ (t tp : Tok) (h' : Heap) (tk' : Nat), Fr h₀ L h' m → News h₀ L h' (lexN c e lx dx ds com wsp st tok ln x ((p + 1 : Nat) : Int) tp news) → Q (.str y t) { s with heap := h', toks := tk' }) := by
  intro cn ns ig ic mo a ccd cl outer A₀ base h₀ L m s Q E B F X N T hret
  have hlt : p < x.length := by
    have : (x.cps.toList.drop p).length = (k :: r).length := by rw [hr]
    simp only [List.length_drop, List.length_cons, Array.length_toList] at this
    show p < x.cps.size
    lia
  refine read_lex w mean mg mb c e lx dx ds com wsp st tok ln x p tp news O hx (by lia) (by lia) t cn ns ig ic mo a ccd cl outer A₀ base h₀ L m s Q E B F X N T ?_
  intro p' t' tp' h' tk' hp' F' N'
  have e' : p' = ((p + 1 : Nat) : Int) := by rw [hp']; rfl
  subst e'
  have := hret t' tp' h' tk' F' N'
  rw [slice_txt x (Nat.le_succ p) hlt, hr, show p.succ - p = 1 by lia]
  rw [← hy] at this
  exact this
end
theorem drop_next {l : List Nat} {p k : Nat} {r : List Nat} (h : l.drop p = k :: r) : l.drop (p + 1) = r ∧ p < l.length := by
  constructor
  · rw [← List.drop_drop, h]; rfl
  · have : (l.drop p).length = (k :: r).length := by rw [h]
    simp only [List.length_drop, List.length_cons] at this
    lia
theorem news_tail {h₀ h : Heap} {L : Addr} {q : Addr × Obj} {l : List (Addr × Obj)} (N : News h₀ L h (q :: l)) : News h₀ L h l := fun p hp => N p (.tail _ hp)
theorem no_len : (Str.ofString "").length = 0 := by decide +kernel
/-- the loop of read_token holds this at its head -/
noncomputable def RtI (g : Heap) (L : Addr) (s₀ : Shared) (c : LexC) (e : SioC) (lx dx ds : Addr) (x o : Str) (news : List (Addr × Obj)) (n : Nat) (s : Shared) : Prop :=
  ∃ (st tok : Str) (ts tt tl tp : Tok) (ln : Int) (q : Bool) (p : Nat) (m : Str → Option Value) (h : Heap) (tk : Nat),
    s = { s₀ with heap := h, toks := tk } ∧ Fr g L h m ∧ News g L h (lexN c e lx dx ds (Str.ofString "") true (.str st ts) (.str tok tt) (.int ln tl) x (p : Int) tp news) ∧
    m (Str.ofString "self") = some (.ref lx) ∧ m (Str.ofString "quoted") = some (.bool q) ∧ tok.length ≤ p ∧ p ≤ x.length ∧ n = x.length - p ∧ LexR st tok (x.cps.toList.drop p) o
/-- behind the count of the lines -/
noncomputable def RtM (g : Heap) (L : Addr) (m : Str → Option Value) (s₀ : Shared) (c : LexC) (e : SioC) (lx dx ds : Addr) (x : Str) (news : List (Addr × Obj)) (st tok : Value) (p : Int) (fl : Flow) (s : Shared) : Prop :=
  fl = .next ∧ ∃ (ln : Int) (tl tp : Tok) (h : Heap) (tk : Nat), s = { s₀ with heap := h, toks := tk } ∧ Fr g L h m ∧ News g L h (lexN c e lx dx ds (Str.ofString "") true st tok (.int ln tl) x p tp news)
noncomputable abbrev rtM {g : Heap} {L : Addr} {h : Heap} {m : Str → Option Value} (_ : Fr g L h m) := RtM g L m
noncomputable abbrev rtI {g : Heap} {L : Addr} {h : Heap} {m : Str → Option Value} (_ : Fr g L h m) := RtI g L
section
variable (w : World) (mean : ExcName → Option Value) (mg mb : Str → Option Value)
local macro_rules | `(tactic| walk_at "call ref") => `(tactic| (k_here; with_reducible refine atRef 550 ?_; k_dflt (refine' useC (read_lex0 _ _ _ _ _ _ _ _ _ _ _ _ _ _ _ _ _ _ ?ok ?hx ?h0 ?hp _) ?_; (case ok | hx | hp => assumption); (case h0 => lia); k_whole); intros; (try k_sweep)))
local macro_rules | `(tactic| walk_at "call ref") => `(tactic| (k_here; with_reducible refine atRef 550 ?_; k_dflt (refine' useC (read_one _ _ _ _ _ _ _ _ _ _ _ _ _ _ _ _ _ _ ?ok ?hx _ _ ?hr _ ?hy _) ?_; (case ok | hx | hr | hy => assumption); k_whole); intros; (try k_sweep)))
local macro_rules | `(tactic| walk_at "compareOp In str str") => `(tactic| (k_here; refine held ?_))
local macro_rules | `(tactic| walk_at "compareOp Eq str str") => `(tactic| (k_here; refine held ?_))
local macro_rules | `(tactic| walk_at "compareOp In str str") => `(tactic| (k_here; refine in_fact (by with_reducible assumption) ?_))
local macro_rules | `(tactic| walk_at "compareOp NotIn str str") => `(tactic| (k_here; refine notin_fact (by with_reducible assumption) ?_))
local macro_rules | `(tactic| walk_at "compareOp Eq str str") => `(tactic| (k_here; refine eq_fact (by with_reducible assumption) ?_))
local macro_rules | `(tactic| walk_at "truthy str") => `(tactic| (k_here; refine truthy_fact (by with_reducible assumption) (by with_reducible assumption) ?_; intro _))
local macro_rules | `(tactic| walk_at "inplaceOp Add str str") => `(tactic| (k_here; refine iadd_fact (by with_reducible assumption) (by with_reducible assumption) ?_; intro _ _))
theorem rt_c (c : LexC) (e : SioC) (lx dx ds : Addr) (t1 t2 t3 : Tok) (x o : Str) (tp : Tok) (news : List (Addr × Obj)) (O : LexOk c lx dx ds news) (hx : x.length ≤ 1000) (hR : LexR (Str.ofString " ") (Str.ofString "") x.cps.toList o) :
    Con w mean mg mb 470 (lexN c e lx dx ds (Str.ofString "") true (.str (Str.ofString " ") t1) (.str (Str.ofString "") t2) (.int 1 t3) x 0 tp news) (call (.ref 707) [.ref lx]) (fun h₀ L m s Q => ∀ (t t2 t3 tp : Tok) (ln : Int) (h' : Heap) (tk' : Nat), Fr h₀ L h' m → News h₀ L h' (lexN c e lx dx ds (Str.ofString "") true .none (.str (Str.ofString "") t2) (.int ln t3) x (x.length : Int) tp news) → Q (.str o t) { s with heap := h', toks := tk' }) := by
  unfold Con; k_fill
  intro cn ns ig ic mo a ccd cl outer A₀ base h₀ L m s Q E B F X N T hret
  have O' := O
  obtain ⟨a1, a2, a3, a4, a5, hr⟩ := O
  have hrd : ∀ q ∈ news, q.1 ≠ dx := fun q hq => (hr q hq).1
  have n1 : c.fs ≠ dx := by lia
  have n2 : c.pb ≠ dx := by lia
  have n3 : c.si ≠ dx := by lia
  have n4 : ds ≠ dx := by lia
  have n5 : lx ≠ dx := by lia
  w_on
  refine wpAny_call ?_
  k_dflt cell_enter
  generalize hW : PySem.Stmt.While _ _ _ _ = W
  k_steps
  subst hW
  rename Fr _ _ _ _ => FF
  rename News _ _ _ _ => NN
  refine while_by (rtI FF s c e lx dx ds x o news) ?_ x.length ?_ ?_
  · passes_own
  rotate_left
  · intro R n s₁ ih hI
    obtain ⟨st, tok, ts, tt, tl, tp', ln, q, p, m', h', tk', hs, F', N', hm1, hm2, hl, hp, hn, hR'⟩ := hI
    subst hs
    have F'' := fr_canon (n := Str.ofString "self") (v := some (.ref lx)) (fr_canon F' hm2) (by show (if _ = _ then _ else _) = _; rw [if_neg (by decide +kernel)]; exact hm1)
    clear F'
    have ht : tok.length ≤ 1000 := by lia
    have s3 : Txt.contains (Str.ofString "'\"") (Str.ofString "a") = false := by decide +kernel
    have s4 : Txt.contains (Str.ofString "\\") (Str.ofString "a") = false := by decide +kernel
    have s6 : ((Str.ofString "a").cps.toList == (Str.ofString " ").cps.toList) = false := by decide +kernel
    have s7 : ((Str.ofString "a").cps.toList == (Str.ofString "c").cps.toList) = false := by decide +kernel
    have s8 : ((Str.ofString " ").cps.toList == (Str.ofString " ").cps.toList) = true := by decide +kernel
    have s9 : ((Str.ofString "a").cps.toList == (Str.ofString "a").cps.toList) = true := by decide +kernel
    generalize hrest : List.drop p x.cps.toList = rest at hR'
    cases rest with
    | nil =>
      cases hR' with
      | a_end h1 =>
        obtain rfl : p = x.length := by have := List.drop_eq_nil_iff.mp hrest; simp only [Array.length_toList] at this; have : x.length ≤ p := this; lia
        have hpe : (x.length : Int) = (x.length : Int) := rfl
        have e1 : (o.cps.toList == (Str.ofString "").cps.toList) = false := by rw [no_cps]; simp only [beq_eq_false_iff_ne, ne_eq]; intro h; rw [← txt_of o, h, txt_len] at h1; exact absurd h1 (by decide)
        have e2 : o.length ≤ 1000 := by lia
        have e3 : (o.length != 0) = true := by rw [bne_iff_ne]; lia
        have e4 : ((Str.ofString "").cps.toList == (Str.ofString "\n").cps.toList) = false := by decide +kernel
        k_steps
        all_goals
          try dsimp only
          exact hret _ _ _ _ _ _ _ (by assumption) (by first | assumption | exact news_tail (by assumption))
    | cons k r =>
      have hd1 := (drop_next hrest).1
      have hlt : p < x.length := (drop_next hrest).2
      have hz := lexr_step hR'
      have hk := fun (h : k = 39) => congrArg (fun k => txt [k]) h
      clear hR'
      generalize hy : txt [k] = y at hz hk
      have f5 : y.length ≤ 1000 := by rw [← hy, txt_len]; exact Nat.le_of_ble_eq_true rfl
      have f5' : y.length = 1 := by rw [← hy, txt_len]; exact rfl
      have f6 : (y.length != 0) = true := by rw [f5']; exact rfl
      have f7 : Txt.contains (Str.ofString "") y = false := by rw [← hy]; exact has_none _
      generalize hW : PySem.Stmt.If (PySem.Expr.Compare (PySem.Expr.Name (Str.ofString "nextchar") _) _ _ _) _ _ _ = W
      k_steps
      subst hW
      rename Fr _ _ _ _ => F3
      refine wpAny_mono (Q := rtM F3 s c e lx dx ds x news (.str st ts) (.str tok tt) ((p + 1 : Nat) : Int)) ?first (fun fl s' hs => ?rest) fun _ _ z => z
      case first =>
        cases f1 : (y.cps.toList == (Str.ofString "\n").cps.toList) with
        | true =>
          k_steps
          all_goals exact ⟨rfl, _, _, _, _, _, rfl, (by assumption), (by first | assumption | exact news_tail (by assumption))⟩
        | false =>
          k_steps
          all_goals exact ⟨rfl, _, _, _, _, _, rfl, (by assumption), (by first | assumption | exact news_tail (by assumption))⟩
      obtain ⟨rfl, ln4, tl4, tp4, h4, tk4, rfl, F4, N4⟩ := hs
      rcases hz with ⟨rfl, rfl, ⟨f2, f3⟩, hz⟩ | ⟨rfl, ⟨f2, f3⟩, hz⟩ | ⟨g1, g2, hz⟩
      · k_steps
        refine unheld (in_any fun b hb => ?_)
        cases b with
        | true =>
          rcases hz with ⟨g1, hL⟩ | ⟨g1, h39, hL⟩
          · k_steps
            all_goals
              try dsimp only
              refine ih (x.length - (p + 1)) _ (by lia) ⟨_, _, _, _, _, _, _, _, p + 1, _, _, _, rfl, (by assumption), (by first | assumption | exact news_tail (by assumption)), rfl, rfl, ?_, hlt, rfl, ?_⟩
              · first | lia | (rw [no_len]; lia) | (rw [Str.length_append, f5']; lia)
              · rw [hd1]; exact hL
          · rw [hk h39] at hb; exact absurd hb (by decide +kernel)
        | false =>
          k_steps
          rcases hz with ⟨g1, hL⟩ | ⟨g1, h39, hL⟩
          · refine unheld (in_fact g1 ?_)
            k_steps
            all_goals
              try dsimp only
              refine ih (x.length - (p + 1)) _ (by lia) ⟨_, _, _, _, _, _, _, _, p + 1, _, _, _, rfl, (by assumption), (by first | assumption | exact news_tail (by assumption)), rfl, rfl, ?_, hlt, rfl, ?_⟩
              · first | lia | (rw [no_len]; lia) | (rw [Str.length_append, f5']; lia)
              · rw [hd1]; exact hL
          · refine unheld (in_fact g1 ?_)
            k_steps
            all_goals
              try dsimp only
              refine ih (x.length - (p + 1)) _ (by lia) ⟨_, _, _, _, _, _, _, _, p + 1, _, _, _, rfl, (by assumption), (by first | assumption | exact news_tail (by assumption)), rfl, rfl, ?_, hlt, rfl, ?_⟩
              · first | lia | (rw [no_len]; lia) | (rw [Str.length_append, f5']; lia)
              · rw [hd1]; exact hL
      · k_steps
        rcases hz with ⟨g1, hL⟩ | ⟨g1, hL⟩
        · refine unheld (in_fact g1 ?_)
          k_steps
          refine unheld (in_any fun b hb => ?_)
          cases b with
          | true =>
            k_steps
            all_goals
              try dsimp only
              refine ih (x.length - (p + 1)) _ (by lia) ⟨_, _, _, _, _, _, _, _, p + 1, _, _, _, rfl, (by assumption), (by first | assumption | exact news_tail (by assumption)), rfl, rfl, ?_, hlt, rfl, ?_⟩
              · first | lia | (rw [no_len]; lia) | (rw [Str.length_append, f5']; lia)
              · rw [hd1]; exact hL
          | false =>
            k_steps
            all_goals
              try dsimp only
              refine ih (x.length - (p + 1)) _ (by lia) ⟨_, _, _, _, _, _, _, _, p + 1, _, _, _, rfl, (by assumption), (by first | assumption | exact news_tail (by assumption)), rfl, rfl, ?_, hlt, rfl, ?_⟩
              · first | lia | (rw [no_len]; lia) | (rw [Str.length_append, f5']; lia)
              · rw [hd1]; exact hL
        · refine unheld (in_fact g1 ?_)
          k_steps
          all_goals
            try dsimp only
            refine ih (x.length - (p + 1)) _ (by lia) ⟨_, _, _, _, _, _, _, _, p + 1, _, _, _, rfl, (by assumption), (by first | assumption | exact news_tail (by assumption)), rfl, rfl, ?_, hlt, rfl, ?_⟩
            · first | lia | (rw [no_len]; lia) | (rw [Str.length_append, f5']; lia)
            · rw [hd1]; exact hL
      · k_steps
        rcases hz with ⟨g3, hL⟩ | ⟨g3, g4, hL⟩
        · refine unheld (eq_fact g3 ?_)
          k_steps
          all_goals
            try dsimp only
            refine ih (x.length - (p + 1)) _ (by lia) ⟨_, _, _, _, _, _, _, _, p + 1, _, _, _, rfl, (by assumption), (by first | assumption | exact news_tail (by assumption)), rfl, rfl, ?_, hlt, rfl, ?_⟩
            · first | lia | (rw [no_len]; lia) | (rw [Str.length_append, f5']; lia)
            · rw [hd1]; exact hL
        · refine unheld (eq_fact g3 ?_)
          k_steps
          refine unheld (in_any fun b hb => ?_)
          cases b with
          | true =>
            have g5 := g4 hb
            k_steps
            all_goals
              try dsimp only
              refine ih (x.length - (p + 1)) _ (by lia) ⟨_, _, _, _, _, _, _, _, p + 1, _, _, _, rfl, (by assumption), (by first | assumption | exact news_tail (by assumption)), rfl, rfl, ?_, hlt, rfl, ?_⟩
              · first | lia | (rw [no_len]; lia) | (rw [Str.length_append, f5']; lia)
              · rw [hd1]; exact hL
          | false =>
            k_steps
            all_goals
              try dsimp only
              refine ih (x.length - (p + 1)) _ (by lia) ⟨_, _, _, _, _, _, _, _, p + 1, _, _, _, rfl, (by assumption), (by first | assumption | exact news_tail (by assumption)), rfl, rfl, ?_, hlt, rfl, ?_⟩
              · first | lia | (rw [no_len]; lia) | (rw [Str.length_append, f5']; lia)
              · rw [hd1]; exact hL
  · exact ⟨_, _, _, _, _, _, _, false, 0, _, _, _, rfl, FF, NN, rfl, rfl, Nat.zero_le _, Nat.zero_le _, (by lia), hR⟩
end
end

section
open PySem PySem.W PyProof.Rows PySem.Calls
set_option Elab.async false
set_option compiler.extract_closed false
set_option maxRecDepth 100000
set_option maxHeartbeats 8000000
set_option pp.maxSteps 3000
section
variable (w : World) (mean : ExcName → Option Value) (mg mb : Str → Option Value)
local macro_rules | `(tactic| walk_at "call ref") => `(tactic| (k_here; with_reducible refine atRef 550 ?_; k_dflt (refine' useC (read_lex0 _ _ _ _ _ _ _ _ _ _ _ _ _ _ _ _ _ _ ?ok ?hx ?h0 ?hp _) ?_; (case ok | hx | hp => assumption); (case h0 => lia); k_whole); intros; (try k_sweep)))
theorem rt_end (c : LexC) (e : SioC) (lx dx ds : Addr) (t2 t3 : Tok) (ln : Int) (x : Str) (tp : Tok) (news : List (Addr × Obj)) (O : LexOk c lx dx ds news) (hx : x.length ≤ 1000) :
    Con w mean mg mb 470 (lexN c e lx dx ds (Str.ofString "") true .none (.str (Str.ofString "") t2) (.int ln t3) x (x.length : Int) tp news) (call (.ref 707) [.ref lx]) (fun h₀ L m s Q => ∀ (t2 : Tok) (h' : Heap) (tk' : Nat), Fr h₀ L h' m → News h₀ L h' (lexN c e lx dx ds (Str.ofString "") true .none (.str (Str.ofString "") t2) (.int ln t3) x (x.length : Int) tp news) → Q .none { s with heap := h', toks := tk' }) := by
  unfold Con; k_fill
  intro cn ns ig ic mo a ccd cl outer A₀ base h₀ L m s Q E B F X N T hret
  have O' := O
  obtain ⟨a1, a2, a3, a4, a5, hr⟩ := O
  have hrd : ∀ q ∈ news, q.1 ≠ dx := fun q hq => (hr q hq).1
  have b1 := ltN a1; have b2 := ltN a2; have b3 := ltN a3; have b4 := ltN a4; have b5 := ltN a5
  have hpe : (x.length : Int) = (x.length : Int) := rfl
  w_on
  refine wpAny_call ?_
  k_dflt cell_enter
  generalize hW : PySem.Stmt.While _ _ _ _ = W
  k_steps
  subst hW
  refine whl_start 1 ?_
  k_steps
  all_goals exact hret _ _ _ (by assumption) (by assumption)
end
end

section
open PySem PySem.W PyProof.Rows PySem.Calls PySem.Builtin.Re
set_option Elab.async false
set_option maxRecDepth 100000
set_option maxHeartbeats 8000000
set_option pp.maxSteps 3000
theorem rs_entry : entryFor table "re.Pattern.search" = some Builtin.«re.Pattern.search» := entryFor_of_tree (by kernel_rfl)
theorem rs_plain : plainId "re.Pattern.search" = true := by decide +kernel
noncomputable def rSig : Manifest.Signature := { machinery := .keywords, full := "Pattern.search", short := "search", receiver := .self, params := [{ name := "string", kind := .posOrKw, required := true }, { name := "pos", kind := .posOrKw, required := false }, { name := "endpos", kind := .posOrKw, required := false }] }
theorem rs_sig : Manifest.signature? "re.Pattern.search" = some rSig := by kernel_rfl
theorem rs_kind : builtinKind "re.Pattern.search" = some .method := by kernel_rfl
theorem rs_va : Manifest.varargsMethods.contains "re.Pattern.search" = false := by decide +kernel
theorem rs_sub : isSubtype (.type "re.Pattern") (.type "module") = pure false := by rw [isSubtype_type]; kernel_rfl
theorem rs_chk (a b : Value) : Bind.checkArgs "re.Pattern.search" { rSig with full := s!"{Bind.lastOf "re.Pattern"}.{Bind.lastOf "re.Pattern.search"}" } ⟨[a, b], []⟩ = pure () := by kernel_rfl
/-- the parts of the search that lie in the heap -/
structure ReIn (h : Heap) (f p c : Addr) : Prop where
  f : ∃ o, h.get? f = some o ∧ o.cls = .type "builtin_function_or_method" ∧ o.data = .fields #[.builtin "re.Pattern.search", .ref p]
  p : ∃ o v0 v1 v2 v3 v4 v6, h.get? p = some o ∧ o.cls = .type "re.Pattern" ∧ o.data = .fields #[v0, v1, v2, v3, v4, .ref c, v6] ∧ reRawNat v2 = 0 ∧ reRawNat v6 = 0
  c : ∃ o xs k, h.get? c = some o ∧ o.data = .seq xs k ∧ (xs.map reRawOf).map (·.toNat) = rCode
section
variable {prog : Program} {w : World} {A : Around} {E : Value → Shared → Prop} {s : Shared} {h₀ : Heap} {L : Addr} {m : Str → Option Value} {news : List (Addr × Obj)} {Q : Value → Shared → Prop} {f p c : Addr} {x : Str} {t : Tok}
theorem rs_named (v : Value) : reNamed "re.Pattern.search" "search" ["string", "pos", "endpos"] 1 [v] [] = pure [some v, none, none] := by kernel_rfl
theorem re_target {E : Value → Shared → Prop} {Q : ReTarget → Shared → Prop} (hl : x.length ≤ 1000) (R : ReIn s.heap f p c) (h : Q ⟨.ref p, .str x t, rCode, x.cps, 0, 0, 0, x.cps.size⟩ s) :
    wpAny (model prog w) A (reTarget "re.Pattern.search" "search" ⟨[.ref p, .str x t], []⟩) Q E s := by
  obtain ⟨_, ⟨op, v0, v1, v2, v3, v4, v6, hp, hpc, hpd, e2, e6⟩, ⟨oc, xs, k, hc, hcd, exs⟩⟩ := R
  unfold reTarget
  dsimp only
  rw [rs_named]
  refine wpAny_bind (wpAny_pure ?_)
  dsimp only
  refine wpAny_bind (wpAny_pure ?_)
  refine wpAny_bind (wpAny_pure ?_)
  unfold fieldsOf
  dsimp only
  refine wpAny_bind (wpAny_bind (wpAny_load' hp ?_))
  rw [hpd]
  dsimp only
  refine wpAny_pure ?_
  unfold reTextOf asStr?
  dsimp only
  refine wpAny_bind (wpAny_bind (wpAny_pure ?_))
  dsimp only
  refine wpAny_pure ?_
  have e6' : reRawNat (#[v0, v1, v2, v3, v4, Value.ref c, v6].getD 6 Value.none) = 0 := e6
  have e2' : reRawNat (#[v0, v1, v2, v3, v4, Value.ref c, v6].getD 2 Value.none) = 0 := e2
  rw [e6', e2']
  dsimp only
  rw [if_neg (by decide), if_neg (by decide)]
  unfold reNoCollectionInside
  rw [if_neg (by decide)]
  refine wpAny_bind (wpAny_pure ?_)
  unfold reRawItems seqItems?
  show wpAny _ _ (do
      let r ← (do let o ← (do match (← load c).data with | .seq xs _ => pure (some xs) | _ => pure none); return (o.getD #[]).map reRawOf)
      _) _ _ _
  refine wpAny_bind (wpAny_bind (wpAny_bind (wpAny_load' hc ?_)))
  rw [hcd]
  refine wpAny_pure (wpAny_pure ?_)
  refine wpAny_pure ?_
  show Q ⟨.ref p, .str x t, (xs.map reRawOf).map (·.toNat), x.cps, 0, 0, min (Int.toNat 0) x.cps.size, min (Int.toNat (2 ^ 63 - 1)) x.cps.size⟩ s
  rw [exs]
  have l1 : min (Int.toNat 0) x.cps.size = 0 := Nat.zero_min _
  have l2 : min (Int.toNat (2 ^ 63 - 1)) x.cps.size = x.cps.size := Nat.min_eq_right (by have : x.cps.size ≤ 1000 := hl; lia)
  rw [l1, l2]
  exact h
theorem re_rules {E : Value → Shared → Prop} {Q : PUnit → Shared → Prop} (b : Nat → Bool) (n : Nat → String) : ∀ (l : List Nat), Q ⟨⟩ s → wpAny (model prog w) A (forIn l PUnit.unit fun i _ => (if b i = true then do rule (n i); pure (ForInStep.yield PUnit.unit) else pure (ForInStep.yield PUnit.unit) : Sem (ForInStep PUnit))) Q E s
  | [], h => wpAny_pure h
  | i :: l, h => by
    rw [List.forIn_cons]
    refine wpAny_bind ?_
    split
    · exact wpAny_bind (wpAny_rule (wpAny_pure (re_rules b n l h)))
    · exact wpAny_pure (re_rules b n l h)
theorem re_drive {E : Value → Shared → Prop} {Q : Sre.M → Shared → Prop} {mm : Sre.M} {o : Sre.Outcome} (ho : (mm.runFor 4).outcome = some o) (h : Q (mm.runFor 4) s) : ∀ n, wpAny (model prog w) A (reDrive (n + 1) mm) Q E s := by
  intro n
  unfold reDrive
  dsimp only [reTurnSteps]
  rw [ho, if_pos (show (some o).isSome = true from rfl)]
  exact wpAny_pure h
theorem re_none {Q : PySem.Fin → Shared → Prop} {E : Value → Shared → Prop} (hl : x.length ≤ 1000) (h1 : 1 ≤ x.length) (hall : ∀ i, i < x.cps.size → risky (x.cps.getD i 0) = false) (R : ReIn s.heap f p c) (h : Q (.done (.ret .none)) s) :
    wpAny (model prog w) A (Builtin.«re.Pattern.search» ⟨[.ref p, .str x t], []⟩) Q E s := by
  unfold Builtin.«re.Pattern.search»
  refine wpAny_bind (re_target hl R ?_)
  unfold reAnswer reRunToEnd
  have ho := search_none x.cps h1 hall
  refine wpAny_bind (wpAny_bind (re_drive ho ?_ (2 ^ 64 - 1)))
  dsimp only
  generalize Sre.M.runFor 4 (Sre.forSearch rCode x.cps 0 0 x.cps.size false) = mm at ho
  refine wpAny_bind (re_rules _ _ _ ?_)
  rw [ho]
  exact wpAny_pure (wpAny_pure h)
theorem re_some {Q : PySem.Fin → Shared → Prop} {E : Value → Shared → Prop} (hl : x.length ≤ 1000) (h1 : 1 ≤ x.length) (hall : ∃ i, i < x.cps.size ∧ risky (x.cps.getD i 0) = true) (R : ReIn s.heap f p c)
    (h : ∀ (o1 o2 : Obj), Q (.done (.ret (.ref (s.heap.push o1).objs.size))) { s with heap := (s.heap.push o1).push o2 }) :
    wpAny (model prog w) A (Builtin.«re.Pattern.search» ⟨[.ref p, .str x t], []⟩) Q E s := by
  unfold Builtin.«re.Pattern.search»
  refine wpAny_bind (re_target hl R ?_)
  unfold reAnswer reRunToEnd
  have ho := search_some x.cps h1 hall
  refine wpAny_bind (wpAny_bind (re_drive ho ?_ (2 ^ 64 - 1)))
  dsimp only
  generalize Sre.M.runFor 4 (Sre.forSearch rCode x.cps 0 0 x.cps.size false) = mm at ho
  refine wpAny_bind (re_rules _ _ _ ?_)
  rw [ho]
  refine wpAny_pure ?_
  dsimp only
  unfold reNewMatch
  rw [if_neg (by rw [show ∀ g : Nat → Bool, (List.range 0).any g = false from fun _ => rfl]; decide)]
  refine wpAny_bind (wpAny_bind (wpAny_newTuple ?_ (Nat.le_of_ble_eq_true rfl)))
  refine wpAny_newObj_type ?_ ?_
  · exact wpAny_pure (h _ _)
  · exact Nat.le_of_ble_eq_true rfl
theorem re_bound {R' : Result → Shared → Prop} (R : ReIn s.heap f p c)
    (h : wpAny (model prog w) (A.under (Code.builtin "re.Pattern.search" ⟨[.ref p, .str x t], []⟩)) (Builtin.«re.Pattern.search» ⟨[.ref p, .str x t], []⟩) (fun fin s' => match fin with | .done f => R' (.ok f) s' | .again c' => c'.quiet = true ∧ codeAny (model prog w) A c' R' s') (fun e s' => R' (.error e) s') s) :
    codeAny (model prog w) A (.call (.ref f) ⟨[.str x t], []⟩) R' s := by
  obtain ⟨⟨of, hf, hfc, hfd⟩, ⟨op, v0, v1, v2, v3, v4, v6, hp, hpc, hpd, e2, e6⟩, _⟩ := R
  refine codeAny_of_tree ?_
  show wpAny _ _ (callAny (.ref f) ⟨[.str x t], []⟩) _ _ _
  unfold callAny
  have hT : s.TypeIs (.ref p) "re.Pattern" := ⟨op, hp, hpc⟩
  refine wpAny_bind (wpAny_load' hf ?_)
  rw [hfd]
  dsimp only
  rw [hfc]
  rw [if_pos (by rfl)]
  show wpAny _ _ (do checkBoundCall "re.Pattern.search" ⟨[.ref p, .str x t], []⟩; again (.builtin "re.Pattern.search" ⟨[.ref p, .str x t], []⟩)) _ _ _
  have hb : wpAny (model prog w) (A.under (Code.call (Value.ref f) { pos := [Value.str x t] })) (checkBoundCall "re.Pattern.search" ⟨[.ref p, .str x t], []⟩) (fun _ s' => s' = s) (fun _ _ => False) s := by
    unfold checkBoundCall
    rw [rs_sig, rs_kind]
    dsimp only
    rw [if_neg (by decide)]
    refine wpAny_bind (wpAny_isInstance hT rs_sub ?_)
    rw [rs_va, if_neg (by decide)]
    unfold isType
    dsimp only
    refine wpAny_bind (wpAny_bind (wpAny_load' hp ?_))
    rw [hpd]
    refine wpAny_pure ?_
    dsimp only
    rw [if_neg (by decide)]
    refine wpAny_bind (wpAny_typeOf hT ?_)
    dsimp only
    exact wpAny_of_eq (rs_chk _ _) rfl
  refine wpAny_bind (wpAny_mono hb (fun _ s' hs => ?_) (fun _ _ hF => hF.elim))
  subst hs
  exact wpAny_pure ⟨plainId_quiet rs_plain _, codeAny_builtin rs_entry h⟩
/-- the search, where no sign is risky -/
theorem re_call_none {Q : Value → Shared → Prop} (hl : x.length ≤ 1000) (h1 : 1 ≤ x.length) (hall : ∀ i, i < x.cps.size → risky (x.cps.getD i 0) = false) (R : ReIn s.heap f p c) (h : Q .none s) :
    wpAny (model prog w) A (call (.ref f) [.str x t]) Q E s := wpAny_call (re_bound R (re_none hl h1 hall R h))
/-- the search, where one is -/
theorem re_call_some {Q : Value → Shared → Prop} (hl : x.length ≤ 1000) (h1 : 1 ≤ x.length) (hall : ∃ i, i < x.cps.size ∧ risky (x.cps.getD i 0) = true) (R : ReIn s.heap f p c) (F : Fr h₀ L s.heap m) (N : News h₀ L s.heap news)
    (h : ∀ (a : Addr) (h' : Heap), Fr h₀ L h' m → News h₀ L h' news → Q (.ref a) { s with heap := h' }) :
    wpAny (model prog w) A (call (.ref f) [.str x t]) Q E s := wpAny_call (re_bound R (re_some hl h1 hall R fun o1 o2 => h _ _ ((F.push o1).push o2) fun q hq => ⟨Heap.get?_push_of_some _ (Heap.get?_push_of_some _ (N q hq).1), (N q hq).2⟩))
theorem callWith_re {env : Env} {pos : Pos} {e : PySem.Expr} {rest : List PySem.Expr} {Q : Value → Shared → Prop}
    (h : wpAny (model prog w) A (spliced (backTo pos (starEach (e :: rest) env))) (fun vs s₁ => ReIn s₁.heap f p c ∧ wpAny (model prog w) A (call (.ref f) vs) Q E s₁) E s)
    (he : starEach (e :: rest) env = (false, eval e env) :: starEach rest env := by rfl)
    (hplain : (backTo pos (starEach rest env)).any (·.1) = false := by rfl) :
    wpAny (model prog w) A (callWith pos (.ref f) [] (backTo pos (starEach (e :: rest) env)) []) Q E s := by
  rw [he] at h ⊢
  have hst : ((backTo pos ((false, eval e env) :: starEach rest env)).any (fun x => x.fst) || ([] : List (Option Str × Sem Value)).any fun x => x.fst.isNone) = false := by
    show ((false || (backTo pos (starEach rest env)).any (·.1)) || false) = false
    rw [hplain]; rfl
  unfold callWith
  refine wpAny_bind (wpAny_holding (Calls.evalArgs_plain (wpAny_mono h (fun vs s₁ h₁ => ?_) fun _ _ x => x)))
  obtain ⟨⟨of, hf, hfc, hfd⟩, _, _⟩ := h₁.1
  refine wpAny_bind (wpAny_standAt ?_)
  show wpAny _ _ (keeperOf (.ref f) >>= _) _ _ _
  unfold keeperOf
  dsimp only
  refine wpAny_bind (wpAny_bind (wpAny_load' hf ?_))
  rw [hfd]
  dsimp only
  rw [hfc, if_pos (by decide), if_pos (by decide)]
  refine wpAny_pure ?_
  rw [hst]
  show wpAny _ _ (call (.ref f) vs [] >>= fun r => do holding [r] point; pure r) _ _ _
  exact wpAny_bind (wpAny_mono h₁.2 (fun r s' hr => wpAny_bind (wpAny_holding (wpAny_point (wpAny_pure hr)))) fun _ _ x => x)
end
/-- the search lies in the heap of the law -/
theorem re_in {P : Params} {h : Heap} (X : (hd.heap_1 P).In h) : ReIn h 752 56 55 := by
  refine' ⟨⟨_, X 752 _ rfl, ?_, ?_⟩, ⟨_, _, _, _, _, _, _, X 56 _ rfl, ?_, ?_, ?_, ?_⟩, ⟨_, _, _, X 55 _ rfl, ?_, ?_⟩⟩
  any_goals rfl
  decide +kernel
end

section
open PySem PySem.W PyProof.Rows PySem.Calls
set_option maxRecDepth 100000
/-- a sign in a quoted text -/
noncomputable def rep : List Nat → List Nat
  | [] => []
  | k :: r => if k = 39 then 39 :: 34 :: 39 :: 34 :: 39 :: rep r else k :: rep r
theorem rep_append : ∀ a b : List Nat, rep (a ++ b) = rep a ++ rep b
  | [], _ => rfl
  | k :: r, b => by
    show (if k = 39 then 39 :: 34 :: 39 :: 34 :: 39 :: rep (r ++ b) else k :: rep (r ++ b)) = (if k = 39 then 39 :: 34 :: 39 :: 34 :: 39 :: rep r else k :: rep r) ++ rep b
    rw [rep_append r b]
    split <;> rfl
theorem rep_free : ∀ l : List Nat, 39 ∉ l → rep l = l
  | [], _ => rfl
  | k :: r, h => by
    have h1 : ¬ k = 39 := fun e => h (e ▸ List.mem_cons_self ..)
    have h2 : 39 ∉ r := fun m => h (List.mem_cons_of_mem _ m)
    unfold rep
    rw [if_neg h1, rep_free r h2]
theorem rep_join : ∀ parts : List Str, (∀ p ∈ parts, 39 ∉ p.cps.toList) → rep (Str.join ⟨#[39]⟩ parts).cps.toList = (Str.join ⟨#[39, 34, 39, 34, 39]⟩ parts).cps.toList
  | [], _ => rfl
  | [p], h => rep_free _ (h p (List.mem_singleton.mpr rfl))
  | p :: q :: r, h => by
    have ih := rep_join (q :: r) fun a ha => h a (List.mem_cons_of_mem _ ha)
    show rep (p ++ ⟨#[39]⟩ ++ Str.join ⟨#[39]⟩ (q :: r)).cps.toList = (p ++ ⟨#[39, 34, 39, 34, 39]⟩ ++ Str.join ⟨#[39, 34, 39, 34, 39]⟩ (q :: r)).cps.toList
    simp only [Str.cps_append, Array.toList_append]
    rw [rep_append, rep_append, ih, rep_free _ (h p (List.mem_cons_self ..))]
    rfl
theorem rep_len : ∀ l : List Nat, (rep l).length ≤ 5 * l.length
  | [] => Nat.le_refl _
  | k :: r => by
    have := rep_len r
    unfold rep
    split <;> simp only [List.length_cons] <;> lia
theorem replace_rep (x : Str) : Txt.replace x (Str.ofString "'") (Str.ofString "'\"'\"'") = txt (rep x.cps.toList) := by
  have e1 : Str.ofString "'" = ⟨#[39]⟩ := by decide +kernel
  have e2 : Str.ofString "'\"'\"'" = ⟨#[39, 34, 39, 34, 39]⟩ := by decide +kernel
  refine cps_inj ?_
  rw [e1, e2, txt_cps, StrLaws.replace_one, ← rep_join _ (StrLaws.split_free x 39), StrLaws.join_split]
/-- no sign of the word is risky -/
noncomputable def plainW (l : List Nat) : Bool := l.all fun c => !risky c
/-- a word, quoted -/
noncomputable def quo (l : List Nat) : List Nat := if plainW l then l else 39 :: (rep l ++ [39])
theorem quo_len (l : List Nat) : (quo l).length ≤ 5 * l.length + 2 := by
  unfold quo
  have := rep_len l
  split
  · lia
  · simp only [List.length_cons, List.length_append, List.length_nil]; lia
theorem safe_plain {c : Nat} (h : risky c = false) : Safe c := by
  refine safe_of ?_
  intro hm
  simp only [List.mem_cons, List.not_mem_nil, or_false] at hm
  rcases hm with rfl | rfl | rfl | rfl | rfl | rfl | rfl <;> exact absurd h (by decide)
theorem txt_app3 (t : Str) (a b : List Nat) : t ++ txt a ++ txt b = t ++ txt (a ++ b) := by
  refine cps_inj ?_
  simp only [Str.cps_append, Array.toList_append, txt_cps, List.append_assoc]
theorem txt_nil (t : Str) : t ++ txt [] = t := by
  refine cps_inj ?_
  simp only [Str.cps_append, Array.toList_append, txt_cps, List.append_nil]
theorem lex_safe {r : List Nat} {o : Str} : ∀ (l : List Nat) (tok : Str), plainW l = true → LexR (Str.ofString "a") (tok ++ txt l) r o → LexR (Str.ofString "a") tok (l ++ r) o
  | [], tok, _, h => by rw [txt_nil] at h; exact h
  | c :: l, tok, hp, h => by
    have hp' : plainW l = true := by
      unfold plainW at hp ⊢
      rw [List.all_cons, Bool.and_eq_true] at hp
      exact hp.2
    have hc : risky c = false := by
      unfold plainW at hp
      rw [List.all_cons, Bool.and_eq_true] at hp
      simpa using hp.1
    refine .a_safe (safe_plain hc) (lex_safe l _ hp' ?_)
    rw [txt_app3]
    exact h
theorem lex_in {r : List Nat} {o : Str} : ∀ (l : List Nat) (tok : Str), LexR (Str.ofString "'") (tok ++ txt l) r o → LexR (Str.ofString "'") tok (rep l ++ r) o
  | [], tok, h => by rw [txt_nil] at h; exact h
  | c :: l, tok, h => by
    have ih := lex_in (r := r) (o := o) l (tok ++ txt [c]) (by rw [txt_app3]; exact h)
    unfold rep
    split
    · rename_i e
      subst e
      exact .q1_end (.a_q2 (.q2_c (.q2_end (.a_q1 ih))))
    · rename_i e
      exact .q1_c e ih
theorem lex_word {r : List Nat} {o tok : Str} (l : List Nat) (h : LexR (Str.ofString "a") (tok ++ txt l) r o) : LexR (Str.ofString "a") tok (quo l ++ r) o := by
  unfold quo
  split
  · rename_i hp
    exact lex_safe l tok hp h
  · refine .a_q1 ?_
    show LexR _ _ ((rep l ++ [39]) ++ r) _
    rw [List.append_assoc]
    exact lex_in l tok (.q1_end h)
theorem lex_words {o : Str} : ∀ (ws : List (List Nat)) (tok : Str), tok ++ txt ws.flatten = o → 1 ≤ tok.length → LexR (Str.ofString "a") tok (ws.flatMap quo) o
  | [], tok, h, h1 => by
    rw [List.flatten_nil, txt_nil] at h
    subst h
    exact .a_end h1
  | w :: ws, tok, h, h1 => by
    rw [List.flatMap_cons]
    refine lex_word w (lex_words ws _ ?_ ?_)
    · rw [txt_app3]; exact h
    · rw [Str.length_append]; lia
theorem lex_all (w : List Nat) (ws : List (List Nat)) (hw : w ≠ []) : LexR (Str.ofString " ") (Str.ofString "") ((w :: ws).flatMap quo) (txt (w :: ws).flatten) := by
  have e0 : Str.ofString "" = txt [] := cps_inj (by decide +kernel)
  rw [List.flatMap_cons]
  by_cases hp : plainW w = true
  · cases w with
    | nil => exact absurd rfl hw
    | cons c l =>
      have hp' : plainW l = true := by
        unfold plainW at hp ⊢
        rw [List.all_cons, Bool.and_eq_true] at hp
        exact hp.2
      have hc : risky c = false := by
        unfold plainW at hp
        rw [List.all_cons, Bool.and_eq_true] at hp
        simpa using hp.1
      rw [show quo (c :: l) = c :: l from if_pos hp]
      refine .sp_safe (safe_plain hc) (lex_safe l _ hp' ?_)
      rw [txt_add]
      refine lex_words ws _ ?_ ?_
      · rw [txt_add]; rfl
      · rw [txt_len]; exact Nat.succ_pos _
  · rw [show quo w = 39 :: (rep w ++ [39]) from if_neg hp]
    refine .sp_quote ?_
    show LexR _ _ ((rep w ++ [39]) ++ ws.flatMap quo) _
    rw [List.append_assoc]
    refine lex_in w _ (.q1_end ?_)
    rw [e0, txt_add]
    refine lex_words ws _ ?_ ?_
    · rw [txt_add]; rfl
    · rw [txt_len]
      cases w with
      | nil => exact absurd rfl hw
      | cons c l => exact Nat.succ_pos _
end

section
open PySem PySem.W PyProof.Rows PySem.Calls
set_option Elab.async false
set_option compiler.extract_closed false
set_option maxRecDepth 100000
set_option maxHeartbeats 8000000
set_option pp.maxSteps 3000
section
variable (w : World) (mean : ExcName → Option Value) (mg mb : Str → Option Value)
local macro_rules | `(tactic| walk_at "truthy str") => `(tactic| (k_here; refine truthy_fact (by with_reducible assumption) (by with_reducible assumption) ?_; intro _))
local macro_rules | `(tactic| walk_at "callWith ref") => `(tactic| (k_here; (with_reducible show wpAny _ _ (callWith _ (Value.ref 752) [] _ []) _ _ _); refine callWith_re (f := 752) (p := 56) (c := 55) ?_))
local macro_rules | `(tactic| walk_at "And") => `(tactic| (refine And.intro (by with_reducible exact re_in (by first | assumption | exact Frag.In.keeps (by assumption) (Fr.keep (by assumption)))) ?_))
local macro_rules | `(tactic| walk_at "call ref") => `(tactic| (k_here; (with_reducible show wpAny _ _ (call (Value.ref 752) _) _ _ _); refine re_call_none (by assumption) (by assumption) (by assumption) (re_in (by first | assumption | exact Frag.In.keeps (by assumption) (Fr.keep (by assumption)))) ?_))
theorem quote_c (news : List (Addr × Obj)) (x : Str) (tx : Tok) (hx : x.length ≤ 1000) (h1 : (x.length != 0) = true) (h2 : 1 ≤ x.length) (hall : ∀ i, i < x.cps.size → risky (x.cps.getD i 0) = false) :
    Con w mean mg mb 480 news (call (.ref 759) [.str x tx]) (Gives news fun t => .str x t) := by
  unfold Con; k_fill
  intro cn ns ig ic mo a ccd cl outer A₀ base h₀ L m s Q E B F X N T hret
  w_on
  refine wpAny_call ?_
  k_dflt cell_enter
  k_steps
  all_goals exact hret _ _ _ (by assumption) (by assumption)
local macro_rules | `(tactic| walk_at "call ref") => `(tactic| (k_here; (with_reducible show wpAny _ _ (call (Value.ref 752) _) _ _ _); refine re_call_some (by assumption) (by assumption) (by assumption) (re_in (by first | assumption | exact Frag.In.keeps (by assumption) (Fr.keep (by assumption)))) (by k_asm) (by k_asm) ?_; intro a' h' F' N'))
theorem add_fact {prog : Program} {w : World} {A : Around} {E : Value → Shared → Prop} {s : Shared} {x y z : Str} {t u : Tok} {Q : Value → Shared → Prop} (hz : x ++ y = z) (hx : z.length ≤ 10000) (h : ∀ t k, Q (.str z t) { s with toks := k }) : wpAny (model prog w) A (binaryOp .Add (.str x t) (.str y u)) Q E s := by
  refine P.add_str ?_
  have e0 : ∀ z : Str, z.length = 0 → z = Str.ofString "" := fun z hz => cps_inj (by rw [no_cps]; exact List.eq_nil_of_length_eq_zero (by simpa [Str.length] using hz))
  rw [← hz] at h hx
  split
  · rename_i h0
    have := e0 x (by simpa using h0)
    subst this
    have e : Str.ofString "" ++ y = y := by rw [← txt_of y, ← txt_of (Str.ofString ""), no_cps, txt_add, List.nil_append]
    rw [e] at h
    exact h u s.toks
  · split
    · rename_i h0
      have := e0 y (by simpa using h0)
      subst this
      have e : x ++ Str.ofString "" = x := by rw [← txt_of x, ← txt_of (Str.ofString ""), no_cps, txt_add, List.append_nil]
      rw [e] at h
      exact h t s.toks
    · exact ⟨by show _ ≤ sizeLine; have : (10000 : Nat) ≤ sizeLine := by decide
                lia, h _ _⟩
local macro_rules | `(tactic| walk_at "binaryOp Add str str") => `(tactic| (k_here; refine add_fact (by with_reducible assumption) (by with_reducible assumption) ?_; intro _ _))
theorem quote_q (news : List (Addr × Obj)) (x : Str) (tx : Tok) (hx : x.length ≤ 1000) (h1 : (x.length != 0) = true) (h2 : 1 ≤ x.length) (hall : ∃ i, i < x.cps.size ∧ risky (x.cps.getD i 0) = true) (z1 z2 : Str) (hz1 : Str.ofString "'" ++ Txt.replace x (Str.ofString "'") (Str.ofString "'\"'\"'") = z1) (hz2 : z1 ++ Str.ofString "'" = z2) (hl1 : z1.length ≤ 10000) (hl2 : z2.length ≤ 10000) :
    Con w mean mg mb 480 news (call (.ref 759) [.str x tx]) (Gives news fun t => .str z2 t) := by
  unfold Con; k_fill
  intro cn ns ig ic mo a ccd cl outer A₀ base h₀ L m s Q E B F X N T hret
  w_on
  refine wpAny_call ?_
  k_dflt cell_enter
  k_steps
  all_goals exact hret _ _ _ (by assumption) (by assumption)
/-- quote, of a word of codes -/
theorem quote_w (news : List (Addr × Obj)) (l : List Nat) (tx : Tok) (hl : l.length ≤ 100) (h1 : l ≠ []) :
    Con w mean mg mb 480 news (call (.ref 759) [.str (txt l) tx]) (Gives news fun t => .str (txt (quo l)) t) := by
  have p1 : (txt l).length ≤ 1000 := by rw [txt_len]; lia
  have p3 : 1 ≤ (txt l).length := by rw [txt_len]; cases l with
    | nil => exact absurd rfl h1
    | cons _ _ => exact Nat.succ_pos _
  have p2 : ((txt l).length != 0) = true := by rw [bne_iff_ne]; lia
  have gi : ∀ i, (txt l).cps.getD i 0 = l.getD i 0 := fun i => by simp [txt]
  have sz : (txt l).cps.size = l.length := txt_len l
  by_cases hp : plainW l = true
  · have e : quo l = l := if_pos hp
    rw [e]
    refine quote_c w mean mg mb news (txt l) tx p1 p2 p3 ?_
    intro i hi
    rw [gi]
    rw [sz] at hi
    have := List.all_eq_true.mp hp (l.getD i 0) (by rw [List.getD_eq_getElem?_getD, List.getElem?_eq_getElem hi]; exact List.getElem_mem hi)
    simpa using this
  · have e : quo l = 39 :: (rep l ++ [39]) := if_neg hp
    rw [e]
    have q39 : Str.ofString "'" = txt [39] := txt39.symm
    refine quote_q w mean mg mb news (txt l) tx p1 p2 p3 ?_ (txt (39 :: rep l)) _ ?_ ?_ ?_ ?_
    · rw [Bool.not_eq_true] at hp
      unfold plainW at hp
      obtain ⟨c, hc, hr⟩ := List.all_eq_false.mp hp
      obtain ⟨i, hi, rfl⟩ := List.mem_iff_getElem.mp hc
      refine ⟨i, by rw [sz]; exact hi, ?_⟩
      rw [gi, List.getD_eq_getElem?_getD, List.getElem?_eq_getElem hi]
      simpa using hr
    · rw [replace_rep, txt_cps, q39, txt_add]; rfl
    · rw [q39, txt_add]; rfl
    · rw [txt_len, List.length_cons]; have := rep_len l; lia
    · rw [txt_len, List.length_cons, List.length_append]; have := rep_len l; simp only [List.length_cons, List.length_nil]; lia
end
end

section
open PySem PySem.W PyProof.Rows PySem.Calls
set_option Elab.async false
set_option maxRecDepth 100000
set_option maxHeartbeats 8000000
set_option pp.maxSteps 3000
noncomputable abbrev lst (xs : Array Value) (c : Nat) : Obj := { cls := .type "list", data := .seq xs c }
theorem inst_of {h₀ h : Heap} {L x C dx : Addr} {od : Obj} {news : List (Addr × Obj)} (N : News h₀ L h news) (hx : (x, instObj C dx) ∈ news) (hd : (dx, od) ∈ news) : InstAt h x (instObj C dx) C (some od) :=
  ⟨(N _ hx).1, rfl, rfl, (N _ hd).1⟩
section
variable {prog : Program} {w : World} {A : Around} {E : Value → Shared → Prop} {s : Shared} {h₀ : Heap} {L : Addr} {m : Str → Option Value} {news : List (Addr × Obj)} {Q : Value → Shared → Prop} {K : Frag} {x C dx fi fn D : Addr} {od : Obj}
/-- the loop of list(x), at its end -/
theorem lo_end {R : Result → Shared → Prop} {xs : Array Value} {c : Nat} {res : Value} (X₀ : K.In h₀) (F : Fr h₀ L s.heap m) (N : News h₀ L s.heap ((D, lst xs c) :: news)) (hx : (x, instObj C dx) ∈ news) (hd : (dx, od) ∈ news)
    (hn : findIn K (.ref C) "__next__" = some (some (.ref fn))) (hfn : isFn K (.ref fn) = true)
    (h : wpAny (model prog w) A.in1 (call (.ref fn) [.ref x]) (fun _ _ => False) (OwitStop (model prog w) A.in1 (fun r s' => r = none ∧ R (.ok (.ret res)) s') (fun e s' => R (.error e) s')) s) :
    codeAny (model prog w) A (.builtin "list.extend.loop" ⟨[.ref D, .ref x, res], []⟩) R s := by
  refine codeAny_builtin PySem.F.entry_extend_loop ?_
  rw [Around.under_plainId PySem.F.plain_extend_loop _]
  show wpAny _ A.in1 (pyNext (.ref x) >>= _) _ _ s
  refine wpAny_bind (owit_next F X₀ (inst_of N (.tail _ hx) (.tail _ hd)) hn hfn (wpAny_mono h (fun v s' hf => hf.elim) fun e s' he => ?_))
  refine wpAny_mono he (fun b s₂ hb => ?_) fun _ _ z => z
  cases b with
  | true =>
    obtain ⟨_, hr⟩ := hb
    exact wpAny_pure hr
  | false => exact hb
/-- the loop of list(x), with one more to come -/
theorem lo_one {R : Result → Shared → Prop} {c : Nat} {res : Value} (X₀ : K.In h₀) (F : Fr h₀ L s.heap m) (N : News h₀ L s.heap ((D, lst #[] c) :: news)) (hx : (x, instObj C dx) ∈ news) (hd : (dx, od) ∈ news)
    (hn : findIn K (.ref C) "__next__" = some (some (.ref fn))) (hfn : isFn K (.ref fn) = true)
    (h : wpAny (model prog w) A.in1 (call (.ref fn) [.ref x]) (fun v s₂ => ∃ c₃ od₂ news₂, (x, instObj C dx) ∈ news₂ ∧ (dx, od₂) ∈ news₂ ∧ (∀ q ∈ news₂, q.1 ≠ D) ∧ Fr h₀ L s₂.heap m ∧ News h₀ L s₂.heap ((D, lst #[] c₃) :: news₂) ∧
        (∀ c₄ h₃, Fr h₀ L h₃ m → News h₀ L h₃ ((D, lst #[v] c₄) :: news₂) → wpAny (model prog w) A.in1 (call (.ref fn) [.ref x]) (fun _ _ => False) (OwitStop (model prog w) A.in1 (fun r s' => r = none ∧ R (.ok (.ret res)) s') (fun e s' => R (.error e) s')) { s₂ with heap := h₃ }))
      (OwitStop (model prog w) A.in1 (fun _ _ => False) (fun e s' => R (.error e) s')) s) :
    codeAny (model prog w) A (.builtin "list.extend.loop" ⟨[.ref D, .ref x, res], []⟩) R s := by
  refine codeAny_builtin PySem.F.entry_extend_loop ?_
  rw [Around.under_plainId PySem.F.plain_extend_loop _]
  show wpAny _ A.in1 (pyNext (.ref x) >>= _) _ _ s
  refine wpAny_bind (owit_next F X₀ (inst_of N (.tail _ hx) (.tail _ hd)) hn hfn (wpAny_mono h (fun v s₂ hv => ?_) fun e s' he => ?_))
  · obtain ⟨c₃, od₂, news₂, hx₂, hd₂, hne, F₂, N₂, hk⟩ := hv
    show wpAny _ A.in1 (updateSeq D (·.push v) >>= _) _ _ _
    have U := news_upd (pre := []) (f := Obj.mapSeq (·.push v)) (o' := lst #[v] (c₃ + 1)) F₂ N₂ (fun p hp => (nomatch hp)) hne rfl rfl
    refine wpAny_bind (wpAny_updateSeq (N₂ _ (.head _)).1 rfl (wpAny_pure ⟨plainId_quiet PySem.F.plain_extend_loop _, ?_⟩) (by decide) (by exact Nat.le_of_ble_eq_true rfl))
    exact lo_end X₀ U.1 U.2 hx₂ hd₂ hn hfn (hk _ _ U.1 U.2)
  · refine wpAny_mono he (fun b s₂ hb => ?_) fun _ _ z => z
    cases b with
    | true => exact hb.elim
    | false => exact hb
theorem lo_hint (X : K.In s.heap) (I : InstAt s.heap x (instObj C dx) C (some od)) (h1 : findIn K (.ref C) "__len__" = some none) (h2 : findIn K (.ref C) "__length_hint__" = some none) {Q : Bool → Shared → Prop} (h : Q true s) :
    wpAny (model prog w) A (Builtin.List.listLengthHint (.ref x)) Q E s := by
  unfold Builtin.List.listLengthHint
  refine wpAny_bind (wpAny_bind (I.type.here ((looks_findIn X h1).here ?_)))
  show wpAny _ _ (specialOf (.ref x) "__length_hint__" >>= _) _ _ _
  refine wpAny_bind (wpAny_bind (I.type.here ((looks_findIn X h2).here ?_)))
  exact wpAny_pure h
/-- list(x), of an iterator of one's own with one item -/
theorem list_own (X₀ : K.In h₀) (F : Fr h₀ L s.heap m) (N : News h₀ L s.heap news) (hx : (x, instObj C dx) ∈ news) (hd : (dx, od) ∈ news)
    (hi : findIn K (.ref C) "__iter__" = some (some (.ref fi))) (hfi : isFn K (.ref fi) = true)
    (hn : findIn K (.ref C) "__next__" = some (some (.ref fn))) (hfn : isFn K (.ref fn) = true)
    (h1 : findIn K (.ref C) "__len__" = some none) (h2 : findIn K (.ref C) "__length_hint__" = some none)
    (h : ∀ D c h', Fr h₀ L h' m → News h₀ L h' ((D, lst #[] c) :: news) → (∀ q ∈ news, q.1 < D) →
      wpAny (model prog w) A.in1.in1 (call (.ref fi) [.ref x]) (fun v s₁ => v = .ref x ∧ Fr h₀ L s₁.heap m ∧ News h₀ L s₁.heap ((D, lst #[] c) :: news) ∧
        (∀ c₂ h₂, Fr h₀ L h₂ m → News h₀ L h₂ ((D, lst #[] c₂) :: news) →
          wpAny (model prog w) A.in1.in1 (call (.ref fn) [.ref x]) (fun v s₂ => ∃ c₃ od₂ news₂, (x, instObj C dx) ∈ news₂ ∧ (dx, od₂) ∈ news₂ ∧ (∀ q ∈ news₂, q.1 ≠ D) ∧ Fr h₀ L s₂.heap m ∧ News h₀ L s₂.heap ((D, lst #[] c₃) :: news₂) ∧
              (∀ c₄ h₃, Fr h₀ L h₃ m → News h₀ L h₃ ((D, lst #[v] c₄) :: news₂) → wpAny (model prog w) A.in1.in1 (call (.ref fn) [.ref x]) (fun _ _ => False) (OwitStop (model prog w) A.in1.in1 (fun r s' => r = none ∧ Q (.ref D) s') E) { s₂ with heap := h₃ }))
            (OwitStop (model prog w) A.in1.in1 (fun _ _ => False) E) { s₁ with heap := h₂ })) E { s with heap := h' }) :
    wpAny (model prog w) A (call (.type "list") [.ref x]) Q E s := by
  refine callType_codes (Q₁ := fun obj s₁ => obj = .ref s.heap.objs.size ∧ s₁ = { s with heap := s.heap.push { cls := .type "list", data := .seq #[] } }) PySem.F.called_list (PySem.F.typeCall_list_1 _) PySem.F.entry_list_init
    (code_list_new _ ⟨rfl, rfl⟩) fun obj s₁ h₁ => ?_
  obtain ⟨rfl, rfl⟩ := h₁
  have hS : (s.heap.push { cls := .type "list", data := .seq #[] }).get? s.heap.objs.size = some { cls := .type "list", data := .seq #[] } := Heap.get?_push_size _ rfl
  refine ⟨⟨_, hS, rfl⟩, PySem.F.args_list_init_2 _ _, ?_⟩
  have F₁ := F.push (lst #[] 0)
  have N₁ := News.push F N (lst #[] 0)
  have lt1 : ∀ q ∈ news, q.1 < s.heap.objs.size := fun p hp => Heap.lt_size (N p hp).1
  have ne1 : ∀ q ∈ news, q.1 ≠ s.heap.objs.size := fun p hp => Nat.ne_of_lt (lt1 p hp)
  generalize s.heap.objs.size = D at *
  show wpAny _ A.in1.in1 (do let old ← Builtin.List.listItems (.ref D); Builtin.List.listUpdate (.ref D) (fun _ => #[]); letGo old.toList.reverse; Builtin.List.listExtendWith (.ref D) (.ref x) .none) _ _ _
  refine wpAny_bind ?_
  unfold Builtin.List.listItems
  refine wpAny_bind (wpAny_seqItems hS rfl (wpAny_pure ?_))
  show wpAny _ A.in1.in1 (updateSeq D (fun _ => #[]) >>= fun _ => letGo (#[] : Array Value).toList.reverse >>= fun _ => Builtin.List.listExtendWith (.ref D) (.ref x) .none) _ _ _
  refine wpAny_bind (wpAny_updateSeq hS rfl ?_)
  have U := news_upd (pre := []) (f := Obj.mapSeq (fun _ => (#[] : Array Value))) (o' := lst #[] _) F₁ N₁ (fun p hp => (nomatch hp)) ne1 rfl rfl
  refine wpAny_bind (wpAny_letGo ?_)
  unfold Builtin.List.listExtendWith
  have I := inst_of U.2 (.tail _ hx) (.tail _ hd)
  have X := X₀.keeps U.1.keep
  refine wpAny_bind (I.type.here ?_)
  have e1 : Builtin.List.listSameRef (.ref D) (.ref x) = false := by
    have := ne1 _ hx
    simp [Builtin.List.listSameRef, Ne.symm this]
  have e2 : (Value.ref C == Value.type "list") = false := rfl
  have e3 : (Value.ref C == Value.type "tuple") = false := rfl
  simp only [e1, e2, e3, Bool.or_false, Bool.false_eq_true, if_false]
  refine wpAny_bind (owit_iter U.1 X₀ I hi hfi (wpAny_mono (h D _ _ U.1 U.2 lt1) (fun v s₁ hv => ?_) fun _ _ z => z))
  obtain ⟨rfl, F₂, N₂, hk⟩ := hv
  have I₂ := inst_of N₂ (.tail _ hx) (.tail _ hd)
  refine owit_it F₂ X₀ I₂ hn ?_
  refine wpAny_bind (wpAny_holding (lo_hint (X₀.keeps F₂.keep) I₂ h1 h2 ?_))
  show wpAny _ A.in1.in1 (rule "list.extend.makes-room" >>= fun _ => Builtin.List.listTouch (.ref D) >>= fun _ =>
    again (.builtin "list.extend.loop" ⟨[.ref D, .ref x, .none], []⟩)) _ _ _
  refine wpAny_bind (wpAny_rule ?_)
  refine wpAny_bind ?_
  show wpAny _ A.in1.in1 (updateSeq D (·.push .none) >>= fun _ => updateSeq D (·.pop)) _ _ _
  refine wpAny_bind (wpAny_updateSeq (N₂ _ (.head _)).1 rfl ?_)
  have U₂ := news_upd (pre := []) (f := Obj.mapSeq (·.push Value.none)) (o' := lst #[.none] _) F₂ N₂ (fun p hp => (nomatch hp)) ne1 rfl rfl
  refine wpAny_updateSeq (hz := by seq_fits) (U₂.2 _ (.head _)).1 rfl ?_
  have U₃ := news_upd (pre := []) (f := Obj.mapSeq (·.pop)) (o' := lst #[] _) U₂.1 U₂.2 (fun p hp => (nomatch hp)) ne1 rfl rfl
  refine wpAny_pure ⟨plainId_quiet PySem.F.plain_extend_loop _, lo_one X₀ U₃.1 U₃.2 hx hd hn hfn ?_⟩
  refine wpAny_mono (hk _ _ U₃.1 U₃.2) (fun v s₂ hv => ?_) (fun e s₂ he => ?_)
  · obtain ⟨c₃, od₂, news₂, hx₂, hd₂, hne, F₃, N₃, hk₂⟩ := hv
    refine ⟨c₃, od₂, news₂, hx₂, hd₂, hne, F₃, N₃, fun c₄ h₃ F₄ N₄ => ?_⟩
    refine wpAny_mono (hk₂ c₄ h₃ F₄ N₄) (fun _ _ z => z) fun e s₃ he => ?_
    refine wpAny_mono he (fun b s₄ hb => ?_) fun _ _ z => z
    cases b with
    | true => exact ⟨hb.1, rfl, hb.2⟩
    | false => exact hb
  · exact he
end
end

section
open PySem PySem.W PyProof.Rows PySem.Calls
set_option Elab.async false
set_option maxRecDepth 100000
set_option maxHeartbeats 8000000
theorem dq_noBool : typeLookup (.type "collections.deque") "__bool__" = pure none := by rw [typeLookup_type, builtinLookup_eq_fast]; kernel_rfl
theorem dq_slot_len : Slot "collections.deque" "__len__" "collections.deque.__len__" :=
  .of (owner := "collections.deque") (n := "__len__") (by rw [typeLookup_type, builtinLookup_eq_fast]; kernel_rfl) (by decide +kernel) (by decide +kernel) (by decide +kernel)
    (by first | exact .inl (by decide +kernel) | exact .inr (by decide +kernel)) (by rw [isSubtype_type]; kernel_rfl)
theorem dq_entry_len : entryFor table "collections.deque.__len__" = some Builtin.«collections.deque.__len__» := entryFor_of_tree (by kernel_rfl)
theorem dq_args_len (a : Value) : argsOk "collections.deque.__len__" ⟨[a], []⟩ := by unfold argsOk; kernel_rfl
section
variable {prog : Program} {w : World} {A : Around} {E : Value → Shared → Prop} {s : Shared} {h₀ : Heap} {L : Addr} {m : Str → Option Value} {news : List (Addr × Obj)}
theorem dq_len_body {l : Addr} {Q : Value → Shared → Prop} (hl : s.heap.get? l = some dqObj)
    (h : Q (.int 0 (s.toks + 1)) { s with toks := s.toks + 1 + 1 }) : wpAny (model prog w) A (Builtin.«len» ⟨[.ref l], []⟩) (fun fin s' => ∃ r, fin = .done (.ret r) ∧ Q r s') E s := by
  have hT : s.TypeIs (.ref l) "collections.deque" := ⟨_, hl, rfl⟩
  unfold Builtin.«len»
  refine wpAny_bind (m := oneArg "len" _) (wpAny_pure ?_)
  refine wpAny_bind (m := callSpecial? (.ref l) (Str.ofString "__len__")) (wpAny_callSpecial?_slot (name := Str.ofString "__len__") hT dq_slot_len
    (wpAny_call_entry dq_slot_len hT dq_entry_len ?_ (dq_args_len _)))
  · show wpAny _ _ (do retInt ((← (do return (← fieldsOf (.ref l)).size - 2) : Nat) : Int)) _ _ s
    unfold fieldsOf
    refine wpAny_bind (wpAny_bind (wpAny_bind (wpAny_load hl ?_)))
    refine wpAny_pure (wpAny_pure (wpAny_bind (wpAny_mkInt (wpAny_pure ⟨_, rfl, ?_⟩))))
    refine wpAny_bind (wpAny_holding (wpAny_pure ?_))
    refine wpAny_bind (wpAny_letGo ?_)
    show wpAny _ _ (if ((0 : Nat) : Int) < 0 then _ else _) _ _ _
    rw [if_neg (by omega)]
    show wpAny _ _ (if ((0 : Nat) : Int) ≥ 2 ^ 63 then _ else _) _ _ _
    rw [if_neg (by omega)]
    exact wpAny_bind (wpAny_mkInt (wpAny_pure ⟨_, rfl, h⟩))
theorem dq_truthy {l : Addr} {Q : Bool → Shared → Prop} (hl : s.heap.get? l = some dqObj) (h : ∀ k, Q false { s with toks := k }) : wpAny (model prog w) A (truthy (.ref l)) Q E s := by
  have hT : s.TypeIs (.ref l) "collections.deque" := ⟨_, hl, rfl⟩
  have key : wpAny (model prog w) A (runValue (.builtin "len" ⟨[.ref l], []⟩)) (fun r s' => r = .int 0 (s.toks + 1) ∧ Q false s') E s := by
    refine wpAny_runValue (codeAny_builtin entry_len ?_)
    rw [Around.under_plainId plain_len _]
    exact wpAny_mono (dq_len_body (Q := fun r s' => r = .int 0 (s.toks + 1) ∧ Q false s') hl ⟨rfl, h _⟩)
      (fun fin s' h' => by obtain ⟨r, rfl, hq⟩ := h'; exact hq) fun _ _ e => e
  unfold truthy
  first
    | refine wpAny_bind (wpAny_callSpecial?_none (name := Str.ofString "__bool__") hT dq_noBool ?_)
    | refine wpAny_bind (wpAny_pure (wpAny_bind (wpAny_callSpecial?_none (name := Str.ofString "__bool__") hT dq_noBool ?_)))
  first
    | refine wpAny_bind (wpAny_specialOf (name := Str.ofString "__len__") hT dq_slot_len.lookup ?_)
    | refine wpAny_bind (wpAny_pure (wpAny_bind (wpAny_specialOf (name := Str.ofString "__len__") hT dq_slot_len.lookup ?_)))
  first
    | exact wpAny_bind (wpAny_mono key (fun r s' h' => by obtain ⟨rfl, hq⟩ := h'; exact wpAny_pure hq) fun _ _ e => e)
    | exact wpAny_bind (wpAny_pure (wpAny_bind (wpAny_mono key (fun r s' h' => by obtain ⟨rfl, hq⟩ := h'; exact wpAny_pure hq) fun _ _ e => e)))
theorem dq_truthyN {l : Addr} {Q : Bool → Shared → Prop} (N : News h₀ L s.heap news) (hm : (l, dqObj) ∈ news) (h : ∀ k, Q false { s with toks := k }) : wpAny (model prog w) A (truthy (.ref l)) Q E s := dq_truthy (N _ hm).1 h
end
end

section
open PySem PySem.W PyProof.Rows PySem.Calls
set_option Elab.async false
set_option maxRecDepth 100000
set_option maxHeartbeats 8000000
section
variable {prog : Program} {w : World} {A A₀ : Around} {s : Shared} {base h₀ : Heap} {L : Addr} {m : Str → Option Value} {news : List (Addr × Obj)} {K : Frag} {p : Program} {loose : List Str} {mean : ExcName → Option Value} {mg mb : Str → Option Value}
/-- a call of a function, with no claim at its end -/
theorem code_defW {env : Env} {outer : List Env} {R : Result → Shared → Prop} {name qual : Str} {params : Arguments} {body : List Stmt} {scope : Scope} {dV kV doc pm cdv ct oc : Value} {an od : Option Addr} {osl : Array (Option Value)} {f : Addr} {args : Args} {binds : List (Str × Value)}
    (B : Below A₀ base outer h₀) (F : Fr h₀ L s.heap m) (X₀ : K.In h₀) (N : News h₀ L s.heap news) (T : Top p loose mean mg mb h₀) (hA : A.frames = some (env :: outer)) (hf : env.frame = some L) (hke : env.scope.kind = .function)
    (ho : K.lookup f = some ⟨oc, od, .func (fnOf name qual params body scope dV kV doc pm an cdv ct), osl⟩) (hcd : codeIn K cdv qual = true) (hroom : A.depth < recursionLimit)
    (hbind : BindsTo s (fnOf name qual params body scope dV kV doc pm an cdv ct) args binds) (hloc : ∀ y ∈ binds, scope.names.lookup y.1 = some .local)
    (h : ∀ g L' h₁, Fr h₀ L g m → Fr g L' h₁ (fun y => binds.reverse.lookup y) → News g L' h₁ news → Below A base (env :: outer) g → K.In g → Top p loose mean mg mb g →
      wpAny (model prog w) (A.deeper (envOf qual scope L' f cdv)) (execs body (envOf qual scope L' f cdv))
        (fun fl s' => R (.ok (.ret (match fl with | .ret v => v | _ => .none))) s')
        (fun e s' => wpAny (model prog w) (A.deeper (envOf qual scope L' f cdv)) (leaving (envOf qual scope L' f cdv) e) (fun _ s'' => R (.error e) s'') (fun e' s'' => R (.error e') s'') s')
        { s with heap := h₁, toks := s.toks + binds.length })
    (hco : scope.isCoroutine = false) (hgen : scope.isGenerator = false) (hk : scope.kind = .function)
    (hcell : ∀ x ∈ scope.names, x.2 ≠ .cell) : codeAny (model prog w) A (.call (.ref f) args) R s := by
  obtain ⟨FG, BG, st, _⟩ := groundX (R := R) B F N hA hf hke
  refine codeAny_call_def (fd := fnOf name qual params body scope dV kV doc pm an cdv ct) (body := body) (binds := binds) hroom ((X₀.keeps F.keep) _ _ ho) rfl (T.nolimit.keeps F.keep) (codeRec_of (X₀.keeps F.keep) hcd) rfl hbind hcell hloc (fun h₁ hns hk₁ => ?_) hco hgen hk
  exact wpAny_mono (h _ s.heap.objs.size h₁ FG ⟨hns, fun b o e => hk₁ b o (of_hideAll _ e), Nat.le_of_eq (hideAll_size _ _)⟩
    (fun p hp => ⟨hk₁ _ _ (N p hp).1, Nat.ne_of_lt (Heap.lt_size (N p hp).1), hideAll_none _ (List.mem_map_of_mem hp)⟩) BG (X₀.keeps st) (T.keeps st)) (fun fl s' hl => hl) fun _ _ y => y
/-- a StopIteration that came up from a call -/
theorem stop_at {M : Model} {A' : Around} {E : Value → Shared → Prop} {g : Heap} {Q : Option Value → Shared → Prop} {l : List Env} {e t : Addr} {vs : List Value} {X : String}
    (R : RaisedK base l e (.type X) t vs news s.heap) (U : g.UpToSlots s.heap) (F : Fr h₀ L g m) (hsub : isSubtype (.type X) (.type "StopIteration") = pure true)
    (k : base.StaysIn s.heap → h₀.UpToSlots s.heap → (∀ q ∈ news, s.heap.get? q.1 = some q.2) → Q none s) : OwitStop M A' Q E (.ref e) s := by
  obtain ⟨⟨B, hB, hl, hfl, _⟩, _⟩ := R
  obtain ⟨ob, hob, hobc⟩ := hfl.there
  have hT : s.TypeIs (.ref e) X := (show ∃ o, s.heap.get? e = some o ∧ o.cls = .type X from ⟨ob, hob, hobc⟩)
  unfold OwitStop
  refine wpAny_isInstance hT hsub ?_
  show (if true = true then Q none s else E (.ref e) s)
  rw [if_pos rfl]
  exact k (fun b o h => hfl.1 b o (hB b o h)) (Heap.UpToSlots.trans (Heap.UpToSlots.of_keeps F.keep) U) fun q hq => hfl.1 _ _ (hl q hq).1
end
end

section
open PySem PySem.W PyProof.Rows PySem.Calls
set_option Elab.async false
set_option compiler.extract_closed false
set_option maxRecDepth 100000
set_option maxHeartbeats 8000000
set_option pp.maxSteps 3000
theorem LexOk.ne {c : LexC} {lx dx ds : Addr} {news : List (Addr × Obj)} (O : LexOk c lx dx ds news) : ∀ q ∈ news, q.1 ≠ dx := fun q hq => (O.rest q hq).1
noncomputable abbrev lexDt (c : LexC) (t4 : Tok) (com : Str) (wsp : Bool) (st tok ln : Value) : Obj := dictOf [⟨c.h0, .str (Str.ofString "instream") c.k0, .ref c.si⟩, ⟨c.h1, .str (Str.ofString "infile") c.k1, .none⟩, ⟨c.h2, .str (Str.ofString "posix") c.k2, .bool true⟩, ⟨c.h3, .str (Str.ofString "eof") c.k3, .none⟩, ⟨c.h4, .str (Str.ofString "commenters") c.k4, .str com t4⟩, ⟨c.h5, .str (Str.ofString "wordchars") c.k5, .str (Str.ofString "abcdfeghijklmnopqrstuvwxyzABCDEFGHIJKLMNOPQRSTUVWXYZ0123456789_ßàáâãäåæçèéêëìíîïðñòóôõöøùúûüýþÿÀÁÂÃÄÅÆÇÈÉÊËÌÍÎÏÐÑÒÓÔÕÖØÙÚÛÜÝÞ") c.t5⟩, ⟨c.h6, .str (Str.ofString "whitespace") c.k6, .str (Str.ofString " \t\x0d\n") c.t6⟩, ⟨c.h7, .str (Str.ofString "whitespace_split") c.k7, .bool wsp⟩, ⟨c.h8, .str (Str.ofString "quotes") c.k8, .str (Str.ofString "'\"") c.t8⟩, ⟨c.h9, .str (Str.ofString "escape") c.k9, .str (Str.ofString "\\") c.t9⟩, ⟨c.h10, .str (Str.ofString "escapedquotes") c.k10, .str (Str.ofString "\"") c.t10⟩, ⟨c.h11, .str (Str.ofString "state") c.k11, st⟩, ⟨c.h12, .str (Str.ofString "pushback") c.k12, .ref c.pb⟩, ⟨c.h13, .str (Str.ofString "lineno") c.k13, ln⟩, ⟨c.h14, .str (Str.ofString "debug") c.k14, .int 0 c.t14⟩, ⟨c.h15, .str (Str.ofString "token") c.k15, tok⟩, ⟨c.h16, .str (Str.ofString "filestack") c.k16, .ref c.fs⟩, ⟨c.h17, .str (Str.ofString "source") c.k17, .none⟩, ⟨c.h18, .str (Str.ofString "_punctuation_chars") c.k18, .str (Str.ofString "") c.t18⟩] 19
/-- the commenters were set anew: their token goes into the constants -/
theorem lex_again {c : LexC} {e : SioC} {lx dx ds : Addr} {t4 : Tok} {com : Str} {wsp : Bool} {st tok ln : Value} {x : Str} {p : Int} {tp : Tok} {news : List (Addr × Obj)} {h₀ h : Heap} {L : Addr}
    (N : News h₀ L h ((c.fs, dqObj) :: (c.pb, dqObj) :: (c.si, instObj 604 ds) :: (ds, sioD e x p tp) :: (lx, instObj 739 dx) :: (dx, lexDt c t4 com wsp st tok ln) :: news)) (O : LexOk c lx dx ds news) :
    ∃ c2 : LexC, News h₀ L h (lexN c2 e lx dx ds com wsp st tok ln x p tp news) ∧ LexOk c2 lx dx ds news :=
  ⟨{ c with t4 := t4 }, N, ⟨O.a1, O.a2, O.a3, O.a4, O.a5, O.rest⟩⟩
theorem lex_rot {c : LexC} {e : SioC} {lx dx ds : Addr} {com : Str} {wsp : Bool} {st tok ln : Value} {x : Str} {p : Int} {tp : Tok} {news : List (Addr × Obj)} {h₀ h : Heap} {L : Addr} {q : Addr × Obj} :
    News h₀ L h (q :: lexN c e lx dx ds com wsp st tok ln x p tp news) ↔ News h₀ L h (lexN c e lx dx ds com wsp st tok ln x p tp (q :: news)) := by
  constructor
  all_goals
    intro N a ha
    refine N a ?_
    simp only [List.mem_cons] at ha ⊢
    rcases ha with h | h | h | h | h | h | h | h <;> simp only [h, true_or, or_true]
section
variable (w : World) (mean : ExcName → Option Value) (mg mb : Str → Option Value)
local macro_rules | `(tactic| walk_at "call ref") => `(tactic| (k_here; with_reducible refine atRef 707 ?_; k_dflt (refine' useC (rt_c _ _ _ _ _ _ _ _ _ _ _ _ _ _ _ _ ?O ?hx ?hR) ?_; (case O | hx | hR => assumption); k_whole); intros; (try k_sweep)))
local macro_rules | `(tactic| walk_at "call ref") => `(tactic| (k_here; with_reducible refine atRef 707 ?_; k_dflt (refine' useC (rt_end _ _ _ _ _ _ _ _ _ _ _ _ _ _ _ ?O ?hx) ?_; (case O | hx => assumption); k_whole); intros; (try k_sweep)))
local macro_rules | `(tactic| walk_at "truthy ref") => `(tactic| (k_here; (with_reducible show wpAny _ _ (PySem.truthy (Value.ref _)) _ _ _); k_dflt (refine' dq_truthyN ?N ?hm ?_; (case N => k_asm); (case hm => k_mem); k_whole); intro _))
theorem iter_c (news : List (Addr × Obj)) (lx dx : Addr) (od : Obj) (hm : (lx, instObj 739 dx) ∈ news) (hd' : (dx, od) ∈ news) :
    Con w mean mg mb 470 news (call (.ref 729) [.ref lx]) (fun h₀ L m s Q => ∀ (h' : Heap) (tk' : Nat), Fr h₀ L h' m → News h₀ L h' news → Q (.ref lx) { s with heap := h', toks := tk' }) := by
  unfold Con; k_fill
  intro cn ns ig ic mo a ccd cl outer A₀ base h₀ L m s Q E B F X N T hret
  w_on
  refine wpAny_call ?_
  k_dflt cell_enter
  k_steps
  all_goals exact hret _ _ (by assumption) (by assumption)
theorem next_c (c : LexC) (e : SioC) (lx dx ds : Addr) (t1 t2 t3 : Tok) (x o : Str) (tp : Tok) (news : List (Addr × Obj)) (O : LexOk c lx dx ds news) (hx : x.length ≤ 1000) (hR : LexR (Str.ofString " ") (Str.ofString "") x.cps.toList o) :
    Con w mean mg mb 450 (lexN c e lx dx ds (Str.ofString "") true (.str (Str.ofString " ") t1) (.str (Str.ofString "") t2) (.int 1 t3) x 0 tp news) (call (.ref 736) [.ref lx]) (fun h₀ L m s Q => ∀ (t t2 t3 tp : Tok) (ln : Int) (h' : Heap) (tk' : Nat), Fr h₀ L h' m → News h₀ L h' (lexN c e lx dx ds (Str.ofString "") true .none (.str (Str.ofString "") t2) (.int ln t3) x (x.length : Int) tp news) → Q (.str o t) { s with heap := h', toks := tk' }) := by
  unfold Con; k_fill
  intro cn ns ig ic mo a ccd cl outer A₀ base h₀ L m s Q E B F X N T hret
  w_on
  refine wpAny_call ?_
  k_dflt cell_enter
  k_steps
  all_goals exact hret _ _ _ _ _ _ _ (by assumption) (by assumption)
theorem next_end (c : LexC) (e : SioC) (lx dx ds : Addr) (t2 t3 : Tok) (ln : Int) (x : Str) (tp : Tok) (news : List (Addr × Obj)) (O : LexOk c lx dx ds news) (hx : x.length ≤ 1000) (R : Option Value → Shared → Prop) (E' : Value → Shared → Prop) (A' : Around) :
    ∀ (cn : Str) (ns : List (Str × NameKind)) (ig ic : Bool) (mo : List (Str × Const)) (a : Addr) (ccd : Value) (cl : List (Str × Addr)) (outer : List Env) (A₀ : Around) (base h₀ : Heap) (L : Addr) (m : Str → Option Value) (s : Shared),
    Below A₀ base outer h₀ → Fr h₀ L s.heap m → (hd.heap_1 w.params).In h₀ → News h₀ L s.heap (lexN c e lx dx ds (Str.ofString "") true .none (.str (Str.ofString "") t2) (.int ln t3) x (x.length : Int) tp news) → Top hd.view_1 (looseW hd.view_1 loose) mean mg mb h₀ →
    (∀ (h' : Heap) (tk' : Nat), base.StaysIn h' → h₀.UpToSlots h' → (∀ q ∈ news, h'.get? q.1 = some q.2) → R none { s with heap := h', toks := tk' }) →
    wpAny (model PySem.Challenge.rw_nq0198_01.row.prog w) (ktrTop 450 (450 * 10) (some []) cn (fsc ns ig ic mo) L a ccd cl outer) (call (.ref 736) [.ref lx]) (fun _ _ => False) (OwitStop (model PySem.Challenge.rw_nq0198_01.row.prog w) A' R E') s := by
  k_fill
  intro cn ns ig ic mo a ccd cl outer A₀ base h₀ L m s B F X N T hret
  w_on
  refine wpAny_call ?_
  k_dflt cell_enter
  k_steps
  all_goals
    rename RaisedK _ _ _ _ _ _ _ _ => rkX
    refine stop_at rkX (by assumption) (by assumption) (by first | rfl | kernel_rfl | decide) fun hb hu hq => ?_
    exact hret _ _ hb hu fun q hq' => hq q (.tail _ (.tail _ (.tail _ (.tail _ (.tail _ (.tail _ hq'))))))
local macro_rules | `(tactic| walk_at "call ref") => `(tactic| (k_here; with_reducible refine atRef 739 ?_; k_dflt (refine' useC (lex_c _ _ _ _ _ _ _ ?hx) ?_; (case hx => assumption); k_whole); intro c' e' lx' dx' ds' t1' t2' t3' tp' h' tk' F' N' O'; have b1' := ltN O'.a1; have b2' := ltN O'.a2; have b3' := ltN O'.a3; have b4' := ltN O'.a4; have b5' := ltN O'.a5; have hrd' := O'.ne; (try k_sweep)))
local macro_rules | `(tactic| cell_enter) => `(tactic| (refine' code_defW ?k1 ?k2 ?k3 ?k4 ?k5 ?kA ?kF ?kK ?k6 ?k7 ?k8 ?k9 ?kB ?_ ?c2 ?c3 ?c4 ?c5; (case kA | kF => exact rfl); (case kK => first | exact rfl | assumption); (case k1 | k2 | k3 | k4 | k5 => k_asm); (case k6 | k7 => k_is); (case k8 => k_room); (case k9 => first | exact BindsTo.of_eq rfl | exact binds_K (by k_in) rfl (by k_is) rfl rfl rfl); (case c5 => decide); (case kB => exact locs rfl); (case c2 | c3 | c4 => exact rfl); k_whole; intro _ _ _ _ _ _ B' _ _; (try dsimp only); (try k_lift B'); (try k_fold)))
theorem split_c (news : List (Addr × Obj)) (x o : Str) (tx : Tok) (hx : x.length ≤ 1000) (hR : LexR (Str.ofString " ") (Str.ofString "") x.cps.toList o) :
    ∀ (cn : Str) (ns : List (Str × NameKind)) (ig ic : Bool) (mo : List (Str × Const)) (a : Addr) (ccd : Value) (cl : List (Str × Addr)) (outer : List Env) (A₀ : Around) (base h₀ : Heap) (L : Addr) (m : Str → Option Value) (s : Shared) (Q E : Value → Shared → Prop),
    Below A₀ base outer h₀ → Fr h₀ L s.heap m → (hd.heap_1 w.params).In h₀ → News h₀ L s.heap news → Top hd.view_1 (looseW hd.view_1 loose) mean mg mb h₀ →
    (∀ (D : Addr) (t : Tok) (c : Nat) (h' : Heap) (tk' : Nat), base.StaysIn h' → h₀.UpToSlots h' → (∀ q ∈ news, h'.get? q.1 = some q.2) → h'.get? D = some (lst #[.str o t] c) → h₀.get? D = none → Q (.ref D) { s with heap := h', toks := tk' }) →
    wpAny (model PySem.Challenge.rw_nq0198_01.row.prog w) (ktrTop 430 (430 * 10) (some []) cn (fsc ns ig ic mo) L a ccd cl outer) (call (.ref 751) [.str x tx]) Q E s := by
  k_fill
  intro cn ns ig ic mo a ccd cl outer A₀ base h₀ L m s Q E B F X N T hret
  w_on
  refine wpAny_call ?_
  k_dflt cell_enter
  generalize hW : PySem.Stmt.Return (some (PySem.Expr.Call (PySem.Expr.Name (Str.ofString "list") _) _ _ _)) _ = W
  k_steps
  subst hW
  rename LexOk _ _ _ _ _ => Oold
  rename News _ _ _ _ => Nold
  obtain ⟨c2, N2, O2⟩ := lex_again Nold Oold
  clear Nold Oold
  k_steps
  rename Fr _ _ _ _ => F2
  rename Fr h₀ _ _ _ => FG
  rename Below _ _ _ _ => B2
  rename Frag.In _ _ => X2
  rename Top _ _ _ _ _ _ => T2
  refine list_own (C := 739) (fi := 729) (fn := 736) X2 F2 N2 (.tail _ (.tail _ (.tail _ (.tail _ (.head _))))) (.tail _ (.tail _ (.tail _ (.tail _ (.tail _ (.head _)))))) (by k_is) (by k_is) (by k_is) (by k_is) (by k_is) (by k_is) ?_
  intro D c3 h3 F3 N3 lt3
  refine useA rfl rfl rfl (Nat.le_of_ble_eq_true rfl) (Nat.le_of_ble_eq_true rfl) (iter_c w mean mg mb _ _ _ _ (.tail _ (.tail _ (.tail _ (.tail _ (.tail _ (.head _)))))) (.tail _ (.tail _ (.tail _ (.tail _ (.tail _ (.tail _ (.head _))))))) _ _ _ _ _ _ _ _ _ _ _ _ _ _ _ _ _ B2 F3 X2 N3 T2 ?_)
  intro h4 tk4 F4 N4
  refine ⟨rfl, F4, N4, ?_⟩
  intro c5 h5 F5 N5
  have ndx := Nat.ne_of_gt (lt3 _ (.tail _ (.tail _ (.tail _ (.tail _ (.tail _ (.head _)))))))
  have nds := Nat.ne_of_gt (lt3 _ (.tail _ (.tail _ (.tail _ (.head _)))))
  have O5 : ∀ o' : Obj, LexOk c2 _ _ _ ((D, o') :: news) := fun o' => ⟨O2.a1, O2.a2, O2.a3, O2.a4, O2.a5, fun q hq => by
    rcases List.mem_cons.mp hq with rfl | hq
    · exact ⟨ndx, nds⟩
    · exact O2.rest q hq⟩
  refine useA rfl rfl rfl (Nat.le_of_ble_eq_true rfl) (Nat.le_of_ble_eq_true rfl) (next_c w mean mg mb c2 _ _ _ _ _ _ _ x o _ _ (O5 _) hx hR _ _ _ _ _ _ _ _ _ _ _ _ _ _ _ _ _ B2 F5 X2 (lex_rot.mp N5) T2 ?_)
  intro t6 t62 t63 tp6 ln6 h6 tk6 F6 N6
  refine ⟨c5, _, _, .tail _ (.tail _ (.tail _ (.tail _ (.head _)))), .tail _ (.tail _ (.tail _ (.tail _ (.tail _ (.head _))))), ?_, F6, lex_rot.mpr N6, ?_⟩
  · intro q hq
    simp only [List.mem_cons] at hq
    rcases hq with rfl | rfl | rfl | rfl | rfl | rfl | hq
    · exact Nat.ne_of_lt (lt3 _ (.head _))
    · exact Nat.ne_of_lt (lt3 _ (.tail _ (.head _)))
    · exact Nat.ne_of_lt (lt3 _ (.tail _ (.tail _ (.head _))))
    · exact Ne.symm nds
    · exact Nat.ne_of_lt (lt3 _ (.tail _ (.tail _ (.tail _ (.tail _ (.head _))))))
    · exact Ne.symm ndx
    · exact Nat.ne_of_lt (lt3 q (.tail _ (.tail _ (.tail _ (.tail _ (.tail _ (.tail _ hq)))))))
  intro c7 h7 F7 N7
  refine useA rfl rfl rfl (Nat.le_of_ble_eq_true rfl) (Nat.le_of_ble_eq_true rfl) (next_end w mean mg mb c2 _ _ _ _ _ _ _ x _ _ (O5 _) hx _ _ _ _ _ _ _ _ _ _ _ _ _ _ _ _ _ _ B2 F7 X2 (lex_rot.mp N7) T2 ?_)
  intro h8 tk8 hb hu hq
  refine ⟨rfl, ?_⟩
  have hD : h₀.get? D = none := by
    cases e : h₀.get? D with
    | none => rfl
    | some o' =>
      have h9 := FG.keep D o' e
      rw [(N3 _ (.head _)).2.2] at h9
      cases h9
  exact hret D t6 c7 h8 tk8 hb (Heap.UpToSlots.trans (Heap.UpToSlots.of_keeps FG.keep) hu) (fun q hq' => hq q (.tail _ hq')) (hq (D, _) (.head _)) hD
end
end

section
open PySem PySem.W PyProof.Rows PySem.Calls
set_option Elab.async false
set_option maxRecDepth 100000
set_option maxHeartbeats 8000000
section
variable {prog : Program} {w : World} {A : Around} {h₀ : Heap} {L : Addr} {m : Str → Option Value} {env : Env} {elt : PySem.Expr} {x : Str} {scope : Scope} {cl : List (Str × Addr)} {s : Shared} {S : List (Addr × Obj) → Prop} {P : Nat → Value → Prop} {Fin : List Value → List (Addr × Obj) → Prop} {news : List (Addr × Obj)}
/-- a comprehension by an invariant of one's own -/
theorem comp_own {n : Nat} (Inv : Nat → List Value → List (Addr × Obj) → Prop)
    (fin : ∀ ys nw, Inv n ys nw → Fin ys nw)
    (turn : ∀ i v I oI C oC D m₂ ys nw h tk (E' : Value → Shared → Prop), i < n → P i v → Inv i ys nw → LCg.NsObj oC m₂ → m₂ x = some v → Fr h₀ L h m → News h₀ L h ((I, oI) :: (C, oC) :: (D, LCg.lst ys) :: nw) → LCg.Off3 I C D nw → ((@Ne Nat I C) ∧ (@Ne Nat I D) ∧ (@Ne Nat C D)) →
      wpAny (model prog w) A (eval elt (compEnvC scope cl C env)) (LCg.CompEnd h₀ L m { s with heap := h, toks := tk } I oI C oC D (LCg.lst ys) S (fun y news' => Inv (i + 1) (ys ++ [y]) news')) E' { s with heap := h, toks := tk })
    (h0 : Inv 0 [] news) : LCg.CompRest prog w A h₀ L m env elt x scope cl s S P Fin n 0 [] news := by
  have key : ∀ (j i : Nat) (ys : List Value) (nw : List (Addr × Obj)), i + j = n → Inv i ys nw → LCg.CompRest prog w A h₀ L m env elt x scope cl s S P Fin j i ys nw := by
    intro j
    induction j with
    | zero =>
      intro i ys nw hi hy
      obtain rfl : i = n := by lia
      exact LCg.CompRest.zero (fin ys nw hy)
    | succ j ih =>
      intro i ys nw hi hy
      refine LCg.CompRest.succ ?_
      intro v I oI C oC D m₂ h tk E' hv hC hx F N off ne
      refine wpAny_mono (turn i v I oI C oC D m₂ ys nw h tk E' (by lia) hv hy hC hx F N off ne) (fun y s₂ hq => ?_) fun _ _ e => e
      obtain ⟨h', tk', nw', e, F', N', off', hS, hr⟩ := hq
      exact ⟨h', tk', nw', e, F', N', off', hS, ih (i + 1) _ _ (by lia) hr⟩
  exact key n 0 [] news (by lia) h0
/-- a statement apart -/
theorem execs_cut {M : Model} {E : Value → Shared → Prop} {st : Stmt} {rest : List Stmt} {Q : Flow → Shared → Prop} (P : Shared → Prop) (h1 : wpAny M A (exec st env) (fun fl s' => fl = .next ∧ P s') E s) (h2 : ∀ s', P s' → wpAny M A (execs rest env) Q E s') :
    wpAny M A (execs (st :: rest) env) Q E s := by
  refine wpAny_execs_cons (wpAny_mono h1 (fun fl s' h => ?_) fun _ _ e => e)
  obtain ⟨rfl, hp⟩ := h
  exact h2 s' hp
end
/-- a pair of ints at hand -/
noncomputable abbrev tup2 (a b : Value) : Obj := { cls := .type "tuple", data := .seq #[a, b] }
noncomputable def PairAt (nw : List (Addr × Obj)) (v : Value) (p : Nat × Nat) : Prop := ∃ a tc tp, v = .ref a ∧ (a, tup2 (.int p.1 tc) (.int p.2 tp)) ∈ nw
noncomputable def PairsAt (nw : List (Addr × Obj)) (vs : List Value) (ps : List (Nat × Nat)) : Prop := vs.length = ps.length ∧ ∀ i, i < ps.length → PairAt nw (vs.getD i .none) (ps.getD i (0, 0))
theorem PairAt.sub {nw nw' : List (Addr × Obj)} {v : Value} {p : Nat × Nat} (hs : ∀ q ∈ nw, q ∈ nw') (h : PairAt nw v p) : PairAt nw' v p := let ⟨a, tc, tp, e, hm⟩ := h; ⟨a, tc, tp, e, hs _ hm⟩
theorem pairs_snoc {nw nw' : List (Addr × Obj)} {vs : List Value} {ps : List (Nat × Nat)} {v : Value} {p : Nat × Nat} (hs : ∀ q ∈ nw, q ∈ nw') (h : PairsAt nw vs ps) (hv : PairAt nw' v p) : PairsAt nw' (vs ++ [v]) (ps ++ [p]) := by
  refine ⟨by simp [h.1], fun i hi => ?_⟩
  rw [List.length_append, List.length_singleton] at hi
  rcases Nat.lt_or_ge i ps.length with h1 | h1
  · have e1 : (vs ++ [v]).getD i .none = vs.getD i .none := by simp [List.getD, List.getElem?_append_left (show i < vs.length by rw [h.1]; exact h1)]
    have e2 : (ps ++ [p]).getD i (0, 0) = ps.getD i (0, 0) := by simp [List.getD, List.getElem?_append_left h1]
    rw [e1, e2]
    exact (h.2 i h1).sub hs
  · obtain rfl : i = ps.length := by lia
    have e1 : (vs ++ [v]).getD ps.length .none = v := by rw [← h.1]; simp [List.getD]
    have e2 : (ps ++ [p]).getD ps.length (0, 0) = p := by simp [List.getD]
    rw [e1, e2]
    exact hv
theorem PairsAt.sub {nw nw' : List (Addr × Obj)} {vs : List Value} {ps : List (Nat × Nat)} (h : PairsAt nw vs ps) (hs : ∀ q ∈ nw, q ∈ nw') : PairsAt nw' vs ps := ⟨h.1, fun i hi => (h.2 i hi).sub hs⟩
theorem item_code (t : List Nat) (i : Nat) (hi : i < t.length) : Txt.item (txt t) (i : Int) = txt [t.getD i 0] := by
  have hl : (txt t).length = t.length := txt_len t
  have e : seqIndex? (i : Int) (txt t).length = some i := by
    unfold seqIndex?
    rw [hl]
    simp only [show ¬ ((i : Int) < 0) by lia, if_false]
    rw [if_pos (by simp only [Bool.and_eq_true, decide_eq_true_eq]; lia)]
    rfl
  unfold Txt.item Txt.charAt
  rw [e]
  show (⟨#[((txt t).cps[i]?).getD 0]⟩ : Str) = ⟨#[t.getD i 0]⟩
  have e2 : (txt t).cps[i]? = some t[i] := by simp [txt, hi]
  rw [e2, List.getD_eq_getElem?_getD, List.getElem?_eq_getElem hi]
end

section
open PySem PySem.W PyProof.Rows PySem.Calls
set_option Elab.async false
set_option maxRecDepth 100000
set_option maxHeartbeats 4000000
noncomputable def pKey (p : Nat × Nat) : Nat := p.1 * 1000 + p.2
theorem pKey_lt {p q : Nat × Nat} (hp : p.2 < 1000) (hq : q.2 < 1000) : decide (pKey p < pKey q) = if p.1 = q.1 then decide (p.2 < q.2) else decide (p.1 < q.1) := by
  unfold pKey
  split
  · rename_i e
    rw [e, Bool.eq_iff_iff, decide_eq_true_eq, decide_eq_true_eq]; lia
  · rename_i e
    rw [Bool.eq_iff_iff, decide_eq_true_eq, decide_eq_true_eq]; lia
section
variable {prog : Program} {w : World} {A : Around} {E : Value → Shared → Prop} {s : Shared} {h₀ : Heap} {L : Addr} {m : Str → Option Value} {nw news : List (Addr × Obj)} {vs : List Value}
theorem one_int (b : Bool) {x y : Int} {t u : Tok} {Q : Bool → Shared → Prop} (h : Q (decide (x < y)) s) : wpAny (model prog w) A (oneLt' b (.int x t) (.int y u)) Q E s := by
  cases b with
  | true => exact oneLt_int h
  | false => exact kat_one _ _ (lt_int h)
theorem pair_lt {v1 v2 : Value} {p q : Nat × Nat} {C : Bool → Shared → Prop} (N : News h₀ L s.heap nw) (h1 : PairAt nw v1 p) (h2 : PairAt nw v2 q) (hp : p.2 < 1000) (hq : q.2 < 1000) (h : C (decide (pKey p < pKey q)) s) :
    wpAny (model prog w) A (keyLt' (tuples' true) v1 v2) C E s := by
  obtain ⟨a, tc, tp, rfl, hm1⟩ := h1
  obtain ⟨b, uc, up, rfl, hm2⟩ := h2
  refine kat_lt (N _ hm1).1 rfl (N _ hm2).1 rfl ?_
  rw [pKey_lt hp hq] at h
  refine kat_cons (wpAny_eqBool_int ?_)
  by_cases e : p.1 = q.1
  · rw [if_pos e] at h
    rw [show ((p.1 : Int) == (q.1 : Int)) = true by rw [e]; exact beq_self_eq_true _]
    refine kat_yes (kat_cons (wpAny_eqBool_int ?_))
    by_cases e2 : p.2 = q.2
    · rw [show ((p.2 : Int) == (q.2 : Int)) = true by rw [e2]; exact beq_self_eq_true _]
      refine kat_yes (kat_nil ?_)
      rw [show decide (p.2 < q.2) = false by rw [e2]; simp] at h
      exact h
    · rw [show ((p.2 : Int) == (q.2 : Int)) = false by rw [beq_eq_false_iff_ne]; lia]
      refine kat_no (one_int _ ?_)
      rw [show decide ((p.2 : Int) < (q.2 : Int)) = decide (p.2 < q.2) by rw [Bool.eq_iff_iff, decide_eq_true_eq, decide_eq_true_eq]; lia]
      exact h
  · rw [if_neg e] at h
    rw [show ((p.1 : Int) == (q.1 : Int)) = false by rw [beq_eq_false_iff_ne]; lia]
    refine kat_no (one_int _ ?_)
    rw [show decide ((p.1 : Int) < (q.1 : Int)) = decide (p.1 < q.1) by rw [Bool.eq_iff_iff, decide_eq_true_eq, decide_eq_true_eq]; lia]
    exact h
theorem pairs_tups {h : Heap} (N : News h₀ L h nw) : ∀ {vs : List Value} {ps : List (Nat × Nat)}, PairsAt nw vs ps → ∃ fs : List Value, fs.length = ps.length ∧ KatTups h vs fs ∧ ∀ v ∈ fs, ∃ x t, v = Value.int x t
  | [], [], _ => ⟨[], rfl, trivial, fun _ hv => (nomatch hv)⟩
  | [], _ :: _, hp => by have := hp.1; simp at this
  | _ :: _, [], hp => by have := hp.1; simp at this
  | v :: vs, p :: ps, hp => by
    have hl : vs.length = ps.length := by have := hp.1; simpa using this
    obtain ⟨fs, e, ht, hf⟩ := pairs_tups N (vs := vs) (ps := ps) ⟨hl, fun i hi => hp.2 (i + 1) (by simpa using hi)⟩
    obtain ⟨a, tc, tp, ev, hm⟩ := hp.2 0 (by simp)
    have ev' : v = .ref a := ev
    refine ⟨.int p.1 tc :: fs, by simp [e], ⟨⟨a, _, _, _, ev', (N _ hm).1, rfl, rfl, rfl⟩, ht⟩, fun u hu => ?_⟩
    rcases List.mem_cons.mp hu with rfl | hu
    · exact ⟨_, _, rfl⟩
    · exact hf u hu
theorem perm_map {α : Type} {n : Nat} {p : Array Nat} (l : List α) (d : α) (hl : l.length = n) (hp : PermN n p) : (p.toList.map fun i => l.getD i d).Perm l := by
  have e : (List.range n).map (fun i => l.getD i d) = l := by
    apply List.ext_getElem
    · simp [hl]
    · intro i h1 h2
      simp [h2]
  have := List.Perm.map (fun i => l.getD i d) hp
  rw [e] at this
  exact this
/-- sorted() of a list of pairs -/
theorem pairs_sorted {D : Addr} {np : List (Addr × Obj)} {ps : List (Nat × Nat)} {Q : Value → Shared → Prop} (F : Fr h₀ L s.heap m) (N : News h₀ L s.heap nw) (hl : s.heap.IsList D vs.toArray) (hsp : ∀ q ∈ np, q ∈ nw) (hps : PairsAt np vs ps) (h1 : 1 ≤ ps.length) (h64 : ps.length < 64) (hs : ∀ p ∈ ps, p.2 < 1000)
    (h : ∀ D2 c h' tk vs' ps', Fr h₀ L h' m → News h₀ L h' ((D2, listOf (List.toArray vs') c) :: nw) → (∀ q ∈ nw, q.1 < D2) → PairsAt np vs' ps' → ps'.Perm ps → ps'.Pairwise (fun a b => pairLe a b = true) → Q (.ref D2) { s with heap := h', toks := tk }) :
    wpAny (model prog w) A (call (.builtin "sorted") [.ref D]) Q E s := by
  have hlen := hps.1
  have hs' : ∀ i, i < ps.length → (ps.getD i (0, 0)).2 < 1000 := fun i hi => hs _ (by rw [List.getD_eq_getElem?_getD, List.getElem?_eq_getElem hi]; exact List.getElem_mem hi)
  refine sorted_any (K := fun i => pKey (ps.getD i (0, 0))) (κ₀ := tuples' true) F N hl (by lia) (by lia) ?_ ?_ ?_
  · intro h' _ F' N' Q' hq
    obtain ⟨fs, e, ht, hf⟩ := pairs_tups (fun q hq => N' q (hsp q hq)) hps
    refine kat_kind (T := .type "int") (s := { s with heap := h' }) ht (by lia) (fun v hv => ?_) (by decide) hq
    obtain ⟨x, t, rfl⟩ := hf v hv
    exact Looks.of_pure rfl
  · intro i j C h' tk hi hj F' N' hC
    exact pair_lt (s := { s with heap := h', toks := tk }) (fun q hq => N' q (hsp q hq)) (hps.2 i (by lia)) (hps.2 j (by lia)) (hs' i (by lia)) (hs' j (by lia)) (hC tk)
  · intro D2 c h' tk p F' N' lt hp hu
    rw [hlen] at hp hu
    refine h D2 c h' tk _ (p.toList.map fun i => ps.getD i (0, 0)) F' N' lt ⟨by simp, ?_⟩ (perm_map ps _ rfl hp) ?_
    · intro i hi
      rw [List.length_map] at hi
      have hi' : i < p.size := by simpa using hi
      have hin : i < ps.length := by rw [← hp.size]; exact hi'
      have e1 : (p.toList.map fun i => vs.getD i Value.none).getD i .none = vs.getD (p.getD i 0) .none := by
        rw [List.getD_eq_getElem?_getD, List.getElem?_map, List.getElem?_eq_getElem hi]
        simp [Array.getD, hi']
      have e2 : (p.toList.map fun i => ps.getD i (0, 0)).getD i (0, 0) = ps.getD (p.getD i 0) (0, 0) := by
        rw [List.getD_eq_getElem?_getD, List.getElem?_map, List.getElem?_eq_getElem hi]
        simp [Array.getD, hi']
      rw [e1, e2]
      exact hps.2 _ (hp.lt hin)
    · rw [List.pairwise_iff_getElem]
      intro i j hi hj hij
      simp only [List.length_map, Array.length_toList] at hi hj
      have hu' : pKey (ps.getD (p.getD i 0) (0, 0)) ≤ pKey (ps.getD (p.getD j 0) (0, 0)) := hu i j (Nat.le_of_lt hij) (by rw [← hp.size]; exact hj)
      unfold pKey at hu'
      have ei : p.getD i 0 = p[i] := by simp [Array.getD, hi]
      have ej : p.getD j 0 = p[j] := by simp [Array.getD, hj]
      rw [ei, ej] at hu'
      simp only [List.getElem_map, Array.getElem_toList]
      rw [pairLe_iff]
      have b1 := hs' p[i] (by rw [← ei]; exact hp.lt (by rw [← hp.size]; exact hi))
      have b2 := hs' p[j] (by rw [← ej]; exact hp.lt (by rw [← hp.size]; exact hj))
      lia
end
end

section
open PySem PySem.W PyProof.Rows PySem.Calls
set_option Elab.async false
set_option maxRecDepth 100000
set_option maxHeartbeats 4000000
section
variable {prog : Program} {w : World} {A : Around} {E : Value → Shared → Prop} {s : Shared} {env : Env} {h₀ : Heap} {x : Str} {body : List Stmt} {Q : Flow → Shared → Prop}
/-- the end of a turn -/
noncomputable def TurnEnd (h₀ : Heap) (L I : Addr) (oI : Obj) (s₁ : Shared) (J : (Str → Option Value) → List (Addr × Obj) → Prop) (f : Flow) (s₂ : Shared) : Prop :=
  (f = .next ∨ f = .cont) ∧ ∃ h' tk m' news', s₂ = { s₁ with heap := h', toks := tk } ∧ Fr h₀ L h' m' ∧ News h₀ L h' ((I, oI) :: news') ∧ (∀ p ∈ news', p.1 ≠ I) ∧ J m' news'
/-- a for over a range, by an invariant of one's own -/
theorem for_range {r : Addr} {a b : Int} {t u v : Tok} {n : Nat} {m₀ : Str → Option Value} {news : List (Addr × Obj)} (J : Nat → (Str → Option Value) → List (Addr × Obj) → Prop)
    (hh : A.handled = none) (hr : IsRange s.heap r a b 1 t u v) (hsmall : Builtin.Range.small a b 1 = true) (hn : Builtin.Range.rangeSize a b 1 = (n : Int))
    (F : Fr h₀ env.locals s.heap m₀) (N : News h₀ env.locals s.heap news) (h0 : J 0 m₀ news)
    (turn : ∀ i t m₁ news₁ h tk I oI, i < n → J i m₁ news₁ → (∀ p ∈ news₁, p.1 ≠ I) → Fr h₀ env.locals h (fun y => if y = x then some (.int (a + (i : Int)) t) else m₁ y) → News h₀ env.locals h ((I, oI) :: news₁) →
      wpAny (model prog w) A (execs body env) (TurnEnd h₀ env.locals I oI { s with heap := h, toks := tk } (J (i + 1))) E { s with heap := h, toks := tk })
    (done : ∀ h' tk m' news', Fr h₀ env.locals h' m' → News h₀ env.locals h' news' → J n m' news' → Q .next { s with heap := h', toks := tk }) :
    wpAny (model prog w) A (pyIter (.ref r)) (fun it s₂ => LoopAtV prog w A h₀ env x body Q E it s₂) E s := by
  refine wpAny_pyIter_range hr hsmall ?_
  have W := LCg.range_walks (prog := prog) (w := w) (I := s.heap.objs.size) hh a n
  refine ⟨s.heap.objs.size, [s.heap.objs.size], [s.heap.objs.size], n, _, _, m₀, news, J, rfl, W, ?_, ?_, ?_, ?_, F.push _, fun p hp => ⟨Heap.get?_push_of_some _ (N p hp).1, (N p hp).2⟩, h0, ?_, ?_⟩
  · intro hm
    exact absurd F.ns.lt ((List.mem_singleton.mp hm) ▸ Nat.lt_irrefl _)
  · intro b hb
    rw [List.mem_singleton.mp hb]
    exact next_is_new F
  · intro p hp hI
    exact absurd (Heap.lt_size (N p hp).1) ((List.mem_singleton.mp hI) ▸ Nat.lt_irrefl _)
  · show IsRangeIter _ _ _ _ _
    rw [hn]
    simpa using Heap.get?_push_size _ rfl
  · rintro i v m₁ news₁ s₁ own ⟨h, tk, rfl⟩ hi ⟨t', rfl⟩ hJ hoff hsub hget hall hst F₁ N₁
    obtain ⟨oI, hoI⟩ : ∃ oI, h.get? s.heap.objs.size = some oI := ⟨_, hst⟩
    have hown : (s.heap.objs.size, oI) ∈ own := hall _ (List.mem_singleton.mpr rfl) (next_is_new F) oI hoI
    have hall' : ∀ p ∈ own, p = (s.heap.objs.size, oI) := fun p hp => by
      have e1 := List.mem_singleton.mp (hsub p hp)
      have e2 := hget p hp
      obtain ⟨p1, p2⟩ := p
      have e1' : p1 = s.heap.objs.size := e1
      subst e1'
      have e3 : h.get? s.heap.objs.size = some p2 := e2
      rw [hoI] at e3
      injection e3 with e3
      rw [e3]
    have hoff' : ∀ p ∈ news₁, p.1 ≠ s.heap.objs.size := fun p hp e => hoff p hp (List.mem_singleton.mpr e)
    refine wpAny_mono (turn i t' m₁ news₁ h tk s.heap.objs.size oI hi hJ hoff' F₁ (fun p hp => ?_)) (fun f s₂ hf => ?_) fun _ _ e => e
    · rcases List.mem_cons.mp hp with rfl | hp
      · exact N₁ _ (List.mem_append_left _ hown)
      · exact N₁ _ (List.mem_append_right _ hp)
    · obtain ⟨hf, h', tk', m', news', e, F', N', off', hJ'⟩ := hf
      have hU : LoopStepU h₀ env.locals [s.heap.objs.size] own (J (i + 1)) { s with heap := h, toks := tk } .next s₂ := by
        refine ⟨rfl, h', tk', m', news', e, F', fun p hp => ?_, fun p hp hm => off' p hp (List.mem_singleton.mp hm), hJ'⟩
        rcases List.mem_append.mp hp with hp | hp
        · rw [hall' p hp]; exact N' _ (.head _)
        · exact N' p (.tail _ hp)
      rcases hf with rfl | rfl
      · exact LoopStepV.next hU
      · exact LoopStepV.cont hU
  · intro h' tk m' news' F' N' _ hJ
    exact done h' tk m' news' F' N' hJ
end
end

section
open PySem PySem.W PyProof.Rows PySem.Calls
set_option Elab.async false
set_option compiler.extract_closed false
set_option maxRecDepth 100000
set_option maxHeartbeats 8000000
set_option pp.maxSteps 3000
noncomputable def signL : Str := Str.ofString "ab'aab'b\"\\ #\n$-"
/-- the code of the sign of a number -/
noncomputable def signC (x : Int) : Nat := if x.fmod 16 < 15 then (Txt.item signL (x.fmod 16)).cps.getD 0 0 else if (x.fdiv 16).fmod 1112064 < 55296 then ((x.fdiv 16).fmod 1112064).toNat else ((x.fdiv 16).fmod 1112064 + 2048).toNat
theorem item_sign (i : Int) (h0 : 0 ≤ i) (h1 : i < 15) : Txt.item signL i = txt [(Txt.item signL i).cps.getD 0 0] ∧ (Txt.item signL i).cps.getD 0 0 < 1114112 := by
  have key : ∀ k : Fin 15, Txt.item signL (k.val : Int) = txt [(Txt.item signL (k.val : Int)).cps.getD 0 0] ∧ (Txt.item signL (k.val : Int)).cps.getD 0 0 < 1114112 := by decide +kernel
  obtain ⟨n, rfl⟩ := Int.eq_ofNat_of_zero_le h0
  exact key ⟨n, Int.ofNat_lt.mp h1⟩
theorem fmod16 (x : Int) : 0 ≤ x.fmod 16 := Int.fmod_nonneg_of_pos x (by decide)
theorem fmodB (x : Int) : 0 ≤ (x.fdiv 16).fmod 1112064 ∧ (x.fdiv 16).fmod 1112064 < 1112064 := ⟨Int.fmod_nonneg_of_pos _ (by decide), Int.fmod_lt_of_pos _ (by decide)⟩
theorem signC_lt (x : Int) : signC x < 1114112 := by
  unfold signC
  have := fmodB x
  split
  · exact (item_sign _ (fmod16 x) (by assumption)).2
  · split <;> omega
section
variable (w : World) (mean : ExcName → Option Value) (mg mb : Str → Option Value)
theorem sign_c (news : List (Addr × Obj)) (x : Int) (tx : Tok) :
    Con w mean mg mb 480 news (call (.ref 766) [.int x tx]) (Gives news fun t => .str (txt [signC x]) t) := by
  unfold Con; k_fill
  intro cn ns ig ic mo a ccd cl outer A₀ base h₀ L m s Q E B F X N T hret
  w_on
  refine wpAny_call ?_
  k_dflt cell_enter
  k_steps
  · have e : txt [signC x] = Txt.item signL (x.fmod 16) := by
      unfold signC
      rw [if_pos (by omega)]
      exact (item_sign _ (fmod16 x) (by omega)).1.symm
    have h := hret
    unfold Gives at h
    rw [e] at h
    exact h _ _ _ (by assumption) (by assumption)
  · have e : txt [signC x] = ⟨#[((x.fdiv 16).fmod 1112064).toNat]⟩ := by
      unfold signC
      rw [if_neg (by omega), if_pos (by omega)]
      rfl
    have h := hret
    unfold Gives at h
    rw [e] at h
    exact h _ _ _ (by assumption) (by assumption)
  · have e : txt [signC x] = ⟨#[((x.fdiv 16).fmod 1112064 + 2048).toNat]⟩ := by
      unfold signC
      rw [if_neg (by omega), if_neg (by omega)]
      rfl
    have h := hret
    unfold Gives at h
    rw [e] at h
    exact h _ _ _ (by assumption) (by assumption)
end
end

section
open PySem PySem.W PyProof.Rows PySem.Calls PySem.MeetsSeq PySem.MeetsSeq3
open PySem.AutoSeq1 (wpAny_loadPart')
set_option Elab.async false
set_option maxRecDepth 100000
set_option maxHeartbeats 4000000
/-- ints at hand -/
noncomputable def IntsN (items : Array Value) (x : List Nat) : Prop := items.size = x.length ∧ ∀ i (h : i < items.size), ∃ t, items[i] = .int (x.getD i 0) t
theorem lexLt_drop {x y : List Nat} {i : Nat} (hx : i < x.length) (hy : i < y.length) : lexLt (x.drop i) (y.drop i) = if x.getD i 0 = y.getD i 0 then lexLt (x.drop (i + 1)) (y.drop (i + 1)) else decide (x.getD i 0 < y.getD i 0) := by
  have e1 : x.getD i 0 = x[i] := by simp [hx]
  have e2 : y.getD i 0 = y[i] := by simp [hy]
  rw [List.drop_eq_getElem_cons hx, List.drop_eq_getElem_cons hy, e1, e2]
  show (decide (x[i] < y[i]) || (x[i] == y[i] && _)) = _
  split
  · rename_i e
    rw [e]; simp
  · rename_i e
    have : (x[i] == y[i]) = false := beq_eq_false_iff_ne.mpr e
    rw [this]; simp
theorem lt_loop (l b : Addr) (items items2 : Array Value) (n n2 : Nat) (x y : List Nat) (hx : IntsN items x) (hy : IntsN items2 y) (k : Nat) :
    ∀ i : Nat, x.length - i = k → i ≤ x.length → i ≤ y.length → Meets (Builtin.«list.__eq__.loop» ⟨[.ref l, .ref b, rawInt i, rawInt 0], []⟩)
      (fun _ R s => s.heap.get? l = some { cls := .type "list", dict := none, data := .seq items n, slots := #[] } ∧ s.heap.get? b = some { cls := .type "list", dict := none, data := .seq items2 n2, slots := #[] } ∧
        R (.ok (.ret (.bool (lexLt (x.drop i) (y.drop i))))) s) := by
  induction k with
  | zero =>
    intro i hk hix hiy prog w A R s h
    obtain ⟨hp, g, d, tk, os⟩ := s; obtain ⟨hl, hb, h⟩ := h
    wp_walk using wpAny_loadPart' hl, wpAny_loadPart' hb
    have hi1 : items[((i : Nat) : Int).toNat]? = none := by simp; rw [hx.1]; lia
    rw [hi1]
    wp_walk using wpAny_loadPart' hl, wpAny_loadPart' hb
    show R (.ok (.ret (.bool (decide (items.size < items2.size))))) _
    have hd : x.drop i = [] := by simp; lia
    rw [hd] at h
    have e : lexLt [] (y.drop i) = decide (items.size < items2.size) := by
      rw [hx.1, hy.1]
      rcases Nat.lt_or_ge i y.length with h1 | h1
      · rw [List.drop_eq_getElem_cons h1, lexLt_nil_cons, decide_eq_true (by lia)]
      · rw [List.drop_eq_nil_of_le h1, lexLt_nil_right, decide_eq_false (by lia)]
    rw [← e]
    exact h
  | succ k ih =>
    intro i hk hix hiy prog w A R s h
    obtain ⟨hp, g, d, tk, os⟩ := s; obtain ⟨hl, hb, h⟩ := h
    wp_walk using wpAny_loadPart' hl, wpAny_loadPart' hb
    have hlt : i < x.length := by lia
    have hlt' : i < items.size := by rw [hx.1]; exact hlt
    obtain ⟨t1, e1⟩ := hx.2 i hlt'
    have hi1 : items[((i : Nat) : Int).toNat]? = some (.int (x.getD i 0) t1) := by simp only [Int.toNat_natCast]; rw [Array.getElem?_eq_getElem hlt', e1]
    rw [hi1]
    rcases Nat.lt_or_ge i y.length with h1 | h1
    · have hlt2' : i < items2.size := by rw [hy.1]; exact h1
      obtain ⟨t2, e2⟩ := hy.2 i hlt2'
      have hi2 : items2[((i : Nat) : Int).toNat]? = some (.int (y.getD i 0) t2) := by simp only [Int.toNat_natCast]; rw [Array.getElem?_eq_getElem hlt2', e2]
      rw [hi2]
      rw [lexLt_drop hlt h1] at h
      have hc : ((i : Int) + 1) = ((i + 1 : Nat) : Int) := rfl
      refine wpAny_bind (wpAny_eqBool_int ?_)
      by_cases e : x.getD i 0 = y.getD i 0
      · rw [if_pos e] at h
        rw [show (((x.getD i 0 : Nat) : Int) == ((y.getD i 0 : Nat) : Int)) = true by rw [e]; exact beq_self_eq_true _]
        wp_walk
        rw [hc]
        exact ⟨plainId_quiet plain_eq_loop _, codeAny_builtin entry_eq_loop (by
          rw [Around.under_plainId plain_eq_loop _]
          exact ih (i + 1) (by lia) (by lia) (by lia) prog w A R _ ⟨hl, hb, h⟩)⟩
      · rw [if_neg e] at h
        rw [show (((x.getD i 0 : Nat) : Int) == ((y.getD i 0 : Nat) : Int)) = false by rw [beq_eq_false_iff_ne]; lia]
        wp_walk using wpAny_loadPart' hl, wpAny_loadPart' hb
        rw [hi1, hi2]
        dsimp only
        refine wpAny_bind (show wpAny _ _ (compareOp .Lt (.int ((x.getD i 0 : Nat) : Int) t1) (.int ((y.getD i 0 : Nat) : Int) t2)) _ _ _ from lt_int ?_)
        rw [show decide (((x.getD i 0 : Nat) : Int) < ((y.getD i 0 : Nat) : Int)) = decide (x.getD i 0 < y.getD i 0) by rw [Bool.eq_iff_iff, decide_eq_true_eq, decide_eq_true_eq]; lia]
        exact wpAny_pure h
    · have hi2 : items2[((i : Nat) : Int).toNat]? = none := by simp; rw [hy.1]; lia
      rw [hi2]
      wp_walk using wpAny_loadPart' hl, wpAny_loadPart' hb
      show R (.ok (.ret (.bool (decide (items.size < items2.size))))) _
      rw [List.drop_eq_nil_of_le h1, lexLt_nil_right] at h
      rw [decide_eq_false (by rw [hx.1, hy.1]; lia)]
      exact h
theorem list_lt (l b : Addr) (items items2 : Array Value) (n n2 : Nat) (x y : List Nat) (hx : IntsN items x) (hy : IntsN items2 y) :
    Meets (Builtin.«list.__lt__» ⟨[.ref l, .ref b], []⟩)
      (fun _ R s => s.heap.get? l = some { cls := .type "list", dict := none, data := .seq items n, slots := #[] } ∧ s.heap.get? b = some { cls := .type "list", dict := none, data := .seq items2 n2, slots := #[] } ∧
        R (.ok (.ret (.bool (lexLt x y)))) s) := by
  intro prog w A R s h
  obtain ⟨hl, hb, h⟩ := h
  have hT : s.TypeIs (.ref b) "list" := ⟨_, hb, rfl⟩
  have hsub : isSubtype (.type "list") (.type "list") = pure true := by rw [isSubtype_type]; kernel_rfl
  show wpAny _ _ (do
    if !(← isInstance (.ref b) (.type "list")) then return ← ret .notImplemented
    again (.builtin "list.__eq__.loop" ⟨[.ref l, .ref b, rawInt 0, rawInt 0], []⟩)) _ _ _
  refine wpAny_bind (wpAny_isInstance hT hsub ?_)
  refine wpAny_pure ⟨plainId_quiet plain_eq_loop _, codeAny_builtin entry_eq_loop ?_⟩
  rw [Around.under_plainId plain_eq_loop _]
  exact lt_loop l b items items2 n n2 x y hx hy _ 0 rfl (Nat.zero_le _) (Nat.zero_le _) prog w A R s ⟨hl, hb, h⟩
section
variable {prog : Program} {w : World} {A : Around} {E : Value → Shared → Prop} {s : Shared}
/-- x.__lt__(y) of lists of ints -/
theorem call_list_lt {a b : Addr} {items items2 : Array Value} {n n2 : Nat} {x y : List Nat} {Q : Value → Shared → Prop} (ha : s.heap.get? a = some (listOf items n)) (hb : s.heap.get? b = some (listOf items2 n2)) (hx : IntsN items x) (hy : IntsN items2 y) (h : Q (.bool (lexLt x y)) s) :
    wpAny (model prog w) A (call (.builtin "list.__lt__") [.ref a, .ref b]) Q E s := by
  have hT : s.TypeIs (.ref a) "list" := ⟨_, ha, rfl⟩
  refine wpAny_call (codeAny_call_builtin PySem.F.slot_list_lt.plain PySem.F.entry_list_lt (PySem.F.slot_list_lt.check _ _ _ _ _ _ _ _ hT (PySem.F.args_list_lt_2 _ _) ?_))
  exact list_lt a b items items2 n n2 x y hx hy prog w A (fun r s' => match r with | .ok (.ret v) => Q v s' | .ok _ => False | .error e => E e s') s ⟨ha, hb, h⟩
/-- the sort's < of lists of ints -/
theorem one_list {a b : Addr} {items items2 : Array Value} {n n2 : Nat} {x y : List Nat} {Q : Bool → Shared → Prop} (hu : A.units < cLine) (ha : s.heap.get? a = some (listOf items n)) (hb : s.heap.get? b = some (listOf items2 n2)) (hx : IntsN items x) (hy : IntsN items2 y) (h : Q (lexLt x y) s) :
    wpAny (model prog w) A (keyLt' oneType' (.ref a) (.ref b)) Q E s := by
  have hT : s.TypeIs (.ref a) "list" := ⟨_, ha, rfl⟩
  rw [keyLt'_oneType, oneLt'_eq]
  simp only [if_true]
  refine wpAny_bind (wpAny_cRoomFor hu ?_)
  refine wpAny_bind (wpAny_callSpecialIfBound?_slot hT PySem.F.slot_list_lt (call_list_lt ha hb hx hy ?_))
  exact wpAny_truthy_bool h
end
end

section
open PySem PySem.W PyProof.Rows PySem.Calls
set_option Elab.async false
set_option maxRecDepth 100000
set_option maxHeartbeats 4000000
theorem min_args1 (a : Value) : argsOk "min" ⟨[a], []⟩ := by unfold argsOk; kernel_rfl
section
variable {prog : Program} {w : World} {A : Around} {E : Value → Shared → Prop} {s : Shared} {h₀ : Heap} {L l I S : Addr} {m : Str → Option Value} {news : List (Addr × Obj)} {vs : List Value} {ws : List (List Nat)} {R : Result → Shared → Prop} {Q : Value → Shared → Prop}
/-- the comparisons of the items follow the words -/
noncomputable def CmpW (prog : Program) (w : World) (A : Around) (h₀ : Heap) (L : Addr) (m : Str → Option Value) (news : List (Addr × Obj)) (s : Shared) (vs : List Value) (ws : List (List Nat)) : Prop :=
  ∀ i j h tk (Q : Value → Shared → Prop) (E : Value → Shared → Prop), i < vs.length → j < vs.length → Fr h₀ L h m → News h₀ L h news → Q (.bool (lexLt (ws.getD i []) (ws.getD j []))) { s with heap := h, toks := tk } →
    wpAny (model prog w) A (richCompare .Lt (vs.getD i .none) (vs.getD j .none)) Q E { s with heap := h, toks := tk }
theorem minw_loop (hh : A.handled = none) (hl : ∀ h, Fr h₀ L h m → News h₀ L h news → h.IsList l vs.toArray) (hlI : l ≠ I) (hSI : S ≠ I) (hnS : ∀ p ∈ news, p.1 ≠ S) (hnI : ∀ p ∈ news, p.1 ≠ I)
    (hw : ws.length = vs.length) (hc : CmpW prog w A.in1 h₀ L m news s vs ws) (W0 : List Nat)
    (hR : ∀ i h' tk', i < vs.length → ws.getD i [] = W0 → Fr h₀ L h' m → News h₀ L h' news → R (.ok (.ret (vs.getD i .none))) { s with heap := h', toks := tk' }) :
    ∀ (r j i : Nat) (h : Heap) (tk : Nat) (c : Nat) (oI : Obj), vs.length - (j + 1) = r → j + 1 ≤ vs.length → Fr h₀ L h m →
      News h₀ L h (news ++ [(S, seqObj "list" #[vs.getD i .none, vs.getD i .none] c), (I, oI)]) → h.IsListIter I l (j + 1) → i < vs.length → minW (ws.getD i []) (ws.drop (j + 1)) = W0 →
      codeAny (model prog w) A (.builtin "min.loop" ⟨[.ref I, .none, .ref S], []⟩) R { s with heap := h, toks := tk } := by
  have hname : (toString "min" ++ toString ".loop" : String) = "min.loop" := by decide
  have W := Walks.list (prog := prog) (w := w) (A := A.in1) hh I l hlI vs.toArray
  have hsz : vs.toArray.size = vs.length := List.size_toArray ..
  intro r
  induction r with
  | zero =>
    intro j i h tk c oI hr hj F N hit hi hbest
    have hin : j + 1 = vs.length := by lia
    have nS := N (S, seqObj "list" #[vs.getD i .none, vs.getD i .none] c) (List.mem_append_right _ (.head _))
    have nI := N (I, oI) (List.mem_append_right _ (.tail _ (.head _)))
    have Nn : News h₀ L h news := fun p hp => N p (List.mem_append_left _ hp)
    refine codeAny_builtin PySem.F.entry_min_loop ?_
    rw [Around.under_plainId PySem.F.plain_min_loop _]
    show wpAny _ A.in1 (seqItems? (.ref S) >>= _) _ _ _
    refine wpAny_bind (wpAny_seqItems nS.1 rfl ?_)
    show wpAny _ A.in1 (tryCatch (pyNext (.ref I)) _ >>= _) _ _ _
    refine wpAny_bind (wpAny_tryCatch (W.done _ _ _ ⟨by rw [hsz, ← hin]; exact hit, hl h F Nn⟩ fun h' tk' hk' => ?_))
    have F1 := kmb_fr F hk' nI.2.1 nI.2.2
    have N1 := kmb_news Nn hk' hnI
    have hS' := hk' S _ (by simpa using hSI) nS.1
    have s1 := Heap.SameBut.update h' S (Obj.mapSeq fun _ => (#[] : Array Value))
    show wpAny _ A.in1 (updateSeq S (fun _ => #[]) >>= _) _ _ _
    refine wpAny_bind ?_
    refine wpAny_updateSeq hS' rfl (wpAny_bind (wpAny_letGo (wpAny_pure ?_)))
    rw [List.drop_eq_nil_of_le (by lia)] at hbest
    exact hR i _ _ hi hbest (ksk_fr F1 s1 nS.2.1 nS.2.2) (ksk_news N1 s1 hnS)
  | succ r ih =>
    intro j i h tk c oI hr hj F N hit hi hbest
    have hlt : j + 1 < vs.length := by lia
    have nS := N (S, seqObj "list" #[vs.getD i .none, vs.getD i .none] c) (List.mem_append_right _ (.head _))
    have nI := N (I, oI) (List.mem_append_right _ (.tail _ (.head _)))
    have Nn : News h₀ L h news := fun p hp => N p (List.mem_append_left _ hp)
    refine codeAny_builtin PySem.F.entry_min_loop ?_
    rw [Around.under_plainId PySem.F.plain_min_loop _]
    show wpAny _ A.in1 (seqItems? (.ref S) >>= _) _ _ _
    refine wpAny_bind (wpAny_seqItems nS.1 rfl ?_)
    show wpAny _ A.in1 (tryCatch (pyNext (.ref I)) _ >>= _) _ _ _
    refine wpAny_bind (wpAny_tryCatch (W.item (j + 1) _ _ _ (by rw [hsz]; exact hlt) ⟨hit, hl h F Nn⟩ fun v h' tk' hP hst' hk' => ?_))
    have hv : v = vs.getD (j + 1) .none := by
      have hv' : vs[j + 1]? = some v := by simpa using hP
      rw [List.getD_eq_getElem?_getD, hv']; rfl
    subst hv
    obtain ⟨oI', hoI', hoc, hod⟩ := id hst'.1
    have F1 := kmb_fr F hk' nI.2.1 nI.2.2
    have Nn1 := kmb_news Nn hk' hnI
    have nS1 : h'.get? S = some (seqObj "list" #[vs.getD i .none, vs.getD i .none] c) := hk' S _ (by simpa using hSI) nS.1
    have hd : ws.drop (j + 1) = ws.getD (j + 1) [] :: ws.drop (j + 1 + 1) := by
      have hlw : j + 1 < ws.length := by lia
      rw [List.drop_eq_getElem_cons hlw]
      simp [hlw]
    rw [hd] at hbest
    have hbest' : minW (if lexLt (ws.getD (j + 1) []) (ws.getD i []) = true then ws.getD (j + 1) [] else ws.getD i []) (ws.drop (j + 1 + 1)) = W0 := hbest
    show wpAny _ A.in1 (tryCatch (holding [vs.getD (j + 1) .none, vs.getD (j + 1) .none] (richCompare .Lt (vs.getD (j + 1) .none) (vs.getD i .none) >>= _)) _ >>= _) _ _ _
    refine wpAny_bind (wpAny_tryCatch (wpAny_holding (wpAny_bind (hc (j + 1) i h' tk' _ _ hlt hi F1 Nn1 ?_))))
    refine wpAny_bind (wpAny_holding (wpAny_truthy_bool ?_))
    refine wpAny_bind (wpAny_letGo (wpAny_pure ?_))
    cases hb : lexLt (ws.getD (j + 1) []) (ws.getD i []) with
    | true =>
      rw [hb, if_pos rfl] at hbest'
      have s1 := Heap.SameBut.update h' S (Obj.mapSeq fun _ => #[vs.getD (j + 1) .none, vs.getD (j + 1) .none])
      obtain ⟨c2, hc2⟩ : ∃ c2, (h'.update S (Obj.mapSeq fun _ => #[vs.getD (j + 1) .none, vs.getD (j + 1) .none])).get? S = some (seqObj "list" #[vs.getD (j + 1) .none, vs.getD (j + 1) .none] c2) := ⟨_, get?_update_seq nS1 fun _ => #[vs.getD (j + 1) .none, vs.getD (j + 1) .none]⟩
      simp only [if_true]
      refine wpAny_bind ?_
      refine wpAny_updateSeq nS1 rfl (wpAny_bind (wpAny_letGo ?_))
      rw [hname]
      refine wpAny_pure ⟨plainId_quiet PySem.F.plain_min_loop _, ih (j + 1) (j + 1) _ _ c2 oI' (by lia) hlt (ksk_fr F1 s1 nS.2.1 nS.2.2) (fun p hp => ?_) ⟨oI', (s1.2 I hSI.symm).trans hoI', hoc, hod⟩ hlt hbest'⟩
      rcases List.mem_append.mp hp with hp | hp
      · exact ksk_news Nn1 s1 hnS p hp
      · rcases List.mem_cons.mp hp with rfl | hp
        · exact ⟨hc2, nS.2⟩
        · rw [List.mem_singleton.mp hp]
          exact ⟨(s1.2 I hSI.symm).trans hoI', nI.2⟩
    | false =>
      rw [hb, if_neg Bool.false_ne_true] at hbest'
      simp only [Bool.false_eq_true, if_false]
      refine wpAny_bind (wpAny_letGo ?_)
      rw [hname]
      refine wpAny_pure ⟨plainId_quiet PySem.F.plain_min_loop _, ih (j + 1) i _ _ c oI' (by lia) hlt F1 (fun p hp => ?_) ⟨oI', hoI', hoc, hod⟩ hi hbest'⟩
      rcases List.mem_append.mp hp with hp | hp
      · exact Nn1 p hp
      · rcases List.mem_cons.mp hp with rfl | hp
        · exact ⟨nS1, nS.2⟩
        · rw [List.mem_singleton.mp hp]
          exact ⟨hoI', nI.2⟩
/-- min() of a list of words -/
theorem min_words (hh : A.handled = none) (F : Fr h₀ L s.heap m) (N : News h₀ L s.heap news) (hl : ∀ h, Fr h₀ L h m → News h₀ L h news → h.IsList l vs.toArray) (hne : 0 < vs.length)
    (hw : ws.length = vs.length) (hc : CmpW prog w A.in1 h₀ L m news s vs ws)
    (hQ : ∀ i h' tk', i < vs.length → ws.getD i [] = minW (ws.getD 0 []) (ws.drop 1) → Fr h₀ L h' m → News h₀ L h' news → Q (vs.getD i .none) { s with heap := h', toks := tk' }) :
    wpAny (model prog w) A (call (.builtin "min") [.ref l]) Q E s := by
  have hname : (toString "min" ++ toString ".loop" : String) = "min.loop" := by decide
  have hls := hl _ F N
  obtain ⟨ol, hol, _⟩ := id hls
  have hll : l < s.heap.objs.size := Heap.lt_size hol
  have hL : L < s.heap.objs.size := F.ns.lt
  refine kmb_tree PySem.F.kind_min PySem.F.plain_min PySem.F.entry_min (min_args1 _) ?_
  show wpAny _ A.in1 (Builtin.Builtins.bindParams "min" ["key", "default"] 0 ⟨[], []⟩ >>= _) _ _ s
  refine wpAny_bind (wpAny_of_eq (show Builtin.Builtins.bindParams "min" ["key", "default"] 0 ⟨[], []⟩ = pure [none, none] from rfl) ?_)
  refine wpAny_bind (wpAny_pure ?_)
  refine wpAny_bind (wpAny_pyIter_list hls ?_)
  refine wpAny_bind (wpAny_newList ?_ (Nat.zero_le _))
  rw [hname]
  have hS : (s.heap.push { cls := .type "list_iterator", data := .fields #[.ref l, .int 0 0] }).objs.size = s.heap.objs.size + 1 := size_push' ..
  have hlI : l ≠ s.heap.objs.size := Nat.ne_of_lt hll
  have hSI : (s.heap.push { cls := .type "list_iterator", data := .fields #[.ref l, .int 0 0] }).objs.size ≠ s.heap.objs.size := by rw [hS]; exact Nat.ne_of_gt (Nat.lt_succ_self _)
  have hnI : ∀ p ∈ news, p.1 ≠ s.heap.objs.size := fun p hp => Nat.ne_of_lt (Heap.lt_size (N p hp).1)
  have hnS : ∀ p ∈ news, p.1 ≠ (s.heap.push { cls := .type "list_iterator", data := .fields #[.ref l, .int 0 0] }).objs.size := fun p hp => by rw [hS]; exact Nat.ne_of_lt (Nat.lt_succ_of_lt (Heap.lt_size (N p hp).1))
  refine wpAny_pure ⟨plainId_quiet PySem.F.plain_min_loop _, ?_⟩
  have fresh : ∀ b, L < b → h₀.get? b = none := fun b hb => Heap.get?_none_of_le (Nat.le_trans F.above (Nat.le_of_lt hb))
  have FH : Fr h₀ L ((s.heap.push { cls := .type "list_iterator", data := .fields #[.ref l, .int 0 0] }).push (seqObj "list" #[] 0)) m := (F.push _).push _
  have NH : News h₀ L ((s.heap.push { cls := .type "list_iterator", data := .fields #[.ref l, .int 0 0] }).push (seqObj "list" #[] 0)) news := N.grown fun b x e => Heap.get?_push_of_some _ (Heap.get?_push_of_some _ e)
  have gI : ((s.heap.push { cls := .type "list_iterator", data := .fields #[.ref l, .int 0 0] }).push (seqObj "list" #[] 0)).get? s.heap.objs.size = some { cls := .type "list_iterator", data := .fields #[.ref l, .int 0 0] } :=
    Heap.get?_push_of_some _ (Heap.get?_push_size _ rfl)
  have gS : ((s.heap.push { cls := .type "list_iterator", data := .fields #[.ref l, .int 0 0] }).push (seqObj "list" #[] 0)).get? (s.heap.push { cls := .type "list_iterator", data := .fields #[.ref l, .int 0 0] }).objs.size = some (seqObj "list" #[] 0) := Heap.get?_push_size _ rfl
  have aI : s.heap.objs.size ≠ L := Nat.ne_of_gt hL
  have aS : (s.heap.push { cls := .type "list_iterator", data := .fields #[.ref l, .int 0 0] }).objs.size ≠ L := by rw [hS]; exact Nat.ne_of_gt (Nat.lt_succ_of_lt hL)
  have zS : h₀.get? (s.heap.push { cls := .type "list_iterator", data := .fields #[.ref l, .int 0 0] }).objs.size = none := fresh _ (by rw [hS]; exact Nat.lt_succ_of_lt hL)
  have W := Walks.list (prog := prog) (w := w) (A := A.in1) hh s.heap.objs.size l hlI vs.toArray
  have hsz : vs.toArray.size = vs.length := List.size_toArray ..
  refine codeAny_builtin PySem.F.entry_min_loop ?_
  rw [Around.under_plainId PySem.F.plain_min_loop _]
  show wpAny _ A.in1 (seqItems? (.ref _) >>= _) _ _ _
  refine wpAny_bind (wpAny_seqItems gS rfl ?_)
  show wpAny _ A.in1 (tryCatch (pyNext (.ref s.heap.objs.size)) _ >>= _) _ _ _
  refine wpAny_bind (wpAny_tryCatch (W.item 0 _ _ _ (by rw [hsz]; exact hne) ⟨⟨_, gI, rfl, rfl⟩, hl _ FH NH⟩ fun v h' tk' hP hst' hk' => ?_))
  have hv : v = vs.getD 0 .none := by
    have hv' : vs[0]? = some v := by simpa using hP
    rw [List.getD_eq_getElem?_getD, hv']; rfl
  subst hv
  obtain ⟨oI', hoI', hoc, hod⟩ := id hst'.1
  have F1 := kmb_fr FH hk' aI (fresh _ hL)
  have Nn1 := kmb_news NH hk' hnI
  have nS1 := hk' _ _ (by simpa using hSI) gS
  generalize (s.heap.push { cls := .type "list_iterator", data := .fields #[.ref l, .int 0 0] }).objs.size = S at *
  have s1 := Heap.SameBut.update h' S (Obj.mapSeq fun _ => #[vs.getD 0 .none, vs.getD 0 .none])
  obtain ⟨c2, hc2⟩ : ∃ c2, (h'.update S (Obj.mapSeq fun _ => #[vs.getD 0 .none, vs.getD 0 .none])).get? S = some (seqObj "list" #[vs.getD 0 .none, vs.getD 0 .none] c2) := ⟨_, get?_update_seq nS1 fun _ => #[vs.getD 0 .none, vs.getD 0 .none]⟩
  show wpAny _ A.in1 (updateSeq S (fun _ => #[vs.getD 0 .none, vs.getD 0 .none]) >>= _) _ _ _
  refine wpAny_bind ?_
  refine wpAny_updateSeq nS1 rfl ?_
  rw [hname]
  refine wpAny_pure ⟨plainId_quiet PySem.F.plain_min_loop _, minw_loop hh hl hlI hSI hnS hnI hw hc _ hQ _ 0 0 _ _ c2 oI' rfl hne (ksk_fr F1 s1 aS zS) (fun p hp => ?_) ⟨oI', (s1.2 _ hSI.symm).trans hoI', hoc, hod⟩ hne rfl⟩
  rcases List.mem_append.mp hp with hp | hp
  · exact ksk_news Nn1 s1 hnS p hp
  · rcases List.mem_cons.mp hp with rfl | hp
    · exact ⟨hc2, aS, zS⟩
    · rw [List.mem_singleton.mp hp]
      exact ⟨(s1.2 _ hSI.symm).trans hoI', aI, fresh _ hL⟩
end
end

section
open PySem PySem.W PyProof.Rows PySem.Calls
set_option Elab.async false
set_option maxRecDepth 100000
set_option maxHeartbeats 4000000
/-- a list of ints in a ledger -/
noncomputable def WordAt (nw : List (Addr × Obj)) (v : Value) (x : List Nat) : Prop := ∃ a items c, v = .ref a ∧ (a, listOf items c) ∈ nw ∧ IntsN items x
noncomputable def WordsAt (nw : List (Addr × Obj)) (vs : List Value) (ws : List (List Nat)) : Prop := vs.length = ws.length ∧ ∀ i, i < ws.length → WordAt nw (vs.getD i .none) (ws.getD i [])
theorem WordAt.sub {nw nw' : List (Addr × Obj)} {v : Value} {p : List Nat} (hs : ∀ q ∈ nw, q ∈ nw') (h : WordAt nw v p) : WordAt nw' v p := let ⟨a, i, c, e, hm, r⟩ := h; ⟨a, i, c, e, hs _ hm, r⟩
theorem WordsAt.sub {nw nw' : List (Addr × Obj)} {vs : List Value} {ps : List (List Nat)} (h : WordsAt nw vs ps) (hs : ∀ q ∈ nw, q ∈ nw') : WordsAt nw' vs ps := ⟨h.1, fun i hi => (h.2 i hi).sub hs⟩
theorem words_snoc {nw nw' : List (Addr × Obj)} {vs : List Value} {ps : List (List Nat)} {v : Value} {p : List Nat} (hs : ∀ q ∈ nw, q ∈ nw') (h : WordsAt nw vs ps) (hv : WordAt nw' v p) : WordsAt nw' (vs ++ [v]) (ps ++ [p]) := by
  refine ⟨by simp [h.1], fun i hi => ?_⟩
  rw [List.length_append, List.length_singleton] at hi
  rcases Nat.lt_or_ge i ps.length with h1 | h1
  · have e1 : (vs ++ [v]).getD i .none = vs.getD i .none := by simp [List.getD, List.getElem?_append_left (show i < vs.length by rw [h.1]; exact h1)]
    have e2 : (ps ++ [p]).getD i [] = ps.getD i [] := by simp [List.getD, List.getElem?_append_left h1]
    rw [e1, e2]
    exact (h.2 i h1).sub hs
  · obtain rfl : i = ps.length := by lia
    have e1 : (vs ++ [v]).getD ps.length .none = v := by rw [← h.1]; simp [List.getD]
    have e2 : (ps ++ [p]).getD ps.length [] = p := by simp [List.getD]
    rw [e1, e2]
    exact hv
/-- the place of a word among words -/
noncomputable def wRank (ws : List (List Nat)) (x : List Nat) : Nat := (ws.filter fun y => lexLt y x).length
theorem count_lt {α : Type} {p q : α → Bool} (hs : ∀ z, p z = true → q z = true) : ∀ (l : List α), (l.filter p).length ≤ (l.filter q).length ∧ ∀ x ∈ l, p x = false → q x = true → (l.filter p).length < (l.filter q).length
  | [] => ⟨Nat.le_refl _, fun x hx => (nomatch hx)⟩
  | a :: l => by
    obtain ⟨h1, h2⟩ := count_lt hs l
    cases hp : p a with
    | true =>
      have hq := hs a hp
      rw [List.filter_cons_of_pos hp, List.filter_cons_of_pos hq]
      refine ⟨Nat.succ_le_succ h1, fun x hx px qx => ?_⟩
      rcases List.mem_cons.mp hx with rfl | hx
      · rw [px] at hp; cases hp
      · exact Nat.succ_lt_succ (h2 x hx px qx)
    | false =>
      rw [List.filter_cons_of_neg (by rw [hp]; exact Bool.false_ne_true)]
      cases hq : q a with
      | true =>
        rw [List.filter_cons_of_pos hq]
        exact ⟨Nat.le_succ_of_le h1, fun x hx px qx => Nat.lt_succ_of_le h1⟩
      | false =>
        rw [List.filter_cons_of_neg (by rw [hq]; exact Bool.false_ne_true)]
        refine ⟨h1, fun x hx px qx => ?_⟩
        rcases List.mem_cons.mp hx with rfl | hx
        · rw [qx] at hq; cases hq
        · exact h2 x hx px qx
theorem wRank_lt {ws : List (List Nat)} {x y : List Nat} (hx : x ∈ ws) (hxy : lexLt x y = true) : wRank ws x < wRank ws y :=
  (count_lt (fun z hz => lexLt_trans hz hxy) ws).2 x hx (lexLt_irrefl x) hxy
theorem wRank_iff {ws : List (List Nat)} {x y : List Nat} (hx : x ∈ ws) (hy : y ∈ ws) : decide (wRank ws x < wRank ws y) = lexLt x y := by
  cases h : lexLt x y with
  | true => exact decide_eq_true (wRank_lt hx h)
  | false =>
    refine decide_eq_false (fun hlt => ?_)
    rcases lexLt_or (show lexLe y x from h) with e | e
    · rw [e] at hlt; exact Nat.lt_irrefl _ hlt
    · exact Nat.lt_asymm hlt (wRank_lt hy e)
section
variable {prog : Program} {w : World} {A : Around} {E : Value → Shared → Prop} {s : Shared} {h₀ : Heap} {L : Addr} {m : Str → Option Value} {nw news : List (Addr × Obj)} {vs : List Value} {ws : List (List Nat)}
theorem rich_list_lt {a b : Addr} {items items2 : Array Value} {n n2 : Nat} {x y : List Nat} {Q : Value → Shared → Prop} (hu : A.units < cLine) (ha : s.heap.get? a = some (listOf items n)) (hb : s.heap.get? b = some (listOf items2 n2)) (hx : IntsN items x) (hy : IntsN items2 y) (h : Q (.bool (lexLt x y)) s) :
    wpAny (model prog w) A (richCompare .Lt (.ref a) (.ref b)) Q E s :=
  wpAny_richCompare_same_room ⟨_, ha, rfl⟩ ⟨_, hb, rfl⟩ PySem.F.slot_list_lt (call_list_lt ha hb hx hy ⟨fun e => (nomatch e), h⟩) hu
theorem cmpW_of (hu : A.units < cLine) (hw : WordsAt nw vs ws) : CmpW prog w A h₀ L m nw s vs ws := by
  intro i j h tk Q E hi hj F N hq
  have hl := hw.1
  obtain ⟨a, items, n, e1, m1, x1⟩ := hw.2 i (by lia)
  obtain ⟨b, items2, n2, e2, m2, x2⟩ := hw.2 j (by lia)
  rw [e1, e2]
  exact rich_list_lt (s := { s with heap := h, toks := tk }) hu (N _ m1).1 (N _ m2).1 x1 x2 hq
/-- sorted() of a list of words -/
theorem words_sorted {D : Addr} {np : List (Addr × Obj)} {Q : Value → Shared → Prop} (hu : A.in1.in1.units < cLine) (F : Fr h₀ L s.heap m) (N : News h₀ L s.heap nw) (hl : s.heap.IsList D vs.toArray) (hsp : ∀ q ∈ np, q ∈ nw) (hws : WordsAt np vs ws) (h1 : 1 ≤ ws.length) (h64 : ws.length < 64)
    (h : ∀ D2 c h' tk vs', Fr h₀ L h' m → News h₀ L h' ((D2, listOf (List.toArray vs') c) :: nw) → (∀ q ∈ nw, q.1 < D2) → WordsAt np vs' (ws.mergeSort wordLe) → Q (.ref D2) { s with heap := h', toks := tk }) :
    wpAny (model prog w) A (call (.builtin "sorted") [.ref D]) Q E s := by
  have hlen := hws.1
  have hin : ∀ i, i < ws.length → ws.getD i [] ∈ ws := fun i hi => by rw [List.getD_eq_getElem?_getD, List.getElem?_eq_getElem hi]; exact List.getElem_mem hi
  refine sorted_any (K := fun i => wRank ws (ws.getD i [])) (κ₀ := oneType') F N hl (by lia) (by lia) ?_ ?_ ?_
  · intro h' h2 F' N' Q' hq
    refine kas_kind (T := .type "list") (s := { s with heap := h' }) h2 (fun v hv => ?_) (by decide) (by decide) hq
    obtain ⟨i, hi, rfl⟩ := List.mem_iff_getElem.mp hv
    obtain ⟨a, items, c, e, hm, _⟩ := hws.2 i (by lia)
    have e' : vs[i] = .ref a := by rw [← e]; simp [hi]
    rw [e']
    exact (Looks.ld (N' _ (hsp _ hm)).1).andThen .now
  · intro i j C h' tk hi hj F' N' hC
    obtain ⟨a, items, n, e1, m1, x1⟩ := hws.2 i (by lia)
    obtain ⟨b, items2, n2, e2, m2, x2⟩ := hws.2 j (by lia)
    rw [e1, e2]
    refine one_list (s := { s with heap := h', toks := tk }) hu (N' _ (hsp _ m1)).1 (N' _ (hsp _ m2)).1 x1 x2 ?_
    have := hC tk
    rw [wRank_iff (hin i (by lia)) (hin j (by lia))] at this
    exact this
  · intro D2 c h' tk p F' N' lt hp hup
    rw [hlen] at hp hup
    have hperm := perm_map ws [] rfl hp
    have hsort : (p.toList.map fun i => ws.getD i []).Pairwise (fun a b => lexLe a b) := by
      rw [List.pairwise_iff_getElem]
      intro i j hi hj hij
      simp only [List.length_map, Array.length_toList] at hi hj
      have hu' : wRank ws (ws.getD (p.getD i 0) []) ≤ wRank ws (ws.getD (p.getD j 0) []) := hup i j (Nat.le_of_lt hij) (by rw [← hp.size]; exact hj)
      have ei : p.getD i 0 = p[i] := by simp [Array.getD, hi]
      have ej : p.getD j 0 = p[j] := by simp [Array.getD, hj]
      rw [ei, ej] at hu'
      simp only [List.getElem_map, Array.getElem_toList]
      have b1 := hin p[i] (by rw [← ei]; exact hp.lt (by rw [← hp.size]; exact hi))
      have b2 := hin p[j] (by rw [← ej]; exact hp.lt (by rw [← hp.size]; exact hj))
      show lexLt _ _ = false
      rw [← wRank_iff b2 b1]
      exact decide_eq_false (Nat.not_lt.mpr hu')
    have hm := sortW_unique hperm hsort
    refine h D2 c h' tk _ F' N' lt ⟨?_, ?_⟩
    · rw [← hm]; simp
    · rw [← hm]
      intro i hi
      rw [List.length_map] at hi
      have hi' : i < p.size := by simpa using hi
      have hin' : i < ws.length := by rw [← hp.size]; exact hi'
      have e1 : (p.toList.map fun i => vs.getD i Value.none).getD i .none = vs.getD (p.getD i 0) .none := by
        rw [List.getD_eq_getElem?_getD, List.getElem?_map, List.getElem?_eq_getElem hi]
        simp [Array.getD, hi']
      have e2 : (p.toList.map fun i => ws.getD i []).getD i [] = ws.getD (p.getD i 0) [] := by
        rw [List.getD_eq_getElem?_getD, List.getElem?_map, List.getElem?_eq_getElem hi]
        simp [Array.getD, hi']
      rw [e1, e2]
      exact hws.2 _ (hp.lt hin')
end
end

section
open PySem PySem.W PyProof.Rows PySem.Calls
set_option Elab.async false
set_option maxRecDepth 100000
set_option maxHeartbeats 4000000
theorem ints_are : ∀ {vs : List Value} {x : List Nat}, IntsN vs.toArray x → IntsAre vs (x.map Int.ofNat)
  | [], [], _ => .nil
  | [], _ :: _, h => by have := h.1; simp at this
  | _ :: _, [], h => by have := h.1; simp at this
  | v :: vs, a :: x, h => by
    obtain ⟨t, e⟩ := h.2 0 (by simp)
    have e' : v = .int a t := by simpa using e
    rw [e']
    refine .cons _ _ (ints_are ⟨by have := h.1; simpa using this, fun i hi => ?_⟩)
    obtain ⟨t', e2⟩ := h.2 (i + 1) (by simpa using hi)
    exact ⟨t', by simpa using e2⟩
theorem intsN_push {items : Array Value} {x : List Nat} {p : Nat} {t : Tok} (h : IntsN items x) : IntsN (items.push (.int p t)) (x ++ [p]) := by
  refine ⟨by simp [h.1], fun i hi => ?_⟩
  rw [Array.size_push] at hi
  rcases Nat.lt_or_ge i items.size with h1 | h1
  · obtain ⟨t', e⟩ := h.2 i h1
    refine ⟨t', ?_⟩
    rw [Array.getElem_push_lt h1, e]
    have hx : i < x.length := by rw [← h.1]; exact h1
    simp [List.getD, List.getElem?_append_left hx]
  · obtain rfl : i = items.size := by lia
    refine ⟨t, ?_⟩
    rw [Array.getElem_push_eq, h.1]
    simp [List.getD]
section
variable {prog : Program} {w : World} {A : Around} {E : Value → Shared → Prop} {s : Shared} {h₀ : Heap} {L : Addr} {nw : List (Addr × Obj)}
theorem notin_N {G : Addr} {vs : List Value} {c : Nat} {gone : List Nat} {p : Nat} {t : Tok} {b : Bool} {Q : Value → Shared → Prop} (N : News h₀ L s.heap nw) (hm : (G, listOf (List.toArray vs) c) ∈ nw) (hg : IntsN (List.toArray vs) gone) (hb : decide (p ∉ gone) = b) (h : Q (.bool b) s) :
    wpAny (model prog w) A (compareOp .NotIn (.int p t) (.ref G)) Q E s := by
  refine notin_list_ints (vs := vs) ⟨_, (N _ hm).1, rfl, _, rfl⟩ (ints_are hg) ?_
  have e : (!((gone.map Int.ofNat).any (· == (p : Int)))) = b := by
    rw [← hb, Bool.eq_iff_iff]
    simp only [Bool.not_eq_true', decide_eq_true_eq, List.any_eq_false, List.mem_map, forall_exists_index, and_imp, forall_apply_eq_imp_iff₂]
    constructor
    · intro h' hp
      exact absurd (h' p hp) (by simp)
    · intro hp a ha e
      refine hp ?_
      have e' : (a : Int) = (p : Int) := by simpa using e
      have : a = p := by lia
      rw [← this]; exact ha
  rw [e]
  exact h
end
/-- the cycles of the text, one a start -/
noncomputable def cyc (t : List Nat) : List (List Nat) := cyclesGo (nAt (pairsOf t)) t.length (List.range t.length) []
noncomputable def goneAt (t : List Nat) (i : Nat) : List Nat := ((cyc t).take i).flatten
noncomputable def wordsUp (t : List Nat) (i : Nat) : List (List Nat) := (((cyc t).take i).filter fun c => !c.isEmpty).map fun c => minRot (c.map (fAt (pairsOf t)))
theorem cyclesGo_length (nx : Nat → Nat) (n : Nat) : ∀ (l gone : List Nat), (cyclesGo nx n l gone).length = l.length
  | [], _ => rfl
  | s :: r, gone => by unfold cyclesGo; rw [List.length_cons, cyclesGo_length nx n r, List.length_cons]
theorem cyclesGo_get (nx : Nat → Nat) (n : Nat) : ∀ (l gone : List Nat) (i : Nat) (hi : i < l.length), (cyclesGo nx n l gone)[i]? = some (walkC nx (n + 1) (gone ++ ((cyclesGo nx n l gone).take i).flatten) l[i])
  | s :: r, gone, 0, _ => by unfold cyclesGo; simp
  | s :: r, gone, i + 1, hi => by
    have ih := cyclesGo_get nx n r (gone ++ walkC nx (n + 1) gone s) i (by simpa using hi)
    show (walkC nx (n + 1) gone s :: cyclesGo nx n r (gone ++ walkC nx (n + 1) gone s))[i + 1]? = _
    rw [List.getElem?_cons_succ, ih]
    show some (walkC nx (n + 1) _ _) = some (walkC nx (n + 1) (gone ++ ((walkC nx (n + 1) gone s :: cyclesGo nx n r (gone ++ walkC nx (n + 1) gone s)).take (i + 1)).flatten) _)
    rw [List.take_succ_cons, List.flatten_cons, ← List.append_assoc]
    rfl
theorem cyc_get (t : List Nat) (i : Nat) (hi : i < t.length) : (cyc t)[i]? = some (walkC (nAt (pairsOf t)) (t.length + 1) (goneAt t i) i) := by
  have := cyclesGo_get (nAt (pairsOf t)) t.length (List.range t.length) [] i (by simpa using hi)
  rw [List.nil_append, List.getElem_range] at this
  exact this
theorem gone_succ (t : List Nat) (i : Nat) (hi : i < t.length) : goneAt t (i + 1) = goneAt t i ++ walkC (nAt (pairsOf t)) (t.length + 1) (goneAt t i) i := by
  unfold goneAt
  rw [List.take_add_one, cyc_get t i hi]
  simp [goneAt]
theorem words_succ (t : List Nat) (i : Nat) (hi : i < t.length) : wordsUp t (i + 1) = wordsUp t i ++ (if (walkC (nAt (pairsOf t)) (t.length + 1) (goneAt t i) i).isEmpty then [] else [minRot ((walkC (nAt (pairsOf t)) (t.length + 1) (goneAt t i) i).map (fAt (pairsOf t)))]) := by
  unfold wordsUp
  rw [List.take_add_one, cyc_get t i hi, List.filter_append, List.map_append]
  cases h : walkC (nAt (pairsOf t)) (t.length + 1) (goneAt t i) i <;> simp
theorem words_all (t : List Nat) : wordsUp t t.length = rawWords t := by
  unfold wordsUp rawWords cyclesOf
  rw [List.take_of_length_le]
  · rfl
  · unfold cyc; rw [cyclesGo_length]; simp
theorem canon3 {m₁ : Str → Option Value} {a b c d : Str} {va vb vc vd : Option Value} (hb : m₁ b = vb) (hc : m₁ c = vc) (hd : m₁ d = vd) (n1 : b ≠ a) (n2 : c ≠ a) (n3 : d ≠ a) :
    (fun y => if y = d then vd else if y = c then vc else if y = b then vb else if y = a then va else m₁ y) = (fun y => if y = a then va else m₁ y) := by
  funext y
  by_cases h1 : y = d
  · rw [if_pos h1, h1, if_neg n3, hd]
  · rw [if_neg h1]
    by_cases h2 : y = c
    · rw [if_pos h2, h2, if_neg n2, hc]
    · rw [if_neg h2]
      by_cases h3 : y = b
      · rw [if_pos h3, h3, if_neg n1, hb]
      · rw [if_neg h3]
/-- what holds at the head of the loop over the starts -/
noncomputable def WJ (L' : Addr) (o2 : Obj) (news : List (Addr × Obj)) (t : List Nat) (i : Nat) (m : Str → Option Value) (nw : List (Addr × Obj)) : Prop :=
  ∃ (G Wd P : Addr) (gvs wvs pvs : List Value) (cG cW cP : Nat) (oc : Obj) (cv : Option Value) (more : List (Addr × Obj)),
    nw = (G, listOf (List.toArray gvs) cG) :: (Wd, listOf (List.toArray wvs) cW) :: (L' + 1 + 1, oc) :: (L' + 1, o2) :: more ∧ oc.data = .cell cv ∧
    ((@LT.lt Nat _ (L' + 1 + 1) G) ∧ (@LT.lt Nat _ (L' + 1 + 1) Wd) ∧ (@Ne Nat G Wd)) ∧ (∀ q ∈ more, (@Ne Nat q.1 G) ∧ (@Ne Nat q.1 Wd) ∧ (@Ne Nat q.1 (L' + 1 + 1)) ∧ (@Ne Nat q.1 (L' + 1))) ∧ (∀ q ∈ news, q ∈ more) ∧
    (P, listOf (List.toArray pvs) cP) ∈ more ∧ PairsAt more pvs (pairsOf t) ∧ IntsN (List.toArray gvs) (goneAt t i) ∧ WordsAt more wvs (wordsUp t i) ∧
    m (Str.ofString "pairs") = some (.ref P) ∧ m (Str.ofString "gone") = some (.ref G) ∧ m (Str.ofString "words") = some (.ref Wd)
theorem wj0 {g' h : Heap} {L' G Wd P D' : Addr} {o1 o2 oD : Obj} {news more : List (Addr × Obj)} {t : List Nat} {pvs : List Value} {cP : Nat} {cv : Option Value} {m : Str → Option Value}
    (_F : Fr g' L' h m) (N : News g' L' h ((Wd, listOf #[] 0) :: (G, listOf #[] 0) :: (P, listOf (List.toArray pvs) cP) :: (D', oD) :: (L' + 1 + 1, o1) :: (L' + 1, o2) :: more))
    (ltW : (@LT.lt Nat _ G Wd) ∧ (@LT.lt Nat _ P Wd) ∧ (@LT.lt Nat _ D' Wd) ∧ (@LT.lt Nat _ (L' + 1 + 1) Wd) ∧ (@LT.lt Nat _ (L' + 1) Wd) ∧ AllLt Wd more)
    (ltG : (@LT.lt Nat _ P G) ∧ (@LT.lt Nat _ D' G) ∧ (@LT.lt Nat _ (L' + 1 + 1) G) ∧ (@LT.lt Nat _ (L' + 1) G) ∧ AllLt G more)
    (ltP : ∀ q ∈ (D', oD) :: (L' + 1 + 1, o1) :: (L' + 1, o2) :: more, q.1 < P)
    (e1 : o1.data = .cell cv) (hmo : ∀ q ∈ more, (@Ne Nat q.1 (L' + 1 + 1)) ∧ (@Ne Nat q.1 (L' + 1))) (hsub : ∀ q ∈ news, q ∈ more) (hp' : PairsAt more pvs (pairsOf t))
    (m1 : m (Str.ofString "pairs") = some (.ref P)) (m2 : m (Str.ofString "gone") = some (.ref G)) (m3 : m (Str.ofString "words") = some (.ref Wd)) :
    ∃ nw, News g' L' h nw ∧ WJ L' o2 news t 0 m nw := by
  have a1 := allLt_out ltW.2.2.2.2.2
  have a2 := allLt_out ltG.2.2.2.2
  have b1 := ltN (ltP _ (.tail _ (.head _)))
  have b2 := ltN (ltP _ (.tail _ (.tail _ (.head _))))
  refine ⟨(G, listOf (List.toArray []) 0) :: (Wd, listOf (List.toArray []) 0) :: (L' + 1 + 1, o1) :: (L' + 1, o2) :: (P, listOf (List.toArray pvs) cP) :: more, fun q hq => N q ?_, G, Wd, P, [], [], pvs, 0, 0, cP, o1, cv, (P, listOf (List.toArray pvs) cP) :: more, rfl, e1, ⟨ltG.2.2.1, ltW.2.2.2.1, Nat.ne_of_lt ltW.1⟩, ?_, fun q hq => .tail _ (hsub q hq), .head _, hp'.sub (fun q hq => .tail _ hq), ?_, ?_, m1, m2, m3⟩
  · simp only [List.mem_cons] at hq ⊢
    rcases hq with h | h | h | h | h | h
    · exact .inr (.inl h)
    · exact .inl h
    · exact .inr (.inr (.inr (.inr (.inl h))))
    · exact .inr (.inr (.inr (.inr (.inr (.inl h)))))
    · exact .inr (.inr (.inl h))
    · exact .inr (.inr (.inr (.inr (.inr (.inr h)))))
  · intro q hq
    rcases List.mem_cons.mp hq with rfl | hq
    · refine ⟨Nat.ne_of_lt ltG.1, Nat.ne_of_lt ltW.2.1, Nat.ne_of_gt b1, Nat.ne_of_gt b2⟩
    · exact ⟨Nat.ne_of_lt (ltN (a2 q hq)), Nat.ne_of_lt (ltN (a1 q hq)), hmo q hq⟩
  · exact ⟨rfl, fun i hi => absurd hi (Nat.not_lt_zero _)⟩
  · exact ⟨rfl, fun i hi => absurd hi (Nat.not_lt_zero _)⟩
end

section
open PySem PySem.W PyProof.Rows PySem.Calls
set_option Elab.async false
set_option maxRecDepth 100000
set_option maxHeartbeats 4000000
section
variable {prog : Program} {w : World} {A : Around} {E : Value → Shared → Prop} {s : Shared} {h₀ : Heap} {L : Addr} {nw more : List (Addr × Obj)}
/-- pairs[p] -/
theorem pair_item {value slice : PySem.Expr} {P : Addr} {pvs : List Value} {cP : Nat} {ps : List (Nat × Nat)} {p : Nat} {u : Tok} {Q : Value → Shared → Prop} (N : News h₀ L s.heap nw) (hm : (P, listOf (List.toArray pvs) cP) ∈ nw) (hps : PairsAt more pvs ps) (hp : p < ps.length) (hl : ps.length ≤ 1000)
    (h : ∀ a tc tp, (a, tup2 (.int (fAt ps p) tc) (.int (nAt ps p) tp)) ∈ more → Q (.ref a) s)
    (hs : subscripted slice false (.ref P) (.int p u) = operate [.ref P, .int p u] (getItem (.ref P) (.int p u)) := by with_unfolding_all rfl) (hg : ∀ r, letTemporaryGo value (.ref P) r = pure () := by intro _; with_unfolding_all rfl) :
    wpAny (model prog w) A (subscriptTail value slice (.ref P) (.int p u)) Q E s := by
  obtain ⟨a, tc, tp, e, hma⟩ := hps.2 p hp
  have hpv : p < pvs.length := by rw [hps.1]; exact hp
  refine item_list (items := List.toArray pvs) ⟨_, (N _ hm).1, rfl, _, rfl⟩ (by lia) (by lia) (x := .ref a) ?_ (h a tc tp hma) hs hg
  have e' : pvs[p] = .ref a := by rw [← e]; simp [hpv]
  simp [hpv, e']
theorem pair_fst {value slice : PySem.Expr} {a : Addr} {x y : Value} {u : Tok} {Q : Value → Shared → Prop} (N : News h₀ L s.heap nw) (hm : (a, tup2 x y) ∈ nw) (h : Q x s)
    (hs : subscripted slice false (.ref a) (.int 0 u) = operate [.ref a, .int 0 u] (getItem (.ref a) (.int 0 u)) := by with_unfolding_all rfl) :
    wpAny (model prog w) A (subscriptTail value slice (.ref a) (.int 0 u)) Q E s :=
  have ht : IsTup s.heap a #[x, y] := ⟨_, (N _ hm).1, rfl, _, rfl⟩
  tail_any ht.typeIs slot_tuple_getitem.lookup (getItem_tuple ht (j := 0) (by decide) (by decide) rfl rfl h) hs
theorem pair_snd {value slice : PySem.Expr} {a : Addr} {x y : Value} {u : Tok} {Q : Value → Shared → Prop} (N : News h₀ L s.heap nw) (hm : (a, tup2 x y) ∈ nw) (h : Q y s)
    (hs : subscripted slice false (.ref a) (.int 1 u) = operate [.ref a, .int 1 u] (getItem (.ref a) (.int 1 u)) := by with_unfolding_all rfl) :
    wpAny (model prog w) A (subscriptTail value slice (.ref a) (.int 1 u)) Q E s :=
  have ht : IsTup s.heap a #[x, y] := ⟨_, (N _ hm).1, rfl, _, rfl⟩
  tail_any ht.typeIs slot_tuple_getitem.lookup (getItem_tuple ht (j := 1) (by decide) (by decide) rfl rfl h) hs
end
theorem gone_ok (t : List Nat) (i : Nat) : (goneAt t i).Nodup ∧ ∀ x ∈ goneAt t i, x < t.length := by
  have hp : (cyc t).flatten.Perm (List.range t.length) := cycles_perm (std_of t)
  have hsub : (goneAt t i).Sublist (cyc t).flatten := by
    unfold goneAt
    conv => rhs; rw [← List.take_append_drop i (cyc t)]
    rw [List.flatten_append]
    exact List.sublist_append_left _ _
  exact ⟨(hp.nodup_iff.mpr List.nodup_range).sublist hsub, fun x hx => List.mem_range.mp (hp.mem_iff.mp (hsub.subset hx))⟩
/-- what holds at the head of the while -/
noncomputable def WI (g' : Heap) (L' : Addr) (s₀ : Shared) (D1 I G Wd P : Addr) (oI oW o2 : Obj) (wvs : List Value) (cW : Nat) (more : List (Addr × Obj)) (t : List Nat) (i : Nat) (n : Nat) (s : Shared) : Prop :=
  ∃ (gvs vvs : List Value) (cG cV : Nat) (path : List Nat) (place : Nat) (tp : Tok) (m : Str → Option Value) (h : Heap) (tk : Nat),
    s = { s₀ with heap := h, toks := tk } ∧ Fr g' L' h m ∧ News g' L' h ((D1, listOf (List.toArray vvs) cV) :: (I, oI) :: (G, listOf (List.toArray gvs) cG) :: (Wd, listOf (List.toArray wvs) cW) :: (L' + 1 + 1, oW) :: (L' + 1, o2) :: more) ∧
    IntsN (List.toArray gvs) (goneAt t i ++ path) ∧ IntsN (List.toArray vvs) (path.map (fAt (pairsOf t))) ∧ (goneAt t i ++ path).Nodup ∧ (∀ x ∈ path, x < t.length) ∧ place < t.length ∧ n + path.length = t.length + 1 ∧
    path ++ walkC (nAt (pairsOf t)) n (goneAt t i ++ path) place = walkC (nAt (pairsOf t)) (t.length + 1) (goneAt t i) i ∧
    m (Str.ofString "pairs") = some (.ref P) ∧ m (Str.ofString "gone") = some (.ref G) ∧ m (Str.ofString "words") = some (.ref Wd) ∧ m (Str.ofString "place") = some (.int place tp)
noncomputable abbrev wiOf {g' : Heap} {L' D1 I G Wd : Addr} {h : Heap} {oV oI oG oW o2 : Obj} {wvs : List Value} {cW : Nat} {more : List (Addr × Obj)} (_ : News g' L' h ((D1, oV) :: (I, oI) :: (G, oG) :: (Wd, listOf (List.toArray wvs) cW) :: (L' + 1 + 1, oW) :: (L' + 1, o2) :: more)) (s₀ : Shared) (P : Addr) (t : List Nat) (i : Nat) := WI g' L' s₀ D1 I G Wd P oI oW o2 wvs cW more t i
theorem intsN_snoc {vs : List Value} {x : List Nat} {p : Nat} {t : Tok} (h : IntsN (List.toArray vs) x) : IntsN (List.toArray (vs ++ [.int p t])) (x ++ [p]) := by
  have := intsN_push (p := p) (t := t) h
  rw [List.push_toArray] at this
  exact this
/-- a turn of the while -/
theorem wi_step {g' : Heap} {L' : Addr} {s₀ : Shared} {D1 I G Wd P : Addr} {oI oW o2 : Obj} {wvs : List Value} {cW : Nat} {more : List (Addr × Obj)} {t : List Nat} {i f : Nat} {gvs vvs : List Value} {cG cV : Nat} {path : List Nat} {place : Nat} {tp tc tq : Tok} {m : Str → Option Value} {h : Heap} {tk : Nat}
    (F : Fr g' L' h m) (N : News g' L' h ((D1, listOf ((List.toArray vvs).push (.int (fAt (pairsOf t) place) tc)) cV) :: (I, oI) :: (G, listOf ((List.toArray gvs).push (.int place tp)) cG) :: (Wd, listOf (List.toArray wvs) cW) :: (L' + 1 + 1, oW) :: (L' + 1, o2) :: more))
    (hg : IntsN (List.toArray gvs) (goneAt t i ++ path)) (hv : IntsN (List.toArray vvs) (path.map (fAt (pairsOf t)))) (hnd : (goneAt t i ++ path).Nodup) (hpl : ∀ x ∈ path, x < t.length) (hplace : place < t.length) (hfu : f + 1 + path.length = t.length + 1)
    (hwalk : path ++ walkC (nAt (pairsOf t)) (f + 1) (goneAt t i ++ path) place = walkC (nAt (pairsOf t)) (t.length + 1) (goneAt t i) i) (hin : place ∉ goneAt t i ++ path)
    (m1 : m (Str.ofString "pairs") = some (.ref P)) (m2 : m (Str.ofString "gone") = some (.ref G)) (m3 : m (Str.ofString "words") = some (.ref Wd)) (m4 : m (Str.ofString "place") = some (.int (nAt (pairsOf t) place) tq)) :
    WI g' L' s₀ D1 I G Wd P oI oW o2 wvs cW more t i f { s₀ with heap := h, toks := tk } := by
  rw [List.push_toArray, List.push_toArray] at N
  refine ⟨_, _, _, _, path ++ [place], nAt (pairsOf t) place, tq, m, h, tk, rfl, F, N, ?_, ?_, ?_, ?_, (std_of t).it_lt 1 place hplace, ?_, ?_, m1, m2, m3, m4⟩
  · rw [← List.append_assoc]
    exact intsN_snoc hg
  · rw [List.map_append]
    exact intsN_snoc hv
  · rw [← List.append_assoc, List.nodup_append]
    refine ⟨hnd, by simp, fun x hx y hy e => ?_⟩
    rw [List.mem_singleton] at hy
    subst hy; subst e
    exact hin hx
  · intro x hx
    rcases List.mem_append.mp hx with hx | hx
    · exact hpl x hx
    · rw [List.mem_singleton.mp hx]; exact hplace
  · rw [List.length_append, List.length_singleton]; lia
  · rw [← hwalk]
    conv => rhs; unfold walkC
    rw [if_neg hin, List.append_assoc, List.append_assoc]
    rfl
theorem wi_exit {t : List Nat} {i f : Nat} {path : List Nat} {place : Nat} (hwalk : path ++ walkC (nAt (pairsOf t)) (f + 1) (goneAt t i ++ path) place = walkC (nAt (pairsOf t)) (t.length + 1) (goneAt t i) i) (hin : place ∈ goneAt t i ++ path) :
    walkC (nAt (pairsOf t)) (t.length + 1) (goneAt t i) i = path := by
  rw [← hwalk, walkC_nil hin, List.append_nil]
theorem canon1 {m : Str → Option Value} {a : Str} {va : Option Value} (ha : m a = va) : (fun y => if y = a then va else m y) = m := by
  funext y
  by_cases h : y = a
  · rw [if_pos h, h, ha]
  · rw [if_neg h]
theorem canon4 {m : Str → Option Value} {a b c d : Str} {va vb vc vd : Option Value} (ha : m a = va) (hb : m b = vb) (hc : m c = vc) (hd : m d = vd) :
    (fun y => if y = d then vd else if y = c then vc else if y = b then vb else if y = a then va else m y) = m := by
  funext y
  by_cases h1 : y = d
  · rw [if_pos h1, h1, hd]
  · rw [if_neg h1]
    by_cases h2 : y = c
    · rw [if_pos h2, h2, hc]
    · rw [if_neg h2]
      by_cases h3 : y = b
      · rw [if_pos h3, h3, hb]
      · rw [if_neg h3]
        by_cases h4 : y = a
        · rw [if_pos h4, h4, ha]
        · rw [if_neg h4]
end

section
open PySem PySem.W PyProof.Rows PySem.Calls
set_option Elab.async false
set_option maxRecDepth 100000
set_option maxHeartbeats 4000000
/-- the end of a turn of the loop over the starts -/
theorem wj_turn {g' h : Heap} {L' I G Wd P : Addr} {oI oW o2 : Obj} {gvs wvs pvs : List Value} {cG cW cP : Nat} {cv : Option Value} {news more nw : List (Addr × Obj)} {t : List Nat} {i : Nat} {s₁ : Shared} {tk : Nat} {m : Str → Option Value}
    (F : Fr g' L' h m) (N : News g' L' h nw) (hI : (I, oI) ∈ nw) (hG : (G, listOf (List.toArray gvs) cG) ∈ nw) (hW : (Wd, listOf (List.toArray wvs) cW) ∈ nw) (h1 : (L' + 1 + 1, oW) ∈ nw) (h2 : (L' + 1, o2) ∈ nw) (hmo : ∀ q ∈ more, q ∈ nw) (eW : oW.data = .cell cv)
    (g : (@LT.lt Nat _ (L' + 1 + 1) G) ∧ (@LT.lt Nat _ (L' + 1 + 1) Wd) ∧ (@Ne Nat G Wd)) (ne : ∀ q ∈ more, (@Ne Nat q.1 G) ∧ (@Ne Nat q.1 Wd) ∧ (@Ne Nat q.1 (L' + 1 + 1)) ∧ (@Ne Nat q.1 (L' + 1)))
    (i1 : @Ne Nat G I) (i2 : @Ne Nat Wd I) (i3 : @Ne Nat (L' + 1 + 1) I) (i4 : @Ne Nat (L' + 1) I) (i5 : ∀ q ∈ more, @Ne Nat q.1 I) (hsub : ∀ q ∈ news, q ∈ more) (hP : (P, listOf (List.toArray pvs) cP) ∈ more) (hps : PairsAt more pvs (pairsOf t))
    (hg : IntsN (List.toArray gvs) (goneAt t (i + 1))) (hw : WordsAt more wvs (wordsUp t (i + 1)))
    (m1 : m (Str.ofString "pairs") = some (.ref P)) (m2 : m (Str.ofString "gone") = some (.ref G)) (m3 : m (Str.ofString "words") = some (.ref Wd)) :
    TurnEnd g' L' I oI s₁ (WJ L' o2 news t (i + 1)) .next { s₁ with heap := h, toks := tk } := by
  refine ⟨.inl rfl, h, tk, m, (G, listOf (List.toArray gvs) cG) :: (Wd, listOf (List.toArray wvs) cW) :: (L' + 1 + 1, oW) :: (L' + 1, o2) :: more, rfl, F, fun q hq => N q ?_, fun q hq => ?_, G, Wd, P, gvs, wvs, pvs, cG, cW, cP, oW, cv, more, rfl, eW, g, ne, hsub, hP, hps, hg, hw, m1, m2, m3⟩
  · simp only [List.mem_cons] at hq
    rcases hq with rfl | rfl | rfl | rfl | rfl | hq
    · exact hI
    · exact hG
    · exact hW
    · exact h1
    · exact h2
    · exact hmo q hq
  · simp only [List.mem_cons] at hq
    rcases hq with rfl | rfl | rfl | rfl | hq
    · exact i1
    · exact i2
    · exact i3
    · exact i4
    · exact i5 q hq
/-- what holds at each turn of the comprehension of the turns of a word -/
noncomputable def WC (L' : Addr) (oI oW o2 : Obj) (D0 D1 I G Wd : Addr) (oV oG oWd : Obj) (more : List (Addr × Obj)) (x : List Nat) (k : Nat) (ys : List Value) (nw : List (Addr × Obj)) : Prop :=
  ∃ more2, nw = (D0, listOf #[] 0) :: (D1, oV) :: (I, oI) :: (G, oG) :: (Wd, oWd) :: (L' + 1 + 1, oW) :: (L' + 1, o2) :: more2 ∧ (∀ q ∈ more, q ∈ more2) ∧
    (∀ q ∈ more2, (@Ne Nat q.1 G) ∧ (@Ne Nat q.1 Wd) ∧ (@Ne Nat q.1 (L' + 1 + 1)) ∧ (@Ne Nat q.1 (L' + 1)) ∧ (@Ne Nat q.1 I)) ∧ WordsAt more2 ys ((rots x).take k)
noncomputable abbrev wcOf {g' : Heap} {L' D0 D1 I G Wd : Addr} {h : Heap} {oV oI oG oWd oW o2 : Obj} {more : List (Addr × Obj)} (_ : News g' L' h ((D0, listOf #[] 0) :: (D1, oV) :: (I, oI) :: (G, oG) :: (Wd, oWd) :: (L' + 1 + 1, oW) :: (L' + 1, o2) :: more)) (x : List Nat) := WC L' oI oW o2 D0 D1 I G Wd oV oG oWd more x
theorem pick_from (vs : List Value) (k : Nat) : (slicePick vs.toArray (some (k : Int)) none none).toList = vs.drop k := by
  have e : sliceBounds (some (k : Int)) none none vs.toArray.size = (((min k vs.toArray.size : Nat) : Int), ((vs.toArray.size : Nat) : Int), 1) := by
    simp only [sliceBounds, Option.getD_none, show (1 : Int) > 0 by decide, if_true, if_neg (show ¬ ((k : Int) < 0) by omega)]
    congr 1
    omega
  rw [kmk_pick_nat _ e]
  show (vs.drop (min k vs.toArray.size)).take (vs.toArray.size - min k vs.toArray.size) = _
  rw [List.size_toArray, kmk_drop_min, List.take_of_length_le]
  rw [List.length_drop]
  omega
theorem pick_upto (vs : List Value) (k : Nat) : (slicePick vs.toArray none (some (k : Int)) none).toList = vs.take k := by
  have e : sliceBounds none (some (k : Int)) none vs.toArray.size = (((0 : Nat) : Int), ((min k vs.toArray.size : Nat) : Int), 1) := by
    simp only [sliceBounds, Option.getD_none, show (1 : Int) > 0 by decide, if_true, if_neg (show ¬ ((k : Int) < 0) by omega)]
    congr 1
    congr 1
    omega
  rw [kmk_pick_nat _ e]
  show (vs.drop 0).take (min k vs.toArray.size - 0) = _
  rw [List.size_toArray, List.drop_zero, Nat.sub_zero, kmk_take_min]
theorem intsN_iff {vs : List Value} {x : List Nat} : IntsN (List.toArray vs) x ↔ vs.length = x.length ∧ ∀ i, i < vs.length → ∃ t, vs.getD i .none = .int (x.getD i 0) t := by
  constructor
  · intro h
    refine ⟨by simpa using h.1, fun i hi => ?_⟩
    obtain ⟨t, e⟩ := h.2 i (by simpa using hi)
    exact ⟨t, by rw [← e]; simp [List.getD, hi]⟩
  · intro h
    refine ⟨by simpa using h.1, fun i hi => ?_⟩
    have hi' : i < vs.length := by simpa using hi
    obtain ⟨t, e⟩ := h.2 i hi'
    exact ⟨t, by rw [← e]; simp [List.getD, hi']⟩
theorem intsN_append {vs us : List Value} {x y : List Nat} (h1 : IntsN (List.toArray vs) x) (h2 : IntsN (List.toArray us) y) : IntsN (List.toArray (vs ++ us)) (x ++ y) := by
  rw [intsN_iff] at *
  refine ⟨by simp [h1.1, h2.1], fun i hi => ?_⟩
  rw [List.length_append] at hi
  rcases Nat.lt_or_ge i vs.length with q | q
  · obtain ⟨t, e⟩ := h1.2 i q
    refine ⟨t, ?_⟩
    have q2 : i < x.length := by rw [← h1.1]; exact q
    simp only [List.getD, List.getElem?_append_left q, List.getElem?_append_left q2] at e ⊢
    exact e
  · obtain ⟨t, e⟩ := h2.2 (i - vs.length) (by omega)
    refine ⟨t, ?_⟩
    have q2 : x.length ≤ i := by rw [← h1.1]; exact q
    simp only [List.getD, List.getElem?_append_right q, List.getElem?_append_right q2] at e ⊢
    rw [← h1.1]
    exact e
theorem intsN_drop {vs : List Value} {x : List Nat} (h : IntsN (List.toArray vs) x) (k : Nat) : IntsN (List.toArray (vs.drop k)) (x.drop k) := by
  rw [intsN_iff] at *
  refine ⟨by simp [h.1], fun i hi => ?_⟩
  rw [List.length_drop] at hi
  obtain ⟨t, e⟩ := h.2 (k + i) (by omega)
  exact ⟨t, by simpa [List.getD, List.getElem?_drop] using e⟩
theorem intsN_take {vs : List Value} {x : List Nat} (h : IntsN (List.toArray vs) x) (k : Nat) : IntsN (List.toArray (vs.take k)) (x.take k) := by
  rw [intsN_iff] at *
  refine ⟨by simp [h.1], fun i hi => ?_⟩
  rw [List.length_take] at hi
  obtain ⟨t, e⟩ := h.2 i (by omega)
  exact ⟨t, by
    have q : i < k := by omega
    simpa [List.getD, List.getElem?_take, q] using e⟩
theorem intsN_rot {vs : List Value} {x : List Nat} (h : IntsN (List.toArray vs) x) (k : Nat) : IntsN (List.toArray (vs.drop k ++ vs.take k)) (rot x k) := intsN_append (intsN_drop h k) (intsN_take h k)
theorem rots_succ (x : List Nat) (k : Nat) (hk : k < x.length) : (rots x).take (k + 1) = (rots x).take k ++ [rot x k] := by
  rw [List.take_add_one, show (rots x)[k]? = some (rot x k) by simp [rots, hk]]
  rfl
/-- the end of a turn of the comprehension of the turns of a word -/
theorem wc_end {g' h : Heap} {L' I2 C D D0 D1 I G Wd Da Db Dc : Addr} {oI2 oC oD oa ob oI oW o2 oV oG oWd : Obj} {more more2 : List (Addr × Obj)} {x : List Nat} {k tk : Nat} {ys zs : List Value} {m : Str → Option Value} {s₁ : Shared}
    (F : Fr g' L' h m) (N : News g' L' h ((Dc, listOf (List.toArray zs) 0) :: (Db, ob) :: (Da, oa) :: (I2, oI2) :: (C, oC) :: (D, oD) :: (D0, listOf #[] 0) :: (D1, oV) :: (I, oI) :: (G, oG) :: (Wd, oWd) :: (L' + 1 + 1, oW) :: (L' + 1, o2) :: more2))
    (lc : ∀ p ∈ (Db, ob) :: (Da, oa) :: (I2, oI2) :: (C, oC) :: (D, oD) :: (D0, listOf #[] 0) :: (D1, oV) :: (I, oI) :: (G, oG) :: (Wd, oWd) :: (L' + 1 + 1, oW) :: (L' + 1, o2) :: more2, p.1 < Dc)
    (off : LCg.Off3 I2 C D ((D0, listOf #[] 0) :: (D1, oV) :: (I, oI) :: (G, oG) :: (Wd, oWd) :: (L' + 1 + 1, oW) :: (L' + 1, o2) :: more2))
    (hs2 : ∀ q ∈ more, q ∈ more2) (hn2 : ∀ q ∈ more2, (@Ne Nat q.1 G) ∧ (@Ne Nat q.1 Wd) ∧ (@Ne Nat q.1 (L' + 1 + 1)) ∧ (@Ne Nat q.1 (L' + 1)) ∧ (@Ne Nat q.1 I)) (hw2 : WordsAt more2 ys ((rots x).take k)) (hk : k < x.length) (hz : IntsN (List.toArray zs) (rot x k)) :
    LCg.CompEnd g' L' m s₁ I2 oI2 C oC D oD (fun _ => True) (fun y news' => WC L' oI oW o2 D0 D1 I G Wd oV oG oWd more x (k + 1) (ys ++ [y]) news') (.ref Dc) { s₁ with heap := h, toks := tk } := by
  have l1 := ltN (lc _ (.tail _ (.tail _ (.head _))))
  have l2 := ltN (lc _ (.tail _ (.tail _ (.tail _ (.head _)))))
  have l3 := ltN (lc _ (.tail _ (.tail _ (.tail _ (.tail _ (.head _))))))
  have l4 := ltN (lc _ (.tail _ (.tail _ (.tail _ (.tail _ (.tail _ (.tail _ (.tail _ (.head _)))))))))
  have l5 := ltN (lc _ (.tail _ (.tail _ (.tail _ (.tail _ (.tail _ (.tail _ (.tail _ (.tail _ (.head _))))))))))
  have l6 := ltN (lc _ (.tail _ (.tail _ (.tail _ (.tail _ (.tail _ (.tail _ (.tail _ (.tail _ (.tail _ (.head _)))))))))))
  have l7 := ltN (lc _ (.tail _ (.tail _ (.tail _ (.tail _ (.tail _ (.tail _ (.tail _ (.tail _ (.tail _ (.tail _ (.head _))))))))))))
  have l8 := ltN (lc _ (.tail _ (.tail _ (.tail _ (.tail _ (.tail _ (.tail _ (.tail _ (.tail _ (.tail _ (.tail _ (.tail _ (.head _)))))))))))))
  refine LCg.CompEnd.intro F N ((D0, listOf #[] 0) :: (D1, oV) :: (I, oI) :: (G, oG) :: (Wd, oWd) :: (L' + 1 + 1, oW) :: (L' + 1, o2) :: (Dc, listOf (List.toArray zs) 0) :: more2) ?_ ?_ trivial ⟨(Dc, listOf (List.toArray zs) 0) :: more2, rfl, fun q hq => .tail _ (hs2 q hq), ?_, ?_⟩
  · intro q hq
    simp only [List.mem_cons] at hq ⊢
    rcases hq with h | h | h | h | h | h | h | h | h | h | h | h <;> simp only [h, true_or, or_true]
  · obtain ⟨a1, a2, a3, a4, a5, a6, a7, a8⟩ := off
    exact ⟨a1, a2, a3, a4, a5, a6, a7, ⟨Nat.ne_of_gt l1, Nat.ne_of_gt l2, Nat.ne_of_gt l3⟩, a8⟩
  · intro q hq
    rcases List.mem_cons.mp hq with rfl | hq
    · exact ⟨Nat.ne_of_gt l5, Nat.ne_of_gt l6, Nat.ne_of_gt l7, Nat.ne_of_gt l8, Nat.ne_of_gt l4⟩
    · exact hn2 q hq
  · rw [rots_succ x k hk]
    exact words_snoc (fun q hq => .tail _ hq) hw2 ⟨_, _, _, rfl, .head _, hz⟩
theorem wordsUp_len (t : List Nat) (i : Nat) : (wordsUp t i).length ≤ t.length := by
  unfold wordsUp
  rw [List.length_map]
  refine Nat.le_trans (List.length_filter_le _ _) ?_
  rw [List.length_take]
  have : (cyc t).length = t.length := by unfold cyc; rw [cyclesGo_length]; simp
  omega
theorem minRot_eq {x : List Nat} (hx : x ≠ []) : minRot x = minW ((rots x).getD 0 []) ((rots x).drop 1) := by
  unfold minRot
  have : (rots x).length = x.length := by simp [rots]
  cases h : rots x with
  | nil => rw [h] at this; exact absurd (List.eq_nil_of_length_eq_zero this.symm) hx
  | cons a r => simp
end

section
open PySem PySem.W PyProof.Rows PySem.Calls
set_option Elab.async false
set_option maxRecDepth 100000
set_option maxHeartbeats 4000000
theorem ofs_nil : Str.ofString "" = txt [] := cps_inj (by decide +kernel)
theorem join_txt (ws : List (List Nat)) : Txt.join (Str.ofString "") (ws.map txt) = txt ws.flatten := by
  show Builtin.Str.glued (Str.ofString "") (ws.map txt) = _
  rw [StrLaws.glued_eq_join, ofs_nil]
  induction ws with
  | nil => rfl
  | cons a r ih =>
    cases r with
    | nil => show txt a = _; simp
    | cons b r =>
      show txt a ++ txt [] ++ Str.join (txt []) ((b :: r).map txt) = _
      rw [ih, txt_add, txt_add, List.append_nil]
      rfl
theorem sum_len (ws : List (List Nat)) : ((ws.map txt).map (·.length)).sum = ws.flatten.length := by
  induction ws with
  | nil => rfl
  | cons a r ih => simp only [List.map_cons, List.sum_cons, List.flatten_cons, List.length_append, txt_len] at ih ⊢; rw [ih]
section
variable {prog : Program} {w : World} {A : Around} {E : Value → Shared → Prop} {s : Shared} {t : Tok} {Q : Value → Shared → Prop} {h₀ : Heap} {L : Addr} {m : Str → Option Value} {news : List (Addr × Obj)}
/-- ''.join of a list of texts -/
theorem join_words {D : Addr} {ys : List Value} {ws : List (List Nat)} (hl : s.heap.IsList D (List.toArray ys)) (hi : StrsAre ys (ws.map txt)) (hz : ws.flatten.length ≤ 10000)
    (h : ∀ t' k, Q (.str (txt ws.flatten) t') { s with toks := k }) : wpAny (model prog w) A (call (.builtin "str.join") [.str (Str.ofString "") t, .ref D]) Q E s := by
  refine join_list hl (ys := ws.map txt) (by simpa using hi) ?_ ?_
  · rw [sum_len, show (Str.ofString "").length = 0 by decide]; lia
  · rw [join_txt]; exact h
/-- xs[::-1] of a list that a call made -/
theorem rev_temp {value slice : PySem.Expr} {l : Addr} {its : Array Value} {vk : Value} {ops : List Value} (F : Fr h₀ L s.heap m) (N : News h₀ L s.heap news) (hl : s.heap.IsList l its) (pk : IsPart vk (some (-1)))
    (h : ∀ D h', Fr h₀ L h' m → News h₀ L h' ((D, listOf its.toList.reverse.toArray 0) :: news) → (∀ p ∈ news, p.1 < D) → Q (.ref D) { s with heap := h' })
    (hs : subscripted slice false (.ref l) (.ref s.heap.objs.size) = operate ops (getItem (.ref l) (.ref s.heap.objs.size))) (hz : its.size ≤ sizeLine) :
    wpAny (model prog w) A (subscriptTail value slice (.ref l) (.ref s.heap.objs.size)) Q E { s with heap := s.heap.push { cls := .type "slice", data := .fields #[.none, .none, vk] } } := by
  refine tail_any (Heap.IsList.typeIs (s := { s with heap := s.heap.push { cls := .type "slice", data := .fields #[.none, .none, vk] } }) (hl.push _)) list_getitem_lookup
    (wpAny_getItem_list_slice (hl.push _) (Heap.IsSliceOf.new ..) .none .none pk (by decide) ?_ hz) hs
  have N1 := News.push (F.push { cls := .type "slice", data := .fields #[.none, .none, vk] }) (N.grown fun _ _ e => Heap.get?_push_of_some _ e) { cls := .type "list", data := .seq (slicePick its none none (some (-1))) }
  rw [Heap.size_push] at N1
  show Q (.ref (s.heap.push _).objs.size) _
  rw [Heap.size_push]
  rw [krv_pick] at N1 ⊢
  exact h _ _ ((F.push _).push _) N1 fun p hp => Nat.lt_succ_of_lt (Heap.lt_size (N p hp).1)
end
theorem strs_snoc {ys : List Value} {ws : List (List Nat)} {x : List Nat} {t : Tok} (h : StrsAre ys (ws.map txt)) : StrsAre (ys ++ [.str (txt x) t]) ((ws ++ [x]).map txt) := by
  rw [List.map_append]
  exact StrsAre.append' h (.cons _ _ .nil)
theorem flat_ones : ∀ x : List Nat, (x.map fun c => [c]).flatten = x
  | [] => rfl
  | a :: r => by rw [List.map_cons, List.flatten_cons, flat_ones r]; rfl
/-- words in the order behind -/
theorem WordsAt.rev {nw : List (Addr × Obj)} {vs : List Value} {ws : List (List Nat)} (h : WordsAt nw vs ws) : WordsAt nw vs.reverse ws.reverse := by
  refine ⟨by simp [h.1], fun i hi => ?_⟩
  rw [List.length_reverse] at hi
  have hl := h.1
  have := h.2 (ws.length - 1 - i) (by lia)
  have e1 : vs.reverse.getD i .none = vs.getD (ws.length - 1 - i) .none := by
    have hv : i < vs.length := by lia
    simp only [List.getD, List.getElem?_reverse hv, hl]
  have e2 : ws.reverse.getD i [] = ws.getD (ws.length - 1 - i) [] := by simp only [List.getD, List.getElem?_reverse hi]
  rw [e1, e2]
  exact this
theorem raw_pos {t : List Nat} (h : 1 ≤ t.length) : 1 ≤ (rawWords t).length := by
  rcases Nat.eq_zero_or_pos (rawWords t).length with q | q
  · have e := there_length t
    unfold there wordsOf at e
    rw [List.eq_nil_of_length_eq_zero q] at e
    simp at e
    lia
  · exact q
theorem raw_len (t : List Nat) : (rawWords t).length ≤ t.length := by rw [← words_all]; exact wordsUp_len t t.length
/-- what holds at each turn of the comprehension over the words -/
noncomputable def WS (base : List (Addr × Obj)) (ws : List (List Nat)) (i : Nat) (ys : List Value) (nw : List (Addr × Obj)) : Prop := nw = base ∧ StrsAre ys ((ws.take i).map txt)
theorem take_snoc (ws : List (List Nat)) (i : Nat) (hi : i < ws.length) : ws.take (i + 1) = ws.take i ++ [ws.getD i []] := by
  rw [List.take_add_one, List.getD_eq_getElem?_getD, List.getElem?_eq_getElem hi]
  rfl
theorem getD_mem {ws : List (List Nat)} {i : Nat} (hi : i < ws.length) : ws.getD i [] ∈ ws := by
  rw [List.getD_eq_getElem?_getD, List.getElem?_eq_getElem hi]
  exact List.getElem_mem hi
theorem getD_mem' {x : List Nat} {i : Nat} (hi : i < x.length) : x.getD i 0 ∈ x := by
  rw [List.getD_eq_getElem?_getD, List.getElem?_eq_getElem hi]
  exact List.getElem_mem hi
theorem ones_getD {x : List Nat} {j : Nat} (hj : j < x.length) : (x.map fun c => [c]).getD j [] = [x.getD j 0] := by simp [List.getD, hj]
/-- it hands back a new list of texts and leaves the ledger as it was -/
noncomputable abbrev GivesTexts (news : List (Addr × Obj)) (ws : List (List Nat)) : Heap → Addr → (Str → Option Value) → Shared → (Value → Shared → Prop) → Prop :=
  fun h₀ L m s Q => ∀ (D : Addr) (c : Nat) (ys : List Value) (h' : Heap) (tk' : Nat), Fr h₀ L h' m → News h₀ L h' ((D, listOf (List.toArray ys) c) :: news) → (∀ q ∈ news, @Ne Nat q.1 D) → StrsAre ys (ws.map txt) → Q (.ref D) { s with heap := h', toks := tk' }
theorem off1_mem {D : Addr} {l : List (Addr × Obj)} (h : LCg.Off1 D l) : ∀ q ∈ l, @Ne Nat q.1 D := by
  induction l with
  | nil => intro q hq; exact absurd hq List.not_mem_nil
  | cons p r ih =>
    intro q hq
    rcases List.mem_cons.mp hq with e | hq
    · rw [e]; exact h.1
    · exact ih h.2 q hq
theorem mem_len : ∀ (ws : List (List Nat)) (x : List Nat), x ∈ ws → x.length ≤ ws.flatten.length
  | a :: r, x, h => by
    rw [List.flatten_cons, List.length_append]
    rcases List.mem_cons.mp h with rfl | h
    · lia
    · have := mem_len r x h
      lia
theorem word_len (t : List Nat) (i : Nat) : ((wordsOf t).getD i []).length ≤ t.length := by
  rcases Nat.lt_or_ge i (wordsOf t).length with h | h
  · have := mem_len _ _ (getD_mem h)
    rw [← there_length t]
    exact this
  · rw [List.getD_eq_getElem?_getD, List.getElem?_eq_none h]
    exact Nat.zero_le _
end

section
open PySem PySem.W PyProof.Rows PySem.Calls
set_option Elab.async false
set_option compiler.extract_closed false
set_option maxRecDepth 100000
set_option maxHeartbeats 8000000
set_option pp.maxSteps 40000
set_option pp.fieldNotation.generalized false
local macro_rules | `(tactic| walk_at "compareOp NotIn int ref") => `(tactic| (k_here; k_dflt (refine' notin_N ?N ?m ?g ?b ?_; (case N => k_asm); (case m => k_mem); (case g => assumption); (case b => with_reducible assumption))))
local macro_rules | `(tactic| walk_at "call builtin:list.append") => `(tactic| (k_here; (try dsimp only [List.cons_append, List.nil_append]); k_dflt (refine' append_K ?k1 ?k2 ?k3 ?_ ?z; (case k1 => k_asm); (case k2 => k_asm); (case k3 => k_upd); (case z => with_reducible assumption); k_whole); intro h' F' N'; (try k_sweep)))
local macro_rules | `(tactic| walk_at $k:str) => if ["subscriptTail Name Name ref int", "subscriptTail Subscript Name Name Constant ref int", "compareOp NotEq ref ref", "subscriptTail Name Slice ref ref", "binaryOp Add ref ref", "call builtin:min", "subscriptTail Call", "call builtin:str.join", "pyIter ref", "call builtin:sorted", "CompEnd", "CompSrc"].contains k.getString then `(tactic| (k_here; refine held ?_)) else Lean.Macro.throwUnsupported
local macro_rules | `(tactic| walk_at "call builtin:len") => `(tactic| (k_here; (show wpAny _ _ (call (Value.builtin "len") [Value.ref _]) _ _ _); refine held ?_))
local macro_rules | `(tactic| walk_at "eval ListComp") => `(tactic| (k_here; k_dflt (refine LCg.ListComp_U (F₀ := by k_asm) (by first | rfl | with_unfolding_all rfl) (by decide) (by rfl) (by decide) (by rfl) ?_)))
section
variable (w : World) (mean : ExcName → Option Value) (mg mb : Str → Option Value)
theorem words_c (news : List (Addr × Obj)) (t : List Nat) (x : Str) (tx : Tok) (hxt : x = txt t) (hx : x.length = t.length) (h1 : 1 ≤ t.length) (h8 : t.length ≤ 60) (hc : ∀ c ∈ t, c < 1114112) :
    Con w mean mg mb 460 news (call (.ref 771) [.str x tx]) (GivesTexts news (wordsOf t)) := by
  unfold Con; k_fill
  intro cn ns ig ic mo a ccd cl outer A₀ base h₀ L m s Q E B F X N T hret
  w_on
  refine wpAny_call ?_
  k_dflt (refine' code_defC ?k1 ?k2 ?k3 ?k4 ?k5 ?kA ?kF ?kK ?k6 ?k7 ?k8 ?k9 ?kB ?kD ?_ ?c2 ?c3 ?c4; (case kA => exact rfl); (case kF => exact rfl); (case kK => first | exact rfl | assumption); (case k1 => k_asm); (case k2 => k_asm); (case k3 => k_asm); (case k4 => k_asm); (case k5 => k_asm); (case k6 => k_is); (case k7 => k_is); (case k8 => k_room); (case k9 => first | exact BindsTo.of_eq rfl | exact binds_K (by k_in) rfl (by k_is) rfl rfl rfl); (case kB => exact rfl); (case kD => decide +kernel); (case c2 => exact rfl); (case c3 => exact rfl); (case c4 => exact rfl); k_whole; intro g' L' h' tk' cells' FG' F' N' Y' B' X' T' l1; (try k_lt l1); k_cells Y'; (try simp only [List.cons_append, List.nil_append] at N'); (try dsimp only); (try k_lift B'); (try k_fold))
  generalize hW1 : PySem.Stmt.Assign [PySem.Expr.Name (Str.ofString "pairs") _] _ _ = W1
  generalize hW4 : PySem.Stmt.For _ _ _ _ _ = W4
  generalize hW5 : PySem.Stmt.Return _ _ = W5
  rename_i o1 o2 e1 e2
  replace e1 : o1.data = .cell none := e1
  replace e2 : o2.data = .cell (some (.str x tx)) := e2
  k_steps
  subst hW1
  k_steps
  unfold Held
  refine LCg.CompSrc.range (n := t.length) (by rfl) (by k_asm) (by k_asm) (by assumption) (by first | exact small_one (by lia) (by lia) (by lia) (by lia) | decide) (by rw [hx]; exact rangeSize_nat _ _) (by rw [PySem.sizeLine_eq]; lia) ?_
  intro g1
  refine comp_own (Inv := fun i ys nw => ∃ more, nw = (L' + 1 + 1, o1) :: (L' + 1, o2) :: more ∧ (∀ q ∈ news, q ∈ more) ∧ (∀ q ∈ more, (@Ne Nat q.1 (L' + 1 + 1)) ∧ (@Ne Nat q.1 (L' + 1))) ∧ PairsAt more ys ((pairsRaw t).take i)) ?fin ?turn ⟨news, rfl, fun q hq => hq, fun q hq => ?off0, rfl, fun i hi => absurd hi (Nat.not_lt_zero _)⟩
  case off0 =>
    have := ltN (l1 q hq)
    constructor <;> lia
  case turn =>
    intro i v I oI C oC D m₂ ys nw h tk E' hi hv hI hC hm F N off ne
    obtain ⟨tv, rfl⟩ := hv
    obtain ⟨k, hk⟩ : ∃ k : Int, k = 0 + (i : Int) := ⟨_, rfl⟩
    rw [← hk] at hm
    have hk0 : 0 ≤ k := by lia
    have hk1 : k < (x.length : Int) := by lia
    obtain ⟨more, rfl, hsub, hmo, hps⟩ := hI
    have N2 := N
    clear N
    k_steps
    unfold Held
    rename News _ _ _ _ => N3
    rename I < _ ∧ _ => lt9
    rename_i D9 h9 F9
    obtain ⟨p1, p2, p3, p4, p5, p6⟩ := lt9
    have q6 := allLt_out p6
    obtain rfl : k = (i : Int) := by lia
    have ec : Array.getD (Txt.item x (i : Int)).cps 0 0 = t.getD i 0 := by rw [hxt, item_code t i hi]; rfl
    rw [ec] at N3
    have hlen : (pairsRaw t).length = t.length := by simp [pairsRaw]
    have hti : (pairsRaw t).take (i + 1) = (pairsRaw t).take i ++ [(t.getD i 0, i)] := by
      rw [List.take_add_one, show (pairsRaw t)[i]? = some (t.getD i 0, i) by simp [pairsRaw, hi]]
      rfl
    obtain ⟨tc, tp, N4⟩ : ∃ tc tp, News g' L' h9 ((D9, tup2 (.int (t.getD i 0) tc) (.int i tp)) :: (I, oI) :: (C, oC) :: (D, LCg.lst ys) :: (L' + 1 + 1, o1) :: (L' + 1, o2) :: more) := ⟨_, _, N3⟩
    refine LCg.CompEnd.intro F9 N4 ((L' + 1 + 1, o1) :: (L' + 1, o2) :: (D9, tup2 (.int (t.getD i 0) tc) (.int i tp)) :: more) ?_ ?_ trivial ⟨_, rfl, fun q hq => .tail _ (hsub q hq), ?_, ?_⟩
    · intro q hq
      simp only [List.mem_cons] at hq ⊢
      rcases hq with h | h | h | h | h | h | h
      · exact .inr (.inl h)
      · exact .inr (.inr (.inl h))
      · exact .inr (.inr (.inr (.inl h)))
      · exact .inr (.inr (.inr (.inr (.inl h))))
      · exact .inr (.inr (.inr (.inr (.inr (.inl h)))))
      · exact .inl h
      · exact .inr (.inr (.inr (.inr (.inr (.inr h)))))
    · exact ⟨off.1, off.2.1, ⟨Nat.ne_of_gt p1, Nat.ne_of_gt p2, Nat.ne_of_gt p3⟩, off.2.2⟩
    · intro q hq
      rcases List.mem_cons.mp hq with rfl | hq
      · exact ⟨Nat.ne_of_gt p4, Nat.ne_of_gt p5⟩
      · exact hmo q hq
    · rw [hti]
      exact pairs_snoc (fun q hq => .tail _ hq) hps ⟨_, _, _, rfl, .head _⟩
  case fin =>
    intro ys nw hI
    obtain ⟨more, rfl, hsub, hmo, hps⟩ := hI
    have hlen : (pairsRaw t).length = t.length := by simp [pairsRaw]
    rw [show (pairsRaw t).take t.length = pairsRaw t by rw [← hlen]; exact List.take_length] at hps
    k_steps
    unfold Held
    rename News _ _ _ _ => N5
    rename Fr _ _ _ _ => F5
    refine pairs_sorted F5 N5 ⟨_, (N5 _ (.head _)).1, rfl, _, rfl⟩ (np := more) (fun q hq => List.Mem.tail _ (.tail _ (.tail _ hq))) hps (by lia) (by lia) ?_ ?_
    · intro p hp
      obtain ⟨i, hi, rfl⟩ := List.mem_map.mp hp
      have := List.mem_range.mp hi
      show i < 1000
      lia
    intro P cP h2 tk2 pvs ps' F6 N6 lt6 hps6 hperm hsort
    obtain rfl := pairsOf_unique hperm hsort
    k_steps
    subst hW4
    rename Fr _ _ _ _ => F7
    refine For_invVF (h₀ := g') F7 (by rfl) (by rfl) ?_
    k_steps
    unfold Held
    rename News _ _ _ _ => N7
    rename Fr _ _ _ _ => F8
    obtain ⟨nw0, N8, hJ0⟩ := wj0 (news := news) (t := t) F8 N7 (by assumption) (by assumption) lt6 e1 hmo hsub hps6 rfl rfl rfl
    refine for_range (n := t.length) (J := WJ L' o2 news t) (by rfl) (by assumption) (by first | exact small_one (by lia) (by lia) (by lia) (by lia) | decide) (by rw [hx]; exact rangeSize_nat _ _) F8 N8 hJ0 ?turn ?done
    case turn =>
      intro i tv m₁ nw h3 tk3 I oI hi hJ hI F9 N9
      obtain ⟨G, Wd, P', gvs, wvs, pvs', cG, cW, cP', oc, cv, more', rfl, hoc, ⟨g1, g2, g3⟩, hmo', hsub', hP', hps', hgv, hwv, m1, m2, m3⟩ := hJ
      rw [← canon3 m1 m2 m3 (by decide +kernel) (by decide +kernel) (by decide +kernel)] at F9
      rw [Int.zero_add] at F9
      have i1 : @Ne Nat G I := hI _ (.head _)
      have i2 : @Ne Nat Wd I := hI _ (.tail _ (.head _))
      have i3 : @Ne Nat (L' + 1 + 1) I := hI _ (.tail _ (.tail _ (.head _)))
      have i4 : @Ne Nat (L' + 1) I := hI _ (.tail _ (.tail _ (.tail _ (.head _))))
      have i5 : ∀ q ∈ more', q.1 ≠ I := fun q hq => hI q (.tail _ (.tail _ (.tail _ (.tail _ hq))))
      have j1 : ∀ q ∈ more', q.1 ≠ G := fun q hq => (hmo' q hq).1
      have j2 : ∀ q ∈ more', q.1 ≠ Wd := fun q hq => (hmo' q hq).2.1
      have j3 : ∀ q ∈ more', q.1 ≠ L' + 1 + 1 := fun q hq => (hmo' q hq).2.2.1
      generalize hWw : PySem.Stmt.While _ _ _ _ = Ww
      k_steps
      subst hWw
      rename News _ _ _ _ => Nw
      rename Fr _ _ _ _ => Fw
      refine while_by (wiOf Nw s P' t i) ?_ (t.length + 1) ?_ ?_
      · passes_own
      · refine ⟨gvs, [], cG, 0, [], i, tv, _, _, _, rfl, Fw, Nw, (by rw [List.append_nil]; exact hgv), ⟨rfl, fun i hi => absurd hi (Nat.not_lt_zero _)⟩, (by rw [List.append_nil]; exact (gone_ok t i).1), fun x hx => (nomatch hx), hi, rfl, (by rw [List.append_nil, List.nil_append]), rfl, rfl, rfl, rfl⟩
      · intro R n s₁ ih hI
        obtain ⟨gvs2, vvs, cG2, cV, path, place, tp2, m4, h4, tk4, rfl, F4, N4, hg2, hv2, hnd, hpl, hplace, hfu, hwalk, q1, q2, q3, q4⟩ := hI
        rw [← canon4 q1 q2 q3 q4] at F4
        have hpn : path.length ≤ t.length := nodup_length_le t.length path (List.nodup_append.mp hnd).2.1 hpl
        obtain ⟨f, rfl⟩ : ∃ f, n = f + 1 := ⟨n - 1, by lia⟩
        by_cases hin : place ∈ goneAt t i ++ path
        · have hb0 : decide (place ∉ goneAt t i ++ path) = false := decide_eq_false (fun h => h hin)
          have hpath := wi_exit hwalk hin
          k_steps
          unfold Held
          rename News _ _ _ _ => N5
          refine ne_intsK (vs := vvs) (us := []) ⟨_, (N5 _ (.tail _ (.head _))).1, rfl, _, rfl⟩ (ints_are hv2) ⟨_, (N5 _ (.head _)).1, rfl, _, rfl⟩ .nil (Nat.le_of_ble_eq_true rfl) ?_
          rcases Classical.em (path = []) with hp0 | (hp0 : path ≠ [])
          · have hbb : (!decide (List.map Int.ofNat (List.map (fAt (pairsOf t)) path) = [])) = false := by rw [hp0]; rfl
            rw [hbb]
            k_steps
            rename Fr _ _ _ _ => F6
            have hgs := gone_succ t i hi
            have hws := words_succ t i hi
            rw [hpath] at hgs hws
            refine wj_turn F6 N5 (.tail _ (.tail _ (.head _))) (.tail _ (.tail _ (.tail _ (.head _)))) (.tail _ (.tail _ (.tail _ (.tail _ (.head _))))) (.tail _ (.tail _ (.tail _ (.tail _ (.tail _ (.head _)))))) (.tail _ (.tail _ (.tail _ (.tail _ (.tail _ (.tail _ (.head _))))))) (more := more') (fun q hq => .tail _ (.tail _ (.tail _ (.tail _ (.tail _ (.tail _ (.tail _ hq))))))) (by assumption) ⟨g1, g2, g3⟩ hmo' i1 i2 i3 i4 i5 hsub' hP' hps' (hgs ▸ hg2) ?_ rfl rfl rfl
            rw [hws, hp0]
            simpa using hwv
          · have hbb : (!decide (List.map Int.ofNat (List.map (fAt (pairsOf t)) path) = [])) = true := by
              rw [decide_eq_false (by simpa using hp0)]; rfl
            rw [hbb]
            generalize hWc : PySem.Expr.ListComp _ _ _ _ = Wc
            k_steps
            subst hWc
            k_steps
            unfold Held
            have hvl : (List.toArray vvs).size = path.length := by rw [hv2.1, List.length_map]
            refine len_list ⟨_, (N5 _ (.tail _ (.head _))).1, rfl, _, rfl⟩ (by rw [hvl]; lia) ?_
            rw [hvl]
            intros
            k_steps
            unfold Held
            rename News _ _ _ _ => N6
            refine LCg.CompSrc.range (n := path.length) (by rfl) (by k_asm) N6 (by assumption) (by first | exact small_one (by lia) (by lia) (by lia) (by lia) | decide) (rangeSize_nat _ _) (by rw [PySem.sizeLine_eq]; lia) ?_
            intro g9
            refine comp_own (Inv := wcOf N6 (path.map (fAt (pairsOf t)))) ?fin2 ?turn2 ⟨more', rfl, fun q hq => hq, fun q hq => ⟨(hmo' q hq).1, (hmo' q hq).2.1, (hmo' q hq).2.2.1, (hmo' q hq).2.2.2, i5 q hq⟩, rfl, fun i hi => absurd hi (Nat.not_lt_zero _)⟩
            case turn2 =>
              intro k v I2 oI2 C oC D m₂ ys nw h tk E' hk hv hI hC hm F N off ne
              obtain ⟨tv2, rfl⟩ := hv
              rw [Int.zero_add] at hm
              obtain ⟨more2, rfl, hs2, hn2, hw2⟩ := hI
              have zV : (List.toArray vvs).size ≤ sizeLine := by rw [hvl, PySem.sizeLine_eq]; lia
              k_steps
              unfold Held
              refine kmk_slice_lit (its := List.toArray vvs) F N ⟨_, (N _ (.tail _ (.tail _ (.tail _ (.tail _ (.head _)))))).1, rfl, _, rfl⟩ (IsPart.int _ _) IsPart.none (pick_from vvs k) ?_ (by with_unfolding_all rfl) (by intro _; with_unfolding_all rfl) zV
              intro Da ha Fa Na la
              k_steps
              unfold Held
              refine kmk_slice_lit (its := List.toArray vvs) Fa Na ⟨_, (Na _ (.tail _ (.tail _ (.tail _ (.tail _ (.tail _ (.head _))))))).1, rfl, _, rfl⟩ IsPart.none (IsPart.int _ _) (pick_upto vvs k) ?_ (by with_unfolding_all rfl) (by intro _; with_unfolding_all rfl) zV
              intro Db hb Fb Nb lb
              k_steps
              unfold Held
              refine kmk_add_lit Fb Nb ⟨_, (Nb _ (.tail _ (.head _))).1, rfl, _, rfl⟩ ⟨_, (Nb _ (.head _)).1, rfl, _, rfl⟩ rfl ?_ ?z
              case z => 
                have e1 : vvs.length = path.length := by simpa using hvl
                simp only [List.length_drop, List.length_take]
                rw [PySem.sizeLine_eq]; lia
              intro Dc hc' Fc Nc lc
              k_steps
              unfold Held
              exact wc_end Fc Nc lc off hs2 hn2 hw2 (by rw [List.length_map]; exact hk) (intsN_rot hv2 k)
            case fin2 =>
              intro ys nw hI
              obtain ⟨more2, rfl, hs2, hn2, hw2⟩ := hI
              have hrl : (rots (path.map (fAt (pairsOf t)))).length = path.length := by simp [rots]
              rw [show (rots (path.map (fAt (pairsOf t)))).take path.length = rots (path.map (fAt (pairsOf t))) by rw [← hrl]; exact List.take_length] at hw2
              k_steps
              unfold Held
              rename News _ _ _ _ => N8
              rename Fr _ _ _ _ => F8
              have hyl := hw2.1
              rw [hrl] at hyl
              have hp1 : 0 < path.length := List.length_pos_iff.mpr hp0
              refine min_words (ws := rots (path.map (fAt (pairsOf t)))) (vs := ys) rfl F8 N8 (fun h F N => ⟨_, (N _ (.head _)).1, rfl, _, rfl⟩) (by lia) (by lia) (cmpW_of (Nat.le_of_ble_eq_true rfl) (hw2.sub (fun q hq => .tail _ (.tail _ (.tail _ (.tail _ (.tail _ (.tail _ (.tail _ (.tail _ hq)))))))))) ?_
              intro j2 h9 tk9 hj2 hmin F9 N9
              obtain ⟨aM, itM, cM, eM, mM, xM⟩ := hw2.2 j2 (by lia)
              rw [eM]
              have zW : (List.toArray wvs).size ≤ sizeLine := by
                have e1 := hwv.1
                have e2 := wordsUp_len t i
                rw [PySem.sizeLine_eq, List.size_toArray]; lia
              have hn9 : ∀ q ∈ more2, q.1 ≠ Wd := fun q hq => (hn2 q hq).2.1
              k_steps
              rename News _ _ _ _ => Nz
              rename Fr _ _ _ _ => Fz
              rw [List.push_toArray] at Nz
              have hgs := gone_succ t i hi
              have hws := words_succ t i hi
              rw [hpath] at hgs hws
              refine wj_turn Fz Nz (.tail _ (.tail _ (.tail _ (.head _)))) (.tail _ (.tail _ (.tail _ (.tail _ (.head _))))) (.tail _ (.tail _ (.tail _ (.tail _ (.tail _ (.head _)))))) (.tail _ (.tail _ (.tail _ (.tail _ (.tail _ (.tail _ (.head _))))))) (.tail _ (.tail _ (.tail _ (.tail _ (.tail _ (.tail _ (.tail _ (.head _)))))))) (more := more2) (fun q hq => .tail _ (.tail _ (.tail _ (.tail _ (.tail _ (.tail _ (.tail _ (.tail _ hq)))))))) (by assumption) ⟨g1, g2, g3⟩ (fun q hq => ⟨(hn2 q hq).1, (hn2 q hq).2.1, (hn2 q hq).2.2.1, (hn2 q hq).2.2.2.1⟩) i1 i2 i3 i4 (fun q hq => (hn2 q hq).2.2.2.2) (fun q hq => hs2 q (hsub' q hq)) (hs2 _ hP') (hps'.sub hs2) (hgs ▸ hg2) ?_ rfl rfl rfl
              rw [hws, if_neg (by simpa using hp0)]
              refine words_snoc hs2 hwv ⟨aM, itM, cM, rfl, mM, ?_⟩
              rw [minRot_eq (by simpa using hp0), ← hmin]
              exact xM
        · have hb0 : decide (place ∉ goneAt t i ++ path) = true := decide_eq_true hin
          have gl := (gone_ok t i).1
          have zG : (List.toArray gvs2).size ≤ sizeLine := by
            rw [hg2.1, PySem.sizeLine_eq]
            have := nodup_length_le t.length (goneAt t i ++ path) hnd (fun x hx => (List.mem_append.mp hx).elim ((gone_ok t i).2 x) (hpl x))
            lia
          have zV : (List.toArray vvs).size ≤ sizeLine := by rw [hv2.1, PySem.sizeLine_eq, List.length_map]; lia
          have hpp : place < (pairsOf t).length := by rw [pairsOf_length]; exact hplace
          have hll : (pairsOf t).length ≤ 1000 := by rw [pairsOf_length]; lia
          k_steps
          unfold Held
          rename News _ _ _ _ => N5
          refine pair_item N5 (.tail _ (.tail _ (.tail _ (.tail _ (.tail _ (.tail _ hP')))))) hps' hpp hll ?_
          intro aX tcX tpX hmX
          k_steps
          unfold Held
          refine pair_fst N5 (.tail _ (.tail _ (.tail _ (.tail _ (.tail _ (.tail _ hmX)))))) ?_
          k_steps
          unfold Held
          rename News _ _ _ _ => N6
          refine pair_item N6 (.tail _ (.tail _ (.tail _ (.tail _ (.tail _ (.tail _ hP')))))) hps' hpp hll ?_
          intro aY tcY tpY hmY
          k_steps
          unfold Held
          refine pair_snd N6 (.tail _ (.tail _ (.tail _ (.tail _ (.tail _ (.tail _ hmY)))))) ?_
          k_steps
          rename News _ _ _ _ => N7
          rename Fr _ _ _ _ => F7
          exact ih f _ (Nat.lt_succ_self f) (wi_step F7 N7 hg2 hv2 hnd hpl hplace hfu hwalk hin rfl rfl rfl rfl)
    case done =>
      intro h3 tk3 m3 nw3 F3 N3 hJ
      obtain ⟨G, Wd, P', gvs, wvs, pvs', cG, cW, cP', oc, cv, more', rfl, hoc, ⟨g1, g2, g3⟩, hmo', hsub', hP', hps', hgv, hwv, m1, m2, m3'⟩ := hJ
      rw [words_all] at hwv
      rw [← canon1 m3'] at F3
      replace F3 : Fr g' L' h3 _ := F3
      replace N3 : News g' L' h3 _ := N3
      subst hW5
      k_steps
      unfold Held
      refine words_sorted (Nat.le_of_ble_eq_true rfl) F3 N3 ⟨_, (N3 _ (.tail _ (.head _))).1, rfl, _, rfl⟩ (np := more') (fun q hq => .tail _ (.tail _ (.tail _ (.tail _ hq)))) hwv (raw_pos h1) (Nat.lt_of_le_of_lt (raw_len t) (by lia)) ?_
      intro D2 c2 h4 tk4 vs4 F4 N4 lt4 hw4
      k_steps
      unfold Held
      have hv4 : vs4.length = (rawWords t).length := by rw [hw4.1, List.length_mergeSort]
      have hr4 := raw_len t
      refine rev_temp F4 N4 ⟨_, (N4 _ (.head _)).1, rfl, _, rfl⟩ (IsPart.int _ _) ?_ (by with_unfolding_all rfl) (by rw [List.size_toArray, PySem.sizeLine_eq]; lia)
      intro D5 h5 F5 N5 lt5
      k_steps
      unfold Held
      have hw5 : WordsAt more' vs4.reverse (wordsOf t) := hw4.rev
      have hl5 : (wordsOf t).length = vs4.reverse.length := hw5.1.symm
      refine LCg.CompSrc.ledger (its := vs4.reverse.toArray) rfl F5 N5 (.head _) (by rw [List.size_toArray, List.length_reverse, PySem.sizeLine_eq]; lia) ?_
      intro g5
      refine comp_own (Inv := WS _ (wordsOf t)) ?fin5 ?turn5 ⟨rfl, .nil⟩
      case turn5 =>
        intro i v I oI C oC D m₂ ys nw h tk E' hi hv hI hC hm F N off ne
        obtain ⟨rfl, hys⟩ := hI
        rw [List.size_toArray, ← hl5] at hi
        obtain ⟨a5, it5, c5, e5, m5, x5⟩ := hw5.2 i hi
        obtain rfl : v = .ref a5 := by rw [← e5]; simpa [List.getD] using (congrArg (·.getD .none) hv).symm
        k_steps
        unfold Held
        have hlw : ∀ c ∈ (wordsOf t).getD i [], c < 1114112 := fun c hcm => hc c (there_mem t c (List.mem_flatten.mpr ⟨_, getD_mem hi, hcm⟩))
        have hlz : ((wordsOf t).getD i []).length ≤ t.length := word_len t i
        have hlx := x5.1
        refine LCg.CompSrc.ledger (its := it5) rfl F N (.tail _ (.tail _ (.tail _ (.tail _ (.tail _ (.tail _ (.tail _ (.tail _ (.tail _ m5))))))))) (by rw [hlx, PySem.sizeLine_eq]; lia) ?_
        intro g6
        refine comp_own (Inv := WS _ (((wordsOf t).getD i []).map fun c => [c])) ?fin6 ?turn6 ⟨rfl, .nil⟩
        case turn6 =>
          intro j v2 I2 oI2 C2 oC2 D7 m7 ys7 nw7 h7 tk7 E7 hj hv2 hI7 hC7 hm7 F7 N7 off7 ne7
          obtain ⟨rfl, hys7⟩ := hI7
          obtain ⟨t7, e7⟩ := x5.2 j hj
          obtain rfl : v2 = .int (((wordsOf t).getD i []).getD j 0) t7 := by
            have hv3 : it5[j]? = some v2 := hv2
            rw [Array.getElem?_eq_getElem hj, e7] at hv3
            injection hv3 with hv3
            exact hv3.symm
          rw [hlx] at hj
          have hb7 := hlw _ (getD_mem' hj)
          generalize hk7 : (((((wordsOf t).getD i []).getD j 0) : Nat) : Int) = k7 at hm7
          have hk8 : 0 ≤ k7 := by lia
          have hk9 : k7 < 1114112 := by lia
          k_steps
          unfold Held
          have e8 : (⟨#[Int.toNat k7]⟩ : Str) = txt [((wordsOf t).getD i []).getD j 0] := by rw [← hk7]; rfl
          rw [e8]
          refine LCg.CompEnd.intro F7 N7 _ (fun p hp => hp) off7 (.inr ⟨_, .tail _ (.tail _ (.tail _ (.tail _ (.tail _ (.tail _ (.tail _ (.tail _ (.tail _ m5)))))))), rfl, _, rfl⟩) ⟨rfl, ?_⟩
          rw [take_snoc _ j (by rw [List.length_map]; exact hj), ones_getD hj]
          exact strs_snoc hys7
        case fin6 =>
          intro ys7 nw7 hI7
          obtain ⟨rfl, hys7⟩ := hI7
          rw [List.take_of_length_le (by rw [List.length_map]; lia)] at hys7
          k_steps
          unfold Held
          rename News _ _ _ _ => N8
          rename Fr _ _ _ _ => F8
          refine join_words (ws := ((wordsOf t).getD i []).map fun c => [c]) ⟨_, (N8 _ (.head _)).1, rfl, _, rfl⟩ hys7 (by rw [flat_ones]; lia) ?_
          rw [flat_ones]
          intro t9 k9
          k_steps
          unfold Held
          refine LCg.CompEnd.intro F8 N8 _ (fun p hp => .tail _ hp) off (.inr ⟨_, .head _, rfl, _, rfl⟩) ⟨rfl, ?_⟩
          rw [take_snoc _ i hi]
          exact strs_snoc hys
      case fin5 =>
        intro ys nw hI
        obtain ⟨rfl, hys⟩ := hI
        rw [List.take_of_length_le (by rw [List.size_toArray, ← hl5]; exact Nat.le_refl _)] at hys
        k_steps
        rename News h₀ _ _ _ => kN
        rename _ ∧ _ ∧ _ ∧ _ ∧ _ ∧ _ ∧ LCg.Off1 _ _ => o9
        have kO := off1_mem o9.2.2.2.2.2.2
        refine hret _ ys.length ys _ _ (by assumption) ?n9 ?o9 hys
        case o9 => exact fun q hq => kO q (hsub' q hq)
        case n9 =>
          intro q hq
          refine kN q ?_
          rcases List.mem_cons.mp hq with e | hq
          · rw [e]; exact .head _
          · exact .tail _ (.tail _ (.tail _ (.tail _ (.tail _ (.tail _ (.tail _ (hsub' q hq)))))))
end
end

section
open PySem PySem.W PyProof.Rows PySem.Calls
set_option Elab.async false
set_option maxRecDepth 100000
set_option maxHeartbeats 4000000
/-- the cuts after i places -/
noncomputable def cutsUp (u : List Nat) (i : Nat) : List Nat := 0 :: cutsGo u i 1 0
theorem cutsGo_succ (u : List Nat) : ∀ (i p c : Nat), cutsGo u (i + 1) p c = cutsGo u i p c ++ (if lexLt (u.drop (p + i)) (u.drop ((c :: cutsGo u i p c).getLastD 0)) = true then [p + i] else [])
  | 0, p, c => by
    simp only [cutsGo, List.nil_append, Nat.add_zero]
    rfl
  | i + 1, p, c => by
    rw [cutsGo]
    by_cases h : lexLt (u.drop p) (u.drop c) = true
    · rw [if_pos h, cutsGo_succ u i (p + 1) p]
      conv => rhs; rw [cutsGo, if_pos h]
      rw [List.cons_append, show p + 1 + i = p + (i + 1) by lia]
      rfl
    · rw [if_neg h, cutsGo_succ u i (p + 1) c]
      conv => rhs; rw [cutsGo, if_neg h]
      rw [show p + 1 + i = p + (i + 1) by lia]
theorem cutsUp_succ (u : List Nat) (i : Nat) : cutsUp u (i + 1) = cutsUp u i ++ (if lexLt (u.drop (1 + i)) (u.drop ((cutsUp u i).getLastD 0)) = true then [1 + i] else []) := by
  unfold cutsUp
  rw [cutsGo_succ]
  rfl
theorem cutsUp_le (u : List Nat) : ∀ i, (∀ c ∈ cutsUp u i, c ≤ i) ∧ (cutsUp u i).length ≤ i + 1
  | 0 => ⟨fun c hc => by rw [show c = 0 by simpa [cutsUp, cutsGo] using hc]; exact Nat.le_refl _, by simp [cutsUp, cutsGo]⟩
  | i + 1 => by
    obtain ⟨h1, h2⟩ := cutsUp_le u i
    rw [cutsUp_succ]
    constructor
    · intro c hc
      rcases List.mem_append.mp hc with h | h
      · exact Nat.le_succ_of_le (h1 c h)
      · split at h
        · rw [List.mem_singleton.mp h]; lia
        · exact absurd h List.not_mem_nil
    · rw [List.length_append]
      split
      · simp only [List.length_singleton]; lia
      · simp only [List.length_nil]; lia
theorem cut_neg (t : List Nat) (i : Nat) : -(((cutsUp t i).length : Nat) : Int) ≤ -1 := by
  have : 1 ≤ (cutsUp t i).length := Nat.succ_le_succ (Nat.zero_le _)
  lia
theorem getLastD_getD (l : List Nat) : l.getLastD 0 = l.getD (l.length - 1) 0 := by
  cases l with
  | nil => rfl
  | cons a r => simp [List.getLastD_cons, List.getD, List.getLast?_eq_getElem?, List.getLastD_eq_getLast?]
theorem cut_last (t : List Nat) (i : Nat) : ((cutsUp t i).map Int.ofNat).getD (-1 + (((cutsUp t i).map Int.ofNat).length : Int)).toNat 0 = (((cutsUp t i).getLastD 0 : Nat) : Int) := by
  have h1 : 1 ≤ (cutsUp t i).length := Nat.succ_le_succ (Nat.zero_le _)
  rw [getLastD_getD, List.length_map, show (-1 + ((cutsUp t i).length : Int)).toNat = (cutsUp t i).length - 1 by lia]
  have h2 : (cutsUp t i).length - 1 < (cutsUp t i).length := by lia
  simp [List.getD, h2]
theorem cut_last_le (t : List Nat) (i : Nat) : (cutsUp t i).getLastD 0 ≤ i := by
  have h1 : 1 ≤ (cutsUp t i).length := Nat.succ_le_succ (Nat.zero_le _)
  rw [getLastD_getD]
  exact (cutsUp_le t i).1 _ (getD_mem' (by lia))
theorem slice_from (t : List Nat) {a : Nat} (ha : a ≤ t.length) : Txt.slice (txt t) (some (a : Int)) none = txt (t.drop a) := by
  have := StrLaws.sliceText_from (x := txt t) (i := (a : Int)) ⟨by lia, by rw [txt_cps]; lia⟩
  refine Eq.trans this ?_
  rw [txt_cps]
  show txt _ = _
  congr 1
  rw [Int.toNat_natCast, List.take_of_length_le]
  rw [List.length_drop]
  lia
theorem slice_to (t : List Nat) {b : Nat} (hb : b ≤ t.length) : Txt.slice (txt t) none (some (b : Int)) = txt (t.take b) := by
  have := StrLaws.sliceText_to (x := txt t) (j := (b : Int)) ⟨by lia, by rw [txt_cps]; lia⟩
  refine Eq.trans this ?_
  rw [txt_cps]
  show txt _ = _
  congr 1
theorem slice_mid (t : List Nat) {a b : Nat} (hab : a ≤ b) (hb : b ≤ t.length) : Txt.slice (txt t) (some (a : Int)) (some (b : Int)) = txt ((t.drop a).take (b - a)) := by
  have := slice_txt (txt t) hab (by rw [txt_len]; exact hb)
  rw [txt_cps] at this
  exact this
theorem canon5 {m₁ : Str → Option Value} {a b c d e : Str} {va vb vc vd ve : Option Value} (hb : m₁ b = vb) (hc : m₁ c = vc) (hd : m₁ d = vd) (he : m₁ e = ve) (n1 : b ≠ a) (n2 : c ≠ a) (n3 : d ≠ a) (n4 : e ≠ a) :
    (fun y => if y = e then ve else if y = d then vd else if y = c then vc else if y = b then vb else if y = a then va else m₁ y) = (fun y => if y = a then va else m₁ y) := by
  funext y
  by_cases h0 : y = e
  · rw [if_pos h0, h0, if_neg n4, he]
  · rw [if_neg h0]
    exact congrFun (canon3 (va := va) hb hc hd n1 n2 n3) y
theorem mul_txt (x : List Nat) (n : Nat) : Txt.mul (txt x) (n : Int) = txt (List.replicate n x).flatten := by
  unfold Txt.mul
  by_cases h0 : (n : Int) < 1
  · obtain rfl : n = 0 := by lia
    rw [if_pos h0]
    rfl
  rw [if_neg h0]
  by_cases h1 : (((n : Int) == 1) || (txt x).length == 0) = true
  · rw [if_pos h1]
    simp only [Bool.or_eq_true, beq_iff_eq] at h1
    rcases h1 with h1 | h1
    · obtain rfl : n = 1 := by lia
      simp
    · rw [txt_len] at h1
      rw [List.eq_nil_of_length_eq_zero h1]
      simp
  · rw [if_neg h1, Int.toNat_natCast]
    have key : ∀ (n : Nat) (acc : Array Nat), (List.replicate n (txt x).cps).foldl (· ++ ·) acc = acc ++ (List.replicate n x).flatten.toArray := by
      intro n
      induction n with
      | zero => intro acc; simp
      | succ n ih =>
        intro acc
        rw [List.replicate_succ, List.foldl_cons, ih, List.replicate_succ, List.flatten_cons]
        simp [txt]
    rw [key n #[]]
    simp [txt]
theorem mul_words {prog : Program} {w : World} {A : Around} {E : Value → Shared → Prop} {s : Shared} {t u : Tok} {Q : Value → Shared → Prop} {x : List Nat} {n : Nat} (hx : x.length ≤ 10000) (hn : n ≤ 1000)
    (h : ∀ t' k, Q (.str (txt (List.replicate n x).flatten) t') { s with toks := k }) : wpAny (model prog w) A (binaryOp .Mult (.str (txt x) t) (.int (n : Int) u)) Q E s := by
  refine SB.mul (mulOk_of 10000 1000 (by rw [txt_len]; exact hx) (by lia) (by lia) (by decide) (by decide)) ?_
  rw [mul_txt]
  exact h
theorem rep_flat_len (n : Nat) (x : List Nat) : (List.replicate n x).flatten.length = n * x.length := by
  induction n with
  | zero => simp
  | succ n ih => rw [List.replicate_succ, List.flatten_cons, List.length_append, ih, Nat.succ_mul]; lia
theorem endl_eq (n : Nat) (row : List Nat) : ((List.replicate 2 (List.replicate n row).flatten).flatten).take (n * 2) = endl (n * 2) row := by
  unfold endl
  congr 1
  rw [show n * 2 = n + n by lia, ← List.replicate_append_replicate, List.flatten_append]
  simp [List.replicate_succ]
theorem item_last (x : List Nat) (h : 1 ≤ x.length) : Txt.item (txt x) (-1) = txt [x.getLastD 0] := by
  have e : seqIndex? (-1) (txt x).length = some (x.length - 1) := by
    unfold seqIndex?
    rw [txt_len]
    simp only [show (-1 : Int) < 0 by decide, if_true]
    rw [if_pos (by simp only [Bool.and_eq_true, decide_eq_true_eq]; lia)]
    congr 1
    lia
  unfold Txt.item Txt.charAt
  rw [e]
  show (⟨#[((txt x).cps[x.length - 1]?).getD 0]⟩ : Str) = ⟨#[x.getLastD 0]⟩
  have e2 : (txt x).cps[x.length - 1]? = some (x.getD (x.length - 1) 0) := by
    have h3 : x.length - 1 < x.length := by lia
    simp [txt, List.getD, h3]
  rw [e2, getLastD_getD]
  rfl
/-- what holds at the head of the while -/
noncomputable def KW (g' : Heap) (L' : Addr) (s₀ : Shared) (M : Str → Option Value) (nw : List (Addr × Obj)) (key : List Nat) (rows : List (List Nat × Nat)) (n : Nat) (s : Shared) : Prop :=
  ∃ (h : Heap) (tk : Nat) (tsp : Tok), s = { s₀ with heap := h, toks := tk } ∧ Fr g' L' h (fun y => if y = Str.ofString "spot" then some (.int (n : Int) tsp) else M y) ∧ News g' L' h nw ∧ n ≤ rows.length ∧ spotGo rows key rows.length = spotGo rows key n
noncomputable abbrev kwOf {g' : Heap} {L' : Addr} {h : Heap} {M : Str → Option Value} {v : Option Value} {nw : List (Addr × Obj)} (_ : Fr g' L' h (fun y => if y = Str.ofString "spot" then v else M y)) (_ : News g' L' h nw) (s₀ : Shared) (key : List Nat) (rows : List (List Nat × Nat)) := KW g' L' s₀ M nw key rows
theorem twice {m : Str → Option Value} {a : Str} {v1 v2 : Option Value} : (fun y => if y = a then v1 else if y = a then v2 else m y) = (fun y => if y = a then v1 else m y) := by
  funext y
  by_cases h : y = a
  · rw [if_pos h, if_pos h]
  · rw [if_neg h, if_neg h, if_neg h]
theorem fits_nat {n : Nat} (h : n ≤ 10000) : Builtin.List.listFitsIndex (n : Int) = true := by
  unfold Builtin.List.listFitsIndex
  simp only [Bool.and_eq_true, decide_eq_true_eq]
  lia
theorem rows_getD {rows : List (List Nat × Nat)} {i : Nat} (hi : i < rows.length) : (rows.map fun r => [r.2]).getD i [] = [(rows.getD i ([], 0)).2] := by simp [List.getD, hi]
theorem rows_flat (rows : List (List Nat × Nat)) : (rows.map fun r => [r.2]).flatten = rows.map (·.2) := by
  induction rows with
  | nil => rfl
  | cons a r ih => rw [List.map_cons, List.flatten_cons, ih]; rfl
theorem look1 {α : Type} {m : Str → Option α} {a b : Str} {va vb : Option α} (hb : m b = vb) (n : b ≠ a) : (fun y => if y = a then va else m y) b = vb := by
  show (if b = a then va else m b) = vb
  rw [if_neg n, hb]
theorem canon2 {m₁ : Str → Option Value} {a b c : Str} {va vb vc : Option Value} (hb : m₁ b = vb) (hc : m₁ c = vc) (n1 : b ≠ a) (n2 : c ≠ a) :
    (fun y => if y = c then vc else if y = b then vb else if y = a then va else m₁ y) = (fun y => if y = a then va else m₁ y) := by
  funext y
  by_cases h2 : y = c
  · rw [if_pos h2, h2, if_neg n2, hc]
  · rw [if_neg h2]
    by_cases h3 : y = b
    · rw [if_pos h3, h3, if_neg n1, hb]
    · rw [if_neg h3]
theorem off_cons {I C : Addr} {o : Obj} {news : List (Addr × Obj)} (h1 : @Ne Nat C I) (h2 : ∀ q ∈ news, @Ne Nat q.1 I) : ∀ q ∈ (C, o) :: news, q.1 ≠ I := by
  intro q hq
  rcases List.mem_cons.mp hq with rfl | hq
  · exact h1
  · exact h2 q hq
theorem cuts_eq (t : List Nat) : cuts t = cutsUp t (t.length - 1) ++ [t.length] := rfl
theorem cutsUp_rise (u : List Nat) : ∀ i, (cutsUp u i).Pairwise (· < ·)
  | 0 => by simp [cutsUp, cutsGo]
  | i + 1 => by
    rw [cutsUp_succ]
    split
    · rw [List.pairwise_append]
      refine ⟨cutsUp_rise u i, List.pairwise_singleton _ _, fun a ha b hb => ?_⟩
      rw [List.mem_singleton.mp hb]
      have := (cutsUp_le u i).1 a ha
      lia
    · rw [List.append_nil]
      exact cutsUp_rise u i
theorem cuts_rise {t : List Nat} (h : 1 ≤ t.length) : (cuts t).Pairwise (· < ·) ∧ ∀ c ∈ cuts t, c ≤ t.length := by
  rw [cuts_eq]
  have h1 := (cutsUp_le t (t.length - 1)).1
  constructor
  · rw [List.pairwise_append]
    refine ⟨cutsUp_rise t _, List.pairwise_singleton _ _, fun a ha b hb => ?_⟩
    rw [List.mem_singleton.mp hb]
    have := h1 a ha
    lia
  · intro c hc
    rcases List.mem_append.mp hc with hc | hc
    · have := h1 c hc
      lia
    · rw [List.mem_singleton.mp hc]
      exact Nat.le_refl _
theorem cuts_len (t : List Nat) (h : 1 ≤ t.length) : 2 ≤ (cuts t).length ∧ (cuts t).length ≤ t.length + 1 := by
  have := (cutsUp_le t (t.length - 1)).2
  have h2 : 1 ≤ (cutsUp t (t.length - 1)).length := Nat.succ_le_succ (Nat.zero_le _)
  rw [cuts_eq, List.length_append, List.length_singleton]
  lia
theorem segs_get (u : List Nat) : ∀ (l : List Nat), (segs u l).length = l.length - 1 ∧ ∀ k, k + 1 < l.length → (segs u l).getD k [] = (u.drop (l.getD k 0)).take (l.getD (k + 1) 0 - l.getD k 0)
  | [] => ⟨rfl, fun k h => absurd h (Nat.not_lt_zero _)⟩
  | [a] => ⟨rfl, fun k h => absurd h (by simp)⟩
  | a :: b :: r => by
    obtain ⟨h1, h2⟩ := segs_get u (b :: r)
    refine ⟨by simp only [segs, List.length_cons] at h1 ⊢; lia, fun k hk => ?_⟩
    cases k with
    | zero => rfl
    | succ k =>
      have := h2 k (by simp only [List.length_cons] at hk ⊢; lia)
      simp only [segs, List.getD_cons_succ] at this ⊢
      exact this
noncomputable def rowsUp (t : List Nat) (i : Nat) : List (List Nat × Nat) := (((factors t).take i).flatMap (rowsOf (t.length * 2))).foldl insRow []
noncomputable def rowsIn (t : List Nat) (i j : Nat) : List (List Nat × Nat) := ((rowsOf (t.length * 2) ((factors t).getD i [])).take j).foldl insRow (rowsUp t i)
theorem insRow_len (rows : List (List Nat × Nat)) (r : List Nat × Nat) : (insRow rows r).length = rows.length + 1 := by rw [(insRow_perm rows r).length_eq]; rfl
theorem foldl_len : ∀ (rs acc : List (List Nat × Nat)), (rs.foldl insRow acc).length = acc.length + rs.length
  | [], acc => rfl
  | r :: rs, acc => by rw [List.foldl_cons, foldl_len rs, insRow_len, List.length_cons]; lia
theorem rowsOf_len (m : Nat) (x : List Nat) : (rowsOf m x).length = x.length := by simp [rowsOf]
theorem rowsIn_zero (t : List Nat) (i : Nat) : rowsIn t i 0 = rowsUp t i := rfl
theorem rowsIn_succ (t : List Nat) (i j : Nat) (hj : j < ((factors t).getD i []).length) : rowsIn t i (j + 1) = insRow (rowsIn t i j) (endl (t.length * 2) (rot ((factors t).getD i []) j), (rot ((factors t).getD i []) j).getLastD 0) := by
  unfold rowsIn
  rw [List.take_add_one, show (rowsOf (t.length * 2) ((factors t).getD i []))[j]? = some (endl (t.length * 2) (rot ((factors t).getD i []) j), (rot ((factors t).getD i []) j).getLastD 0) by simp only [rowsOf, List.getElem?_map, List.getElem?_range hj, Option.map_some], List.foldl_append]
  rfl
theorem rowsUp_succ (t : List Nat) (i : Nat) (hi : i < (factors t).length) : rowsUp t (i + 1) = rowsIn t i ((factors t).getD i []).length := by
  unfold rowsIn
  rw [← rowsOf_len (t.length * 2), List.take_length]
  unfold rowsUp
  rw [take_snoc _ i hi, List.flatMap_append, List.foldl_append]
  simp
theorem rowsUp_all (t : List Nat) : (rowsUp t (factors t).length).map (·.2) = back t := by
  unfold rowsUp back sortRows
  rw [List.take_length]
theorem rowsIn_len (t : List Nat) (i j : Nat) : (rowsIn t i j).length ≤ (rowsUp t i).length + j := by
  unfold rowsIn
  rw [foldl_len, List.length_take]
  lia
theorem fact_get {t : List Nat} {k : Nat} (hk : k + 1 < (cuts t).length) : (factors t).getD k [] = (t.drop ((cuts t).getD k 0)).take ((cuts t).getD (k + 1) 0 - (cuts t).getD k 0) := (segs_get t (cuts t)).2 k hk
theorem fact_len (t : List Nat) : (factors t).length = (cuts t).length - 1 := (segs_get t (cuts t)).1
theorem fact_le (t : List Nat) (k : Nat) : ((factors t).getD k []).length ≤ t.length := by
  rcases Nat.lt_or_ge (k + 1) (cuts t).length with h | h
  · rw [fact_get h, List.length_take, List.length_drop]; lia
  · rw [List.getD_eq_getElem?_getD, List.getElem?_eq_none (by rw [fact_len]; lia)]
    exact Nat.zero_le _
theorem rowsUp_len (t : List Nat) : ∀ i, i ≤ (factors t).length → (rowsUp t i).length ≤ i * t.length
  | 0, _ => by simp [rowsUp]
  | i + 1, h => by
    have h1 := rowsUp_len t i (by lia)
    have h2 := rowsIn_len t i ((factors t).getD i []).length
    have h3 := fact_le t i
    rw [rowsUp_succ t i (by lia), Nat.succ_mul]
    lia
theorem ins_at (l : List Value) (k : Nat) (y : Value) (hk : k ≤ l.length) : kl_ins l (k : Int) y = l.take k ++ y :: l.drop k := by
  unfold kl_ins
  simp only [show ¬ ((k : Int) < 0) by lia, if_false, Int.toNat_natCast]
  rw [Nat.min_eq_left hk]
/-- a row in a ledger: a text and a sign -/
noncomputable def RowAt (nw : List (Addr × Obj)) (v : Value) (r : List Nat × Nat) : Prop := ∃ a t1 t2, v = .ref a ∧ (a, tup2 (.str (txt r.1) t1) (.str (txt [r.2]) t2)) ∈ nw
noncomputable def RowsAt (nw : List (Addr × Obj)) (vs : List Value) (rs : List (List Nat × Nat)) : Prop := vs.length = rs.length ∧ ∀ i, i < rs.length → RowAt nw (vs.getD i .none) (rs.getD i ([], 0))
theorem RowAt.sub {nw nw' : List (Addr × Obj)} {v : Value} {r : List Nat × Nat} (hs : ∀ q ∈ nw, q ∈ nw') (h : RowAt nw v r) : RowAt nw' v r := let ⟨a, t1, t2, e, hm⟩ := h; ⟨a, t1, t2, e, hs _ hm⟩
theorem rows_ins {nw nw' : List (Addr × Obj)} {vs : List Value} {rs : List (List Nat × Nat)} {v : Value} {r : List Nat × Nat} {k : Nat} (hs : ∀ q ∈ nw, q ∈ nw') (h : RowsAt nw vs rs) (hv : RowAt nw' v r) (hk : k ≤ rs.length) : RowsAt nw' (vs.take k ++ v :: vs.drop k) (rs.take k ++ r :: rs.drop k) := by
  have hl := h.1
  refine ⟨by simp only [List.length_append, List.length_cons, List.length_take, List.length_drop]; lia, fun i hi => ?_⟩
  have e1 : (vs.take k).length = k := by rw [List.length_take]; lia
  have e2 : (rs.take k).length = k := by rw [List.length_take]; lia
  simp only [List.length_append, List.length_cons, e2, List.length_drop] at hi
  rcases Nat.lt_trichotomy i k with q | q | q
  · have a1 : (vs.take k ++ v :: vs.drop k).getD i .none = vs.getD i .none := by
      simp only [List.getD, List.getElem?_append_left (show i < (vs.take k).length by lia), List.getElem?_take, q, if_true]
    have a2 : (rs.take k ++ r :: rs.drop k).getD i ([], 0) = rs.getD i ([], 0) := by
      simp only [List.getD, List.getElem?_append_left (show i < (rs.take k).length by lia), List.getElem?_take, q, if_true]
    rw [a1, a2]
    exact (h.2 i (by lia)).sub hs
  · subst q
    have a1 : (vs.take i ++ v :: vs.drop i).getD i .none = v := by
      simp only [List.getD, List.getElem?_append_right (Nat.le_of_eq e1), e1, Nat.sub_self, List.getElem?_cons_zero, Option.getD_some]
    have a2 : (rs.take i ++ r :: rs.drop i).getD i ([], 0) = r := by
      simp only [List.getD, List.getElem?_append_right (Nat.le_of_eq e2), e2, Nat.sub_self, List.getElem?_cons_zero, Option.getD_some]
    rw [a1, a2]
    exact hv
  · obtain ⟨d, rfl⟩ : ∃ d, i = k + 1 + d := ⟨i - (k + 1), by lia⟩
    have a1 : (vs.take k ++ v :: vs.drop k).getD (k + 1 + d) .none = vs.getD (k + d) .none := by
      simp only [List.getD, List.getElem?_append_right (show (vs.take k).length ≤ k + 1 + d by lia), e1, show k + 1 + d - k = d + 1 by lia, List.getElem?_cons_succ, List.getElem?_drop]
    have a2 : (rs.take k ++ r :: rs.drop k).getD (k + 1 + d) ([], 0) = rs.getD (k + d) ([], 0) := by
      simp only [List.getD, List.getElem?_append_right (show (rs.take k).length ≤ k + 1 + d by lia), e2, show k + 1 + d - k = d + 1 by lia, List.getElem?_cons_succ, List.getElem?_drop]
    rw [a1, a2]
    exact (h.2 (k + d) (by lia)).sub hs
/-- what holds at the head of the loop over the pieces -/
noncomputable def KR (x : Str) (tx : Tok) (news : List (Addr × Obj)) (t : List Nat) (i : Nat) (m : Str → Option Value) (nw : List (Addr × Obj)) : Prop :=
  ∃ (Ro Cu : Addr) (rvs cvs : List Value) (cR cC : Nat) (more : List (Addr × Obj)), nw = (Ro, listOf (List.toArray rvs) cR) :: (Cu, listOf (List.toArray cvs) cC) :: more ∧ (∀ q ∈ more, (@Ne Nat q.1 Ro) ∧ (@Ne Nat q.1 Cu)) ∧ (@Ne Nat Ro Cu) ∧ (∀ q ∈ news, q ∈ more) ∧
    IntsN (List.toArray cvs) (cuts t) ∧ RowsAt more rvs (rowsUp t i) ∧ m (Str.ofString "text") = some (.str x tx) ∧ m (Str.ofString "cuts") = some (.ref Cu) ∧ m (Str.ofString "rows") = some (.ref Ro)
/-- what holds at the head of the loop over the turns -/
noncomputable def KT (x : Str) (tx : Tok) (news : List (Addr × Obj)) (t : List Nat) (i : Nat) (tw : Tok) (I : Addr) (oI : Obj) (Ro Cu : Addr) (cvs : List Value) (cC : Nat) (j : Nat) (m : Str → Option Value) (nw : List (Addr × Obj)) : Prop :=
  ∃ (rvs : List Value) (cR : Nat) (more : List (Addr × Obj)), nw = (Ro, listOf (List.toArray rvs) cR) :: (Cu, listOf (List.toArray cvs) cC) :: (I, oI) :: more ∧ (∀ q ∈ more, (@Ne Nat q.1 Ro) ∧ (@Ne Nat q.1 Cu) ∧ (@Ne Nat q.1 I)) ∧ (∀ q ∈ news, q ∈ more) ∧
    RowsAt more rvs (rowsIn t i j) ∧ m (Str.ofString "text") = some (.str x tx) ∧ m (Str.ofString "cuts") = some (.ref Cu) ∧ m (Str.ofString "rows") = some (.ref Ro) ∧ m (Str.ofString "word") = some (.str (txt ((factors t).getD i [])) tw)
/-- the end of a turn of the loop over the turns -/
theorem kt_turn {g' h : Heap} {L' I I2 Ro Cu Dt : Addr} {oI oI2 : Obj} {rvs cvs : List Value} {cR cC spot : Nat} {e : List Nat} {c : Nat} {t1 t2 : Tok} {rows : List (List Nat × Nat)} {x : Str} {tx tw : Tok} {news more : List (Addr × Obj)} {t : List Nat} {i j : Nat} {s₁ : Shared} {tk : Nat} {m : Str → Option Value}
    (F : Fr g' L' h m) (N : News g' L' h ((Dt, tup2 (.str (txt e) t1) (.str (txt [c]) t2)) :: (I2, oI2) :: (Ro, listOf (List.toArray (rvs.take spot ++ .ref Dt :: rvs.drop spot)) cR) :: (Cu, listOf (List.toArray cvs) cC) :: (I, oI) :: more))
    (ltd : (@LT.lt Nat _ I2 Dt) ∧ (@LT.lt Nat _ Ro Dt) ∧ (@LT.lt Nat _ Cu Dt) ∧ (@LT.lt Nat _ I Dt) ∧ AllLt Dt more) (hmo : ∀ q ∈ more, (@Ne Nat q.1 Ro) ∧ (@Ne Nat q.1 Cu) ∧ (@Ne Nat q.1 I)) (j1 : @Ne Nat Ro I2) (j2 : @Ne Nat Cu I2) (j3 : @Ne Nat I I2) (j5 : ∀ q ∈ more, @Ne Nat q.1 I2) (hsub : ∀ q ∈ news, q ∈ more)
    (hrv : RowsAt more rvs rows) (hsp : spot ≤ rows.length) (hrows : rowsIn t i (j + 1) = rows.take spot ++ (e, c) :: rows.drop spot)
    (m1 : m (Str.ofString "text") = some (.str x tx)) (m2 : m (Str.ofString "cuts") = some (.ref Cu)) (m3 : m (Str.ofString "rows") = some (.ref Ro)) (m4 : m (Str.ofString "word") = some (.str (txt ((factors t).getD i [])) tw)) :
    TurnEnd g' L' I2 oI2 s₁ (KT x tx news t i tw I oI Ro Cu cvs cC (j + 1)) .next { s₁ with heap := h, toks := tk } := by
  refine ⟨.inl rfl, h, tk, m, (Ro, listOf (List.toArray (rvs.take spot ++ .ref Dt :: rvs.drop spot)) cR) :: (Cu, listOf (List.toArray cvs) cC) :: (I, oI) :: (Dt, tup2 (.str (txt e) t1) (.str (txt [c]) t2)) :: more, rfl, F, fun q hq => N q ?_, ?_,
    ⟨_, _, (Dt, tup2 (.str (txt e) t1) (.str (txt [c]) t2)) :: more, rfl, ?_, fun q hq => .tail _ (hsub q hq), ?_, m1, m2, m3, m4⟩⟩
  · simp only [List.mem_cons] at hq ⊢
    rcases hq with h | h | h | h | h | h <;> simp only [h, true_or, or_true]
  · exact off_cons j1 (off_cons j2 (off_cons j3 (off_cons (Nat.ne_of_gt ltd.1) j5)))
  · intro q hq
    rcases List.mem_cons.mp hq with e | hq
    · rw [e]; exact ⟨Nat.ne_of_gt ltd.2.1, Nat.ne_of_gt ltd.2.2.1, Nat.ne_of_gt ltd.2.2.2.1⟩
    · exact hmo q hq
  · rw [hrows]
    exact rows_ins (fun q hq => .tail _ hq) hrv ⟨_, _, _, rfl, .head _⟩ hsp
/-- the end of a turn of the loop over the pieces -/
theorem kr_turn {g' h : Heap} {L' I Ro Cu : Addr} {oI : Obj} {rvs cvs : List Value} {cR cC : Nat} {x : Str} {tx : Tok} {news more : List (Addr × Obj)} {t : List Nat} {i : Nat} {s₁ : Shared} {tk : Nat} {m : Str → Option Value}
    (F : Fr g' L' h m) (N : News g' L' h ((Ro, listOf (List.toArray rvs) cR) :: (Cu, listOf (List.toArray cvs) cC) :: (I, oI) :: more)) (hmo : ∀ q ∈ more, (@Ne Nat q.1 Ro) ∧ (@Ne Nat q.1 Cu) ∧ (@Ne Nat q.1 I)) (i1 : @Ne Nat Ro I) (i2 : @Ne Nat Cu I) (hrc : @Ne Nat Ro Cu) (hsub : ∀ q ∈ news, q ∈ more)
    (hcv : IntsN (List.toArray cvs) (cuts t)) (hrv : RowsAt more rvs (rowsUp t (i + 1)))
    (m1 : m (Str.ofString "text") = some (.str x tx)) (m2 : m (Str.ofString "cuts") = some (.ref Cu)) (m3 : m (Str.ofString "rows") = some (.ref Ro)) :
    TurnEnd g' L' I oI s₁ (KR x tx news t (i + 1)) .next { s₁ with heap := h, toks := tk } := by
  refine ⟨.inl rfl, h, tk, m, (Ro, listOf (List.toArray rvs) cR) :: (Cu, listOf (List.toArray cvs) cC) :: more, rfl, F, fun q hq => N q ?_, off_cons i1 (off_cons i2 fun q hq => (hmo q hq).2.2), ⟨Ro, Cu, rvs, cvs, cR, cC, more, rfl, fun q hq => ⟨(hmo q hq).1, (hmo q hq).2.1⟩, hrc, hsub, hcv, hrv, m1, m2, m3⟩⟩
  simp only [List.mem_cons] at hq ⊢
  rcases hq with h | h | h | h <;> simp only [h, true_or, or_true]
section
variable {prog : Program} {w : World} {A : Around} {h₀ : Heap} {L : Addr} {m : Str → Option Value} {env : Env} {elt : PySem.Expr} {x x₂ : Str} {scope : Scope} {cl : List (Str × Addr)} {s : Shared} {S : List (Addr × Obj) → Prop} {P : Nat → Value → Prop} {Fin : List Value → List (Addr × Obj) → Prop} {news : List (Addr × Obj)}
/-- a comprehension that unpacks pairs, by an invariant of one's own -/
theorem comp_ownP {n : Nat} (Inv : Nat → List Value → List (Addr × Obj) → Prop)
    (fin : ∀ ys nw, Inv n ys nw → Fin ys nw)
    (turn : ∀ i v ys nw, i < n → P i v → Inv i ys nw → ∃ (t : Addr) (ot : Obj) (v₁ v₂ : Value) (nt : Nat), v = .ref t ∧ (t, ot) ∈ nw ∧ ot.cls = .type "tuple" ∧ ot.data = .seq #[v₁, v₂] nt ∧
      ∀ I oI C oC D m₂ h tk (E' : Value → Shared → Prop), LCg.NsObj oC m₂ → m₂ x = some v₁ → m₂ x₂ = some v₂ → Fr h₀ L h m → News h₀ L h ((I, oI) :: (C, oC) :: (D, LCg.lst ys) :: nw) → LCg.Off3 I C D nw → ((@Ne Nat I C) ∧ (@Ne Nat I D) ∧ (@Ne Nat C D)) →
      wpAny (model prog w) A (eval elt (compEnvC scope cl C env)) (LCg.CompEnd h₀ L m { s with heap := h, toks := tk } I oI C oC D (LCg.lst ys) S (fun y news' => Inv (i + 1) (ys ++ [y]) news')) E' { s with heap := h, toks := tk })
    (h0 : Inv 0 [] news) : LCp.CompRestP prog w A h₀ L m env elt x x₂ scope cl s S P Fin n 0 [] news := by
  have key : ∀ (j i : Nat) (ys : List Value) (nw : List (Addr × Obj)), i + j = n → Inv i ys nw → LCp.CompRestP prog w A h₀ L m env elt x x₂ scope cl s S P Fin j i ys nw := by
    intro j
    induction j with
    | zero =>
      intro i ys nw hi hy
      obtain rfl : i = n := by lia
      exact LCp.CompRestP.zero (fin ys nw hy)
    | succ j ih =>
      intro i ys nw hi hy
      refine LCp.CompRestP.succ ?_
      intro v hv
      obtain ⟨t, ot, v₁, v₂, nt, e1, e2, e3, e4, k⟩ := turn i v ys nw (by lia) hv hy
      refine ⟨t, ot, v₁, v₂, nt, e1, e2, e3, e4, ?_⟩
      intro I oI C oC D m₂ h tk E' hC hx hx2 F N off ne
      refine wpAny_mono (k I oI C oC D m₂ h tk E' hC hx hx2 F N off ne) (fun y s₂ hq => ?_) fun _ _ e => e
      obtain ⟨h', tk', nw', e, F', N', off', hS, hr⟩ := hq
      exact ⟨h', tk', nw', e, F', N', off', hS, ih (i + 1) _ _ (by lia) hr⟩
  exact key n 0 [] news (by lia) h0
end
section
variable (w : World) (mean : ExcName → Option Value) (mg mb : Str → Option Value)
/-- _strcoll of two texts of codes: its sign -/
theorem strcoll_r (news : List (Addr × Obj)) (x y : List Nat) (ta tb : Tok) :
    Con w mean mg mb 500 news (call (.ref 51) [.str (txt x) ta, .str (txt y) tb]) (fun h₀ L m s Q => ∀ (r : Int) (t : Tok) (h' : Heap) (tk' : Nat), (r < 0 ↔ lexLt x y = true) → (0 < r ↔ lexLt y x = true) → Fr h₀ L h' m → News h₀ L h' news → Q (.int r t) { s with heap := h', toks := tk' }) := by
  intro cn ns ig ic mo a ccd cl outer A₀ base h₀ L m s Q E B F X N T hret
  refine strcoll_c w mean mg mb news (txt x) (txt y) ta tb cn ns ig ic mo a ccd cl outer A₀ base h₀ L m s Q E B F X N T ?_
  intro t h' tk' F' N'
  refine hret _ t h' tk' ?_ ?_ F' N'
  · rw [txt_cps, txt_cps, lex_core, lex_core]
    cases h1 : lexLt x y <;> cases h2 : lexLt y x <;> simp [b2i]
    rw [lexLt_asymm h1] at h2
    cases h2
  · rw [txt_cps, txt_cps, lex_core, lex_core]
    cases h1 : lexLt x y <;> cases h2 : lexLt y x <;> simp [b2i]
    rw [lexLt_asymm h1] at h2
    cases h2
end
end

section
open PySem PySem.W PyProof.Rows PySem.Calls
set_option Elab.async false
set_option compiler.extract_closed false
set_option maxRecDepth 100000
set_option maxHeartbeats 8000000
set_option pp.maxSteps 40000
set_option pp.fieldNotation.generalized false
local macro_rules | `(tactic| walk_at "call builtin:list.append") => `(tactic| (k_here; (try dsimp only [List.cons_append, List.nil_append]); k_dflt (refine' append_K ?k1 ?k2 ?k3 ?_ ?z; (case k1 => k_asm); (case k2 => k_asm); (case k3 => k_upd); (case z => with_reducible assumption); k_whole); intro h' F' N'; (try k_sweep)))
local macro_rules | `(tactic| walk_at $k:str) => if ["subscriptTail Name UnaryOp ref int", "subscriptTail Name Name ref int", "subscriptTail Name BinOp ref int", "binaryOp Mult str int", "subscriptTail BinOp", "call builtin:list.insert", "subscriptTail Name UnaryOp str int", "subscriptTail Subscript", "SrcLP", "call builtin:str.join", "pyIter ref", "CompEnd", "CompSrc"].contains k.getString then `(tactic| (k_here; refine held ?_)) else Lean.Macro.throwUnsupported
local macro_rules | `(tactic| walk_at "call ref") => `(tactic| (k_here; with_reducible refine atRef 51 ?_; refine held ?_))
local macro_rules | `(tactic| walk_at "call builtin:len") => `(tactic| (k_here; (show wpAny _ _ (call (Value.builtin "len") [Value.ref _]) _ _ _); refine held ?_))
local macro_rules | `(tactic| walk_at "eval ListComp") => `(tactic| (k_here; k_dflt (refine LCp.ListComp_P (F₀ := by k_asm) (by first | rfl | with_unfolding_all rfl) (by decide) (by rfl) (by decide) (by rfl) (by rfl) (by decide +kernel) ?_)))
local macro_rules | `(tactic| walk_at "pad") => `(tactic| skip)
/-- what holds at the head of the loop over the places -/
noncomputable def KJ (x : Str) (tx : Tok) (news : List (Addr × Obj)) (t : List Nat) (i : Nat) (m : Str → Option Value) (nw : List (Addr × Obj)) : Prop :=
  ∃ (Cu : Addr) (cvs : List Value) (cC : Nat), nw = (Cu, listOf (List.toArray cvs) cC) :: news ∧ (∀ q ∈ news, @Ne Nat q.1 Cu) ∧ IntsN (List.toArray cvs) (cutsUp t i) ∧
    m (Str.ofString "text") = some (.str x tx) ∧ m (Str.ofString "cuts") = some (.ref Cu)
section
variable (w : World) (mean : ExcName → Option Value) (mg mb : Str → Option Value)
theorem back_c (news : List (Addr × Obj)) (t : List Nat) (x : Str) (tx : Tok) (hxt : x = txt t) (hx : x.length = t.length) (h1 : 1 ≤ t.length) (h8 : t.length ≤ 60) (hc : ∀ c ∈ t, c < 1114112) :
    Con w mean mg mb 460 news (call (.ref 781) [.str x tx]) (Gives news fun k => .str (txt (back t)) k) := by
  unfold Con; k_fill
  intro cn ns ig ic mo a ccd cl outer A₀ base h₀ L m s Q E B F X N T hret
  w_on
  refine wpAny_call ?_
  k_dflt (refine' code_def ?k1 ?k2 ?k3 ?k4 ?k5 ?kA ?kF ?kK ?k6 ?k7 ?k8 ?k9 ?kB ?_ ?c2 ?c3 ?c4 ?c5; (case kA => exact rfl); (case kF => exact rfl); (case kK => first | exact rfl | assumption); (case k1 => k_asm); (case k2 => k_asm); (case k3 => k_asm); (case k4 => k_asm); (case k5 => k_asm); (case k6 => k_is); (case k7 => k_is); (case k8 => k_room); (case k9 => first | exact BindsTo.of_eq rfl | exact binds_K (by k_in) rfl (by k_is) rfl rfl rfl); (case c5 => decide); (case kB => exact locs rfl); (case c2 => exact rfl); (case c3 => exact rfl); (case c4 => exact rfl); k_whole; intro g' L' h' FG' F' N' B' X' T'; (try dsimp only); (try k_lift B'); (try k_fold))
  show (let aK : Around := _; wpAny _ aK _ _ _ _)
  intro aK
  generalize hW1 : PySem.Stmt.For (PySem.Expr.Name (Str.ofString "place") _) _ _ _ _ = W1
  generalize hW2 : PySem.Stmt.For (PySem.Expr.Name (Str.ofString "k") _) _ _ _ _ = W2
  generalize hW3 : PySem.Stmt.Return _ _ = W3
  k_steps
  subst hW1
  rename Fr g' _ _ _ => F7
  refine For_invVF (h₀ := g') F7 (by rfl) (by rfl) ?_
  k_steps
  unfold Held
  rename News g' _ _ _ => N7
  rename Fr g' _ _ _ => F8
  refine for_range (n := t.length - 1) (J := KJ x tx news t) (by rfl) (by assumption) (by first | exact small_one (by lia) (by lia) (by lia) (by lia) | decide) (by rw [hx, rangeSize_nat]; lia) F8 N7 ⟨_, _, _, rfl, ?ne0, ?cv0, rfl, rfl⟩ ?turn ?done
  case ne0 => exact fun q hq => Nat.ne_of_lt (ltN ((by assumption : ∀ p ∈ news, p.1 < _) q hq))
  case cv0 => exact ⟨rfl, fun i hi => by
    obtain rfl : i = 0 := by simp at hi; lia
    exact ⟨_, rfl⟩⟩
  case turn =>
    intro i tv m₁ nw h3 tk3 I oI hi hJ hI F9 N9
    obtain ⟨Cu, cvs, cC, rfl, hne, hcv, m1, m2⟩ := hJ
    rw [← canon2 m1 m2 (by decide +kernel) (by decide +kernel)] at F9
    have i1 : @Ne Nat Cu I := hI _ (.head _)
    have i5 : ∀ q ∈ news, q.1 ≠ I := fun q hq => hI q (.tail _ hq)
    obtain ⟨k, hk⟩ : ∃ k : Int, k = 1 + (i : Int) := ⟨_, rfl⟩
    rw [← hk] at F9
    have hk0 : 0 ≤ k := by lia
    have hk1 : k < (x.length : Int) := by lia
    replace F9 : Fr g' L' h3 _ := F9
    replace N9 : News g' L' h3 _ := N9
    k_steps
    unfold Held
    rename News g' _ _ _ => N4
    have hcl := hcv.1
    obtain ⟨hce, hcn⟩ := cutsUp_le t i
    refine item_list_ints_neg ⟨_, (N4 _ (.tail _ (.head _))).1, rfl, _, rfl⟩ (ints_are hcv) (by decide) (by rw [List.length_map]; exact cut_neg t i) (by decide) ?_
    rw [cut_last]
    intro tq
    have hlc := cut_last_le t i
    generalize hcc : (cutsUp t i).getLastD 0 = c at *
    obtain ⟨kc, hkc⟩ : ∃ kc : Int, kc = (c : Int) := ⟨_, rfl⟩
    rw [← hkc]
    have hc0 : 0 ≤ kc := by lia
    have hc1 : kc < (x.length : Int) := by lia
    k_steps
    unfold Held
    rename News g' _ _ _ => N5
    rename Fr g' _ _ _ => F5
    have e1 : Txt.slice x (some k) none = txt (t.drop (1 + i)) := by rw [hxt, show k = ((1 + i : Nat) : Int) by lia]; exact slice_from t (by lia)
    have e2 : Txt.slice x (some kc) none = txt (t.drop c) := by rw [hxt, hkc]; exact slice_from t (by lia)
    rw [e1, e2]
    rename Below _ _ _ g' => B2
    rename Frag.In _ g' => X2
    rename Top _ _ _ _ _ g' => T2
    refine useA rfl rfl rfl (Nat.le_of_ble_eq_true rfl) (Nat.le_of_ble_eq_true rfl) (strcoll_r w mean mg mb _ _ _ _ _ _ _ _ _ _ _ _ _ _ _ _ _ _ _ _ _ _ B2 F5 X2 N5 T2 ?_)
    intro r tr h6 tk6 hr1 hr2 F6 N6
    have zC : (List.toArray cvs).size ≤ sizeLine := by rw [hcl, PySem.sizeLine_eq]; lia
    by_cases hlt : lexLt (t.drop (1 + i)) (t.drop c) = true
    · have hr3 : r < 0 := hr1.mpr hlt
      k_steps
      rename News g' _ _ _ => Nz
      rename Fr g' _ _ _ => Fz
      rw [List.push_toArray] at Nz
      refine ⟨.inl rfl, _, _, _, _, rfl, Fz, Nz, off_cons i1 i5, ⟨Cu, _, _, rfl, hne, ?_, rfl, rfl⟩⟩
      rw [cutsUp_succ, hcc, if_pos hlt, show k = ((1 + i : Nat) : Int) by lia]
      exact intsN_snoc hcv
    · have hr3 : ¬ r < 0 := fun q => hlt (hr1.mp q)
      k_steps
      refine ⟨.inl rfl, _, _, _, _, rfl, F6, N6, off_cons i1 i5, ⟨Cu, cvs, _, rfl, hne, ?_, rfl, rfl⟩⟩
      rw [cutsUp_succ, hcc, if_neg hlt, List.append_nil]
      exact hcv
  case done =>
    intro h3 tk3 m3 nw3 F3 N3 hJ
    obtain ⟨Cu, cvs, cC, rfl, hne, hcv, m1, m2⟩ := hJ
    rw [← canon1 m1, ← canon1 (m := fun y => if y = Str.ofString "text" then some (.str x tx) else m3 y) (a := Str.ofString "cuts") (va := some (.ref Cu)) (by show (if Str.ofString "cuts" = Str.ofString "text" then _ else m3 _) = _; rw [if_neg (by decide +kernel)]; exact m2)] at F3
    replace F3 : Fr g' L' h3 _ := F3
    replace N3 : News g' L' h3 _ := N3
    have hcl := hcv.1
    obtain ⟨hce, hcn⟩ := cutsUp_le t (t.length - 1)
    have zC : (List.toArray cvs).size ≤ sizeLine := by rw [hcl, PySem.sizeLine_eq]; lia
    k_steps
    subst hW2
    rename News g' _ _ _ => N4
    rename Fr g' _ _ _ => F4
    rename _ ∧ AllLt _ _ => lt4
    rw [List.push_toArray] at N4
    refine For_invVF (h₀ := g') F4 (by rfl) (by rfl) ?_
    k_steps
    unfold Held
    have hcv2 : IntsN (List.toArray (cvs ++ [Value.int (x.length : Int) (tk3 + 1)])) (cuts t) := by rw [cuts_eq, hx]; exact intsN_snoc hcv
    have hcl2 := hcv2.1
    obtain ⟨hb1, hb2⟩ := cuts_len t h1
    refine len_list ⟨_, (N4 _ (.tail _ (.head _))).1, rfl, _, rfl⟩ (by rw [hcl2]; lia) ?_
    rw [hcl2]
    k_steps
    unfold Held
    rename News g' _ _ _ => N5
    rename Fr g' _ _ _ => F5
    refine for_range (n := (cuts t).length - 1) (J := KR x tx news t) (by rfl) (by assumption) (by first | exact small_one (by lia) (by lia) (by lia) (by lia) | decide) (by rw [rangeSize_nat]; lia) F5 N5 ⟨_, _, [], _, _, _, _, rfl, fun q hq => ⟨Nat.ne_of_lt (ltN (allLt_out lt4.2 q hq)), hne q hq⟩, Nat.ne_of_gt lt4.1, fun q hq => hq, hcv2, ⟨rfl, fun i hi => absurd hi (Nat.not_lt_zero _)⟩, rfl, rfl, rfl⟩ ?turn2 ?done2
    case turn2 =>
      intro i tv m₁ nw h6 tk6 I oI hi hJ hI F9 N9
      obtain ⟨Ro, Cu, rvs, cvs, cR, cC, more, rfl, hmo, hrc, hsub, hcv, hrv, m1, m2, m3⟩ := hJ
      replace N9 : News g' L' h6 _ := N9
      replace F9 : Fr g' L' h6 _ := F9
      rw [← canon3 m1 m2 m3 (by decide +kernel) (by decide +kernel) (by decide +kernel), Int.zero_add] at F9
      have i1 : @Ne Nat Ro I := hI _ (.head _)
      have i2 : @Ne Nat Cu I := hI _ (.tail _ (.head _))
      have i5 : ∀ q ∈ more, q.1 ≠ I := fun q hq => hI q (.tail _ (.tail _ hq))
      generalize hW4 : PySem.Stmt.For (PySem.Expr.Name (Str.ofString "turn") _) _ _ _ _ = W4
      have hlc := hcv.1
      obtain ⟨hri, hle⟩ := cuts_rise h1
      k_steps
      unfold Held
      obtain ⟨ta, ea⟩ := hcv.2 i (by lia)
      refine item_list (x := .int ((cuts t).getD i 0) ta) ⟨_, (N9 _ (.tail _ (.tail _ (.head _)))).1, rfl, _, rfl⟩ (by lia) (by lia) (by rw [← ea]; exact Array.getElem?_eq_getElem _) ?_
      k_steps
      unfold Held
      obtain ⟨tb, eb⟩ := hcv.2 (i + 1) (by lia)
      refine item_list (x := .int ((cuts t).getD (i + 1) 0) tb) ⟨_, (N9 _ (.tail _ (.tail _ (.head _)))).1, rfl, _, rfl⟩ (by lia) (by lia) (by rw [← eb, show ((i : Int) + 1).toNat = i + 1 by lia]; exact Array.getElem?_eq_getElem _) ?_
      have hab : (cuts t).getD i 0 < (cuts t).getD (i + 1) 0 := by
        rw [List.getD_eq_getElem?_getD, List.getD_eq_getElem?_getD, List.getElem?_eq_getElem (show i < (cuts t).length by lia), List.getElem?_eq_getElem (show i + 1 < (cuts t).length by lia)]
        exact List.pairwise_iff_getElem.mp hri i (i + 1) (by lia) (by lia) (by lia)
      have hbn := hle _ (getD_mem' (show i + 1 < (cuts t).length by lia))
      have hfg := fact_get (t := t) (k := i) (by lia)
      generalize (cuts t).getD i 0 = ca at *
      generalize (cuts t).getD (i + 1) 0 = cb at *
      k_steps
      subst hW4
      rename Fr g' _ _ _ => F6
      rename News g' _ _ _ => N6
      have ew : Txt.slice x (some (ca : Int)) (some (cb : Int)) = txt ((factors t).getD i []) := by rw [hxt, slice_mid t (Nat.le_of_lt hab) hbn, hfg]
      rw [ew] at F6
      have hwl := fact_le t i
      have hwt := txt_len ((factors t).getD i [])
      have N7 : News g' L' _ ((Ro, listOf (List.toArray rvs) cR) :: (Cu, listOf (List.toArray cvs) cC) :: (I, oI) :: more) := fun q hq => N6 q (by
        simp only [List.mem_cons] at hq ⊢
        rcases hq with h | h | h | h <;> simp only [h, true_or, or_true])
      clear N6
      refine For_invVF (h₀ := g') F6 (by rfl) (by rfl) ?_
      k_steps
      unfold Held
      rename News g' _ _ _ => N8
      rename Fr g' _ _ _ => F8
      refine for_range (n := ((factors t).getD i []).length) (J := KT x tx news t i _ I oI Ro Cu cvs cC) (by rfl) (by assumption) (by first | exact small_one (by lia) (by lia) (by lia) (by lia) | decide) (by rw [rangeSize_nat]; lia) F8 N8 ⟨rvs, cR, more, rfl, fun q hq => ⟨(hmo q hq).1, (hmo q hq).2, i5 q hq⟩, hsub, hrv, rfl, rfl, rfl, rfl⟩ ?turn3 ?done3
      case turn3 =>
        intro j tj m₂ nw h7 tk7 I2 oI2 hj hJ hI2 F9 N9
        obtain ⟨rvs, cR, more, rfl, hmo, hsub, hrv, m1, m2, m3, m4⟩ := hJ
        replace N9 : News g' L' h7 _ := N9
        replace F9 : Fr g' L' h7 _ := F9
        rw [← canon5 m1 m2 m3 m4 (by decide +kernel) (by decide +kernel) (by decide +kernel) (by decide +kernel), Int.zero_add] at F9
        have j1 : @Ne Nat Ro I2 := hI2 _ (.head _)
        have j2 : @Ne Nat Cu I2 := hI2 _ (.tail _ (.head _))
        have j3 : @Ne Nat I I2 := hI2 _ (.tail _ (.tail _ (.head _)))
        have j5 : ∀ q ∈ more, q.1 ≠ I2 := fun q hq => hI2 q (.tail _ (.tail _ (.tail _ hq)))
        obtain ⟨k, hk⟩ : ∃ k : Int, k = (j : Int) := ⟨_, rfl⟩
        rw [← hk] at F9
        have hk0 : 0 ≤ k := by lia
        have hk1 : k < ((txt ((factors t).getD i [])).length : Int) := by lia
        generalize hW5 : PySem.Stmt.While _ _ _ _ = W5
        generalize hW6 : PySem.Stmt.Assign [PySem.Expr.Name (Str.ofString "endless") _] _ _ = W6
        k_steps
        subst hW6
        rename Fr g' _ _ _ => Fa
        rename News g' _ _ _ => Na
        have er : Txt.slice (txt ((factors t).getD i [])) (some k) none ++ Txt.slice (txt ((factors t).getD i [])) none (some k) = txt (rot ((factors t).getD i []) j) := by
          rw [hk, slice_from _ (by lia), slice_to _ (by lia), txt_add]
          rfl
        rw [er] at Fa
        have hrl : (rot ((factors t).getD i []) j).length = ((factors t).getD i []).length := by unfold rot; rw [List.length_append, List.length_drop, List.length_take]; lia
        generalize hrow : rot ((factors t).getD i []) j = row at *
        have hm1 : t.length * row.length ≤ 3600 := Nat.le_trans (Nat.mul_le_mul h8 (show row.length ≤ 60 by lia)) (by decide)
        k_steps
        unfold Held
        rw [hx]
        refine mul_words (by lia) (by lia) ?_
        intro ta2 ka2
        k_steps
        unfold Held
        refine mul_words (n := 2) (by rw [rep_flat_len]; lia) (by lia) ?_
        intro tb2 kb2
        k_steps
        unfold Held
        refine slice_strN_ns_len Fa Na ?_ (by with_unfolding_all rfl) (by intro _; with_unfolding_all rfl) (by rw [txt_len, rep_flat_len, rep_flat_len, PySem.sizeLine_eq]; lia)
        intro hs1 ts1 ks1 Fs Ns _
        have ee : Txt.slice (txt (List.replicate 2 (List.replicate t.length row).flatten).flatten) none (some ((x.length : Int) * 2)) = txt (endl (t.length * 2) row) := by
          rw [hx, show (t.length : Int) * 2 = ((t.length * 2 : Nat) : Int) by lia, slice_to _ (by rw [rep_flat_len, rep_flat_len]; have : t.length * 1 ≤ t.length * row.length := Nat.mul_le_mul_left _ (by lia); lia), endl_eq]
        rw [ee]
        k_steps
        unfold Held
        rename Fr g' _ _ _ => Fb
        rename News g' _ _ _ => Nb
        have hrn := hrv.1
        have hub := rowsUp_len t i (by rw [fact_len]; lia)
        have huc := rowsIn_len t i j
        have hud : i * t.length ≤ 3600 := Nat.le_trans (Nat.mul_le_mul (show i ≤ 60 by lia) h8) (by decide)
        generalize hrows : rowsIn t i j = rows at *
        refine len_list ⟨_, (Nb _ (.tail _ (.head _))).1, rfl, _, rfl⟩ (by rw [List.size_toArray, hrn]; lia) ?_
        rw [List.size_toArray, hrn]
        k_steps
        subst hW5
        rename Fr g' _ _ _ => Fc
        rename News g' _ _ _ => Nc
        refine wpAny_mono (Q := fun fl s' => fl = .next ∧ kwOf Fc Nc s (endl (t.length * 2) row) rows (spotGo rows (endl (t.length * 2) row) rows.length) s') ?wh ?rest (fun _ _ e => e)
        case wh =>
          refine while_by (kwOf Fc Nc s (endl (t.length * 2) row) rows) ?_ rows.length ⟨_, _, _, rfl, Fc, Nc, Nat.le_refl _, rfl⟩ ?_
          · passes_own
          · intro R n s₁ ih hI
            obtain ⟨h8', tk8, tsp, rfl, F8, N8, hn8, hsp⟩ := hI
            dsimp only at F8
            rename Fr g' L' _ _ => F88
            cases n with
            | zero =>
              k_steps
              rw [show spotGo rows (endl (t.length * 2) row) rows.length = 0 from hsp]
              exact ⟨h8', _, tsp, rfl, F88, N8, Nat.zero_le _, hsp⟩
            | succ n =>
              k_steps
              unfold Held
              obtain ⟨aR, t1R, t2R, eR, mR⟩ := hrv.2 n (by lia)
              refine item_list (x := .ref aR) ⟨_, (N8 _ (.tail _ (.head _))).1, rfl, _, rfl⟩ (by lia) (by lia) (by rw [show (((n + 1 : Nat) : Int) - 1).toNat = n by lia, ← eR]; simp [List.getD, show n < rvs.length by lia]) ?_
              k_steps
              unfold Held
              refine pair_fst N8 (.tail _ (.tail _ (.tail _ (.tail _ mR)))) ?_
              k_steps
              unfold Held
              rename Below _ _ _ g' => B2
              rename Frag.In _ g' => X2
              rename Top _ _ _ _ _ g' => T2
              refine useA rfl rfl rfl (Nat.le_of_ble_eq_true rfl) (Nat.le_of_ble_eq_true rfl) (strcoll_r w mean mg mb _ _ _ _ _ _ _ _ _ _ _ _ _ _ _ _ _ _ _ _ _ _ B2 F88 X2 N8 T2 ?_)
              intro r tr h10 tk10 hr1 hr2 F10 N10
              by_cases hlt : lexLt (endl (t.length * 2) row) (rows.getD n ([], 0)).1 = true
              · have hr3 : 0 < r := hr2.mpr hlt
                have hs2 : spotGo rows (endl (t.length * 2) row) rows.length = spotGo rows (endl (t.length * 2) row) n := by rw [hsp]; conv => lhs; unfold spotGo; rw [if_pos hlt]
                k_steps
                rename Fr g' L' _ _ => Fz
                rw [twice, show (((n + 1 : Nat) : Int) - 1) = (n : Int) by lia] at Fz
                rename News g' L' _ _ => Nz
                exact ih n _ (Nat.lt_succ_self n) ⟨_, _, _, rfl, Fz, Nz, by lia, hs2⟩
              · have hr3 : ¬ 0 < r := fun q => hlt (hr2.mp q)
                have hs2 : spotGo rows (endl (t.length * 2) row) (n + 1) = n + 1 := by unfold spotGo; rw [if_neg hlt]
                k_steps
                rw [show spotGo rows (endl (t.length * 2) row) rows.length = n + 1 from hsp.trans hs2]
                exact ⟨_, _, _, rfl, F10, N10, hn8, hsp⟩
        case rest =>
          intro fl s' hq
          obtain ⟨rfl, h8', tk8, tsp, rfl, F8, N8, hn8, hsp⟩ := hq
          clear hsp
          generalize hspot : spotGo rows (endl (t.length * 2) row) rows.length = spot at *
          clear Fc Nc
          replace F8 : Fr g' L' h8' (fun y => _) := F8
          dsimp only at F8
          k_steps
          unfold Held
          refine item_str (by decide) (by rw [txt_len]; lia) (by rw [txt_len]; lia) ?_
          intro tl
          rw [item_last row (by lia)]
          k_steps
          unfold Held
          rename News g' _ _ _ => Nd
          rename Fr g' _ _ _ => Fd
          rename _ ∧ _ ∧ _ ∧ _ ∧ AllLt _ _ => ltd
          have hmr : ∀ q ∈ more, q.1 ≠ Ro := fun q hq => (hmo q hq).1
          refine' kl_insert (its := List.toArray rvs) (n := cR) Fd Nd (fits_nat (by lia)) (ins_at rvs spot _ (by lia)) ?U (by show rvs.length ≤ _; rw [PySem.sizeLine_eq]; lia) ?_
          case U => k_upd
          intro h9 F9 N9
          k_steps
          refine kt_turn F9 N9 ltd hmo j1 j2 j3 j5 hsub hrv hn8 ?_ rfl rfl rfl rfl
          rw [rowsIn_succ t i j hj, hrows, hrow]
          show rows.take (spotGo rows (endl (t.length * 2) row) rows.length) ++ _ = _
          rw [hspot]
      case done3 =>
        intro h10 tk10 m10 nw10 F10 N10 hJ
        obtain ⟨rvs, cR, more, rfl, hmo, hsub, hrv, m1, m2, m3, m4⟩ := hJ
        rw [← rowsUp_succ t i (by rw [fact_len]; lia)] at hrv
        k_steps
        exact kr_turn F10 N10 hmo i1 i2 hrc hsub hcv hrv m1 m2 m3
    case done2 =>
      intro h6 tk6 m6 nw6 F6 N6 hJ
      obtain ⟨Ro, Cu, rvs, cvs, cR, cC, more, rfl, hmo, hrc, hsub, hcv, hrv, m1, m2, m3⟩ := hJ
      rw [← fact_len] at hrv
      rw [← canon1 m3] at F6
      replace F6 : Fr g' L' h6 _ := F6
      replace N6 : News g' L' h6 _ := N6
      subst hW3
      k_steps
      unfold Held
      have hrl := hrv.1
      have hfl := fact_len t
      have hub := rowsUp_len t (factors t).length (Nat.le_refl _)
      have hud : (factors t).length * t.length ≤ 3600 := Nat.le_trans (Nat.mul_le_mul (show (factors t).length ≤ 60 by lia) h8) (by decide)
      have hba := rowsUp_all t
      generalize hrows : rowsUp t (factors t).length = rows at *
      refine LCp.SrcLP.ledger (its := List.toArray rvs) rfl F6 N6 (.head _) (by rw [List.size_toArray, PySem.sizeLine_eq]; lia) ?_
      intro g9
      refine comp_ownP (Inv := WS _ (rows.map fun r => [r.2])) ?fin9 ?turn9 ⟨rfl, .nil⟩
      case turn9 =>
        intro i v ys nw hi hv hI
        obtain ⟨rfl, hys⟩ := hI
        rw [List.size_toArray] at hi
        obtain ⟨aR, t1, t2, eR, mR⟩ := hrv.2 i (by lia)
        refine ⟨aR, _, _, _, _, ?_, .tail _ (.tail _ mR), rfl, rfl, ?_⟩
        · rw [← eR]; simpa [List.getD] using (congrArg (·.getD .none) hv).symm
        · intro I oI C oC D m₂ h tk E' hC hx1 hx2 F N off ne
          k_steps
          unfold Held
          refine LCg.CompEnd.intro F N _ (fun p hp => hp) off (.inr ⟨_, .head _, rfl, _, rfl⟩) ⟨rfl, ?_⟩
          rw [take_snoc _ i (by rw [List.length_map]; lia), rows_getD (by lia)]
          exact strs_snoc hys
      case fin9 =>
        intro ys nw hI
        obtain ⟨rfl, hys⟩ := hI
        rw [List.take_of_length_le (by rw [List.length_map, List.size_toArray]; lia)] at hys
        k_steps
        unfold Held
        rename News g' _ _ _ => N8
        rename Fr g' _ _ _ => F8
        refine join_words (ws := rows.map fun r => [r.2]) ⟨_, (N8 _ (.head _)).1, rfl, _, rfl⟩ hys (by rw [rows_flat, List.length_map]; lia) ?_
        rw [rows_flat, hba]
        intro t9 k9
        k_steps
        rename News h₀ _ _ _ => kN
        exact hret _ _ _ (by assumption) fun q hq => kN q (.tail _ (.tail _ (.tail _ (hsub q hq))))
end
end

section
open PySem PySem.W PyProof.Rows PySem.Calls
set_option Elab.async false
set_option compiler.extract_closed false
set_option maxRecDepth 100000
set_option maxHeartbeats 8000000
set_option pp.maxSteps 40000
set_option pp.fieldNotation.generalized false
local macro_rules | `(tactic| walk_at "call ref") => `(tactic| (k_here; (with_reducible first | refine atRef 771 ?_ | refine atRef 759 ?_ | refine atRef 751 ?_); refine held ?_))
local macro_rules | `(tactic| walk_at $k:str) => if ["CompEnd", "CompSrc", "call builtin:str.join"].contains k.getString then `(tactic| (k_here; refine held ?_)) else Lean.Macro.throwUnsupported
local macro_rules | `(tactic| walk_at "eval ListComp") => `(tactic| (k_here; k_dflt (refine LCg.ListComp_U (F₀ := by k_asm) (by first | rfl | with_unfolding_all rfl) (by decide) (by rfl) (by decide) (by rfl) ?_)))
theorem words_ne {t : List Nat} (h : 1 ≤ t.length) : ∀ x ∈ wordsOf t, x ≠ [] := by
  obtain ⟨cs, h1, _, h3, _⟩ := words_rings t
  intro x hx
  rw [← h1] at hx
  obtain ⟨c, hc, rfl⟩ := List.mem_map.mp hx
  exact (h3 c hc).2.1
theorem words_pos {t : List Nat} (h : 1 ≤ t.length) : wordsOf t ≠ [] := by
  intro e
  have := there_length t
  unfold there at this
  rw [e] at this
  simp at this
  lia
theorem quo_sum : ∀ ws : List (List Nat), (∀ x ∈ ws, x ≠ []) → (ws.map quo).flatten.length ≤ 7 * ws.flatten.length
  | [], _ => by simp
  | a :: r, h => by
    have h1 := quo_sum r fun x hx => h x (.tail _ hx)
    have h2 := quo_len a
    have h3 : 1 ≤ a.length := List.length_pos_iff.mpr (h a (.head _))
    simp only [List.map_cons, List.flatten_cons, List.length_append]
    lia
theorem quo_getD {ws : List (List Nat)} {i : Nat} (hi : i < ws.length) : (ws.map quo).getD i [] = quo (ws.getD i []) := by simp [List.getD, hi]
section
variable (w : World) (mean : ExcName → Option Value) (mg mb : Str → Option Value)
theorem there_c (news : List (Addr × Obj)) (t : List Nat) (x : Str) (tx : Tok) (hxt : x = txt t) (hx : x.length = t.length) (h1 : 1 ≤ t.length) (h8 : t.length ≤ 60) (hc : ∀ c ∈ t, c < 1114112) :
    ∀ (cn : Str) (ns : List (Str × NameKind)) (ig ic : Bool) (mo : List (Str × Const)) (a : Addr) (ccd : Value) (cl : List (Str × Addr)) (outer : List Env) (A₀ : Around) (h₀ : Heap) (L : Addr) (m : Str → Option Value) (s : Shared) (Q E : Value → Shared → Prop),
    Below A₀ h₀ outer h₀ → Fr h₀ L s.heap m → (hd.heap_1 w.params).In h₀ → News h₀ L s.heap news → Top hd.view_1 (looseW hd.view_1 loose) mean mg mb h₀ →
    (∀ (D : Addr) (t' : Tok) (c : Nat) (h' : Heap) (tk' : Nat), Fr h₀ L h' m → News h₀ L h' ((D, listOf #[.str (txt (there t)) t'] c) :: news) → Q (.ref D) { s with heap := h', toks := tk' }) →
    wpAny (model PySem.Challenge.rw_nq0198_01.row.prog w) (ktrTop 400 (400 * 10) (some []) cn (fsc ns ig ic mo) L a ccd cl outer) (call (.ref 776) [.str x tx]) Q E s := by
  k_fill
  intro cn ns ig ic mo a ccd cl outer A₀ h₀ L m s Q E B F X N T hret
  w_on
  refine wpAny_call ?_
  k_dflt (refine' code_defW ?k1 ?k2 ?k3 ?k4 ?k5 ?kA ?kF ?kK ?k6 ?k7 ?k8 ?k9 ?kB ?_ ?c2 ?c3 ?c4 ?c5; (case kA => exact rfl); (case kF => exact rfl); (case kK => first | exact rfl | assumption); (case k1 => k_asm); (case k2 => k_asm); (case k3 => k_asm); (case k4 => k_asm); (case k5 => k_asm); (case k6 => k_is); (case k7 => k_is); (case k8 => k_room); (case k9 => first | exact BindsTo.of_eq rfl | exact binds_K (by k_in) rfl (by k_is) rfl rfl rfl); (case c5 => decide); (case kB => exact locs rfl); (case c2 => exact rfl); (case c3 => exact rfl); (case c4 => exact rfl); k_whole; intro g' L' h' FG' F' N' B' X' T'; (try dsimp only); (try k_lift B'); (try k_fold))
  k_steps
  unfold Held
  rename Below _ _ _ g' => B2
  rename Frag.In _ g' => X2
  rename Top _ _ _ _ _ g' => T2
  rename Fr g' _ _ _ => F2
  rename News g' _ _ _ => N2
  refine useA rfl rfl rfl (Nat.le_of_ble_eq_true rfl) (Nat.le_of_ble_eq_true rfl) (words_c w mean mg mb news t x tx hxt hx h1 h8 hc _ _ _ _ _ _ _ _ _ _ _ _ _ _ _ _ _ B2 F2 X2 N2 T2 ?_)
  intro D3 c3 ys3 h3 tk3 F3 N3 ne3 hys3
  have hl3 : ys3.length = (wordsOf t).length := by have := StrsAre.length hys3; rw [List.length_map] at this; exact this
  have hwz : (wordsOf t).length ≤ t.length := by unfold wordsOf; rw [List.length_reverse, List.length_mergeSort]; exact raw_len t
  k_steps
  unfold Held
  refine LCg.CompSrc.ledger (its := List.toArray ys3) rfl F3 N3 (.head _) (by rw [List.size_toArray, PySem.sizeLine_eq]; lia) ?_
  intro g4
  refine comp_own (Inv := WS _ ((wordsOf t).map quo)) ?fin4 ?turn4 ⟨rfl, .nil⟩
  case turn4 =>
    intro i v I oI C oC D m₂ ys nw h tk E' hi hv hI hC hm F N off ne
    obtain ⟨rfl, hys⟩ := hI
    rw [List.size_toArray, hl3] at hi
    obtain ⟨tv, ev⟩ := StrsAre.get hys3 i (txt ((wordsOf t).getD i [])) (by rw [List.getElem?_map, List.getElem?_eq_getElem hi, List.getD_eq_getElem?_getD, List.getElem?_eq_getElem hi]; rfl)
    obtain rfl : v = .str (txt ((wordsOf t).getD i [])) tv := by
      have hv' : ys3[i]? = some v := by simpa using hv
      rw [ev] at hv'
      injection hv' with hv'
      exact hv'.symm
    k_steps
    unfold Held
    refine useA rfl rfl rfl (Nat.le_of_ble_eq_true rfl) (Nat.le_of_ble_eq_true rfl) (quote_w w mean mg mb _ _ _ (by have := word_len t i; lia) (words_ne h1 _ (getD_mem hi)) _ _ _ _ _ _ _ _ _ _ _ _ _ _ _ _ _ B2 F X2 N T2 ?_)
    intro t5 h5 tk5 F5 N5
    k_steps
    unfold Held
    refine LCg.CompEnd.intro F5 N5 _ (fun p hp => hp) off (.inr ⟨_, .head _, rfl, _, rfl⟩) ⟨rfl, ?_⟩
    rw [take_snoc _ i (by rw [List.length_map]; exact hi), quo_getD hi]
    exact strs_snoc hys
  case fin4 =>
    intro ys nw hI
    obtain ⟨rfl, hys⟩ := hI
    rw [List.take_of_length_le (by rw [List.length_map, List.size_toArray]; lia)] at hys
    k_steps
    unfold Held
    rename News g' _ _ _ => N8
    rename Fr g' _ _ _ => F8
    have hqs := quo_sum (wordsOf t) (words_ne h1)
    rw [show (wordsOf t).flatten.length = t.length from there_length t] at hqs
    refine join_words (ws := (wordsOf t).map quo) ⟨_, (N8 _ (.head _)).1, rfl, _, rfl⟩ hys (by lia) ?_
    intro t9 k9
    k_steps
    unfold Held
    have hR : LexR (Str.ofString " ") (Str.ofString "") (txt (List.map quo (wordsOf t)).flatten).cps.toList (txt (there t)) := by
      rw [txt_cps, ← List.flatMap_def]
      unfold there
      have wp := words_pos h1
      have wn := words_ne h1
      generalize wordsOf t = ws at wp wn
      cases ws with
      | nil => exact absurd rfl wp
      | cons a r => exact lex_all a r (wn a (.head _))
    refine useA rfl rfl rfl (Nat.le_of_ble_eq_true rfl) (Nat.le_of_ble_eq_true rfl) (split_c w mean mg mb _ _ _ _ (by rw [txt_len]; lia) hR _ _ _ _ _ _ _ _ _ _ _ _ _ _ _ _ _ B2 F8 X2 N8 T2 ?_)
    intro D9 t10 c9 h9 tk9 hb hu hq hD hg
    refine hret D9 t10 c9 h9 tk9 (Fr.of_stays FG' hb hu) ?_
    intro q hq9
    rcases List.mem_cons.mp hq9 with e | hq9
    · rw [e]
      refine ⟨hD, fun e2 => ?_, ?_⟩
      · obtain ⟨o, _, _, ho, _⟩ := FG'.ns
        rw [show D9 = L from e2, ho] at hg
        cases hg
      · cases e3 : h₀.get? D9 with
        | none => rfl
        | some o =>
          rw [FG'.keep _ _ e3] at hg
          cases hg
    · exact ⟨hq q (.tail _ (.tail _ hq9)), (N q hq9).2⟩
end
end

section
open PySem PySem.W PyProof.Rows PySem.Calls
set_option Elab.async false
/-- == of two lists of one text, the same -/
theorem eq_one {prog : Program} {w : World} {A : Around} {E : Value → Shared → Prop} {s : Shared} {a b : Addr} {x : Str} {t u : Tok} {c c' : Nat} {Q : Value → Shared → Prop} (ha : s.heap.get? a = some (listOf #[.str x t] c)) (hb : s.heap.get? b = some (listOf #[.str x u] c')) (hu : A.units + 64 < cLine)
    (h : Q (.bool true) s) : wpAny (model prog w) A (compareOp .Eq (.ref a) (.ref b)) Q E s := by
  refine PySem.SeqAt.eq_listAt (items := #[.str x t]) (items2 := #[.str x u]) (e := fun _ => true) ⟨_, ha, rfl, _, rfl⟩ ⟨_, hb, rfl, _, rfl⟩ rfl (by omega) ?_ h
  intro j h1 h2
  obtain rfl : j = 0 := by simp at h1; omega
  have e := (eqGives_str x x t u).at A.in1 s
  rw [beq_self_eq_true] at e
  exact e
theorem there_mem' (u : List Nat) : ∀ x ∈ u, x ∈ there u := by
  obtain ⟨cs, h1, h2, _, _⟩ := words_rings u
  intro x hx
  obtain ⟨j, hj, rfl⟩ := List.mem_iff_getElem.mp hx
  have m1 : (u[j], j) ∈ pairsOf u := by
    refine (pairsOf_perm u).mem_iff.mpr ?_
    unfold pairsRaw
    refine List.mem_map.mpr ⟨j, List.mem_range.mpr hj, ?_⟩
    rw [List.getD_eq_getElem?_getD, List.getElem?_eq_getElem hj]
    rfl
  obtain ⟨i, hi, ei⟩ := List.mem_iff_getElem.mp m1
  unfold there
  rw [← h1, ← List.map_flatten]
  refine List.mem_map.mpr ⟨i, h2.mem_iff.mpr (List.mem_range.mpr (by rw [← pairsOf_length]; exact hi)), ?_⟩
  unfold fAt
  rw [List.getD_eq_getElem?_getD, List.getElem?_eq_getElem hi, ei]
  rfl
theorem back_length {t : List Nat} (h : t ≠ []) : (back t).length = t.length := by
  have e := there_length (back t)
  rw [there_back h] at e
  exact e.symm
theorem back_mem {t : List Nat} (h : t ≠ []) : ∀ x ∈ back t, x ∈ t := by
  intro x hx
  have := there_mem' (back t) x hx
  rw [there_back h] at this
  exact this
end

section
open PySem PySem.W PyProof.Rows PySem.Calls
set_option Elab.async false
set_option compiler.extract_closed false
set_option maxRecDepth 100000
set_option maxHeartbeats 0
set_option pp.maxSteps 40000
set_option pp.fieldNotation.generalized false
local macro_rules | `(tactic| walk_at "call ref") => `(tactic| (k_here; (with_reducible first | refine atRef 766 ?_ | refine atRef 776 ?_ | refine atRef 781 ?_); refine held ?_))
local macro_rules | `(tactic| walk_at $k:str) => if ["CompEnd", "CompSrc", "call builtin:str.join", "compareOp NotEq str str", "compareOp Eq ref ref", "subscriptTail Name Slice ref ref"].contains k.getString then `(tactic| (k_here; refine held ?_)) else Lean.Macro.throwUnsupported
local macro_rules | `(tactic| walk_at "eval ListComp") => `(tactic| (k_here; k_dflt (refine LCg.ListComp_U (F₀ := by k_asm) (by first | rfl | with_unfolding_all rfl) (by decide) (by rfl) (by decide) (by rfl) ?_)))
local macro_rules | `(tactic| walk_at "pad") => `(tactic| skip)
/-- behind the first statement: some ints, eight at most -/
noncomputable def Nums (s₁ : Shared) (L : Addr) (m : Str → Option Value) (s' : Shared) : Prop :=
  ∃ (h : Heap) (tk : Nat) (D : Addr) (vs : List Value) (c : Nat) (ns : List Int), s' = { s₁ with heap := h, toks := tk } ∧ Fr s₁.heap L h (fun y => if y = Str.ofString "numbers" then some (.ref D) else m y) ∧ News s₁.heap L h [(D, listOf (List.toArray vs) c)] ∧ IntsAre vs ns ∧ 1 ≤ ns.length ∧ ns.length ≤ 8
noncomputable abbrev numsOf {s₁ : Shared} {L : Addr} {h : Heap} {m : Str → Option Value} (_ : Fr s₁.heap L h m) (s' : Shared) : Prop := Nums s₁ L m s'
/-- names that the head would take for twins of its own constants: taken here, it makes none (they are 230 MB) -/
theorem T0.tw14008396707768009497 : True := trivial
theorem T0.tw357486453476387696 : True := trivial
theorem T0.tw13629463115451142424 : True := trivial
theorem T0.tw16057832990085553152 : True := trivial
theorem T0.tw17092192154884549632 : True := trivial
theorem T0.tw5716916705985816576 : True := trivial
theorem T0.tw18444100579088839776 : True := trivial
theorem T0.tw16819470550066578528 : True := trivial
theorem T0.tw3710298889253970016 : True := trivial
theorem T0.tw949519517922468992 : True := trivial
theorem T0.tw10328528372953512192 : True := trivial
theorem T0.tw4306855012518868256 : True := trivial
theorem T0.tw7563538505892326688 : True := trivial
theorem T0.tw19885572165978432 : True := trivial
theorem T0.tw11140399062500405568 : True := trivial
theorem T0.tw5424503839398990176 : True := trivial
theorem T0.tw8447339749282064736 : True := trivial
theorem T0.tw6153511502478936448 : True := trivial
theorem T0.tw10800321368019148224 : True := trivial
theorem T0.tw12562656129476639296 : True := trivial
theorem T0.tw577313716938868320 : True := trivial
theorem T0.tw12529948493335649888 : True := trivial
theorem T0.tw12391358851723114144 : True := trivial
theorem T0.tw9834870975360458432 : True := trivial
theorem T0.tw7597507378320052960 : True := trivial
theorem T0.tw8781551798186557152 : True := trivial
theorem T0.tw3387736503861135072 : True := trivial
theorem T0.tw7257500587831418592 : True := trivial
theorem T0.tw15848194285278869248 : True := trivial
theorem T0.tw8697742304235802400 : True := trivial
theorem T0.tw7987122762049910560 : True := trivial
theorem T0.tw9760842627685977920 : True := trivial
theorem T0.tw281759186316167008 : True := trivial
theorem T0.tw12704696066497687392 : True := trivial
theorem T0.tw6168937774715457408 : True := trivial
theorem T0.tw16772336747387816896 : True := trivial
theorem T0.tw1577957812128402368 : True := trivial
theorem T0.tw7528287615305423840 : True := trivial
theorem T0.tw895341432045898785 : True := trivial
theorem T0.tw10992886390843603041 : True := trivial
theorem T0.tw15882752500013942913 : True := trivial
theorem T0.tw1179270756536861857 : True := trivial
theorem T0.tw9148511231476511937 : True := trivial
theorem T0.tw12710998163313905857 : True := trivial
theorem T0.tw1253307140059531521 : True := trivial
theorem T0.tw13199106553337585953 : True := trivial
theorem T0.tw6655292782586977569 : True := trivial
theorem T0.tw9808451736611432769 : True := trivial
theorem T0.tw17109032952285874593 : True := trivial
theorem T0.tw11579926696553976289 : True := trivial
theorem T0.tw4328917971731981793 : True := trivial
theorem T0.tw8409015657035225569 : True := trivial
theorem T0.tw15232092056632692225 : True := trivial
theorem T0.tw763616712100657665 : True := trivial
theorem T0.tw11286955272512303617 : True := trivial
theorem T0.tw975802800703709729 : True := trivial
theorem T0.tw4275099830712344257 : True := trivial
theorem T0.tw8246967274369058529 : True := trivial
theorem T0.tw1458799197762907905 : True := trivial
theorem T0.tw13516861754031183617 : True := trivial
theorem T0.tw61392329937764097 : True := trivial
theorem T0.tw16753178843488194337 : True := trivial
theorem T0.tw1908885248589900641 : True := trivial
theorem T0.tw15161579741119515521 : True := trivial
theorem T0.tw2455738749420280737 : True := trivial
theorem T0.tw12360195157725582305 : True := trivial
theorem T0.tw15290776722520862754 : True := trivial
theorem T0.tw3449455624292048962 : True := trivial
theorem T0.tw8898104409305393218 : True := trivial
theorem T0.tw1787928306822454370 : True := trivial
theorem T0.tw8691004263919498370 : True := trivial
theorem T0.tw7997326439013774466 : True := trivial
theorem T0.tw7470717559239556258 : True := trivial
theorem T0.tw3169220713235091650 : True := trivial
theorem T0.tw1163226585446753474 : True := trivial
theorem T0.tw829591541877475554 : True := trivial
theorem T0.tw1961735824458681570 : True := trivial
theorem T0.tw9244405986252133602 : True := trivial
theorem T0.tw10620251486761949410 : True := trivial
theorem T0.tw2836549941234966754 : True := trivial
theorem T0.tw18424851827912254722 : True := trivial
theorem T0.tw6651592663979662658 : True := trivial
theorem T0.tw9614337660617741634 : True := trivial
theorem T0.tw5687771224037707106 : True := trivial
theorem T0.tw15677338532078045634 : True := trivial
theorem T0.tw11556016221151323586 : True := trivial
theorem T0.tw12064947757233016290 : True := trivial
theorem T0.tw16583130537579858402 : True := trivial
theorem T0.tw6235144295479974498 : True := trivial
theorem T0.tw8866147628412193378 : True := trivial
theorem T0.tw13469291552904349314 : True := trivial
theorem T0.tw16537572148033336002 : True := trivial
theorem T0.tw14744832292777890530 : True := trivial
theorem T0.tw11616785588811390690 : True := trivial
theorem T0.tw5495154403753132802 : True := trivial
theorem T0.tw18246788936971899650 : True := trivial
theorem T0.tw4219341182486400802 : True := trivial
theorem T0.tw16701848074592722754 : True := trivial
theorem T0.tw4307002137169059682 : True := trivial
theorem T0.tw16109411297361418146 : True := trivial
theorem T0.tw8611393911412726722 : True := trivial
theorem T0.tw15703050611658836962 : True := trivial
theorem T0.tw13412308509293376547 : True := trivial
theorem T0.tw13269994424581658691 : True := trivial
theorem T0.tw2815833847395017795 : True := trivial
theorem T0.tw6065673700485549187 : True := trivial
theorem T0.tw9938285879642465443 : True := trivial
theorem T0.tw14662133169794601123 : True := trivial
theorem T0.tw8752528264139295939 : True := trivial
theorem T0.tw15711078085191653571 : True := trivial
theorem T0.tw12843943920558660803 : True := trivial
theorem T0.tw7371634274061030627 : True := trivial
theorem T0.tw485512880192938275 : True := trivial
theorem T0.tw12227822409423371587 : True := trivial
theorem T0.tw9713835649704273283 : True := trivial
theorem T0.tw13319116230643300771 : True := trivial
theorem T0.tw2314722671660517795 : True := trivial
theorem T0.tw12050907089383251363 : True := trivial
theorem T0.tw662711047601524163 : True := trivial
theorem T0.tw5794405193543174595 : True := trivial
theorem T0.tw1359010099191084483 : True := trivial
theorem T0.tw498330506959815139 : True := trivial
theorem T0.tw9430744540079207971 : True := trivial
theorem T0.tw17633857471051899459 : True := trivial
theorem T0.tw1731420650360782435 : True := trivial
theorem T0.tw5176331171716515459 : True := trivial
theorem T0.tw5794100711430184579 : True := trivial
theorem T0.tw11689760790076071651 : True := trivial
theorem T0.tw11648536117604401891 : True := trivial
theorem T0.tw11048802861500589795 : True := trivial
theorem T0.tw6665676782681193187 : True := trivial
theorem T0.tw11717838899264860931 : True := trivial
theorem T0.tw2710773487114096419 : True := trivial
theorem T0.tw14209835051204589347 : True := trivial
theorem T0.tw13043293284103848771 : True := trivial
theorem T0.tw7752646041885406051 : True := trivial
theorem T0.tw11503600432519725955 : True := trivial
theorem T0.tw11142941253639394243 : True := trivial
theorem T0.tw6652339361450784707 : True := trivial
theorem T0.tw7947975674250459107 : True := trivial
theorem T0.tw14035037618378647556 : True := trivial
theorem T0.tw6921427015319945252 : True := trivial
theorem T0.tw16552520057238018084 : True := trivial
theorem T0.tw3713959359421539364 : True := trivial
theorem T0.tw2982780230285713476 : True := trivial
theorem T0.tw2916991257065977924 : True := trivial
theorem T0.tw9732187644414602340 : True := trivial
theorem T0.tw15349267991765975172 : True := trivial
theorem T0.tw10552668766279013540 : True := trivial
theorem T0.tw6635869612399074468 : True := trivial
theorem T0.tw12781040905149266084 : True := trivial
theorem T0.tw6905668179318423716 : True := trivial
theorem T0.tw3384711721139737796 : True := trivial
theorem T0.tw14208665521414821156 : True := trivial
theorem T0.tw6196166820104442180 : True := trivial
theorem T0.tw10330577955230603588 : True := trivial
theorem T0.tw2242219715209323844 : True := trivial
theorem T0.tw15357706151700502884 : True := trivial
theorem T0.tw5524479282264792420 : True := trivial
theorem T0.tw14825304846262681988 : True := trivial
theorem T0.tw6909188814406136228 : True := trivial
theorem T0.tw4073686629878108612 : True := trivial
theorem T0.tw6141001462651430340 : True := trivial
theorem T0.tw15438533105653800388 : True := trivial
theorem T0.tw9366601425466770916 : True := trivial
theorem T0.tw9777207452243047972 : True := trivial
theorem T0.tw12622378219128504868 : True := trivial
theorem T0.tw227028583556439812 : True := trivial
theorem T0.tw3393787451471239972 : True := trivial
theorem T0.tw6875838963777391428 : True := trivial
theorem T0.tw14615938786166246308 : True := trivial
theorem T0.tw12712794667239019428 : True := trivial
theorem T0.tw6906556443802885028 : True := trivial
theorem T0.tw16793883671048318884 : True := trivial
theorem T0.tw10946212976606447556 : True := trivial
theorem T0.tw2114392785588332484 : True := trivial
theorem T0.tw10678525132806310852 : True := trivial
theorem T0.tw4065819240654657476 : True := trivial
theorem T0.tw7676382096556030981 : True := trivial
theorem T0.tw7544903300760701989 : True := trivial
theorem T0.tw2649812853481127973 : True := trivial
theorem T0.tw8520946899775422533 : True := trivial
theorem T0.tw8580884568859510853 : True := trivial
theorem T0.tw1894591245471269957 : True := trivial
theorem T0.tw16018502358443235429 : True := trivial
theorem T0.tw15274439940515087461 : True := trivial
theorem T0.tw13327688396033988741 : True := trivial
theorem T0.tw10616080623127543973 : True := trivial
theorem T0.tw12016312682274923749 : True := trivial
theorem T0.tw14426291239349495013 : True := trivial
theorem T0.tw6175761181414006021 : True := trivial
theorem T0.tw16244143585446326533 : True := trivial
theorem T0.tw17803394544209477925 : True := trivial
theorem T0.tw5485320230923779397 : True := trivial
theorem T0.tw8636281931242903909 : True := trivial
theorem T0.tw12802257021166364005 : True := trivial
theorem T0.tw12063265061259965797 : True := trivial
theorem T0.tw2312141806307544453 : True := trivial
theorem T0.tw14092312210618695045 : True := trivial
theorem T0.tw2470845197125345669 : True := trivial
theorem T0.tw7639558863463944613 : True := trivial
theorem T0.tw17208808707695516101 : True := trivial
theorem T0.tw13059707637908668901 : True := trivial
theorem T0.tw11964675953663908325 : True := trivial
theorem T0.tw7277085682328663557 : True := trivial
theorem T0.tw1770992350547057189 : True := trivial
theorem T0.tw8183284436682159685 : True := trivial
theorem T0.tw5219142080890356293 : True := trivial
theorem T0.tw18276803622099444293 : True := trivial
theorem T0.tw10358929813893760613 : True := trivial
theorem T0.tw11967588245377990277 : True := trivial
theorem T0.tw16536830529892115077 : True := trivial
theorem T0.tw8860668933043182245 : True := trivial
theorem T0.tw1011061034184867493 : True := trivial
theorem T0.tw6747936437527845637 : True := trivial
theorem T0.tw11997924782973495045 : True := trivial
theorem T0.tw8872378491373696773 : True := trivial
theorem T0.tw9572981871289624325 : True := trivial
theorem T0.tw16502398958129200933 : True := trivial
theorem T0.tw14814946126798380901 : True := trivial
theorem T0.tw6109989540648416133 : True := trivial
theorem T0.tw3367940634996787109 : True := trivial
theorem T0.tw10395280917810654149 : True := trivial
theorem T0.tw8306177251580974053 : True := trivial
theorem T0.tw5501922018002802661 : True := trivial
theorem T0.tw4610455212045477861 : True := trivial
theorem T0.tw7550486533801196614 : True := trivial
theorem T0.tw3849515656387426374 : True := trivial
theorem T0.tw2235446251116743782 : True := trivial
theorem T0.tw17358643117391576166 : True := trivial
theorem T0.tw11740487858917296294 : True := trivial
theorem T0.tw11007666591691814086 : True := trivial
theorem T0.tw15979715309339621606 : True := trivial
theorem T0.tw9927505079714959622 : True := trivial
theorem T0.tw15181740105334892870 : True := trivial
theorem T0.tw10479464961819092326 : True := trivial
theorem T0.tw17804823505513233766 : True := trivial
theorem T0.tw460593324953986406 : True := trivial
theorem T0.tw18372227732827908486 : True := trivial
theorem T0.tw5006353643606379974 : True := trivial
theorem T0.tw7492876550028769766 : True := trivial
theorem T0.tw9105609609288870374 : True := trivial
theorem T0.tw1990116454539873798 : True := trivial
theorem T0.tw4148249413913708070 : True := trivial
theorem T0.tw13868370900954059302 : True := trivial
theorem T0.tw3176368262172765734 : True := trivial
theorem T0.tw15985299352753907270 : True := trivial
theorem T0.tw13532538557923717702 : True := trivial
theorem T0.tw14508280799395044006 : True := trivial
theorem T0.tw5285547811416103590 : True := trivial
theorem T0.tw2616529826545989350 : True := trivial
theorem T0.tw8947114233258240774 : True := trivial
theorem T0.tw4742381043736567590 : True := trivial
theorem T0.tw9330535637969651494 : True := trivial
theorem T0.tw6669267033584208742 : True := trivial
theorem T0.tw4702578472558091110 : True := trivial
theorem T0.tw6964843075351681958 : True := trivial
theorem T0.tw2096863332030336966 : True := trivial
theorem T0.tw3130015050702953479 : True := trivial
theorem T0.tw15253668012957900807 : True := trivial
theorem T0.tw14964974213401486343 : True := trivial
theorem T0.tw11148647189307797511 : True := trivial
theorem T0.tw15290463170199481351 : True := trivial
theorem T0.tw3737241802073903143 : True := trivial
theorem T0.tw15376835583973709863 : True := trivial
theorem T0.tw5982053701112270919 : True := trivial
theorem T0.tw7939507749947984999 : True := trivial
theorem T0.tw4855535155021303943 : True := trivial
theorem T0.tw14234982781357064359 : True := trivial
theorem T0.tw14774126855942935751 : True := trivial
theorem T0.tw6190167275784883431 : True := trivial
theorem T0.tw1626048900470105415 : True := trivial
theorem T0.tw16980252625280144743 : True := trivial
theorem T0.tw13045581478555113863 : True := trivial
theorem T0.tw9226083513093007815 : True := trivial
theorem T0.tw2917987575052915143 : True := trivial
theorem T0.tw11629986866820592103 : True := trivial
theorem T0.tw7870863980252798471 : True := trivial
theorem T0.tw9093570241177436679 : True := trivial
theorem T0.tw4017027805464768039 : True := trivial
theorem T0.tw13404403116331546151 : True := trivial
theorem T0.tw2262679034749810215 : True := trivial
theorem T0.tw1369320916545998407 : True := trivial
theorem T0.tw778402753742733895 : True := trivial
theorem T0.tw6052952287013741159 : True := trivial
theorem T0.tw11593080589851681383 : True := trivial
theorem T0.tw1465562005355033191 : True := trivial
theorem T0.tw176002895526004391 : True := trivial
theorem T0.tw16426871432262739655 : True := trivial
theorem T0.tw7746224785225746151 : True := trivial
theorem T0.tw16952361993686639335 : True := trivial
theorem T0.tw9504275671431550727 : True := trivial
theorem T0.tw11353428284906512135 : True := trivial
theorem T0.tw17886372108509820679 : True := trivial
theorem T0.tw3081894109968302951 : True := trivial
theorem T0.tw5532636348123903847 : True := trivial
theorem T0.tw16235787218153645991 : True := trivial
theorem T0.tw12805195650121870247 : True := trivial
theorem T0.tw13957287249260281767 : True := trivial
theorem T0.tw8745750022974500807 : True := trivial
theorem T0.tw17240232507935029191 : True := trivial
theorem T0.tw13241670628620540903 : True := trivial
theorem T0.tw7115645245225973832 : True := trivial
theorem T0.tw11254557294273285192 : True := trivial
theorem T0.tw10732349276831213640 : True := trivial
theorem T0.tw209171760279361640 : True := trivial
theorem T0.tw17119041912593570920 : True := trivial
theorem T0.tw17811947775247613064 : True := trivial
theorem T0.tw12327514321126597800 : True := trivial
theorem T0.tw2799001546688426184 : True := trivial
theorem T0.tw1541531714672819400 : True := trivial
theorem T0.tw15006921046595907816 : True := trivial
theorem T0.tw17253003507860500712 : True := trivial
theorem T0.tw12456964778971401512 : True := trivial
theorem T0.tw17085444921496840488 : True := trivial
theorem T0.tw8715229740364740936 : True := trivial
theorem T0.tw8392155720540888456 : True := trivial
theorem T0.tw15356539467629916552 : True := trivial
theorem T0.tw7638399743200842184 : True := trivial
theorem T0.tw3494064969405724136 : True := trivial
theorem T0.tw15651441758941224488 : True := trivial
theorem T0.tw12240008538567980616 : True := trivial
theorem T0.tw5417290345305960008 : True := trivial
theorem T0.tw3993485865888209512 : True := trivial
theorem T0.tw17750752488299456136 : True := trivial
theorem T0.tw5176893229063107208 : True := trivial
theorem T0.tw3404017110391508648 : True := trivial
theorem T0.tw12597574518211967656 : True := trivial
theorem T0.tw6867310123443860168 : True := trivial
theorem T0.tw14637815464572977896 : True := trivial
theorem T0.tw16799807989068313320 : True := trivial
theorem T0.tw12548546596638635752 : True := trivial
theorem T0.tw7223607968060049224 : True := trivial
theorem T0.tw18073809621431295880 : True := trivial
theorem T0.tw16176976913774912392 : True := trivial
theorem T0.tw8696542726794164104 : True := trivial
theorem T0.tw3032565474983600008 : True := trivial
theorem T0.tw5647845650471956392 : True := trivial
theorem T0.tw16468526160364239848 : True := trivial
theorem T0.tw10681837508095901672 : True := trivial
theorem T0.tw17176079856931985449 : True := trivial
theorem T0.tw13931698165945707625 : True := trivial
theorem T0.tw3834833352158240905 : True := trivial
theorem T0.tw13666755809136933001 : True := trivial
theorem T0.tw6846218446636002473 : True := trivial
theorem T0.tw1231736839190374569 : True := trivial
theorem T0.tw6032879852744187113 : True := trivial
theorem T0.tw16396363874523131177 : True := trivial
theorem T0.tw9007278428860100905 : True := trivial
theorem T0.tw1993066172698584361 : True := trivial
theorem T0.tw18288426458856090921 : True := trivial
theorem T0.tw7145720334227636649 : True := trivial
theorem T0.tw218141667734292905 : True := trivial
theorem T0.tw5578657383692681673 : True := trivial
theorem T0.tw4345180646853597641 : True := trivial
theorem T0.tw952540569379365321 : True := trivial
theorem T0.tw7254485557615704553 : True := trivial
theorem T0.tw13688031102487490025 : True := trivial
theorem T0.tw9650287412880869929 : True := trivial
theorem T0.tw9419342218707360297 : True := trivial
theorem T0.tw8189594310374242889 : True := trivial
theorem T0.tw12727918586835746377 : True := trivial
theorem T0.tw6707383092059017833 : True := trivial
theorem T0.tw1104121413537418889 : True := trivial
theorem T0.tw5248068337073403561 : True := trivial
theorem T0.tw8161870926125038249 : True := trivial
theorem T0.tw10770249260141540041 : True := trivial
theorem T0.tw3695311780462168809 : True := trivial
theorem T0.tw1593847728936042217 : True := trivial
theorem T0.tw6501981080419549929 : True := trivial
theorem T0.tw7138045677536492329 : True := trivial
theorem T0.tw1462028614149107529 : True := trivial
theorem T0.tw9091208170134403945 : True := trivial
theorem T0.tw5661203634736124809 : True := trivial
theorem T0.tw17654994528853085129 : True := trivial
theorem T0.tw853687313806117865 : True := trivial
theorem T0.tw676445876607270954 : True := trivial
theorem T0.tw8993442663398168618 : True := trivial
theorem T0.tw1095173441529838666 : True := trivial
theorem T0.tw4024429434088798314 : True := trivial
theorem T0.tw17774664239356354794 : True := trivial
theorem T0.tw3868029036720564458 : True := trivial
theorem T0.tw16493386016867903722 : True := trivial
theorem T0.tw12798808671310515466 : True := trivial
theorem T0.tw12310646468617654538 : True := trivial
theorem T0.tw17518287068985154826 : True := trivial
theorem T0.tw12610018341503657226 : True := trivial
theorem T0.tw789515925247383850 : True := trivial
theorem T0.tw8729202750430670122 : True := trivial
theorem T0.tw16584640322247722314 : True := trivial
theorem T0.tw16880272103163467082 : True := trivial
theorem T0.tw6236101471058019690 : True := trivial
theorem T0.tw4668130080993056138 : True := trivial
theorem T0.tw16482972491598352778 : True := trivial
theorem T0.tw15051645281554735594 : True := trivial
theorem T0.tw2834788391865011690 : True := trivial
theorem T0.tw18214742901772058090 : True := trivial
theorem T0.tw8031915571448332842 : True := trivial
theorem T0.tw3225445117688174122 : True := trivial
theorem T0.tw4055833566214769258 : True := trivial
theorem T0.tw6591672633522515562 : True := trivial
theorem T0.tw15776626545856091818 : True := trivial
theorem T0.tw7717555636358952618 : True := trivial
theorem T0.tw3234937439953664682 : True := trivial
theorem T0.tw11433411375119761066 : True := trivial
theorem T0.tw17519640142200240938 : True := trivial
theorem T0.tw253643920725020522 : True := trivial
theorem T0.tw2372287035753621386 : True := trivial
theorem T0.tw15461211617216338890 : True := trivial
theorem T0.tw10288286724603981770 : True := trivial
theorem T0.tw2893224708344182730 : True := trivial
theorem T0.tw6657071323183543307 : True := trivial
theorem T0.tw5278709499540737067 : True := trivial
theorem T0.tw13976933026287919147 : True := trivial
theorem T0.tw3489939686189641803 : True := trivial
theorem T0.tw6980581566019628107 : True := trivial
theorem T0.tw3699341008513507435 : True := trivial
theorem T0.tw16876366458715148427 : True := trivial
theorem T0.tw11011236797732056203 : True := trivial
theorem T0.tw15842993044820493515 : True := trivial
theorem T0.tw14885429592255335691 : True := trivial
theorem T0.tw18429782248434803979 : True := trivial
theorem T0.tw7778659918058606859 : True := trivial
theorem T0.tw8532844216686544171 : True := trivial
theorem T0.tw11751499251165047083 : True := trivial
theorem T0.tw15560802432351375691 : True := trivial
theorem T0.tw2637958756460663147 : True := trivial
theorem T0.tw791950889004601739 : True := trivial
theorem T0.tw9573189196939183563 : True := trivial
theorem T0.tw3688714474843491787 : True := trivial
theorem T0.tw11805509812389767723 : True := trivial
theorem T0.tw12245769528986117739 : True := trivial
theorem T0.tw14421049016708921995 : True := trivial
theorem T0.tw7334463260268176043 : True := trivial
theorem T0.tw13560129488632301291 : True := trivial
theorem T0.tw14558852773165396715 : True := trivial
theorem T0.tw2968079094660924235 : True := trivial
theorem T0.tw15396243626755260235 : True := trivial
theorem T0.tw16669013097097793387 : True := trivial
theorem T0.tw10404272227763145611 : True := trivial
theorem T0.tw100305572424344491 : True := trivial
theorem T0.tw7384129299278824395 : True := trivial
theorem T0.tw7114725882019587051 : True := trivial
theorem T0.tw11409836082924569579 : True := trivial
theorem T0.tw3887780537919938572 : True := trivial
theorem T0.tw3322283958816665612 : True := trivial
theorem T0.tw869092737092416524 : True := trivial
theorem T0.tw730934552370255916 : True := trivial
theorem T0.tw8966895173351584812 : True := trivial
theorem T0.tw13210778235482200108 : True := trivial
theorem T0.tw10783552406676535372 : True := trivial
theorem T0.tw1038900474164153452 : True := trivial
theorem T0.tw2639807725621349580 : True := trivial
theorem T0.tw13507412734882257164 : True := trivial
theorem T0.tw11712265457639345420 : True := trivial
theorem T0.tw12258485926800289036 : True := trivial
theorem T0.tw17382745873305169196 : True := trivial
theorem T0.tw12247411512082525484 : True := trivial
theorem T0.tw10933067652170302796 : True := trivial
theorem T0.tw10610907468189542828 : True := trivial
theorem T0.tw5488854262084935116 : True := trivial
theorem T0.tw5455525966207138252 : True := trivial
theorem T0.tw1256799280714316268 : True := trivial
theorem T0.tw4867940420929831468 : True := trivial
theorem T0.tw2441266407352268364 : True := trivial
theorem T0.tw10215429082342697612 : True := trivial
theorem T0.tw13729708501955558060 : True := trivial
theorem T0.tw5473234756463917740 : True := trivial
theorem T0.tw15666596791719131820 : True := trivial
theorem T0.tw1491972739422638796 : True := trivial
theorem T0.tw7376624042010603212 : True := trivial
theorem T0.tw11615235203485942572 : True := trivial
theorem T0.tw8911342945531297580 : True := trivial
theorem T0.tw7465924824928388972 : True := trivial
theorem T0.tw14677531252025896844 : True := trivial
theorem T0.tw2248902168827999148 : True := trivial
theorem T0.tw1678209155686521772 : True := trivial
theorem T0.tw8649293293519949804 : True := trivial
theorem T0.tw590553537217328141 : True := trivial
theorem T0.tw16127284016545396749 : True := trivial
theorem T0.tw15568698874356279341 : True := trivial
theorem T0.tw14587939222029325357 : True := trivial
theorem T0.tw8706519188310631501 : True := trivial
theorem T0.tw11840868212258254925 : True := trivial
theorem T0.tw9597518323231842413 : True := trivial
theorem T0.tw9843720118753589357 : True := trivial
theorem T0.tw281616083555549357 : True := trivial
theorem T0.tw7577818320411421869 : True := trivial
theorem T0.tw9858649477021310157 : True := trivial
theorem T0.tw8408645290022319341 : True := trivial
theorem T0.tw16551025745902352621 : True := trivial
theorem T0.tw3968393213765764365 : True := trivial
theorem T0.tw4897509682486803725 : True := trivial
theorem T0.tw15486300391946246445 : True := trivial
theorem T0.tw10574405374247159117 : True := trivial
theorem T0.tw16057897679103207789 : True := trivial
theorem T0.tw9219670946205170029 : True := trivial
theorem T0.tw5935466608163658157 : True := trivial
theorem T0.tw6529362177030895021 : True := trivial
theorem T0.tw8515481350314307053 : True := trivial
theorem T0.tw1734884422742368749 : True := trivial
theorem T0.tw16961909116093295085 : True := trivial
theorem T0.tw8179064327753140749 : True := trivial
theorem T0.tw10900917143808383501 : True := trivial
theorem T0.tw6439099639868757613 : True := trivial
theorem T0.tw18069337961950296685 : True := trivial
theorem T0.tw14089235944048299661 : True := trivial
theorem T0.tw2173062669865710285 : True := trivial
theorem T0.tw10424311550129024749 : True := trivial
theorem T0.tw13851466674113866477 : True := trivial
theorem T0.tw5345575148032938797 : True := trivial
theorem T0.tw15944699289070156621 : True := trivial
theorem T0.tw3812622710710726509 : True := trivial
theorem T0.tw389337704282604429 : True := trivial
theorem T0.tw7934738570383973261 : True := trivial
theorem T0.tw1586546259316967341 : True := trivial
theorem T0.tw2983659775322833837 : True := trivial
theorem T0.tw1316840774242092973 : True := trivial
theorem T0.tw10737705118338810829 : True := trivial
theorem T0.tw7094721887454206925 : True := trivial
theorem T0.tw2021008611427080141 : True := trivial
theorem T0.tw11430105757588409390 : True := trivial
theorem T0.tw8659909903523655758 : True := trivial
theorem T0.tw13140287588319509614 : True := trivial
theorem T0.tw15252006392241387758 : True := trivial
theorem T0.tw6703418662848990478 : True := trivial
theorem T0.tw3675620598291746062 : True := trivial
theorem T0.tw17320985044975259950 : True := trivial
theorem T0.tw6625241784174092590 : True := trivial
theorem T0.tw9593629728923275598 : True := trivial
theorem T0.tw16208184813727085902 : True := trivial
theorem T0.tw15580216117683704174 : True := trivial
theorem T0.tw11322380533733307790 : True := trivial
theorem T0.tw18419276562400329102 : True := trivial
theorem T0.tw2582711583438681518 : True := trivial
theorem T0.tw7742316505313900974 : True := trivial
theorem T0.tw10682256426340984334 : True := trivial
theorem T0.tw2513707200919070286 : True := trivial
theorem T0.tw8663218148699843214 : True := trivial
theorem T0.tw8478009094794479278 : True := trivial
theorem T0.tw18400632610296771278 : True := trivial
theorem T0.tw6376494410970353422 : True := trivial
theorem T0.tw14062822970181082894 : True := trivial
theorem T0.tw15879180878395676494 : True := trivial
theorem T0.tw1192702066706488206 : True := trivial
theorem T0.tw17633593754165313422 : True := trivial
theorem T0.tw17814155342674460590 : True := trivial
theorem T0.tw11549817211614319534 : True := trivial
theorem T0.tw2480756283885133806 : True := trivial
theorem T0.tw17561164790537462831 : True := trivial
theorem T0.tw14606272851680157743 : True := trivial
theorem T0.tw8191841698142635119 : True := trivial
theorem T0.tw16790880709800069263 : True := trivial
theorem T0.tw740946802096456847 : True := trivial
theorem T0.tw6214441636910153903 : True := trivial
theorem T0.tw10301091174477025455 : True := trivial
theorem T0.tw2110659812759393455 : True := trivial
theorem T0.tw12794837618522459343 : True := trivial
theorem T0.tw113880698354609391 : True := trivial
theorem T0.tw16408201013049963887 : True := trivial
theorem T0.tw13625251772060023215 : True := trivial
theorem T0.tw16258909353336135087 : True := trivial
theorem T0.tw9831202375044591023 : True := trivial
theorem T0.tw12859600303130488271 : True := trivial
theorem T0.tw13826156056959535631 : True := trivial
theorem T0.tw6131896353442309679 : True := trivial
theorem T0.tw2187652035405230639 : True := trivial
theorem T0.tw9889834674844981807 : True := trivial
theorem T0.tw17718273006709200463 : True := trivial
theorem T0.tw1234645349032990383 : True := trivial
theorem T0.tw1439801365131541167 : True := trivial
theorem T0.tw10607344369063980719 : True := trivial
theorem T0.tw15174280619086108399 : True := trivial
theorem T0.tw9969015169229102863 : True := trivial
theorem T0.tw9067799495683646223 : True := trivial
theorem T0.tw14826459961646843695 : True := trivial
theorem T0.tw3955971227707446063 : True := trivial
theorem T0.tw14682575392919462703 : True := trivial
theorem T0.tw13819674059965269839 : True := trivial
theorem T0.tw4390310407129029455 : True := trivial
theorem T0.tw1500352886487391087 : True := trivial
theorem T0.tw2795314058022141807 : True := trivial
theorem T0.tw2262933711428568943 : True := trivial
theorem T0.tw5680511127734246255 : True := trivial
theorem T0.tw3648228793704759183 : True := trivial
theorem T0.tw14553570636971707311 : True := trivial
theorem T0.tw15336873090008677327 : True := trivial
theorem T0.tw16055482964499376079 : True := trivial
theorem T0.tw991737413981244399 : True := trivial
theorem T0.tw9497704299526433775 : True := trivial
theorem T0.tw15177808998419091439 : True := trivial
theorem T0.tw8600100370956444655 : True := trivial
theorem T0.tw9911595152371089391 : True := trivial
theorem T0.tw17148113128098448432 : True := trivial
theorem T0.tw14068732554256229456 : True := trivial
theorem T0.tw17807763949618782288 : True := trivial
theorem T0.tw11874752830203639920 : True := trivial
theorem T0.tw13772068150650002544 : True := trivial
theorem T0.tw14480251711789002864 : True := trivial
theorem T0.tw1905714800063581328 : True := trivial
theorem T0.tw3893330390917986448 : True := trivial
theorem T0.tw2052201131560083632 : True := trivial
theorem T0.tw3252288162177895600 : True := trivial
theorem T0.tw3234014526637520080 : True := trivial
theorem T0.tw5229117052714126576 : True := trivial
theorem T0.tw11598662425125071088 : True := trivial
theorem T0.tw8653002739604934896 : True := trivial
theorem T0.tw7867057438621227280 : True := trivial
theorem T0.tw8972910598255993136 : True := trivial
theorem T0.tw7947618761829340528 : True := trivial
theorem T0.tw6790903246875391344 : True := trivial
theorem T0.tw16559074570612008336 : True := trivial
theorem T0.tw4169544118352781744 : True := trivial
theorem T0.tw12493049377102504368 : True := trivial
theorem T0.tw536291626992336336 : True := trivial
theorem T0.tw760769800895047152 : True := trivial
theorem T0.tw5174218888575195696 : True := trivial
theorem T0.tw3012165716131707440 : True := trivial
theorem T0.tw304544100486952560 : True := trivial
theorem T0.tw2784665153132919440 : True := trivial
theorem T0.tw14910544813763751632 : True := trivial
theorem T0.tw13712527541147801296 : True := trivial
theorem T0.tw13751707746380283632 : True := trivial
theorem T0.tw16731329770989558544 : True := trivial
theorem T0.tw9253690572637251376 : True := trivial
theorem T0.tw6805532096006597488 : True := trivial
theorem T0.tw9075018069127220080 : True := trivial
theorem T0.tw3725324306653142896 : True := trivial
theorem T0.tw5336544164393370512 : True := trivial
theorem T0.tw1034715636362925968 : True := trivial
theorem T0.tw6551867940832159664 : True := trivial
theorem T0.tw9744336273839828944 : True := trivial
theorem T0.tw8200673280026590160 : True := trivial
theorem T0.tw2631220722704351184 : True := trivial
theorem T0.tw2517795362627572720 : True := trivial
theorem T0.tw4092441376219977712 : True := trivial
theorem T0.tw16738495906235702256 : True := trivial
theorem T0.tw16591120880582042673 : True := trivial
theorem T0.tw3278433231867104305 : True := trivial
theorem T0.tw15786214158038943825 : True := trivial
theorem T0.tw1629666235307479121 : True := trivial
theorem T0.tw12673245120653558929 : True := trivial
theorem T0.tw2762853778583466129 : True := trivial
theorem T0.tw12777574915781648529 : True := trivial
theorem T0.tw5193803217419908305 : True := trivial
theorem T0.tw5208687511760412913 : True := trivial
theorem T0.tw16060908759890046225 : True := trivial
theorem T0.tw3676100234911605009 : True := trivial
theorem T0.tw8233032464709364049 : True := trivial
theorem T0.tw10396613222867834257 : True := trivial
theorem T0.tw10509883973224157585 : True := trivial
theorem T0.tw15826048036361872817 : True := trivial
theorem T0.tw11922298527900313009 : True := trivial
theorem T0.tw13818435945097569713 : True := trivial
theorem T0.tw13243096407167940017 : True := trivial
theorem T0.tw2881218158482172369 : True := trivial
theorem T0.tw15523210771507008977 : True := trivial
theorem T0.tw16955520212045643377 : True := trivial
theorem T0.tw14253719286117955185 : True := trivial
theorem T0.tw5560798002429709969 : True := trivial
theorem T0.tw12860920093439129233 : True := trivial
theorem T0.tw1669753655889275569 : True := trivial
theorem T0.tw1579607024300147377 : True := trivial
theorem T0.tw1513556289524364977 : True := trivial
theorem T0.tw3627318559173443249 : True := trivial
theorem T0.tw18208420486853553873 : True := trivial
theorem T0.tw12411593127037069073 : True := trivial
theorem T0.tw12665987510516643633 : True := trivial
theorem T0.tw11352189802960944945 : True := trivial
theorem T0.tw2102436499815437137 : True := trivial
theorem T0.tw17696913422694942577 : True := trivial
theorem T0.tw15069923016960357233 : True := trivial
theorem T0.tw16692629501500472177 : True := trivial
theorem T0.tw636338742816540561 : True := trivial
theorem T0.tw1839974350799276977 : True := trivial
theorem T0.tw9398754545260162993 : True := trivial
theorem T0.tw16575674325481721809 : True := trivial
theorem T0.tw10769167475454619633 : True := trivial
theorem T0.tw7336152641016697874 : True := trivial
theorem T0.tw10779159818649047090 : True := trivial
theorem T0.tw13090856270507393074 : True := trivial
theorem T0.tw16524269852163756178 : True := trivial
theorem T0.tw4429521067569483986 : True := trivial
theorem T0.tw5807347218600925394 : True := trivial
theorem T0.tw15443559856193574130 : True := trivial
theorem T0.tw9370192225164205298 : True := trivial
theorem T0.tw15638460156322034930 : True := trivial
theorem T0.tw13534365710953671954 : True := trivial
theorem T0.tw6378195139755767058 : True := trivial
theorem T0.tw4639787556765729074 : True := trivial
theorem T0.tw5093296385993651602 : True := trivial
theorem T0.tw368583938721311154 : True := trivial
theorem T0.tw6151116560288419282 : True := trivial
theorem T0.tw4802486374621002194 : True := trivial
theorem T0.tw15836605757082978770 : True := trivial
theorem T0.tw15025923247922413042 : True := trivial
theorem T0.tw9581751233643109906 : True := trivial
theorem T0.tw18181581334148183570 : True := trivial
theorem T0.tw3538851910376024626 : True := trivial
theorem T0.tw17211163897575271986 : True := trivial
theorem T0.tw10581139988903031346 : True := trivial
theorem T0.tw11882448510683443762 : True := trivial
theorem T0.tw13227568921300870738 : True := trivial
theorem T0.tw1053459211244895826 : True := trivial
theorem T0.tw11612260612826337906 : True := trivial
theorem T0.tw7635533193194189522 : True := trivial
theorem T0.tw1672287968196184786 : True := trivial
theorem T0.tw15430338211375843122 : True := trivial
theorem T0.tw7954938653266713394 : True := trivial
theorem T0.tw8508522205074965298 : True := trivial
theorem T0.tw16678361414754295666 : True := trivial
theorem T0.tw7613624385959584722 : True := trivial
theorem T0.tw4229450135737162738 : True := trivial
theorem T0.tw15931426155587849235 : True := trivial
theorem T0.tw13481289884724509747 : True := trivial
theorem T0.tw3505361110441300051 : True := trivial
theorem T0.tw15834754005302282355 : True := trivial
theorem T0.tw14159600865473653875 : True := trivial
theorem T0.tw1742741223267270803 : True := trivial
theorem T0.tw16573307180860678387 : True := trivial
theorem T0.tw11242321987831979315 : True := trivial
theorem T0.tw17659882878179682643 : True := trivial
theorem T0.tw4372501233384216915 : True := trivial
theorem T0.tw14071605158240479571 : True := trivial
theorem T0.tw16322835222216040979 : True := trivial
theorem T0.tw16059787691591954963 : True := trivial
theorem T0.tw14958860753069046291 : True := trivial
theorem T0.tw3647003592600007283 : True := trivial
theorem T0.tw7405010501624324723 : True := trivial
theorem T0.tw12145389320339697299 : True := trivial
theorem T0.tw9431831603117129363 : True := trivial
theorem T0.tw5028556275469999795 : True := trivial
theorem T0.tw16838740529776438995 : True := trivial
theorem T0.tw16063878001467827955 : True := trivial
theorem T0.tw17717047977548594931 : True := trivial
theorem T0.tw109009369493885715 : True := trivial
theorem T0.tw5821763028630864691 : True := trivial
theorem T0.tw7734362901084962611 : True := trivial
theorem T0.tw878518379788029779 : True := trivial
theorem T0.tw6720618453432850291 : True := trivial
theorem T0.tw16541012245368448915 : True := trivial
theorem T0.tw12006445779853626259 : True := trivial
theorem T0.tw7736675184292061075 : True := trivial
theorem T0.tw9688589381296160691 : True := trivial
theorem T0.tw9688648074096248787 : True := trivial
theorem T0.tw7261630145124602835 : True := trivial
theorem T0.tw5273447912734008307 : True := trivial
theorem T0.tw18198524158129131507 : True := trivial
theorem T0.tw7466116436015211507 : True := trivial
theorem T0.tw14821303386027735060 : True := trivial
theorem T0.tw11149489261775588436 : True := trivial
theorem T0.tw1942058682385690740 : True := trivial
theorem T0.tw16310098729961265300 : True := trivial
theorem T0.tw6661089307900092564 : True := trivial
theorem T0.tw596217912159743220 : True := trivial
theorem T0.tw12376020809073539380 : True := trivial
theorem T0.tw10104668338509195604 : True := trivial
theorem T0.tw10504133315637266804 : True := trivial
theorem T0.tw13170158242474159476 : True := trivial
theorem T0.tw16852353564234095060 : True := trivial
theorem T0.tw11242556240911027668 : True := trivial
theorem T0.tw5889720057522775508 : True := trivial
theorem T0.tw959890082472519156 : True := trivial
theorem T0.tw11111336321076561428 : True := trivial
theorem T0.tw911143898822318612 : True := trivial
theorem T0.tw4069130598266157588 : True := trivial
theorem T0.tw17657179529542806068 : True := trivial
theorem T0.tw2060725436562124340 : True := trivial
theorem T0.tw427386124194008628 : True := trivial
theorem T0.tw17401902866350751380 : True := trivial
theorem T0.tw1664655705227085492 : True := trivial
theorem T0.tw5186672962448443092 : True := trivial
theorem T0.tw149197415895124692 : True := trivial
theorem T0.tw10677686127800615668 : True := trivial
theorem T0.tw633045371063796564 : True := trivial
theorem T0.tw7989365143733927764 : True := trivial
theorem T0.tw8163945593248390004 : True := trivial
theorem T0.tw15164266036744132500 : True := trivial
theorem T0.tw9562499764888466324 : True := trivial
theorem T0.tw10072445637372024756 : True := trivial
theorem T0.tw5226567867695289268 : True := trivial
theorem T0.tw9890606917952775124 : True := trivial
theorem T0.tw1764879323689989076 : True := trivial
theorem T0.tw8268493318507353044 : True := trivial
theorem T0.tw14901497846748659700 : True := trivial
theorem T0.tw15070669425774941172 : True := trivial
theorem T0.tw4437488288272318452 : True := trivial
theorem T0.tw4325996107585668117 : True := trivial
theorem T0.tw11175284482364088373 : True := trivial
theorem T0.tw6484759401216498773 : True := trivial
theorem T0.tw14121806274721225845 : True := trivial
theorem T0.tw15751978056023533749 : True := trivial
theorem T0.tw2007619375452715221 : True := trivial
theorem T0.tw1598011431465634037 : True := trivial
theorem T0.tw10396412911830799637 : True := trivial
theorem T0.tw5512460046816075061 : True := trivial
theorem T0.tw13463656958474354005 : True := trivial
theorem T0.tw8401507158674282869 : True := trivial
theorem T0.tw15799031386198026613 : True := trivial
theorem T0.tw15827391256728400245 : True := trivial
theorem T0.tw6338579985315478069 : True := trivial
theorem T0.tw14722173110247845429 : True := trivial
theorem T0.tw16498948110869723733 : True := trivial
theorem T0.tw18266706779187688085 : True := trivial
theorem T0.tw17736833953730429621 : True := trivial
theorem T0.tw1497464820760366773 : True := trivial
theorem T0.tw6759623968377282261 : True := trivial
theorem T0.tw832514576002056949 : True := trivial
theorem T0.tw17401893015365846773 : True := trivial
theorem T0.tw8093228979503761141 : True := trivial
theorem T0.tw1531035289500669685 : True := trivial
theorem T0.tw16270511958579985173 : True := trivial
theorem T0.tw10646741993419235093 : True := trivial
theorem T0.tw2419259463734523701 : True := trivial
theorem T0.tw8578148166971750229 : True := trivial
theorem T0.tw1665109286565117781 : True := trivial
theorem T0.tw1506908794373689205 : True := trivial
theorem T0.tw543040984290871189 : True := trivial
theorem T0.tw16488471775141566389 : True := trivial
theorem T0.tw8436618845622724533 : True := trivial
theorem T0.tw2092813274439818197 : True := trivial
theorem T0.tw11032562551340986325 : True := trivial
theorem T0.tw17567468033216796661 : True := trivial
theorem T0.tw17777908337574620182 : True := trivial
theorem T0.tw13567996158656459798 : True := trivial
theorem T0.tw10576201290697145366 : True := trivial
theorem T0.tw4501767537052558390 : True := trivial
theorem T0.tw11004151596210693174 : True := trivial
theorem T0.tw12669307195004084278 : True := trivial
theorem T0.tw17867464466292911190 : True := trivial
theorem T0.tw10345554546188685430 : True := trivial
theorem T0.tw10699984570243717238 : True := trivial
theorem T0.tw12249124853461420182 : True := trivial
theorem T0.tw15597306782769189046 : True := trivial
theorem T0.tw3041911289867971766 : True := trivial
theorem T0.tw3273823405564449974 : True := trivial
theorem T0.tw5341087459381807318 : True := trivial
theorem T0.tw18270137054406929622 : True := trivial
theorem T0.tw66083018940464438 : True := trivial
theorem T0.tw7729744473338374454 : True := trivial
theorem T0.tw18342592740374780246 : True := trivial
theorem T0.tw571147827498747222 : True := trivial
theorem T0.tw1670409569058749814 : True := trivial
theorem T0.tw14146169460687145366 : True := trivial
theorem T0.tw18185663494848035222 : True := trivial
theorem T0.tw14167465976719823254 : True := trivial
theorem T0.tw13568873663528552886 : True := trivial
theorem T0.tw13185092149264017846 : True := trivial
theorem T0.tw12098930576463685078 : True := trivial
theorem T0.tw16391514565088578038 : True := trivial
theorem T0.tw415079856281213430 : True := trivial
theorem T0.tw6945320824965034550 : True := trivial
theorem T0.tw13801872139953280598 : True := trivial
theorem T0.tw14741074076158016150 : True := trivial
theorem T0.tw13630163417210199798 : True := trivial
theorem T0.tw12606010375796399862 : True := trivial
theorem T0.tw15626486222079803126 : True := trivial
theorem T0.tw14985136992949661462 : True := trivial
theorem T0.tw7596492465042952022 : True := trivial
theorem T0.tw13067638942510571350 : True := trivial
theorem T0.tw2499362656834154326 : True := trivial
theorem T0.tw5562686531403384726 : True := trivial
theorem T0.tw15585188543392569238 : True := trivial
theorem T0.tw16374973698962511798 : True := trivial
theorem T0.tw7241213391912897526 : True := trivial
theorem T0.tw13992519495048269814 : True := trivial
theorem T0.tw6531837093403483126 : True := trivial
theorem T0.tw13434106283338712119 : True := trivial
theorem T0.tw11832666470482991223 : True := trivial
theorem T0.tw9808726778995242103 : True := trivial
theorem T0.tw9924446735761879191 : True := trivial
theorem T0.tw8351773826192759959 : True := trivial
theorem T0.tw9051232625490975895 : True := trivial
theorem T0.tw16422518195607566519 : True := trivial
theorem T0.tw2270507206511930679 : True := trivial
theorem T0.tw10703171709115656535 : True := trivial
theorem T0.tw16870489106746860951 : True := trivial
theorem T0.tw13349070287500372439 : True := trivial
theorem T0.tw11694663710573555191 : True := trivial
theorem T0.tw12952467715855760919 : True := trivial
theorem T0.tw438628171807272503 : True := trivial
theorem T0.tw13133044777544577591 : True := trivial
theorem T0.tw1168490415719414391 : True := trivial
theorem T0.tw659800133153111767 : True := trivial
theorem T0.tw7622949549318220567 : True := trivial
theorem T0.tw9067736638363898679 : True := trivial
theorem T0.tw15690575288339210039 : True := trivial
theorem T0.tw15650291985579009879 : True := trivial
theorem T0.tw8519731633416600407 : True := trivial
theorem T0.tw11713859993088188311 : True := trivial
theorem T0.tw6155348411690549143 : True := trivial
theorem T0.tw14442768366086179767 : True := trivial
theorem T0.tw2819562313617536951 : True := trivial
theorem T0.tw2914940714405933015 : True := trivial
theorem T0.tw1409087251914007543 : True := trivial
theorem T0.tw808682769867162615 : True := trivial
theorem T0.tw3394018246331453431 : True := trivial
theorem T0.tw1708858603017500663 : True := trivial
theorem T0.tw9021828626230728728 : True := trivial
theorem T0.tw12198373956079436824 : True := trivial
theorem T0.tw11413703201296880728 : True := trivial
theorem T0.tw15072234203690999896 : True := trivial
theorem T0.tw13256081624256982104 : True := trivial
theorem T0.tw7894724813612975224 : True := trivial
theorem T0.tw2503460247184883832 : True := trivial
theorem T0.tw9252204741502049432 : True := trivial
theorem T0.tw16627918388410741912 : True := trivial
theorem T0.tw2091710566428793016 : True := trivial
theorem T0.tw15336444095853291704 : True := trivial
theorem T0.tw4389252711997320440 : True := trivial
theorem T0.tw4279151378549625112 : True := trivial
theorem T0.tw16436520964783008024 : True := trivial
theorem T0.tw15762129022402652472 : True := trivial
theorem T0.tw9873697885541427544 : True := trivial
theorem T0.tw11496875138408406392 : True := trivial
theorem T0.tw5325467499330294264 : True := trivial
theorem T0.tw10044281141249093144 : True := trivial
theorem T0.tw16719761867881296408 : True := trivial
theorem T0.tw3297222389040007832 : True := trivial
theorem T0.tw4012361253846872728 : True := trivial
theorem T0.tw13527093531352122040 : True := trivial
theorem T0.tw15788551426401960664 : True := trivial
theorem T0.tw3906715051058602712 : True := trivial
theorem T0.tw18413285722504480472 : True := trivial
theorem T0.tw8898723388828879608 : True := trivial
theorem T0.tw7062909074106458872 : True := trivial
theorem T0.tw11069589903413524280 : True := trivial
theorem T0.tw9073742918400377688 : True := trivial
theorem T0.tw5518994828580177752 : True := trivial
theorem T0.tw674991969824985944 : True := trivial
theorem T0.tw18313702501343255384 : True := trivial
theorem T0.tw6799872912565146520 : True := trivial
theorem T0.tw5445956348677808024 : True := trivial
theorem T0.tw18199108872353690552 : True := trivial
theorem T0.tw9526598422699066296 : True := trivial
theorem T0.tw13883808411011170264 : True := trivial
theorem T0.tw10091077386850895897 : True := trivial
theorem T0.tw5521581836024273945 : True := trivial
theorem T0.tw12755868184615982137 : True := trivial
theorem T0.tw15205255398858858553 : True := trivial
theorem T0.tw6108652162261322905 : True := trivial
theorem T0.tw259313581146051737 : True := trivial
theorem T0.tw9106633198064104601 : True := trivial
theorem T0.tw5362062799564070073 : True := trivial
theorem T0.tw12574528245717571833 : True := trivial
theorem T0.tw15698154404348903769 : True := trivial
theorem T0.tw12007331872544532857 : True := trivial
theorem T0.tw8362730347929013657 : True := trivial
theorem T0.tw9367484806451795353 : True := trivial
theorem T0.tw15593819912200976825 : True := trivial
theorem T0.tw14933083935330356729 : True := trivial
theorem T0.tw12088645483115365945 : True := trivial
theorem T0.tw15419816294269199993 : True := trivial
theorem T0.tw12056400774875853433 : True := trivial
theorem T0.tw912644902139720313 : True := trivial
theorem T0.tw11504415846761576089 : True := trivial
theorem T0.tw13091015129555218105 : True := trivial
theorem T0.tw4350989796965077689 : True := trivial
theorem T0.tw6872965369369303801 : True := trivial
theorem T0.tw12526700376450311929 : True := trivial
theorem T0.tw14184372788231398137 : True := trivial
theorem T0.tw7223531628527279897 : True := trivial
theorem T0.tw782341491673036569 : True := trivial
theorem T0.tw8831707616963207065 : True := trivial
theorem T0.tw16017082500175037369 : True := trivial
theorem T0.tw3688740509721781241 : True := trivial
theorem T0.tw2093876593738520634 : True := trivial
theorem T0.tw6650823278825537626 : True := trivial
theorem T0.tw18038824508891810906 : True := trivial
theorem T0.tw11688521594425855098 : True := trivial
theorem T0.tw4962164896907451546 : True := trivial
theorem T0.tw9316807622095528090 : True := trivial
theorem T0.tw412214616194139322 : True := trivial
theorem T0.tw15710864475270731962 : True := trivial
theorem T0.tw3644410320881926394 : True := trivial
theorem T0.tw7548803568202260794 : True := trivial
theorem T0.tw17189879252672991546 : True := trivial
theorem T0.tw16962470864247654746 : True := trivial
theorem T0.tw17637678582224436570 : True := trivial
theorem T0.tw12809069862172816730 : True := trivial
theorem T0.tw8278916107941505434 : True := trivial
theorem T0.tw10162613244716937658 : True := trivial
theorem T0.tw6920905349414885850 : True := trivial
theorem T0.tw18286193807911613914 : True := trivial
theorem T0.tw10801024245656452602 : True := trivial
theorem T0.tw393019089014063738 : True := trivial
theorem T0.tw12032212457178844794 : True := trivial
theorem T0.tw6518375458926778010 : True := trivial
theorem T0.tw8733359143567123098 : True := trivial
theorem T0.tw16465819340592692954 : True := trivial
theorem T0.tw5124534090883227386 : True := trivial
theorem T0.tw18123477057786381082 : True := trivial
theorem T0.tw2748994715686275866 : True := trivial
theorem T0.tw16114579152805372698 : True := trivial
theorem T0.tw9512935577991567130 : True := trivial
theorem T0.tw10848332050250383194 : True := trivial
theorem T0.tw2120674947250832218 : True := trivial
theorem T0.tw10538997195616752570 : True := trivial
theorem T0.tw10404946917684298682 : True := trivial
theorem T0.tw16790006757822395354 : True := trivial
theorem T0.tw3616881955381100571 : True := trivial
theorem T0.tw15614272349417249883 : True := trivial
theorem T0.tw3801753176490272859 : True := trivial
theorem T0.tw12340726009492577403 : True := trivial
theorem T0.tw322977472559508603 : True := trivial
theorem T0.tw7773080386240216251 : True := trivial
theorem T0.tw5437431410122137851 : True := trivial
theorem T0.tw7860217287477430587 : True := trivial
theorem T0.tw9651362174797802811 : True := trivial
theorem T0.tw17488203824106260827 : True := trivial
theorem T0.tw1054141008388198811 : True := trivial
theorem T0.tw306654810833962459 : True := trivial
theorem T0.tw15767892978257016315 : True := trivial
theorem T0.tw18147117834554997243 : True := trivial
theorem T0.tw3090552832405597755 : True := trivial
theorem T0.tw2122404210874757723 : True := trivial
theorem T0.tw12337054358462801563 : True := trivial
theorem T0.tw7419950845132068539 : True := trivial
theorem T0.tw18252691543734028027 : True := trivial
theorem T0.tw7199695954643436347 : True := trivial
theorem T0.tw3469304058952524667 : True := trivial
theorem T0.tw8134046064116874139 : True := trivial
theorem T0.tw17641869903155197851 : True := trivial
theorem T0.tw15242895615136182203 : True := trivial
theorem T0.tw12226262790132153275 : True := trivial
theorem T0.tw7698367756875366395 : True := trivial
theorem T0.tw12172551974332176412 : True := trivial
theorem T0.tw14223873328901649436 : True := trivial
theorem T0.tw16714153736382314556 : True := trivial
theorem T0.tw8463002627890392156 : True := trivial
theorem T0.tw5476529580548737116 : True := trivial
theorem T0.tw9171541582692715644 : True := trivial
theorem T0.tw5300062184153862332 : True := trivial
theorem T0.tw1179174517161049308 : True := trivial
theorem T0.tw10033274571040542940 : True := trivial
theorem T0.tw1094240155374049532 : True := trivial
theorem T0.tw5793447251245457724 : True := trivial
theorem T0.tw2649783341669930332 : True := trivial
theorem T0.tw14974652372894207356 : True := trivial
theorem T0.tw6933503416020238748 : True := trivial
theorem T0.tw6791933294963758524 : True := trivial
theorem T0.tw6063382018765321692 : True := trivial
theorem T0.tw4954974300379040252 : True := trivial
theorem T0.tw7987205450465417788 : True := trivial
theorem T0.tw10236728041181905532 : True := trivial
theorem T0.tw16883377904302204540 : True := trivial
theorem T0.tw6857621410254320252 : True := trivial
theorem T0.tw15143134052279172764 : True := trivial
theorem T0.tw15568314151452232380 : True := trivial
theorem T0.tw157949062505250524 : True := trivial
theorem T0.tw14000976984836861660 : True := trivial
theorem T0.tw3836820938731552476 : True := trivial
theorem T0.tw12697333990794374940 : True := trivial
theorem T0.tw17102926225348213564 : True := trivial
theorem T0.tw10139887912830125884 : True := trivial
theorem T0.tw479345870386019164 : True := trivial
theorem T0.tw14810133418194498428 : True := trivial
theorem T0.tw9097575391909803932 : True := trivial
theorem T0.tw2901404395726665628 : True := trivial
theorem T0.tw11252235261595551676 : True := trivial
theorem T0.tw7409331382554928092 : True := trivial
theorem T0.tw10360241607690827772 : True := trivial
theorem T0.tw644551231061521404 : True := trivial
theorem T0.tw16920338391910863933 : True := trivial
theorem T0.tw11878177815528828989 : True := trivial
theorem T0.tw5603339213386995805 : True := trivial
theorem T0.tw6484914259852222589 : True := trivial
theorem T0.tw9773385672000344221 : True := trivial
theorem T0.tw16408678555073171613 : True := trivial
theorem T0.tw3680190793008746685 : True := trivial
theorem T0.tw15407567249843418301 : True := trivial
theorem T0.tw4392011792409777501 : True := trivial
theorem T0.tw2600408483883807069 : True := trivial
theorem T0.tw11076260634189887901 : True := trivial
theorem T0.tw15734705985056361949 : True := trivial
theorem T0.tw4186207635608504925 : True := trivial
theorem T0.tw7921850911477638749 : True := trivial
theorem T0.tw7572023078542060125 : True := trivial
theorem T0.tw16545623789352434269 : True := trivial
theorem T0.tw5171705737248197277 : True := trivial
theorem T0.tw12168264343408742077 : True := trivial
theorem T0.tw5210939518013772477 : True := trivial
theorem T0.tw12513500128058786493 : True := trivial
theorem T0.tw5397590789299338941 : True := trivial
theorem T0.tw5548599417491339997 : True := trivial
theorem T0.tw14037625937799248605 : True := trivial
theorem T0.tw11748688445438250749 : True := trivial
theorem T0.tw9247322389804693309 : True := trivial
theorem T0.tw3574749839179035517 : True := trivial
theorem T0.tw415021056788805501 : True := trivial
theorem T0.tw18268154826429056893 : True := trivial
theorem T0.tw16317859036825882525 : True := trivial
theorem T0.tw2413691446290926525 : True := trivial
theorem T0.tw17307206771793088477 : True := trivial
theorem T0.tw16272123349724870686 : True := trivial
theorem T0.tw16026692861877763102 : True := trivial
theorem T0.tw16778469612756123678 : True := trivial
theorem T0.tw18269705514146843678 : True := trivial
theorem T0.tw17391739078366080062 : True := trivial
theorem T0.tw15322727423499050078 : True := trivial
theorem T0.tw11895907192422472798 : True := trivial
theorem T0.tw12874858337266655326 : True := trivial
theorem T0.tw5941351220277667934 : True := trivial
theorem T0.tw7512207813744717918 : True := trivial
theorem T0.tw1397491845034346654 : True := trivial
theorem T0.tw16711002983664911518 : True := trivial
theorem T0.tw12182583510294637758 : True := trivial
theorem T0.tw4006060870168341694 : True := trivial
theorem T0.tw11354163095187472606 : True := trivial
theorem T0.tw18297892725294175518 : True := trivial
theorem T0.tw5691726268904270110 : True := trivial
theorem T0.tw15562432166366989630 : True := trivial
theorem T0.tw9977907143311440222 : True := trivial
theorem T0.tw13524000030079146334 : True := trivial
theorem T0.tw15207957804024768894 : True := trivial
theorem T0.tw16788471062453768638 : True := trivial
theorem T0.tw13607285943777714686 : True := trivial
theorem T0.tw14034909652704906782 : True := trivial
theorem T0.tw14368229507212378686 : True := trivial
theorem T0.tw7487096160253360702 : True := trivial
theorem T0.tw15784199016886453822 : True := trivial
theorem T0.tw2806321992020111038 : True := trivial
theorem T0.tw8666286302446535422 : True := trivial
theorem T0.tw11005710608202908478 : True := trivial
theorem T0.tw8489418027178201982 : True := trivial
theorem T0.tw8976406420869425022 : True := trivial
theorem T0.tw10322619199998914430 : True := trivial
theorem T0.tw9649593688578360254 : True := trivial
theorem T0.tw15287939553764869086 : True := trivial
theorem T0.tw377178671739261918 : True := trivial
theorem T0.tw7745211650647194687 : True := trivial
theorem T0.tw14202292767982224479 : True := trivial
theorem T0.tw1303112642764106847 : True := trivial
theorem T0.tw15487714326043580543 : True := trivial
theorem T0.tw10352312806274836671 : True := trivial
theorem T0.tw14354290989821897919 : True := trivial
theorem T0.tw2896568778035546367 : True := trivial
theorem T0.tw16068418178941518079 : True := trivial
theorem T0.tw15829421596029630751 : True := trivial
theorem T0.tw5713624881999736127 : True := trivial
theorem T0.tw7730494862068398463 : True := trivial
theorem T0.tw11763604122282873247 : True := trivial
theorem T0.tw15569211369049373087 : True := trivial
theorem T0.tw4245284374727519679 : True := trivial
theorem T0.tw2936388454923983327 : True := trivial
theorem T0.tw4613517414826400255 : True := trivial
theorem T0.tw9805980272346522111 : True := trivial
theorem T0.tw820051934953685535 : True := trivial
theorem T0.tw16330108502022106751 : True := trivial
theorem T0.tw4107696382665748095 : True := trivial
theorem T0.tw7742923655175585471 : True := trivial
theorem T0.tw1861118279974639391 : True := trivial
theorem T0.tw11883931112412181279 : True := trivial
theorem T0.tw16321621802993341279 : True := trivial
theorem T0.tw7851063310367112063 : True := trivial
theorem T0.tw7204445874006455167 : True := trivial
theorem T0.tw13240951900602781631 : True := trivial
theorem T0.tw2071500108483354591 : True := trivial
theorem T0.tw7141886891448512511 : True := trivial
theorem T0.tw1783549910313744383 : True := trivial
set_option Elab.async true in
theorem T0 : PySem.Challenge.rw_nq0198_01.Holds := by
  w_on
  o_law
  o_head (kHook Mine.hd.heap_1 [2, 3, 38, 40, 41, 43, 44, 45, 47, 48, 50, 51, 55, 56, 57, 59, 60, 62, 63, 64, 66, 67, 69, 70, 71, 78, 79, 80, 81, 91, 93, 94, 96, 97, 98, 99, 100, 101, 102, 103, 106, 113, 114, 115, 118, 125, 126, 127, 130, 137, 138, 140, 141, 143, 144, 145, 147, 148, 150, 151, 152, 154, 155, 157, 158, 159, 161, 162, 164, 165, 166, 167, 169, 170, 172, 173, 174, 176, 177, 179, 180, 181, 183, 184, 186, 187, 188, 190, 191, 193, 194, 195, 197, 198, 200, 201, 202, 204, 205, 207, 208, 209, 211, 212, 214, 215, 216, 218, 219, 221, 222, 223, 225, 226, 228, 229, 230, 232, 233, 235, 236, 237, 239, 240, 242, 243, 244, 246, 247, 249, 250, 251, 253, 254, 256, 257, 258, 259, 261, 262, 264, 265, 266, 267, 269, 270, 272, 273, 274, 275, 277, 278, 280, 281, 282, 283, 285, 286, 288, 289, 290, 292, 293, 295, 296, 297, 299, 300, 302, 303, 304, 305, 307, 308, 310, 311, 312, 313, 315, 316, 318, 319, 320, 322, 323, 325, 326, 327, 329, 330, 332, 333, 334, 336, 337, 339, 340, 341, 343, 344, 346, 347, 348, 350, 351, 353, 354, 355, 356, 357, 360, 367, 368, 370, 371, 373, 374, 375, 377, 378, 380, 381, 382, 384, 385, 387, 388, 389, 391, 392, 394, 395, 396, 398, 399, 401, 402, 403, 405, 406, 408, 409, 410, 411, 413, 414, 416, 417, 418, 419, 421, 422, 424, 425, 426, 427, 429, 430, 432, 433, 434, 435, 437, 438, 440, 441, 442, 443, 445, 446, 448, 449, 450, 452, 453, 455, 456, 457, 459, 460, 462, 463, 464, 466, 467, 469, 470, 471, 473, 474, 476, 477, 478, 480, 481, 483, 484, 485, 487, 488, 490, 491, 492, 494, 495, 497, 498, 499, 501, 502, 504, 505, 506, 508, 509, 511, 512, 513, 515, 516, 518, 519, 520, 522, 523, 525, 526, 527, 528, 530, 531, 533, 534, 535, 536, 538, 539, 541, 542, 543, 544, 546, 547, 549, 550, 551, 552, 554, 555, 557, 558, 559, 560, 562, 563, 565, 566, 567, 569, 570, 572, 573, 574, 576, 577, 579, 580, 581, 583, 584, 586, 587, 588, 590, 591, 593, 594, 595, 597, 598, 600, 601, 602, 603, 604, 607, 609, 610, 612, 613, 614, 616, 617, 619, 620, 621, 623, 624, 626, 627, 628, 630, 631, 633, 634, 635, 637, 638, 640, 641, 642, 644, 645, 647, 648, 656, 657, 659, 660, 662, 663, 664, 666, 667, 669, 670, 671, 672, 674, 675, 677, 678, 679, 680, 682, 683, 685, 686, 687, 689, 690, 692, 693, 694, 696, 697, 699, 700, 701, 703, 704, 706, 707, 708, 710, 711, 713, 714, 715, 716, 718, 719, 721, 722, 723, 725, 726, 728, 729, 730, 732, 733, 735, 736, 737, 738, 739, 740, 741, 744, 745, 747, 748, 750, 751, 752, 753, 755, 756, 758, 759, 760, 762, 763, 765, 766, 767, 770, 771, 772, 775, 776, 777, 780, 781, 782, 785, 786] (fun _ => by kernel_rfl))
  (case hw => w_witness2)
  k_go0
  all_goals try k_fold
  dsimp only
  rename Fr _ _ _ _ => F0
  refine execs_cut (numsOf F0) ?first ?rest
  case first =>
    rename Heap.IsList _ _ _ => hL
    rename IntsAre _ _ => hI
    k_steps
    · rename Fr _ _ _ _ => Fz
      rename News _ _ _ _ => Nz
      exact ⟨_, _, _, _, _, [1, 0, 2, 0, 2, 0], rfl, Fz, fun q hq => Nz q (by rw [List.mem_singleton.mp hq]; exact .head _), .cons _ _ (.cons _ _ (.cons _ _ (.cons _ _ (.cons _ _ (.cons _ _ .nil))))), by decide, by decide⟩
    · unfold Held
      rename Fr _ _ _ _ => Fz
      rename News _ _ _ _ => Nz
      refine kmk_slice_ints Fz Nz (Fr.lst Fz hL) IsPart.none (IsPart.int _ _) hI (kmk_upto hI (by decide)) rfl ?_ (by with_unfolding_all rfl) (by intro _; with_unfolding_all rfl) (by kmk_size)
      intro D' ws' h' F' N' l1 hI' hC' hL'
      rename decide (_ = []) = false => hne
      k_steps
      · rename Fr _ _ _ _ => Fy
        rename News _ _ _ _ => Ny
        have hne' := of_decide_eq_false hne
        have hpos := List.length_pos_iff.mpr hne'
        exact ⟨_, _, _, _, _, _, rfl, Fy, fun q hq => Ny q (by rw [List.mem_singleton.mp hq]; exact .head _), hI', by rw [List.length_take]; lia, by rw [List.length_take]; lia⟩
  case rest =>
    intro s' hp
    obtain ⟨h2, tk2, D, vs, c, ns, rfl, F2, N2, hvs, hn1, hn8⟩ := hp
    have hvl := hvs.length
    rename Below _ _ _ _ => B2
    rename Frag.In _ _ => X2
    rename Top _ _ _ _ _ _ => T2
    change Top hd.view_1 (looseW hd.view_1 _) _ _ _ _ at T2
    k_steps
    unfold Held
    refine LCg.CompSrc.ledger (its := List.toArray vs) rfl F2 N2 (.head _) (by rw [List.size_toArray, PySem.sizeLine_eq]; lia) ?_
    intro g4
    refine comp_own (Inv := WS _ ((ns.map signC).map fun c => [c])) ?fin4 ?turn4 ⟨rfl, .nil⟩
    case turn4 =>
      intro i v I oI C oC D2 m₂ ys nw h tk E' hi hv hI hC hm F N off ne
      obtain ⟨rfl, hys⟩ := hI
      rw [List.size_toArray, hvl] at hi
      obtain ⟨tv, ev⟩ := hvs.get i _ (List.getElem?_eq_getElem hi)
      obtain rfl : v = .int ns[i] tv := by
        have hv' : vs[i]? = some v := by simpa using hv
        rw [ev] at hv'
        injection hv' with hv'
        exact hv'.symm
      k_steps
      unfold Held
      refine useA rfl rfl rfl (Nat.le_of_ble_eq_true rfl) (Nat.le_of_ble_eq_true rfl) (sign_c _ _ _ _ _ _ _ _ _ _ _ _ _ _ _ _ _ _ _ _ _ _ _ _ B2 F X2 N T2 ?_)
      intro t5 h5 tk5 F5 N5
      k_steps
      unfold Held
      refine LCg.CompEnd.intro F5 N5 _ (fun p hp => hp) off (.inr ⟨_, .head _, rfl, _, rfl⟩) ⟨rfl, ?_⟩
      rw [take_snoc _ i (by rw [List.length_map, List.length_map]; exact hi), ones_getD (by rw [List.length_map]; exact hi), show (ns.map signC).getD i 0 = signC ns[i] by simp [List.getD, hi]]
      exact strs_snoc hys
    case fin4 =>
      intro ys nw hI
      obtain ⟨rfl, hys⟩ := hI
      rw [List.take_of_length_le (by rw [List.length_map, List.length_map, List.size_toArray]; lia)] at hys
      have htl : (ns.map signC).length = ns.length := List.length_map ..
      have htc : ∀ c ∈ ns.map signC, c < 1114112 := fun c hc => by
        obtain ⟨z, _, rfl⟩ := List.mem_map.mp hc
        exact signC_lt z
      generalize ns.map signC = t at *
      k_steps
      unfold Held
      rename News _ _ _ _ => N8
      rename Fr _ _ _ _ => F8
      refine join_words (ws := t.map fun c => [c]) ⟨_, (N8 _ (.head _)).1, rfl, _, rfl⟩ hys (by rw [flat_ones]; lia) ?_
      rw [flat_ones]
      intro t9 k9
      have ht1 : 1 ≤ t.length := by lia
      have htn : t ≠ [] := fun e => by rw [e] at ht1; exact absurd ht1 (by decide)
      k_steps
      unfold Held
      rename News _ _ _ _ => Na
      rename Fr _ _ _ _ => Fa
      refine useA rfl rfl rfl (Nat.le_of_ble_eq_true rfl) (Nat.le_of_ble_eq_true rfl) (there_c _ _ _ _ _ t _ _ rfl (txt_len t) ht1 (by lia) htc _ _ _ _ _ _ _ _ _ _ _ _ _ _ _ _ B2 Fa X2 Na T2 ?_)
      intro D3 t10 c3 h10 tk10 Fb Nb
      k_steps
      unfold Held
      rename News _ _ _ _ => Nc
      rename Fr _ _ _ _ => Fc
      have hthl := there_length t
      refine useA rfl rfl rfl (Nat.le_of_ble_eq_true rfl) (Nat.le_of_ble_eq_true rfl) (back_c _ _ _ _ _ (there t) _ _ rfl (txt_len _) (by lia) (by lia) (fun c hc => htc c (there_mem t c hc)) _ _ _ _ _ _ _ _ _ _ _ _ _ _ _ _ _ B2 Fc X2 Nc T2 ?_)
      rw [back_there htn]
      intro t11 h11 tk11 Fd Nd
      k_steps
      unfold Held
      refine P.ne_str ?_
      rw [bne_self_eq_false]
      k_steps
      unfold Held
      have hbl := back_length htn
      refine useA rfl rfl rfl (Nat.le_of_ble_eq_true rfl) (Nat.le_of_ble_eq_true rfl) (back_c _ _ _ _ _ t _ _ rfl (txt_len _) (by lia) (by lia) htc _ _ _ _ _ _ _ _ _ _ _ _ _ _ _ _ _ B2 Fd X2 Nd T2 ?_)
      intro t12 h12 tk12 Fe Ne
      k_steps
      unfold Held
      refine useA rfl rfl rfl (Nat.le_of_ble_eq_true rfl) (Nat.le_of_ble_eq_true rfl) (there_c _ _ _ _ _ (back t) _ _ rfl (txt_len _) (by lia) (by lia) (fun c hc => htc c (back_mem htn c hc)) _ _ _ _ _ _ _ _ _ _ _ _ _ _ _ _ B2 Fe X2 Ne T2 ?_)
      rw [there_back htn]
      intro D4 t13 c4 h13 tk13 Ff Nf
      k_steps
      unfold Held
      rename News _ _ _ _ => Ng
      refine eq_one (x := txt t) (Ng _ (.tail _ (.head _))).1 (Ng _ (.head _)).1 (Nat.le_of_ble_eq_true rfl) ?_
      k_steps
end
end Mine
end
set_option maxRecDepth 100000 in
theorem PySem.Challenge.cw_nq0198_01_holds : PySem.Challenge.rw_nq0198_01.Holds := by
  exact Mine.T0
