/- Plain law: the numbers below n, reached in steps that have no divisor with n. -/
import Derived.Test.YtkgcjgedpefhjaaSt
import Derived.Test.YtkgcjgedpefhjaaWq
namespace Go.Proofs.Ytkgcjgedpefhjaa

theorem pigeon : ∀ (n : Nat) (l : List Nat), l.Nodup → (∀ x ∈ l, x < n) → l.length ≤ n
  | 0, l, _, h => by
    cases l with
    | nil => simp
    | cons x l => have := h x List.mem_cons_self; omega
  | n + 1, l, hd, h => by
    by_cases hn : n ∈ l
    · have h1 := pigeon n (l.erase n) (hd.erase n) (fun x hx => by
        have h2 := (hd.mem_erase_iff).1 hx
        have := h x h2.2
        have := h2.1
        omega)
      rw [List.length_erase_of_mem hn] at h1
      omega
    · have h1 := pigeon n l hd (fun x hx => by
        have := h x hx
        have : x ≠ n := fun e => hn (e ▸ hx)
        omega)
      omega

theorem pigeon_all {n : Nat} {l : List Nat} (hd : l.Nodup) (h : ∀ x ∈ l, x < n) (hl : l.length = n) {k : Nat} (hk : k < n) : k ∈ l := by
  rcases Decidable.em (k ∈ l) with h1 | h1
  · exact h1
  · have := pigeon n (k :: l) (List.nodup_cons.2 ⟨h1, hd⟩) (fun x hx => by
      rcases List.mem_cons.1 hx with rfl | hx
      · exact hk
      · exact h x hx)
    simp at this
    omega

theorem step_inj {n s i j : Nat} (hc : Nat.Coprime n s) (hi : i < j) (hj : j < n) (h : i * s % n = j * s % n) : False := by
  have h1 := Nat.sub_mod_eq_zero_of_mod_eq h.symm
  have h2 : n ∣ (j - i) * s := by rw [Nat.sub_mul]; exact Nat.dvd_of_mod_eq_zero h1
  have h3 : n ∣ j - i := Nat.Coprime.dvd_of_dvd_mul_right hc h2
  have := Nat.le_of_dvd (by omega) h3
  omega

theorem step_all {n s k : Nat} (hc : Nat.Coprime n s) (hk : k < n) : ∃ j, j < n ∧ j * s % n = k := by
  have hd : ((List.range n).map fun j => j * s % n).Nodup := by
    rw [List.nodup_iff_pairwise_ne, List.pairwise_map]
    refine List.Pairwise.imp_of_mem ?_ (List.pairwise_lt_range (n := n))
    intro a b ha hb hab e
    exact step_inj hc hab (List.mem_range.1 hb) e
  have := pigeon_all hd (fun x hx => by
    obtain ⟨j, _, rfl⟩ := List.mem_map.1 hx
    exact Nat.mod_lt _ (by omega)) (by simp) hk
  obtain ⟨j, h1, h2⟩ := List.mem_map.1 this
  exact ⟨j, List.mem_range.1 h1, h2⟩

def strideL (n s : Nat) : List (Int × Int) := (List.range n).map fun i => (((i * s % n : Nat) : Int), (i : Int))

theorem insL_has {x y : Int × Int} : ∀ {l : List (Int × Int)}, y ∈ l → ∃ z ∈ insL (ltR id) x l, z.1 = y.1
  | z :: l, h => by
    rw [insL]
    split
    · rcases List.mem_cons.1 h with rfl | h
      · exact ⟨_, List.mem_cons_self, rfl⟩
      · obtain ⟨z', h1, h2⟩ := insL_has (x := x) h
        exact ⟨z', List.mem_cons_of_mem _ h1, h2⟩
    · rename_i h1
      split
      · exact ⟨y, List.mem_cons_of_mem _ h, rfl⟩
      · rename_i h2
        rcases List.mem_cons.1 h with rfl | h
        · exact ⟨x, List.mem_cons_self, by simp [ltR] at h1 h2; omega⟩
        · exact ⟨y, List.mem_cons_of_mem _ h, rfl⟩

theorem insL_self {x : Int × Int} : ∀ {l : List (Int × Int)}, x ∈ insL (ltR id) x l
  | [] => List.mem_singleton.2 rfl
  | z :: l => by
    rw [insL]
    split
    · exact List.mem_cons_of_mem _ insL_self
    · split
      · exact List.mem_cons_self
      · exact List.mem_cons_self

theorem tree_facts : ∀ (l acc : List (Int × Int)), Srt (ltR id) acc → Srt (ltR id) (l.foldl (fun acc x => insL (ltR id) x acc) acc) ∧ (∀ y ∈ l.foldl (fun acc x => insL (ltR id) x acc) acc, y ∈ acc ∨ y ∈ l) ∧
    (∀ y, (y ∈ acc ∨ y ∈ l) → ∃ z ∈ l.foldl (fun acc x => insL (ltR id) x acc) acc, z.1 = y.1)
  | [], acc, hs => ⟨hs, fun y h => .inl h, fun y h => by
      rcases h with h | h
      · exact ⟨y, h, rfl⟩
      · cases h⟩
  | x :: l, acc, hs => by
    have hsw : Swo (ltR id) := swoM
    obtain ⟨h1, h2, h3⟩ := tree_facts l (insL (ltR id) x acc) (insL_srt hsw x hs)
    refine ⟨h1, fun y hy => ?_, fun y hy => ?_⟩
    · rcases h2 y hy with h | h
      · rcases insL_mem h with rfl | h
        · exact .inr List.mem_cons_self
        · exact .inl h
      · exact .inr (List.mem_cons_of_mem _ h)
    · have key : ∀ z, z ∈ insL (ltR id) x acc ∨ z ∈ l → z.1 = y.1 → ∃ z' ∈ (x :: l).foldl (fun acc x => insL (ltR id) x acc) acc, z'.1 = y.1 := by
        intro z hz e
        obtain ⟨z', g1, g2⟩ := h3 z hz
        exact ⟨z', g1, g2.trans e⟩
      rcases hy with hy | hy
      · obtain ⟨z, g1, g2⟩ := insL_has (x := x) hy
        exact key z (.inl g1) g2
      · rcases List.mem_cons.1 hy with rfl | hy
        · exact key y (.inl insL_self) rfl
        · exact key y (.inr hy) rfl

theorem uniq_sorted : ∀ (A B : List Int), A.Pairwise (· < ·) → B.Pairwise (· < ·) → (∀ x, x ∈ A ↔ x ∈ B) → A = B
  | [], [], _, _, _ => rfl
  | [], b :: B, _, _, h => by have := (h b).2 List.mem_cons_self; cases this
  | a :: A, [], _, _, h => by have := (h a).1 List.mem_cons_self; cases this
  | a :: A, b :: B, hA, hB, h => by
    obtain ⟨a1, a2⟩ := List.pairwise_cons.1 hA
    obtain ⟨b1, b2⟩ := List.pairwise_cons.1 hB
    have e : a = b := by
      rcases List.mem_cons.1 ((h a).1 List.mem_cons_self) with h1 | h1
      · exact h1
      · rcases List.mem_cons.1 ((h b).2 List.mem_cons_self) with h2 | h2
        · exact h2.symm
        · have := b1 a h1; have := a1 b h2; omega
    subst e
    rw [uniq_sorted A B a2 b2 (fun x => ?_)]
    constructor
    · intro hx
      rcases List.mem_cons.1 ((h x).1 (List.mem_cons_of_mem _ hx)) with rfl | h1
      · have := a1 _ hx; omega
      · exact h1
    · intro hx
      rcases List.mem_cons.1 ((h x).2 (List.mem_cons_of_mem _ hx)) with rfl | h1
      · have := b1 _ hx; omega
      · exact h1

/-- The tree of such a list: each number below n at its own index, with the place at which it was set. -/
theorem stride_tree {n s : Nat} (hc : Nat.Coprime n s) : (treeL (ltR id) (strideL n s)).length = n ∧ ∀ i, i < n → ∃ j : Nat, (treeL (ltR id) (strideL n s))[i]? = some ((i : Int), (j : Int)) ∧ j < n ∧ j * s % n = i := by
  obtain ⟨h1, h2, h3⟩ := tree_facts (strideL n s) [] List.Pairwise.nil
  have hmem : ∀ y ∈ treeL (ltR id) (strideL n s), ∃ j : Nat, j < n ∧ y = (((j * s % n : Nat) : Int), (j : Int)) := by
    intro y hy
    rcases h2 y hy with h | h
    · cases h
    · obtain ⟨j, g1, g2⟩ := List.mem_map.1 h
      exact ⟨j, List.mem_range.1 g1, g2.symm⟩
  have hk : (treeL (ltR id) (strideL n s)).map Prod.fst = (List.range n).map fun (i : Nat) => (i : Int) := by
    refine uniq_sorted _ _ ?_ ?_ (fun x => ?_)
    · rw [List.pairwise_map]
      refine List.Pairwise.imp ?_ h1
      intro a b hab
      simpa [ltR] using hab
    · rw [List.pairwise_map]
      refine List.Pairwise.imp ?_ (List.pairwise_lt_range (n := n))
      intro a b hab
      omega
    · constructor
      · intro hx
        obtain ⟨y, g1, rfl⟩ := List.mem_map.1 hx
        obtain ⟨j, g2, rfl⟩ := hmem y g1
        exact List.mem_map.2 ⟨j * s % n, List.mem_range.2 (Nat.mod_lt _ (by omega)), rfl⟩
      · intro hx
        obtain ⟨k, g1, rfl⟩ := List.mem_map.1 hx
        obtain ⟨j, g2, g3⟩ := step_all hc (List.mem_range.1 g1)
        obtain ⟨z, g4, g5⟩ := h3 (((j * s % n : Nat) : Int), (j : Int)) (.inr (List.mem_map.2 ⟨j, List.mem_range.2 g2, rfl⟩))
        exact List.mem_map.2 ⟨z, g4, by rw [g5]; show ((j * s % n : Nat) : Int) = (k : Int); rw [g3]⟩
  have hl : (treeL (ltR id) (strideL n s)).length = n := by
    have := congrArg List.length hk
    simpa using this
  refine ⟨hl, fun i hi => ?_⟩
  obtain ⟨y, hy⟩ : ∃ y, (treeL (ltR id) (strideL n s))[i]? = some y := ⟨_, List.getElem?_eq_getElem (by omega)⟩
  obtain ⟨j, g1, g2⟩ := hmem y (List.mem_of_getElem? hy)
  have e : ((treeL (ltR id) (strideL n s)).map Prod.fst)[i]? = some (i : Int) := by
    rw [hk]
    simp [hi]
  rw [List.getElem?_map, hy] at e
  have e2 : y.1 = (i : Int) := by simpa using e
  subst g2
  have e3 : j * s % n = i := by
    have : ((j * s % n : Nat) : Int) = (i : Int) := e2
    exact Int.ofNat_inj.1 this
  exact ⟨j, by rw [hy, e3], g1, e3⟩
end Go.Proofs.Ytkgcjgedpefhjaa
