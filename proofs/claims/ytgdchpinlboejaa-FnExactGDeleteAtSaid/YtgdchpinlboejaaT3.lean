/- Items set and deleted again: sorted lists. No program in sight. -/
import Derived.Test.YtgdchpinlboejaaA10
import Derived.Test.YtgdchpinlboejaaA20
namespace Go.Proofs.Ytgdchpinlboejaa
set_option linter.unusedSimpArgs false
set_option linter.unusedVariables false
open Go.RowKit

variable {ord : List Int}

/-- The items of ks taken out of l one behind the other. -/
def delsL (lt : It ord → It ord → Bool) (l ks : List (It ord)) : List (It ord) := ks.foldl (fun acc x => delL lt x acc) l

/-- What there was of each. -/
def delsF (lt : It ord → It ord → Bool) (l ks : List (It ord)) : List (Option (It ord)) := (List.range ks.length).map fun j => (ks[j]?).bind fun x => fndL lt x (delsL lt l (ks.take j))

theorem delsF_len (lt : It ord → It ord → Bool) (l ks : List (It ord)) : (delsF lt l ks).length = ks.length := by simp [delsF]

theorem delsF_take {lt : It ord → It ord → Bool} {l ks : List (It ord)} {j : Nat} {x : It ord} (hx : ks[j]? = some x) : (delsF lt l ks).take (j + 1) = (delsF lt l ks).take j ++ [fndL lt x (delsL lt l (ks.take j))] := by
  have hj := (List.getElem?_eq_some_iff.1 hx).1
  rw [List.take_add_one]
  congr 1
  unfold delsF
  rw [List.getElem?_map, List.getElem?_range hj]
  simp [hx]

theorem delsL_take {lt : It ord → It ord → Bool} {l ks : List (It ord)} {j : Nat} {x : It ord} (hx : ks[j]? = some x) : delsL lt l (ks.take (j + 1)) = delL lt x (delsL lt l (ks.take j)) := by
  unfold delsL
  rw [List.take_add_one, hx, List.foldl_append]; rfl

theorem delsL_sub (lt : It ord → It ord → Bool) : ∀ (ks l : List (It ord)), (delsL lt l ks).Sublist l
  | [], l => List.Sublist.refl _
  | x :: ks, l => (delsL_sub lt ks (delL lt x l)).trans (delL_sub l)

theorem delsL_len (lt : It ord → It ord → Bool) (l ks : List (It ord)) : (delsL lt l ks).length ≤ l.length := (delsL_sub lt ks l).length_le

end Go.Proofs.Ytgdchpinlboejaa

namespace Go.Proofs.Ytgdchpinlboejaa
set_option linter.unusedSimpArgs false
set_option linter.unusedVariables false

variable {ord : List Int}

/-- Neither comes before the other. -/
def eqv (x y : It ord) : Bool := !ltM x y && !ltM y x

theorem eqv_symm {x y : It ord} : eqv x y = eqv y x := by unfold eqv; rw [Bool.and_comm]
theorem eqv_self (x : It ord) : eqv x x = true := by unfold eqv; rw [swoM.irrefl]; rfl

/-- A sorted list, seen from x. -/
theorem look {L : List (It ord)} (hs : Srt ltM L) (x : It ord) :
    (∃ A C, L = A ++ C ∧ (∀ a ∈ A, ltM a x = true) ∧ (∀ c ∈ C, ltM x c = true) ∧ fndL ltM x L = none ∧ insL ltM x L = A ++ x :: C) ∨
    (∃ A y C, L = A ++ y :: C ∧ (∀ a ∈ A, ltM a x = true) ∧ (∀ c ∈ C, ltM x c = true) ∧ eqv y x = true ∧ fndL ltM x L = some y ∧ delL ltM x L = A ++ C) := by
  rcases pos_or_hit swoM (x := x) hs with ⟨i, hp⟩ | ⟨i, y, hy⟩
  · have hA : ∀ a ∈ L.take i, ltM a x = true := fun a ha => by
      obtain ⟨j, hj, e⟩ := mem_take_get ha
      exact hp.left j a hj e
    have hC : ∀ c ∈ L.drop i, ltM x c = true := fun c hc => by
      obtain ⟨j, hj, e⟩ := mem_drop_get hc
      exact hp.right j c hj e
    refine .inl ⟨L.take i, L.drop i, (List.take_append_drop i L).symm, hA, hC, ?_, ?_⟩
    · conv => lhs; rw [← List.take_append_drop i L]
      exact fndL_gap swoM hA hC
    · conv => lhs; rw [← List.take_append_drop i L]
      exact insL_gap swoM hA hC
  · have e := split_at hy.at_
    have hA : ∀ a ∈ L.take i, ltM a x = true := fun a ha => by
      obtain ⟨j, hj, e⟩ := mem_take_get ha
      exact hy.left j a hj e
    have hC : ∀ c ∈ L.drop (i + 1), ltM x c = true := fun c hc => by
      rw [e] at hs
      have := (List.pairwise_cons.1 (List.pairwise_append.1 hs).2.1).1 c hc
      exact swoM.lt_of_nlt_of_lt hy.n1 this
    refine .inr ⟨L.take i, y, L.drop (i + 1), e, hA, hC, by unfold eqv; rw [hy.n1, hy.n2]; rfl, ?_, ?_⟩
    · conv => lhs; rw [e]
      exact fndL_hit hA hy.n1 hy.n2
    · conv => lhs; rw [e]
      exact delL_hit hA hy.n1 hy.n2

theorem fnd_mem {L : List (It ord)} (hs : Srt ltM L) {x : It ord} (hx : x ∈ L) : fndL ltM x L = some x := by
  obtain ⟨A, B, rfl⟩ := List.append_of_mem hx
  exact fndL_hit (fun a ha => (List.pairwise_append.1 hs).2.2 a ha x List.mem_cons_self) (swoM.irrefl x) (swoM.irrefl x)

theorem fnd_none_eqv {L : List (It ord)} (hs : Srt ltM L) {x y : It ord} (h : fndL ltM x L = none) (hy : y ∈ L) : eqv y x = false := by
  rcases look hs x with ⟨A, C, rfl, hA, hC, _, _⟩ | ⟨A, z, C, _, _, _, _, h2, _⟩
  · unfold eqv
    rcases List.mem_append.1 hy with hy | hy
    · rw [hA y hy]; rfl
    · rw [hC y hy]; simp
  · rw [h2] at h; cases h

theorem del_mem {L : List (It ord)} (hs : Srt ltM L) {x y : It ord} (hy : y ∈ L) (hne : eqv y x = false) : y ∈ delL ltM x L := by
  rcases look hs x with ⟨A, C, _, _, _, h2, _⟩ | ⟨A, z, C, rfl, _, _, he, _, h2⟩
  · rw [delL_none h2]; exact hy
  · rw [h2]
    rcases List.mem_append.1 hy with hy | hy
    · exact List.mem_append_left _ hy
    · rcases List.mem_cons.1 hy with rfl | hy
      · rw [he] at hne; cases hne
      · exact List.mem_append_right _ hy

theorem filter_del {L : List (It ord)} (hs : Srt ltM L) {x : It ord} {p : It ord → Bool} (hp : ∀ y, eqv y x = true → p y = false) : (delL ltM x L).filter p = L.filter p := by
  rcases look hs x with ⟨A, C, _, _, _, h2, _⟩ | ⟨A, z, C, rfl, _, _, he, _, h2⟩
  · rw [delL_none h2]
  · rw [h2, List.filter_append, List.filter_append, List.filter_cons, hp z he]; simp

theorem filter_ins {L : List (It ord)} (hs : Srt ltM L) {x : It ord} (hn : fndL ltM x L = none) {p : It ord → Bool} (hp : p x = false) : (insL ltM x L).filter p = L.filter p := by
  rcases look hs x with ⟨A, C, rfl, _, _, _, h2⟩ | ⟨A, z, C, _, _, _, _, h2, _⟩
  · rw [h2, List.filter_append, List.filter_append, List.filter_cons, hp]; simp
  · rw [h2] at hn; cases hn

theorem ins_mem {L : List (It ord)} (hs : Srt ltM L) {x : It ord} (hn : fndL ltM x L = none) {y : It ord} : y ∈ insL ltM x L ↔ y = x ∨ y ∈ L := by
  rcases look hs x with ⟨A, C, rfl, _, _, _, h2⟩ | ⟨A, z, C, _, _, _, _, h2, _⟩
  · rw [h2]
    simp only [List.mem_append, List.mem_cons]
    constructor
    · rintro (h | h | h)
      · exact .inr (.inl h)
      · exact .inl h
      · exact .inr (.inr h)
    · rintro (h | h | h)
      · exact .inr (.inl h)
      · exact .inl h
      · exact .inr (.inr h)
  · rw [h2] at hn; cases hn

/-- An item that is not there, set and deleted again. -/
theorem there_back {L : List (It ord)} (hs : Srt ltM L) {x : It ord} (hn : fndL ltM x L = none) : fndL ltM x (insL ltM x L) = some x ∧ delL ltM x (insL ltM x L) = L := by
  rcases look hs x with ⟨A, C, e, hA, hC, _, h2⟩ | ⟨A, z, C, _, _, _, _, h2, _⟩
  · rw [h2]
    exact ⟨fndL_hit hA (swoM.irrefl x) (swoM.irrefl x), by rw [delL_hit hA (swoM.irrefl x) (swoM.irrefl x)]; exact e.symm⟩
  · rw [h2] at hn; cases hn

/-! ### Many of them -/
def insF (S k : List (It ord)) : List (It ord) := k.foldl (fun acc x => insL ltM x acc) S

def AllNew (S : List (It ord)) : List (It ord) → Prop
  | [] => True
  | x :: k => fndL ltM x S = none ∧ AllNew (insL ltM x S) k

theorem insF_len_le : ∀ (k S : List (It ord)), (insF S k).length ≤ S.length + k.length
  | [], S => by simp [insF]
  | x :: k, S => by
    have h1 := insF_len_le k (insL ltM x S)
    have h2 := insL_len (lt := ltM) (x := x) (l := S)
    show (insF (insL ltM x S) k).length ≤ _
    simp only [List.length_cons]
    split at h2 <;> omega

theorem allNew_of : ∀ (k S : List (It ord)), (insF S k).length = S.length + k.length → AllNew S k
  | [], _, _ => trivial
  | x :: k, S, h => by
    have h1 := insF_len_le k (insL ltM x S)
    have h2 := insL_len (lt := ltM) (x := x) (l := S)
    have h3 : (insF (insL ltM x S) k).length = S.length + (k.length + 1) := h
    cases hf : fndL ltM x S with
    | none =>
      rw [hf] at h2
      refine ⟨hf, allNew_of k _ ?_⟩
      simp at h2; omega
    | some y =>
      rw [hf] at h2
      simp at h2; omega

theorem insF_srt : ∀ (k S : List (It ord)), Srt ltM S → Srt ltM (insF S k)
  | [], _, h => h
  | x :: k, S, h => insF_srt k _ (insL_srt swoM x h)

theorem insF_mem : ∀ (k S : List (It ord)), Srt ltM S → AllNew S k → (∀ y ∈ S, y ∈ insF S k) ∧ (∀ x ∈ k, x ∈ insF S k)
  | [], S, _, _ => ⟨fun _ h => h, fun _ h => by cases h⟩
  | x :: k, S, hs, ⟨h1, h2⟩ => by
    obtain ⟨g1, g2⟩ := insF_mem k (insL ltM x S) (insL_srt swoM x hs) h2
    refine ⟨fun y hy => g1 y ((ins_mem hs h1).2 (.inr hy)), fun y hy => ?_⟩
    rcases List.mem_cons.1 hy with rfl | hy
    · exact g1 y ((ins_mem hs h1).2 (.inl rfl))
    · exact g2 y hy

theorem allNew_apart : ∀ (k S : List (It ord)), Srt ltM S → AllNew S k → k.Pairwise (fun a b => eqv a b = false) ∧ ∀ y ∈ S, ∀ x ∈ k, eqv y x = false
  | [], _, _, _ => ⟨List.Pairwise.nil, fun _ _ _ h => by cases h⟩
  | x :: k, S, hs, ⟨h1, h2⟩ => by
    obtain ⟨g1, g2⟩ := allNew_apart k (insL ltM x S) (insL_srt swoM x hs) h2
    refine ⟨List.pairwise_cons.2 ⟨fun y hy => g2 x ((ins_mem hs h1).2 (.inl rfl)) y hy, g1⟩, fun y hy z hz => ?_⟩
    rcases List.mem_cons.1 hz with rfl | hz
    · exact fnd_none_eqv hs h1 hy
    · exact g2 y ((ins_mem hs h1).2 (.inr hy)) z hz

theorem filter_insF {p : It ord → Bool} : ∀ (k S : List (It ord)), Srt ltM S → AllNew S k → (∀ x ∈ k, p x = false) → (insF S k).filter p = S.filter p
  | [], _, _, _, _ => rfl
  | x :: k, S, hs, ⟨h1, h2⟩, hp => by
    show (insF (insL ltM x S) k).filter p = _
    rw [filter_insF k _ (insL_srt swoM x hs) h2 (fun y hy => hp y (List.mem_cons_of_mem _ hy)), filter_ins hs h1 (hp x List.mem_cons_self)]

theorem delL_srt {L : List (It ord)} (hs : Srt ltM L) (x : It ord) : Srt ltM (delL ltM x L) := hs.sublist (delL_sub L)

theorem delsF_cons (S : List (It ord)) (x : It ord) (ks : List (It ord)) : delsF ltM S (x :: ks) = fndL ltM x S :: delsF ltM (delL ltM x S) ks := by
  unfold delsF
  rw [List.length_cons, List.range_succ_eq_map, List.map_cons, List.map_map]
  congr 1

theorem delsF_all : ∀ (ks S : List (It ord)), Srt ltM S → ks.Pairwise (fun a b => eqv a b = false) → (∀ x ∈ ks, x ∈ S) → delsF ltM S ks = ks.map some
  | [], _, _, _, _ => rfl
  | x :: ks, S, hs, hp, hm => by
    obtain ⟨h1, h2⟩ := List.pairwise_cons.1 hp
    rw [delsF_cons, fnd_mem hs (hm x List.mem_cons_self), delsF_all ks (delL ltM x S) (delL_srt hs x) h2 (fun y hy => del_mem hs (hm y (List.mem_cons_of_mem _ hy)) (by rw [eqv_symm]; exact h1 y hy))]
    rfl

theorem filter_dels {p : It ord → Bool} : ∀ (ks S : List (It ord)), Srt ltM S → (∀ x ∈ ks, ∀ y, eqv y x = true → p y = false) → (delsL ltM S ks).filter p = S.filter p
  | [], _, _, _ => rfl
  | x :: ks, S, hs, hp => by
    show (delsL ltM (delL ltM x S) ks).filter p = _
    rw [filter_dels ks _ (delL_srt hs x) (fun y hy => hp y (List.mem_cons_of_mem _ hy)), filter_del hs (hp x List.mem_cons_self)]

theorem del_no_eqv {L : List (It ord)} (hs : Srt ltM L) (x : It ord) : ∀ y ∈ delL ltM x L, eqv y x = false := by
  rcases look hs x with ⟨A, C, e, hA, hC, h2, _⟩ | ⟨A, z, C, e, hA, hC, _, _, h2⟩
  · rw [delL_none h2]
    exact fun y hy => fnd_none_eqv hs h2 hy
  · rw [h2]
    intro y hy
    unfold eqv
    rcases List.mem_append.1 hy with hy | hy
    · rw [hA y hy]; rfl
    · rw [hC y hy]; simp

theorem dels_no_eqv : ∀ (ks S : List (It ord)), Srt ltM S → ∀ y ∈ delsL ltM S ks, ∀ x ∈ ks, eqv y x = false
  | [], _, _, _, _, _, h => by cases h
  | x :: ks, S, hs, y, hy, z, hz => by
    rcases List.mem_cons.1 hz with rfl | hz
    · exact del_no_eqv hs z y ((delsL_sub ltM ks _).subset hy)
    · exact dels_no_eqv ks _ (delL_srt hs x) y hy z hz

/-- All that was new, deleted again in whatever order. -/
theorem undo {S k ks : List (It ord)} (hs : Srt ltM S) (hn : AllNew S k) (hp : ks.Perm k) : delsF ltM (insF S k) ks = ks.map some ∧ delsL ltM (insF S k) ks = S := by
  obtain ⟨m1, m2⟩ := insF_mem k S hs hn
  obtain ⟨a1, a2⟩ := allNew_apart k S hs hn
  have hpk : ks.Pairwise (fun a b => eqv a b = false) := (hp.pairwise_iff (fun h => by rw [eqv_symm]; exact h)).2 a1
  refine ⟨delsF_all ks _ (insF_srt k S hs) hpk (fun x hx => m2 x (hp.subset hx)), ?_⟩
  have hdec : ∀ (p : It ord → Bool), (p = fun y => ks.all fun x => !eqv y x) → delsL ltM (insF S k) ks = S := by
    intro p hpd
    have e1 : (delsL ltM (insF S k) ks).filter p = delsL ltM (insF S k) ks := List.filter_eq_self.2 fun y hy => by
      rw [hpd]
      exact List.all_eq_true.2 fun x hx => by rw [dels_no_eqv ks _ (insF_srt k S hs) y hy x hx]; rfl
    have e2 : S.filter p = S := List.filter_eq_self.2 fun y hy => by
      rw [hpd]
      exact List.all_eq_true.2 fun x hx => by rw [a2 y hy x (hp.subset hx)]; rfl
    have e3 := filter_dels (p := p) ks _ (insF_srt k S hs) (fun x hx y he => by
      rw [hpd]
      cases h : (ks.all fun x => !eqv y x) with
      | false => exact h
      | true =>
        have := List.all_eq_true.1 h x hx
        rw [he] at this; cases this)
    have e4 := filter_insF (p := p) k S hs hn (fun x hx => by
      rw [hpd]
      cases h : (ks.all fun z => !eqv x z) with
      | false => exact h
      | true =>
        have := List.all_eq_true.1 h x (hp.symm.subset hx)
        rw [eqv_self] at this; cases this)
    rw [← e1, e3, e4, e2]
  exact hdec _ rfl

theorem rot_perm {α : Type} (k : List α) (i : Nat) : (k.drop i ++ k.take i).Perm k := by
  have h : (k.take i ++ k.drop i).Perm k := by rw [List.take_append_drop]
  exact List.perm_append_comm.trans h

theorem rot_get {α : Type} (k : List α) (i j : Nat) (hi : i < k.length) (hj : j < k.length) : (k.drop i ++ k.take i)[j]? = k[(i + j) % k.length]? := by
  have hl : (k.drop i).length = k.length - i := List.length_drop
  rcases Nat.lt_or_ge j (k.length - i) with h | h
  · rw [List.getElem?_append_left (by omega), List.getElem?_drop, Nat.mod_eq_of_lt (by omega)]
  · rw [List.getElem?_append_right (by omega), hl, List.getElem?_take_of_lt (by omega)]
    congr 1
    rw [Nat.mod_eq_sub_mod (by omega), Nat.mod_eq_of_lt (by omega)]
    omega

theorem growL_append (l k : List (It ord)) : growL (l ++ k) = insF (growL l) k := by
  unfold growL insF
  rw [List.foldl_append]
end Go.Proofs.Ytgdchpinlboejaa
