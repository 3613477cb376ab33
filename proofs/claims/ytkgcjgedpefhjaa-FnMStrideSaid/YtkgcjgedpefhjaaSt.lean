/- spec: Tree, Cut, At. -/
import Derived.Test.YtkgcjgedpefhjaaSe
namespace Go.Proofs.Ytkgcjgedpefhjaa
open Go.RowKit

/-- A slice of items of the call's own: nil, or a row from base on. -/
def OutI (w : World) (v : Value) (l : List (Int × Int)) (base : Nat) : Prop := (l = [] ∧ v = .slice none 0 0) ∨ RowI w v l base

theorem RowI.chg {w w' : World} {v : Value} {l : List (Int × Int)} {base : Nat} (h : RowI w v l base) (c : Chg (fun _ _ => False) w w') : RowI w' v l base := by
  obtain ⟨b, o, cap, h1, h2, h3, h4⟩ := h
  exact ⟨b, o, cap, h1, h2, h3, h4.chg c (fun _ _ h => h)⟩

theorem RowI.mono {w : World} {v : Value} {l : List (Int × Int)} {base base' : Nat} (h : RowI w v l base) (hb : base' ≤ base) : RowI w v l base' := by
  obtain ⟨b, o, cap, h1, h2, h3, h4⟩ := h
  exact ⟨b, o, cap, h1, h2, by omega, h4⟩

theorem OutI.chg {w w' : World} {v : Value} {l : List (Int × Int)} {base : Nat} (h : OutI w v l base) (c : Chg (fun _ _ => False) w w') : OutI w' v l base := h.imp id (fun h => h.chg c)

theorem OutI.items {w : World} {v : Value} {l : List (Int × Int)} {base : Nat} (h : OutI w v l base) : ∃ p cap, v = .slice p l.length cap ∧ ItemsAt w p l ∧ l.length ≤ cap := by
  rcases h with ⟨rfl, rfl⟩ | h
  · exact ⟨none, 0, rfl, .inl rfl, Nat.le_refl _⟩
  · obtain ⟨p, cap, h1, h2⟩ := h.items
    obtain ⟨b, o, cap', h3, h4, _⟩ := h
    rw [h1] at h3
    have : cap = cap' := by injection h3
    exact ⟨p, cap, h1, h2, by omega⟩

theorem putL_ins {lt : Int × Int → Int × Int → Bool} {l : List (Int × Int)} {x : Int × Int} {i : Nat} {b : Bool}
    (h : i ≤ l.length ∧ (∀ j y, j < i → l[j]? = some y → lt y x = true) ∧ (∀ y, l[i]? = some y → lt y x = false) ∧ ((∃ y, l[i]? = some y ∧ lt x y = false ∧ b = true) ∨ ((∀ y, l[i]? = some y → lt x y = true) ∧ b = false))) :
    putL l x i b = insL lt x l ∧ putF l i b = fndL lt x l := by
  obtain ⟨h1, h2, h3, h4⟩ := h
  have hp : ∀ a ∈ l.take i, lt a x = true := by
    intro a ha
    obtain ⟨j, g1, g2⟩ := mem_take_get ha
    exact h2 j a g1 g2
  have e1 : insL lt x l = l.take i ++ insL lt x (l.drop i) := by
    conv => lhs; rw [← List.take_append_drop i l]
    exact insL_pre hp
  have e2 : fndL lt x l = fndL lt x (l.drop i) := by
    conv => lhs; rw [← List.take_append_drop i l]
    exact fndL_pre hp
  rcases h4 with ⟨y, hy, hxy, rfl⟩ | ⟨h4, rfl⟩
  · have hi := (List.getElem?_eq_some_iff.1 hy).1
    have hd : l.drop i = y :: l.drop (i + 1) := by rw [List.drop_eq_getElem_cons hi, (List.getElem?_eq_some_iff.1 hy).2]
    rw [e1, e2, hd]
    have := h3 y hy
    exact ⟨by simp [putL, insL, this, hxy], by simp [putF, fndL, this, hxy, hy]⟩
  · rw [e1, e2]
    cases hd : l.drop i with
    | nil => exact ⟨by simp [putL, insL, hd], by simp [putF, fndL]⟩
    | cons y ys =>
      have hy : l[i]? = some y := by
        have := List.getElem?_drop (xs := l) (i := i) (j := 0)
        rw [hd] at this; simpa using this.symm
      exact ⟨by simp [putL, insL, hd, h3 y hy, h4 y hy], by simp [putF, fndL, h3 y hy, h4 y hy]⟩

def PutPost2 (rk : Int → Int) (l : List (Int × Int)) (x : Int × Int) (w : World) (e : Ending) (w' : World) : Prop :=
  ∃ v, e = .returned (.tuple #[v, foundV (fndL (ltR rk) x l)]) ∧ RowI w' v (insL (ltR rk) x l) w.heap.size ∧ Chg (fun _ _ => False) w w'

theorem put_out (ordv : Value) (rk : Int → Int) (v : Value) (l : List (Int × Int)) (base : Nat) (x : Int × Int) (w : World) (hR : RankOk ordv rk w) (h : OutI w v l base) (hlen : l.length ≤ 2147483648) :
    Calls Try.prog 44 #[ordv, v, itemV x] w (PutPost2 rk l x w) := by
  have fin : ∀ e w', PutPost rk l x w e w' → PutPost2 rk l x w e w' := by
    rintro e w' ⟨v, i, b, h1, h2, h3, h4⟩
    obtain ⟨g1, g2⟩ := putL_ins h1
    rw [g1] at h3
    rw [g2] at h2
    exact ⟨v, h2, h3, h4⟩
  rcases h with ⟨rfl, rfl⟩ | h
  · exact (put_none ordv rk x w hR).mono fin
  · obtain ⟨b, o, cap, rfl, h2, _⟩ := id h
    obtain ⟨p, cap', hv, hi⟩ := h.items
    obtain ⟨rfl, rfl⟩ : some (⟨b, o, none⟩ : Addr) = p ∧ cap = cap' := by injection hv with h1 h2 h3; exact ⟨h1, h3⟩
    refine (put_some ordv rk b o cap l x w hR ?_ hlen h2).mono fin
    rcases hi with rfl | ⟨b2, o2, hp, hc⟩
    · intro i y hy; simp at hy
    · obtain ⟨rfl, rfl⟩ : b = b2 ∧ o = o2 := by simpa using hp
      exact hc

def treeL (lt : Int × Int → Int × Int → Bool) (l : List (Int × Int)) : List (Int × Int) := l.foldl (fun acc x => insL lt x acc) []

theorem treeL_take {lt : Int × Int → Int × Int → Bool} {l : List (Int × Int)} {j : Nat} {x : Int × Int} (h : l[j]? = some x) : treeL lt (l.take (j + 1)) = insL lt x (treeL lt (l.take j)) := by
  unfold treeL
  rw [List.take_add_one, h, List.foldl_append]; rfl

theorem treeL_len' (lt : Int × Int → Int × Int → Bool) : ∀ (l acc : List (Int × Int)), (l.foldl (fun acc x => insL lt x acc) acc).length ≤ acc.length + l.length
  | [], acc => by simp
  | x :: l, acc => by
    have h1 := treeL_len' lt l (insL lt x acc)
    have h2 := insL_len (lt := lt) (x := x) (l := acc)
    simp only [List.foldl_cons, List.length_cons]
    split at h2 <;> omega

theorem treeL_len (lt : Int × Int → Int × Int → Bool) (l : List (Int × Int)) : (treeL lt l).length ≤ l.length := by
  have := treeL_len' lt l []
  simpa [treeL] using this

theorem treeL_take_len (lt : Int × Int → Int × Int → Bool) (l : List (Int × Int)) (j : Nat) : (treeL lt (l.take j)).length ≤ l.length := by
  have := treeL_len lt (l.take j)
  simp only [List.length_take] at this
  omega

def TreePost (lt : Int × Int → Int × Int → Bool) (l : List (Int × Int)) (w : World) (e : Ending) (w' : World) : Prop := ∃ v, e = .returned v ∧ OutI w' v (treeL lt l) w.heap.size ∧ Chg (fun _ _ => False) w w'

set_option maxRecDepth 100000 in
theorem tree_any (ordv : Value) (rk : Int → Int) (p : Option Addr) (cap : Nat) (l : List (Int × Int)) (w : World) (hR : RankOk ordv rk w) (hl : ItemsAt w p l) (hlen : l.length ≤ 2147483647) :
    Calls Try.prog 22 #[ordv, .slice p l.length cap] w (TreePost (ltR rk) l w) := by
  have HR := Lib.hid hR
  clear hR
  go_enter Try.func22, Try.ntmps22
  go_wp2_with fail
  go_loopw [5, 10] (fun v i wr => ∃ (j : Nat), j ≤ l.length ∧ i = .int .i64 j ∧ OutI wr v (treeL (ltR rk) (l.take j)) w.heap.size ∧ Chg (fun _ _ => False) w wr) (fun _ i _ => l.length - (intOf i).toNat)
  case atStart => exact ⟨0, Nat.zero_le _, rfl, .inl ⟨rfl, rfl⟩, Chg.refl _ _⟩
  case round =>
    obtain ⟨j, hj, rfl, hM, hc⟩ := hrel
    have hsz := hc.size
    by_cases hlt : j < l.length
    · obtain ⟨x, hx⟩ : ∃ x, l[j]? = some x := ⟨_, List.getElem?_eq_getElem hlt⟩
      rcases hl.chg hc with hl0 | ⟨b, o, rfl, hcell⟩
      · subst hl0; simp at hlt
      obtain ⟨g0, g1⟩ := hcell j x hx
      have i0 : (0 : Int) ≤ (j : Int) := by omega
      have i1 : (j : Int) < (l.length : Int) := by omega
      have hgl := treeL_take_len (ltR rk) l j
      have hgt := treeL_take (lt := ltR rk) hx
      clear hcell hx
      have HM := Lib.hid hM
      clear hM
      go_wp2_with fail
      have hca : Chg (fun _ _ => False) w (wr.alloc (.cells #[.int .i64 x.1, .int .i64 x.2] 39)) := hc.alloc _
      refine (put_out ordv rk _ _ w.heap.size x _ (HR.out.chg hca) (HM.out.chg ((Chg.refl _ _).alloc _)) (by omega)).mono ?_
      rintro e w2 ⟨v2, rfl, hr2, hc2⟩
      have hsz2 := hca.size
      go_wp2_with fail
      go_roundw
      case rel => exact ⟨j + 1, by omega, by go_num, by rw [hgt]; exact .inr (hr2.mono hsz2), hca.trans hc2⟩
      case measure => simp [intOf]; omega
    · obtain rfl : j = l.length := by omega
      go_wp2_with fail
      go_ret
      exact ⟨_, rfl, by rw [List.take_length] at hM; exact hM, hc⟩
end Go.Proofs.Ytkgcjgedpefhjaa
