/- nodeRebalance over trees, all ways: child j has one item too few. -/
import Derived.Test.YtgdchpinlboejaaA1
import Derived.Test.YtgdchpinlboejaaA14
import Derived.Test.YtgdchpinlboejaaA15
import Derived.Test.YtgdchpinlboejaaA16
import Derived.Test.YtgdchpinlboejaaA17
import Derived.Test.YtgdchpinlboejaaA18
namespace Go.Proofs.Ytgdchpinlboejaa
set_option linter.unusedSimpArgs false
set_option linter.unusedVariables false

variable {α : Type}

/-- Two trees and the item between them, as one. -/
def catT : {h : Nat} → BT α h → α → BT α h → BT α h
  | 0, a, x, b => (a.1, a.2 ++ x :: b.2)
  | _ + 1, a, x, b => (a.1, a.2.1 ++ x :: b.2.1, a.2.2 ++ b.2.2)

/-- The first item of the right one goes up, x goes down to the left one. -/
def lftA : {h : Nat} → BT α h → α → BT α h → BT α h
  | 0, a, x, _ => (a.1, a.2 ++ [x])
  | _ + 1, a, x, b => (a.1, a.2.1 ++ [x], a.2.2 ++ b.2.2.take 1)
def lftB : {h : Nat} → BT α h → BT α h
  | 0, b => (b.1, b.2.drop 1)
  | _ + 1, b => (b.1, b.2.1.drop 1, b.2.2.drop 1)

/-- The last item of the left one goes up, x goes down to the right one. -/
def rgtA : {h : Nat} → BT α h → BT α h
  | 0, a => (a.1, a.2.take (a.2.length - 1))
  | _ + 1, a => (a.1, a.2.1.take (a.2.1.length - 1), a.2.2.take (a.2.2.length - 1))
def rgtB : {h : Nat} → BT α h → α → BT α h → BT α h
  | 0, _, x, b => (b.1, x :: b.2)
  | _ + 1, a, x, b => (b.1, x :: b.2.1, a.2.2.drop (a.2.2.length - 1) ++ b.2.2)

theorem toL_catT {mn mx : Nat} : {h : Nat} → {a b : BT α h} → (x : α) → Sh mn mx h a → toL h (catT a x b) = toL h a ++ x :: toL h b
  | 0, _, _, _, _ => rfl
  | h + 1, a, b, x, hs => by
    show inter (a.2.1 ++ x :: b.2.1) ((a.2.2 ++ b.2.2).map (toL h)) = _
    rw [List.map_append, inter_app _ _ _ _ _ (by rw [List.length_map]; exact hs.2.1)]
    rfl

theorem its_catT : {h : Nat} → (a b : BT α h) → (x : α) → its (catT a x b) = its a ++ x :: its b
  | 0, _, _, _ => rfl
  | _ + 1, _, _, _ => rfl
theorem rid_catT : {h : Nat} → (a b : BT α h) → (x : α) → rid (catT a x b) = rid a
  | 0, _, _, _ => rfl
  | _ + 1, _, _, _ => rfl

theorem sh_catT {mn mx : Nat} : {h : Nat} → {a b : BT α h} → (x : α) → Sh mn mx h a → Sh mn mx h b → (its a).length + (its b).length < mx → Sh mn mx h (catT a x b)
  | 0, a, b, x, _, _, h => by
    show (a.2 ++ x :: b.2).length ≤ mx
    have h2 : a.2.length + b.2.length < mx := h
    simp; omega
  | h + 1, a, b, x, ha, hb, hl => by
    have h2 : a.2.1.length + b.2.1.length < mx := hl
    obtain ⟨a1, a2, a3⟩ := ha
    obtain ⟨b1, b2, b3⟩ := hb
    refine ⟨?_, ?_, fun c hc => ?_⟩
    · show (a.2.1 ++ x :: b.2.1).length ≤ mx
      simp; omega
    · show (a.2.2 ++ b.2.2).length = (a.2.1 ++ x :: b.2.1).length + 1
      simp; omega
    · rcases List.mem_append.1 hc with hc | hc
      · exact a3 c hc
      · exact b3 c hc

theorem ids_catT : {h : Nat} → (a b : BT α h) → (x : α) → ids h b = rid b :: (ids h b).tail ∧ ids h (catT a x b) = ids h a ++ (ids h b).tail
  | 0, _, _, _ => ⟨rfl, rfl⟩
  | h + 1, a, b, x => ⟨rfl, by
    show a.1 :: (a.2.2 ++ b.2.2).flatMap (ids h) = (a.1 :: a.2.2.flatMap (ids h)) ++ b.2.2.flatMap (ids h)
    rw [List.flatMap_append]; rfl⟩

theorem rec_catT {mn mx : Nat} : {h : Nat} → {a b : BT α h} → (x : α) → Sh mn mx h a → recOf h (catT a x b) = ⟨(recOf h a).cnt + ((recOf h b).cnt + 1), its a ++ x :: its b, match (recOf h a).kids, (recOf h b).kids with | some u, some v => some (u ++ v) | _, _ => none⟩
  | 0, a, b, x, _ => by
    show (⟨((a.2 ++ x :: b.2).length : Nat), a.2 ++ x :: b.2, none⟩ : NodeR α) = ⟨(a.2.length : Int) + ((b.2.length : Int) + 1), a.2 ++ x :: b.2, none⟩
    congr 1
    simp
  | h + 1, a, b, x, hs => by
    show (⟨((toL (h + 1) (catT a x b)).length : Nat), a.2.1 ++ x :: b.2.1, some ((a.2.2 ++ b.2.2).map fun c => some (rid c))⟩ : NodeR α) = ⟨((toL (h + 1) a).length : Int) + (((toL (h + 1) b).length : Int) + 1), a.2.1 ++ x :: b.2.1, some ((a.2.2.map fun c => some (rid c)) ++ (b.2.2.map fun c => some (rid c)))⟩
    rw [toL_catT x hs, List.map_append]
    congr 1
    simp

theorem cons_of_head {β : Type} {l : List β} {y : β} (h : l[0]? = some y) : l = y :: l.drop 1 := by
  match l, h with
  | z :: l, h => obtain rfl : z = y := by simpa using h
                 rfl
theorem snoc_of_last {β : Type} {l : List β} {z : β} (h : l[l.length - 1]? = some z) : l = l.take (l.length - 1) ++ [z] ∧ l.drop (l.length - 1) = [z] := by
  obtain ⟨h1, h2⟩ := List.getElem?_eq_some_iff.1 h
  have e : l.drop (l.length - 1) = [z] := by
    rw [List.drop_eq_getElem_cons h1, h2, List.drop_eq_nil_of_le (by omega)]
  exact ⟨by rw [← e, List.take_append_drop], e⟩

/-- A tree one of whose neighbours gives its first item away. -/
theorem toL_lft {mn mx : Nat} : {h : Nat} → {a b : BT α h} → (x : α) → {y : α} → Sh mn mx h a → Sh mn mx h b → (its b)[0]? = some y → toL h (lftA a x b) ++ y :: toL h (lftB b) = toL h a ++ x :: toL h b
  | 0, a, b, x, y, _, _, h => by
    show (a.2 ++ [x]) ++ y :: b.2.drop 1 = a.2 ++ x :: b.2
    have := cons_of_head (l := b.2) h
    rw [List.append_assoc, List.singleton_append, ← this]
  | h + 1, a, b, x, y, ha, hb, hy => by
    have e1 := cons_of_head (l := b.2.1) hy
    obtain ⟨c, hc⟩ : ∃ c, b.2.2[0]? = some c := ⟨_, List.getElem?_eq_getElem (by have := hb.2.1; omega)⟩
    have e2 := cons_of_head (l := b.2.2) hc
    show inter (a.2.1 ++ [x]) ((a.2.2 ++ b.2.2.take 1).map (toL h)) ++ y :: inter (b.2.1.drop 1) ((b.2.2.drop 1).map (toL h)) = inter a.2.1 (a.2.2.map (toL h)) ++ x :: inter b.2.1 (b.2.2.map (toL h))
    have e3 : b.2.2.take 1 = [c] := by rw [e2]; rfl
    have e4 : inter b.2.1 (b.2.2.map (toL h)) = toL h c ++ y :: inter (b.2.1.drop 1) ((b.2.2.drop 1).map (toL h)) := by
      conv => lhs; rw [e1, e2]
      rfl
    rw [e3, e4, List.map_append, inter_app _ _ _ _ _ (by rw [List.length_map]; exact ha.2.1)]
    simp [inter_last]

theorem toL_rgt {mn mx : Nat} : {h : Nat} → {a b : BT α h} → (x : α) → {z : α} → Sh mn mx h a → Sh mn mx h b → (its a)[(its a).length - 1]? = some z → toL h (rgtA a) ++ z :: toL h (rgtB a x b) = toL h a ++ x :: toL h b
  | 0, a, b, x, z, _, _, h => by
    show a.2.take (a.2.length - 1) ++ z :: (x :: b.2) = a.2 ++ x :: b.2
    have := (snoc_of_last (l := a.2) h).1
    conv => rhs; rw [this]
    simp
  | h + 1, a, b, x, z, ha, hb, hz => by
    have e1 := (snoc_of_last (l := a.2.1) hz).1
    obtain ⟨c, hc⟩ : ∃ c, a.2.2[a.2.2.length - 1]? = some c := ⟨_, List.getElem?_eq_getElem (by have := ha.2.1; omega)⟩
    obtain ⟨e2, e3⟩ := snoc_of_last (l := a.2.2) hc
    have hl := ha.2.1
    have hz1 := (List.getElem?_eq_some_iff.1 hz).1
    have hz2 : a.2.1.length - 1 < a.2.1.length := hz1
    show inter (a.2.1.take (a.2.1.length - 1)) ((a.2.2.take (a.2.2.length - 1)).map (toL h)) ++ z :: inter (x :: b.2.1) ((a.2.2.drop (a.2.2.length - 1) ++ b.2.2).map (toL h)) = inter a.2.1 (a.2.2.map (toL h)) ++ x :: inter b.2.1 (b.2.2.map (toL h))
    rw [e3]
    have e4 : inter a.2.1 (a.2.2.map (toL h)) = inter (a.2.1.take (a.2.1.length - 1)) ((a.2.2.take (a.2.2.length - 1)).map (toL h)) ++ z :: toL h c := by
      conv => lhs; rw [e1, e2]
      rw [List.map_append, inter_app _ _ _ _ _ (by simp; omega)]
      simp [inter_last]
    rw [e4]
    simp [inter]

theorem its_lftA : {h : Nat} → (a b : BT α h) → (x : α) → its (lftA a x b) = its a ++ [x]
  | 0, _, _, _ => rfl
  | _ + 1, _, _, _ => rfl
theorem its_lftB : {h : Nat} → (b : BT α h) → its (lftB b) = (its b).drop 1
  | 0, _ => rfl
  | _ + 1, _ => rfl
theorem its_rgtA : {h : Nat} → (a : BT α h) → its (rgtA a) = (its a).take ((its a).length - 1)
  | 0, _ => rfl
  | _ + 1, _ => rfl
theorem its_rgtB : {h : Nat} → (a b : BT α h) → (x : α) → its (rgtB a x b) = x :: its b
  | 0, _, _, _ => rfl
  | _ + 1, _, _, _ => rfl
theorem rid_lftA : {h : Nat} → (a b : BT α h) → (x : α) → rid (lftA a x b) = rid a
  | 0, _, _, _ => rfl
  | _ + 1, _, _, _ => rfl
theorem rid_lftB : {h : Nat} → (b : BT α h) → rid (lftB b) = rid b
  | 0, _ => rfl
  | _ + 1, _ => rfl
theorem rid_rgtA : {h : Nat} → (a : BT α h) → rid (rgtA a) = rid a
  | 0, _ => rfl
  | _ + 1, _ => rfl
theorem rid_rgtB : {h : Nat} → (a b : BT α h) → (x : α) → rid (rgtB a x b) = rid b
  | 0, _, _, _ => rfl
  | _ + 1, _, _, _ => rfl

theorem sh_lft {mn mx : Nat} : {h : Nat} → {a b : BT α h} → (x : α) → Sh mn mx h a → Sh mn mx h b → (its a).length < mx → 0 < (its b).length → Sh mn mx h (lftA a x b) ∧ Sh mn mx h (lftB b)
  | 0, a, b, x, ha, hb, h1, h2 => by
    have h1' : a.2.length < mx := h1
    have hb' : b.2.length ≤ mx := hb
    refine ⟨?_, ?_⟩
    · show (a.2 ++ [x]).length ≤ mx
      simp; omega
    · show (b.2.drop 1).length ≤ mx
      simp; omega
  | h + 1, a, b, x, ha, hb, h1, h2 => by
    have h1' : a.2.1.length < mx := h1
    have h2' : 0 < b.2.1.length := h2
    obtain ⟨a1, a2, a3⟩ := ha
    obtain ⟨b1, b2, b3⟩ := hb
    refine ⟨⟨?_, ?_, fun c hc => ?_⟩, ?_, ?_, fun c hc => b3 c (List.mem_of_mem_drop hc)⟩
    · show (a.2.1 ++ [x]).length ≤ mx
      simp; omega
    · show (a.2.2 ++ b.2.2.take 1).length = (a.2.1 ++ [x]).length + 1
      simp; omega
    · rcases List.mem_append.1 hc with hc | hc
      · exact a3 c hc
      · exact b3 c (List.mem_of_mem_take hc)
    · show (b.2.1.drop 1).length ≤ mx
      simp; omega
    · show (b.2.2.drop 1).length = (b.2.1.drop 1).length + 1
      simp; omega

theorem sh_rgt {mn mx : Nat} : {h : Nat} → {a b : BT α h} → (x : α) → Sh mn mx h a → Sh mn mx h b → (its b).length < mx → 0 < (its a).length → Sh mn mx h (rgtA a) ∧ Sh mn mx h (rgtB a x b)
  | 0, a, b, x, ha, hb, h1, h2 => by
    have h1' : b.2.length < mx := h1
    have ha' : a.2.length ≤ mx := ha
    refine ⟨?_, ?_⟩
    · show (a.2.take (a.2.length - 1)).length ≤ mx
      simp; omega
    · show (x :: b.2).length ≤ mx
      simp; omega
  | h + 1, a, b, x, ha, hb, h1, h2 => by
    have h1' : b.2.1.length < mx := h1
    have h2' : 0 < a.2.1.length := h2
    obtain ⟨a1, a2, a3⟩ := ha
    obtain ⟨b1, b2, b3⟩ := hb
    refine ⟨⟨?_, ?_, fun c hc => a3 c (List.mem_of_mem_take hc)⟩, ?_, ?_, fun c hc => ?_⟩
    · show (a.2.1.take (a.2.1.length - 1)).length ≤ mx
      simp; omega
    · show (a.2.2.take (a.2.2.length - 1)).length = (a.2.1.take (a.2.1.length - 1)).length + 1
      simp; omega
    · show (x :: b.2.1).length ≤ mx
      simp; omega
    · show (a.2.2.drop (a.2.2.length - 1) ++ b.2.2).length = (x :: b.2.1).length + 1
      simp; omega
    · rcases List.mem_append.1 hc with hc | hc
      · exact a3 c (List.mem_of_mem_drop hc)
      · exact b3 c hc

theorem ids_lft : {h : Nat} → (a b : BT α h) → (x : α) → (ids h (lftA a x b) ++ ids h (lftB b)).Perm (ids h a ++ ids h b)
  | 0, _, _, _ => List.Perm.refl _
  | h + 1, a, b, x => by
    show (a.1 :: (a.2.2 ++ b.2.2.take 1).flatMap (ids h) ++ b.1 :: (b.2.2.drop 1).flatMap (ids h)).Perm (a.1 :: a.2.2.flatMap (ids h) ++ b.1 :: b.2.2.flatMap (ids h))
    have e : b.2.2.flatMap (ids h) = (b.2.2.take 1).flatMap (ids h) ++ (b.2.2.drop 1).flatMap (ids h) := by rw [← List.flatMap_append, List.take_append_drop]
    rw [e, List.flatMap_append, List.cons_append, List.cons_append, List.append_assoc]
    refine List.Perm.cons _ (List.Perm.append_left _ ?_)
    rw [← List.singleton_append, ← List.append_assoc, ← List.singleton_append (l := (b.2.2.take 1).flatMap (ids h) ++ _), ← List.append_assoc]
    exact List.Perm.append_right _ List.perm_append_comm

theorem ids_rgt : {h : Nat} → (a b : BT α h) → (x : α) → (ids h (rgtA a) ++ ids h (rgtB a x b)).Perm (ids h a ++ ids h b)
  | 0, _, _, _ => List.Perm.refl _
  | h + 1, a, b, x => by
    show (a.1 :: (a.2.2.take (a.2.2.length - 1)).flatMap (ids h) ++ b.1 :: (a.2.2.drop (a.2.2.length - 1) ++ b.2.2).flatMap (ids h)).Perm (a.1 :: a.2.2.flatMap (ids h) ++ b.1 :: b.2.2.flatMap (ids h))
    have e : a.2.2.flatMap (ids h) = (a.2.2.take (a.2.2.length - 1)).flatMap (ids h) ++ (a.2.2.drop (a.2.2.length - 1)).flatMap (ids h) := by rw [← List.flatMap_append, List.take_append_drop]
    rw [e, List.flatMap_append, List.cons_append, List.cons_append, List.append_assoc]
    refine List.Perm.cons _ (List.Perm.append_left _ ?_)
    rw [← List.singleton_append, ← List.append_assoc, ← List.singleton_append (l := b.2.2.flatMap (ids h)), ← List.append_assoc]
    exact List.Perm.append_right _ List.perm_append_comm
end Go.Proofs.Ytgdchpinlboejaa

namespace Go.Proofs.Ytgdchpinlboejaa
set_option linter.unusedSimpArgs false
set_option linter.unusedVariables false

variable {α : Type}

/-- The children of a branch, seen from two neighbours. -/
theorem toL_two {mn mx : Nat} {h : Nat} {n : Nat} {X Y : List α} {x : α} {L R : List (BT α h)} {A B : BT α h} (hL : L.length = X.length) (hR : R.length = Y.length) :
    toL (h + 1) ((n, X ++ x :: Y, L ++ A :: B :: R) : BT α (h + 1)) = pre X (L.map (toL h)) ++ (toL h A ++ x :: toL h B) ++ post Y (R.map (toL h)) := by
  show inter (X ++ x :: Y) ((L ++ A :: B :: R).map (toL h)) = _
  have e : (L ++ A :: B :: R).map (toL h) = (L.map (toL h) ++ [toL h A]) ++ (toL h B :: R.map (toL h)) := by simp
  rw [e, inter_app _ _ _ _ _ (by simp [hL]), inter_eq _ _ _ (by simp [hR])]
  have e2 : inter X (L.map (toL h) ++ [toL h A]) = pre X (L.map (toL h)) ++ toL h A := by
    rw [inter_split L.length X _ (toL h A) (by simp [hL]) (by simp), hL, List.take_of_length_le (Nat.le_refl _), List.drop_eq_nil_of_le (Nat.le_refl _)]
    rw [List.take_append_of_le_length (by simp [hL]), List.take_of_length_le (by simp [hL]), List.drop_eq_nil_of_le (by simp [hL])]
    simp [post]
  rw [e2]
  simp

theorem toL_one {h : Nat} {n : Nat} {X Y : List α} {L R : List (BT α h)} {A : BT α h} (hL : L.length = X.length) (hR : R.length = Y.length) :
    toL (h + 1) ((n, X ++ Y, L ++ A :: R) : BT α (h + 1)) = pre X (L.map (toL h)) ++ toL h A ++ post Y (R.map (toL h)) := by
  show inter (X ++ Y) ((L ++ A :: R).map (toL h)) = _
  rw [inter_split L.length (X ++ Y) _ (toL h A) (by simp [hL, hR]; omega) (by simp)]
  have h1 : (X ++ Y).take L.length = X := by rw [hL]; simp
  have h2 : (X ++ Y).drop L.length = Y := by rw [hL]; simp
  rw [h1, h2, List.map_append, List.map_cons]
  congr 2
  · rw [List.take_append_of_le_length (by simp), List.take_of_length_le (by simp)]
  · rw [List.drop_append, List.drop_eq_nil_of_le (by simp)]
    simp

theorem toL_join {mn mx : Nat} {h : Nat} {n : Nat} {X Y : List α} {x : α} {L R : List (BT α h)} {A B : BT α h} (hL : L.length = X.length) (hR : R.length = Y.length) (hA : Sh mn mx h A) :
    toL (h + 1) ((n, X ++ Y, L ++ catT A x B :: R) : BT α (h + 1)) = toL (h + 1) ((n, X ++ x :: Y, L ++ A :: B :: R) : BT α (h + 1)) := by
  rw [toL_one hL hR, toL_two (mn := mn) (mx := mx) hL hR, toL_catT x hA]

theorem toL_lend {mn mx : Nat} {h : Nat} {n : Nat} {X Y : List α} {x y : α} {L R : List (BT α h)} {A B A' B' : BT α h} (hL : L.length = X.length) (hR : R.length = Y.length) (e : toL h A' ++ y :: toL h B' = toL h A ++ x :: toL h B) :
    toL (h + 1) ((n, X ++ y :: Y, L ++ A' :: B' :: R) : BT α (h + 1)) = toL (h + 1) ((n, X ++ x :: Y, L ++ A :: B :: R) : BT α (h + 1)) := by
  rw [toL_two (mn := mn) (mx := mx) hL hR, toL_two (mn := mn) (mx := mx) hL hR, e]

theorem ids_two {h : Nat} {n : Nat} {X : List α} {L R : List (BT α h)} {A B : BT α h} : ids (h + 1) ((n, X, L ++ A :: B :: R) : BT α (h + 1)) = n :: (L.flatMap (ids h) ++ ((ids h A ++ ids h B) ++ R.flatMap (ids h))) := by
  show n :: (L ++ A :: B :: R).flatMap (ids h) = _
  simp

theorem ids_lend {h : Nat} {n : Nat} {X Y : List α} {L R : List (BT α h)} {A B A' B' : BT α h} (e : (ids h A' ++ ids h B').Perm (ids h A ++ ids h B)) :
    (ids (h + 1) ((n, X, L ++ A' :: B' :: R) : BT α (h + 1))).Perm (ids (h + 1) ((n, Y, L ++ A :: B :: R) : BT α (h + 1))) := by
  rw [ids_two, ids_two]
  exact ((e.append_right _).append_left _).cons _

theorem ids_join {h : Nat} {n : Nat} {X Y : List α} {x : α} {L R : List (BT α h)} {A B : BT α h} :
    (ids (h + 1) ((n, X, L ++ catT A x B :: R) : BT α (h + 1))).Sublist (ids (h + 1) ((n, Y, L ++ A :: B :: R) : BT α (h + 1))) := by
  rw [ids_two]
  show (n :: (L ++ catT A x B :: R).flatMap (ids h)).Sublist _
  rw [List.flatMap_append, List.flatMap_cons, (ids_catT A B x).2]
  have e : ids h B = rid B :: (ids h B).tail := (ids_catT A B x).1
  refine ((List.Sublist.append_right (List.Sublist.append_left ?_ _) _).append_left _).cons_cons _
  conv => rhs; rw [e]
  exact List.sublist_cons_self _ _

/-- The nodes that keep their records. -/
theorem kids_keep {H H' : Nat → Option (NodeR α)} {h : Nat} {n : Nat} {X : List α} {L R : List (BT α h)} {A B : BT α h} (hT : IsT H (h + 1) ((n, X, L ++ A :: B :: R) : BT α (h + 1))) (hd : (ids (h + 1) ((n, X, L ++ A :: B :: R) : BT α (h + 1))).Nodup)
    (hr : ∀ m, m ≠ n → m ≠ rid A → m ≠ rid B → H' m = H m) :
    (∀ c ∈ L, IsT H' h c) ∧ (∀ c ∈ R, IsT H' h c) ∧ (∀ {h' : Nat} (e : h = h' + 1), ∀ c, (c ∈ (e ▸ A : BT α (h' + 1)).2.2 ∨ c ∈ (e ▸ B : BT α (h' + 1)).2.2) → IsT H' h' c) := by
  rw [ids_two] at hd
  obtain ⟨d1, d2⟩ := List.nodup_cons.1 hd
  obtain ⟨d3, d4, d5⟩ := List.nodup_append.1 d2
  obtain ⟨d6, d7, d8⟩ := List.nodup_append.1 d4
  obtain ⟨d9, d10, d11⟩ := List.nodup_append.1 d6
  have mA : rid A ∈ ids h A := rid_mem A
  have mB : rid B ∈ ids h B := rid_mem B
  refine ⟨fun c hc => ?_, fun c hc => ?_, ?_⟩
  · refine (hT.2 c (List.mem_append_left _ hc)).congr fun a ha => hr a ?_ ?_ ?_
    · rintro rfl; exact d1 (List.mem_append_left _ (List.mem_flatMap.2 ⟨c, hc, ha⟩))
    · exact d5 a (List.mem_flatMap.2 ⟨c, hc, ha⟩) _ (List.mem_append_left _ (List.mem_append_left _ mA))
    · exact d5 a (List.mem_flatMap.2 ⟨c, hc, ha⟩) _ (List.mem_append_left _ (List.mem_append_right _ mB))
  · refine (hT.2 c (List.mem_append_right _ (List.mem_cons_of_mem _ (List.mem_cons_of_mem _ hc)))).congr fun a ha => hr a ?_ ?_ ?_
    · rintro rfl; exact d1 (List.mem_append_right _ (List.mem_append_right _ (List.mem_flatMap.2 ⟨c, hc, ha⟩)))
    · exact fun e => d8 _ (List.mem_append_left _ mA) a (List.mem_flatMap.2 ⟨c, hc, ha⟩) e.symm
    · exact fun e => d8 _ (List.mem_append_right _ mB) a (List.mem_flatMap.2 ⟨c, hc, ha⟩) e.symm
  · rintro h' rfl c hc
    rcases hc with hc | hc
    · have hA : IsT H (h' + 1) A := hT.2 A (List.mem_append_right _ List.mem_cons_self)
      refine (hA.2 c hc).congr fun a ha => hr a ?_ ?_ ?_
      · rintro rfl; exact d1 (List.mem_append_right _ (List.mem_append_left _ (List.mem_append_left _ (ids_kid hc ha))))
      · exact fun e => nodup_root d9 hc (e ▸ ha)
      · exact d11 a (ids_kid hc ha) _ mB
    · have hB : IsT H (h' + 1) B := hT.2 B (List.mem_append_right _ (List.mem_cons_of_mem _ List.mem_cons_self))
      refine (hB.2 c hc).congr fun a ha => hr a ?_ ?_ ?_
      · rintro rfl; exact d1 (List.mem_append_right _ (List.mem_append_left _ (List.mem_append_right _ (ids_kid hc ha))))
      · exact fun e => d11 _ mA a (ids_kid hc ha) e.symm
      · exact fun e => nodup_root d10 hc (e ▸ ha)

theorem isT_of {H : Nat → Option (NodeR α)} : {h : Nat} → {a : BT α h} → H (rid a) = some (recOf h a) → (∀ {h' : Nat} (e : h = h' + 1), ∀ c, c ∈ (e ▸ a : BT α (h' + 1)).2.2 → IsT H h' c) → IsT H h a
  | 0, _, h1, _ => h1
  | _ + 1, _, h1, h2 => ⟨h1, h2 rfl⟩
end Go.Proofs.Ytgdchpinlboejaa

namespace Go.Proofs.Ytgdchpinlboejaa
set_option linter.unusedSimpArgs false
set_option linter.unusedVariables false

variable {α : Type}

structure RebOut (mn mx : Nat) (H H' : Nat → Option (NodeR α)) (h : Nat) (T T' : BT α (h + 1)) : Prop where
  isT : IsT H' (h + 1) T'
  rid' : rid T' = rid T
  nd : (ids (h + 1) T').Nodup
  sub : ∀ a ∈ ids (h + 1) T', a ∈ ids (h + 1) T
  sh : Sh mn mx (h + 1) T'
  len : (its T).length ≤ (its T').length + 1
  list : toL (h + 1) T' = toL (h + 1) T
  rest : ∀ a, a ∉ ids (h + 1) T → H' a = H a

theorem rest_of {H H' : Nat → Option (NodeR α)} {h : Nat} {n : Nat} {X : List α} {L R : List (BT α h)} {A B : BT α h} (hr : ∀ m, m ≠ n → m ≠ rid A → m ≠ rid B → H' m = H m) (a : Nat) (ha : a ∉ ids (h + 1) ((n, X, L ++ A :: B :: R) : BT α (h + 1))) : H' a = H a := by
  rw [ids_two] at ha
  refine hr a ?_ ?_ ?_
  · rintro rfl; exact ha List.mem_cons_self
  · rintro rfl; exact ha (List.mem_cons_of_mem _ (List.mem_append_right _ (List.mem_append_left _ (List.mem_append_left _ (rid_mem A)))))
  · rintro rfl; exact ha (List.mem_cons_of_mem _ (List.mem_append_right _ (List.mem_append_left _ (List.mem_append_right _ (rid_mem B)))))

theorem catT_kids {h h' : Nat} {A B : BT α h} {x : α} (e : h = h' + 1) (c : BT α h') (hc : c ∈ (e ▸ catT A x B : BT α (h' + 1)).2.2) : c ∈ (e ▸ A : BT α (h' + 1)).2.2 ∨ c ∈ (e ▸ B : BT α (h' + 1)).2.2 := by
  subst e
  exact List.mem_append.1 hc

theorem lft_kids {h h' : Nat} {A B : BT α h} {x : α} (e : h = h' + 1) (c : BT α h') (hc : c ∈ (e ▸ lftA A x B : BT α (h' + 1)).2.2 ∨ c ∈ (e ▸ lftB B : BT α (h' + 1)).2.2) : c ∈ (e ▸ A : BT α (h' + 1)).2.2 ∨ c ∈ (e ▸ B : BT α (h' + 1)).2.2 := by
  subst e
  rcases hc with hc | hc
  · rcases List.mem_append.1 hc with hc | hc
    · exact .inl hc
    · exact .inr (List.mem_of_mem_take hc)
  · exact .inr (List.mem_of_mem_drop hc)

theorem rgt_kids {h h' : Nat} {A B : BT α h} {x : α} (e : h = h' + 1) (c : BT α h') (hc : c ∈ (e ▸ rgtA A : BT α (h' + 1)).2.2 ∨ c ∈ (e ▸ rgtB A x B : BT α (h' + 1)).2.2) : c ∈ (e ▸ A : BT α (h' + 1)).2.2 ∨ c ∈ (e ▸ B : BT α (h' + 1)).2.2 := by
  subst e
  rcases hc with hc | hc
  · exact .inl (List.mem_of_mem_take hc)
  · rcases List.mem_append.1 hc with hc | hc
    · exact .inl (List.mem_of_mem_drop hc)
    · exact .inr hc

theorem join_out {mn mx : Nat} {H H' : Nat → Option (NodeR α)} {h : Nat} {n : Nat} {X Y : List α} {x : α} {L R : List (BT α h)} {A B : BT α h} (hL : L.length = X.length) (hR : R.length = Y.length)
    (hT : IsT H (h + 1) ((n, X ++ x :: Y, L ++ A :: B :: R) : BT α (h + 1))) (hd : (ids (h + 1) ((n, X ++ x :: Y, L ++ A :: B :: R) : BT α (h + 1))).Nodup)
    (hA : Sh mn mx h A) (hB : Sh mn mx h B) (hs : ∀ c, (c ∈ L ∨ c ∈ R) → mn ≤ (its c).length ∧ Sh mn mx h c) (hx : (X ++ x :: Y).length ≤ mx) (hsum : (its A).length + (its B).length < mx) (hmn : mn ≤ (its A).length + (its B).length + 1)
    (hN : H' n = some (recOf (h + 1) ((n, X ++ Y, L ++ catT A x B :: R) : BT α (h + 1)))) (hA' : H' (rid A) = some (recOf h (catT A x B))) (hr : ∀ m, m ≠ n → m ≠ rid A → m ≠ rid B → H' m = H m) :
    RebOut mn mx H H' h ((n, X ++ x :: Y, L ++ A :: B :: R) : BT α (h + 1)) ((n, X ++ Y, L ++ catT A x B :: R) : BT α (h + 1)) := by
  obtain ⟨k1, k2, k3⟩ := kids_keep hT hd hr
  have hsub := ids_join (h := h) (n := n) (X := X ++ Y) (Y := X ++ x :: Y) (x := x) (L := L) (R := R) (A := A) (B := B)
  refine ⟨⟨hN, fun c hc => ?_⟩, rfl, hd.sublist hsub, fun a ha => hsub.subset ha, ⟨?_, ?_, fun c hc => ?_⟩, ?_, toL_join hL hR hA, fun a ha => rest_of hr a ha⟩
  · rcases List.mem_append.1 hc with hc | hc
    · exact k1 c hc
    · rcases List.mem_cons.1 hc with rfl | hc
      · exact isT_of (by rw [rid_catT]; exact hA') fun e c hc => k3 e c (catT_kids e c hc)
      · exact k2 c hc
  · show (X ++ Y).length ≤ mx
    simp at hx ⊢; omega
  · show (L ++ catT A x B :: R).length = (X ++ Y).length + 1
    simp; omega
  · rcases List.mem_append.1 hc with hc | hc
    · exact hs c (.inl hc)
    · rcases List.mem_cons.1 hc with rfl | hc
      · refine ⟨?_, sh_catT x hA hB hsum⟩
        rw [its_catT]; simp; omega
      · exact hs c (.inr hc)
  · show (X ++ x :: Y).length ≤ (X ++ Y).length + 1
    simp; omega

theorem lend_out {mn mx : Nat} {H H' : Nat → Option (NodeR α)} {h : Nat} {n : Nat} {X Y : List α} {x y : α} {L R : List (BT α h)} {A B A' B' : BT α h} (hL : L.length = X.length) (hR : R.length = Y.length)
    (hT : IsT H (h + 1) ((n, X ++ x :: Y, L ++ A :: B :: R) : BT α (h + 1))) (hd : (ids (h + 1) ((n, X ++ x :: Y, L ++ A :: B :: R) : BT α (h + 1))).Nodup)
    (hA : Sh mn mx h A') (hB : Sh mn mx h B') (hs : ∀ c, (c ∈ L ∨ c ∈ R) → mn ≤ (its c).length ∧ Sh mn mx h c) (hx : (X ++ x :: Y).length ≤ mx) (hla : mn ≤ (its A').length) (hlb : mn ≤ (its B').length)
    (hra : rid A' = rid A) (hrb : rid B' = rid B) (hp : (ids h A' ++ ids h B').Perm (ids h A ++ ids h B)) (hl : toL h A' ++ y :: toL h B' = toL h A ++ x :: toL h B)
    (hk : ∀ {h' : Nat} (e : h = h' + 1), ∀ c, (c ∈ (e ▸ A' : BT α (h' + 1)).2.2 ∨ c ∈ (e ▸ B' : BT α (h' + 1)).2.2) → (c ∈ (e ▸ A : BT α (h' + 1)).2.2 ∨ c ∈ (e ▸ B : BT α (h' + 1)).2.2))
    (hN : H' n = some (recOf (h + 1) ((n, X ++ y :: Y, L ++ A' :: B' :: R) : BT α (h + 1)))) (hA' : H' (rid A) = some (recOf h A')) (hB' : H' (rid B) = some (recOf h B')) (hr : ∀ m, m ≠ n → m ≠ rid A → m ≠ rid B → H' m = H m) :
    RebOut mn mx H H' h ((n, X ++ x :: Y, L ++ A :: B :: R) : BT α (h + 1)) ((n, X ++ y :: Y, L ++ A' :: B' :: R) : BT α (h + 1)) := by
  obtain ⟨k1, k2, k3⟩ := kids_keep hT hd hr
  have hperm := ids_lend (h := h) (n := n) (X := X ++ y :: Y) (Y := X ++ x :: Y) (L := L) (R := R) hp
  refine ⟨⟨hN, fun c hc => ?_⟩, rfl, hperm.nodup_iff.2 hd, fun a ha => hperm.mem_iff.1 ha, ⟨?_, ?_, fun c hc => ?_⟩, ?_, toL_lend (mn := mn) (mx := mx) hL hR hl, fun a ha => rest_of hr a ha⟩
  · rcases List.mem_append.1 hc with hc | hc
    · exact k1 c hc
    · rcases List.mem_cons.1 hc with rfl | hc
      · exact isT_of (by rw [hra]; exact hA') fun e c hc => k3 e c (hk e c (.inl hc))
      · rcases List.mem_cons.1 hc with rfl | hc
        · exact isT_of (by rw [hrb]; exact hB') fun e c hc => k3 e c (hk e c (.inr hc))
        · exact k2 c hc
  · show (X ++ y :: Y).length ≤ mx
    simp at hx ⊢; omega
  · show (L ++ A' :: B' :: R).length = (X ++ y :: Y).length + 1
    simp; omega
  · rcases List.mem_append.1 hc with hc | hc
    · exact hs c (.inl hc)
    · rcases List.mem_cons.1 hc with rfl | hc
      · exact ⟨hla, hA⟩
      · rcases List.mem_cons.1 hc with rfl | hc
        · exact ⟨hlb, hB⟩
        · exact hs c (.inr hc)
  · show (X ++ x :: Y).length ≤ (X ++ y :: Y).length + 1
    simp

/-- Whatever stands at place i of a branch, written out. -/
theorem two_at {h : Nat} {T : BT α (h + 1)} {i : Nat} {A B : BT α h} {x : α} (hl : T.2.2.length = T.2.1.length + 1) (hA : T.2.2[i]? = some A) (hB : T.2.2[i + 1]? = some B) (hx : T.2.1[i]? = some x) :
    T = (T.1, T.2.1.take i ++ x :: T.2.1.drop (i + 1), T.2.2.take i ++ A :: B :: T.2.2.drop (i + 2)) ∧ (T.2.2.take i).length = (T.2.1.take i).length ∧ (T.2.2.drop (i + 2)).length = (T.2.1.drop (i + 1)).length := by
  obtain ⟨n, xs, ts⟩ := T
  simp only at hl hA hB hx ⊢
  obtain ⟨a1, rfl⟩ := List.getElem?_eq_some_iff.1 hA
  obtain ⟨b1, rfl⟩ := List.getElem?_eq_some_iff.1 hB
  obtain ⟨x1, rfl⟩ := List.getElem?_eq_some_iff.1 hx
  refine ⟨?_, by simp; omega, by simp; omega⟩
  rw [← List.drop_eq_getElem_cons x1, List.take_append_drop, ← List.drop_eq_getElem_cons b1, ← List.drop_eq_getElem_cons a1, List.take_append_drop]
end Go.Proofs.Ytgdchpinlboejaa

namespace Go.Proofs.Ytgdchpinlboejaa
set_option linter.unusedSimpArgs false
set_option linter.unusedVariables false

variable {α : Type}

theorem take_mid {β : Type} (L R : List β) (a : β) : (L ++ a :: R).take (L.length + 1) = L ++ [a] ∧ (L ++ a :: R).drop (L.length + 1) = R ∧ (L ++ a :: R).take L.length = L := by
  refine ⟨?_, ?_, ?_⟩
  · rw [List.take_append, List.take_of_length_le (by omega)]; simp
  · rw [List.drop_append]; simp
  · rw [List.take_append]; simp

theorem rec_join {mn mx : Nat} {h : Nat} {n : Nat} {X Y : List α} {x : α} {L R : List (BT α h)} {A B : BT α h} (hL : L.length = X.length) (hR : R.length = Y.length) (hA : Sh mn mx h A) :
    (⟨(recOf (h + 1) ((n, X ++ x :: Y, L ++ A :: B :: R) : BT α (h + 1))).cnt, (X ++ x :: Y).take L.length ++ (X ++ x :: Y).drop (L.length + 1),
      some ((((L ++ A :: B :: R).map rid).map some).take (L.length + 1) ++ (((L ++ A :: B :: R).map rid).map some).drop (L.length + 1 + 1))⟩ : NodeR α) = recOf (h + 1) ((n, X ++ Y, L ++ catT A x B :: R) : BT α (h + 1)) := by
  show (⟨((toL (h + 1) ((n, X ++ x :: Y, L ++ A :: B :: R) : BT α (h + 1))).length : Nat), _, _⟩ : NodeR α) = ⟨((toL (h + 1) ((n, X ++ Y, L ++ catT A x B :: R) : BT α (h + 1))).length : Nat), X ++ Y, some ((L ++ catT A x B :: R).map fun c => some (rid c))⟩
  rw [toL_join hL hR hA]
  have e1 : (X ++ x :: Y).take L.length ++ (X ++ x :: Y).drop (L.length + 1) = X ++ Y := by
    rw [hL, (take_mid X Y x).2.2, (take_mid X Y x).2.1]
  have e2 : (((L ++ A :: B :: R).map rid).map some).take (L.length + 1) ++ (((L ++ A :: B :: R).map rid).map some).drop (L.length + 1 + 1) = (L ++ catT A x B :: R).map fun c => some (rid c) := by
    rw [List.map_map, List.map_append, List.map_cons, List.map_cons]
    have hl : (L.map (some ∘ rid)).length = L.length := List.length_map _
    have h1 := (take_mid (L.map (some ∘ rid)) ((some ∘ rid) B :: R.map (some ∘ rid)) ((some ∘ rid) A)).1
    rw [hl] at h1
    have h2 : (L.map (some ∘ rid) ++ (some ∘ rid) A :: (some ∘ rid) B :: R.map (some ∘ rid)).drop (L.length + 1 + 1) = R.map (some ∘ rid) := by
      have h3 := (take_mid (L.map (some ∘ rid) ++ [(some ∘ rid) A]) (R.map (some ∘ rid)) ((some ∘ rid) B)).2.1
      rw [List.length_append, hl] at h3
      simpa using h3
    rw [h1, h2]
    simp [rid_catT]
    try (constructor <;> rfl)
  rw [e1, e2]

theorem rec_lend {mn mx : Nat} {h : Nat} {n : Nat} {X Y : List α} {x y : α} {L R : List (BT α h)} {A B A' B' : BT α h} (hL : L.length = X.length) (hR : R.length = Y.length) (hl : toL h A' ++ y :: toL h B' = toL h A ++ x :: toL h B) (hra : rid A' = rid A) (hrb : rid B' = rid B) :
    (⟨(recOf (h + 1) ((n, X ++ x :: Y, L ++ A :: B :: R) : BT α (h + 1))).cnt, (X ++ x :: Y).set L.length y, some (((L ++ A :: B :: R).map rid).map some)⟩ : NodeR α) = recOf (h + 1) ((n, X ++ y :: Y, L ++ A' :: B' :: R) : BT α (h + 1)) := by
  show (⟨((toL (h + 1) ((n, X ++ x :: Y, L ++ A :: B :: R) : BT α (h + 1))).length : Nat), _, _⟩ : NodeR α) = ⟨((toL (h + 1) ((n, X ++ y :: Y, L ++ A' :: B' :: R) : BT α (h + 1))).length : Nat), X ++ y :: Y, some ((L ++ A' :: B' :: R).map fun c => some (rid c))⟩
  rw [toL_lend (mn := mn) (mx := mx) hL hR hl]
  have e1 : (X ++ x :: Y).set L.length y = X ++ y :: Y := by rw [hL]; simp
  have e2 : ((L ++ A :: B :: R).map rid).map some = (L ++ A' :: B' :: R).map fun c => some (rid c) := by
    rw [List.map_map]
    simp [hra, hrb]
    rfl
  rw [e1, e2]

/-- The records of the two children when an item goes left. -/
theorem rec_lftA0 (a b : BT α 0) (x : α) : (⟨(recOf 0 a).cnt + 1, its a ++ [x], none⟩ : NodeR α) = recOf 0 (lftA a x b) := by
  show (⟨(a.2.length : Int) + 1, a.2 ++ [x], none⟩ : NodeR α) = ⟨((a.2 ++ [x]).length : Nat), a.2 ++ [x], none⟩
  congr 1
  simp
theorem rec_lftB0 (b : BT α 0) (hb : 0 < (its b).length) : (⟨(recOf 0 b).cnt - 1, (its b).drop 1, none⟩ : NodeR α) = recOf 0 (lftB b) := by
  have h : 0 < b.2.length := hb
  show (⟨(b.2.length : Int) - 1, b.2.drop 1, none⟩ : NodeR α) = ⟨((b.2.drop 1).length : Nat), b.2.drop 1, none⟩
  congr 1
  simp; omega
theorem rec_rgtA0 (a : BT α 0) (ha : 0 < (its a).length) : (⟨(recOf 0 a).cnt - 1, (its a).take ((its a).length - 1), none⟩ : NodeR α) = recOf 0 (rgtA a) := by
  have h : 0 < a.2.length := ha
  show (⟨(a.2.length : Int) - 1, a.2.take (a.2.length - 1), none⟩ : NodeR α) = ⟨((a.2.take (a.2.length - 1)).length : Nat), a.2.take (a.2.length - 1), none⟩
  congr 1
  simp; omega
theorem rec_rgtB0 (a b : BT α 0) (x : α) : (⟨(recOf 0 b).cnt + 1, x :: its b, none⟩ : NodeR α) = recOf 0 (rgtB a x b) := by
  show (⟨(b.2.length : Int) + 1, x :: b.2, none⟩ : NodeR α) = ⟨((x :: b.2).length : Nat), x :: b.2, none⟩
  congr 1

theorem toL_first {mn mx : Nat} {h : Nat} {b : BT α (h + 1)} {y : α} {c : BT α h} (hb : Sh mn mx (h + 1) b) (hy : (its b)[0]? = some y) (hc : b.2.2[0]? = some c) : toL (h + 1) b = toL h c ++ y :: toL (h + 1) (lftB b) := by
  have e1 := cons_of_head (l := b.2.1) hy
  have e2 := cons_of_head (l := b.2.2) hc
  show inter b.2.1 (b.2.2.map (toL h)) = toL h c ++ y :: inter (b.2.1.drop 1) ((b.2.2.drop 1).map (toL h))
  conv => lhs; rw [e1, e2]
  rfl

theorem toL_last {mn mx : Nat} {h : Nat} {a : BT α (h + 1)} {z : α} {c : BT α h} (ha : Sh mn mx (h + 1) a) (hz : (its a)[(its a).length - 1]? = some z) (hc : a.2.2[a.2.2.length - 1]? = some c) : toL (h + 1) a = toL (h + 1) (rgtA a) ++ z :: toL h c := by
  have e1 := (snoc_of_last (l := a.2.1) hz).1
  obtain ⟨e2, e3⟩ := snoc_of_last (l := a.2.2) hc
  have hl := ha.2.1
  have hz2 : a.2.1.length - 1 < a.2.1.length := (List.getElem?_eq_some_iff.1 hz).1
  show inter a.2.1 (a.2.2.map (toL h)) = inter (a.2.1.take (a.2.1.length - 1)) ((a.2.2.take (a.2.2.length - 1)).map (toL h)) ++ z :: toL h c
  conv => lhs; rw [e1, e2]
  rw [List.map_append, inter_app _ _ _ _ _ (by simp; omega)]
  simp [inter_last]

theorem rec_lftA1 {mn mx : Nat} {h : Nat} {a b : BT α (h + 1)} {c : BT α h} (x : α) (ha : Sh mn mx (h + 1) a) (hc : b.2.2[0]? = some c) :
    (⟨(recOf (h + 1) a).cnt + 1 + (recOf h c).cnt, its a ++ [x], some ((a.2.2.map fun c => some (rid c)) ++ [some (rid c)])⟩ : NodeR α) = recOf (h + 1) (lftA a x b) := by
  have e3 : b.2.2.take 1 = [c] := by rw [cons_of_head (l := b.2.2) hc]; rfl
  have e : toL (h + 1) (lftA a x b) = toL (h + 1) a ++ x :: toL h c := by
    show inter (a.2.1 ++ [x]) ((a.2.2 ++ b.2.2.take 1).map (toL h)) = inter a.2.1 (a.2.2.map (toL h)) ++ x :: toL h c
    rw [e3, List.map_append, inter_app _ _ _ _ _ (by rw [List.length_map]; exact ha.2.1)]
    simp [inter_last]
  show _ = (⟨((toL (h + 1) (lftA a x b)).length : Nat), a.2.1 ++ [x], some ((a.2.2 ++ b.2.2.take 1).map fun c => some (rid c))⟩ : NodeR α)
  rw [e, e3, recOf_cnt, recOf_cnt]
  congr 1
  · simp; omega
  · simp

theorem rec_lftB1 {mn mx : Nat} {h : Nat} {b : BT α (h + 1)} {y : α} {c : BT α h} (hb : Sh mn mx (h + 1) b) (hy : (its b)[0]? = some y) (hc : b.2.2[0]? = some c) :
    (⟨(recOf (h + 1) b).cnt - 1 - (recOf h c).cnt, (its b).tail, some ((b.2.2.map fun c => some (rid c)).tail)⟩ : NodeR α) = recOf (h + 1) (lftB b) := by
  show _ = (⟨((toL (h + 1) (lftB b)).length : Nat), b.2.1.drop 1, some ((b.2.2.drop 1).map fun c => some (rid c))⟩ : NodeR α)
  rw [recOf_cnt, recOf_cnt, toL_first hb hy hc]
  congr 1
  · simp; omega
  · rw [List.drop_one]; rfl
  · rw [List.drop_one, List.map_tail]

theorem rec_rgtA1 {mn mx : Nat} {h : Nat} {a : BT α (h + 1)} {z : α} {c : BT α h} (ha : Sh mn mx (h + 1) a) (hz : (its a)[(its a).length - 1]? = some z) (hc : a.2.2[a.2.2.length - 1]? = some c) :
    (⟨(recOf (h + 1) a).cnt - 1 - (recOf h c).cnt, (its a).take ((its a).length - 1), some ((a.2.2.map fun c => some (rid c)).take ((a.2.2.map fun c => some (rid c)).length - 1))⟩ : NodeR α) = recOf (h + 1) (rgtA a) := by
  show _ = (⟨((toL (h + 1) (rgtA a)).length : Nat), a.2.1.take (a.2.1.length - 1), some ((a.2.2.take (a.2.2.length - 1)).map fun c => some (rid c))⟩ : NodeR α)
  rw [recOf_cnt, recOf_cnt, toL_last ha hz hc]
  congr 1
  · simp; omega
  · rw [List.length_map, List.map_take]

theorem rec_rgtB1 {h : Nat} {a b : BT α (h + 1)} {c : BT α h} (x : α) (hc : a.2.2[a.2.2.length - 1]? = some c) :
    (⟨(recOf (h + 1) b).cnt + 1 + (recOf h c).cnt, x :: its b, some (some (rid c) :: (b.2.2.map fun c => some (rid c)))⟩ : NodeR α) = recOf (h + 1) (rgtB a x b) := by
  have e3 := (snoc_of_last (l := a.2.2) hc).2
  have e : toL (h + 1) (rgtB a x b) = toL h c ++ x :: toL (h + 1) b := by
    show inter (x :: b.2.1) ((a.2.2.drop (a.2.2.length - 1) ++ b.2.2).map (toL h)) = _
    rw [e3]
    rfl
  show _ = (⟨((toL (h + 1) (rgtB a x b)).length : Nat), x :: b.2.1, some ((a.2.2.drop (a.2.2.length - 1) ++ b.2.2).map fun c => some (rid c))⟩ : NodeR α)
  rw [e, e3, recOf_cnt, recOf_cnt]
  congr 1
  simp; omega
end Go.Proofs.Ytgdchpinlboejaa

namespace Go.Proofs.Ytgdchpinlboejaa
set_option linter.unusedSimpArgs false
set_option linter.unusedVariables false
open Go.RowKit

def RebAny {ord : List Int} (k : Kc ord) (mn mx : Nat) (w : World) (F : Nat → Prop) (H : Nat → Option (NodeR (It ord))) (h : Nat) (T : BT (It ord) (h + 1)) (e : Ending) (w' : World) : Prop :=
  e = .returned (.tuple #[]) ∧ ∃ H' T', Fam (parM k) w' (grow F w w') H' ∧ Chg (fun x _ => F x) w w' ∧ RebOut mn mx H H' h T T'

theorem Tri.fam {α : Type} {p : Par α} {w w1 : World} {F : Nat → Prop} {H : Nat → Option (NodeR α)} {n a b : Nat} {rn ra rb : NodeR α} (h0 : Fam p w F H) (h : Tri p w F H n a b w1 rn ra rb) :
    ∃ H', Fam p w1 (grow F w w1) H' ∧ Chg (fun x _ => F x) w w1 ∧ H' n = some rn ∧ H' a = some ra ∧ H' b = some rb ∧ ∀ m, m ≠ n → m ≠ a → m ≠ b → H' m = H m := by
  obtain ⟨F', H', hF, h2, h3, g1, g2, g3, g4⟩ := h
  refine ⟨H', hF.mono (fun x hx => ?_) (fun x hx => ?_), h3, g1, g2, g3, g4⟩
  · rcases h2 x hx with h | h
    · exact .inl h
    · exact .inr ⟨h, hF.lt hx⟩
  · rcases hx with hx | hx
    · exact Nat.lt_of_lt_of_le (h0.lt hx) h3.size
    · exact hx.2

theorem two_ne {α : Type} {h : Nat} {n : Nat} {X : List α} {L R : List (BT α h)} {A B : BT α h} (hd : (ids (h + 1) ((n, X, L ++ A :: B :: R) : BT α (h + 1))).Nodup) : n ≠ rid A ∧ n ≠ rid B ∧ rid A ≠ rid B := by
  rw [ids_two] at hd
  obtain ⟨d1, d2⟩ := List.nodup_cons.1 hd
  obtain ⟨_, d4, _⟩ := List.nodup_append.1 d2
  obtain ⟨d6, _, _⟩ := List.nodup_append.1 d4
  obtain ⟨_, _, d11⟩ := List.nodup_append.1 d6
  refine ⟨?_, ?_, d11 _ (rid_mem A) _ (rid_mem B)⟩
  · rintro rfl; exact d1 (List.mem_append_right _ (List.mem_append_left _ (List.mem_append_left _ (rid_mem A))))
  · rintro rfl; exact d1 (List.mem_append_right _ (List.mem_append_left _ (List.mem_append_right _ (rid_mem B))))

theorem rec_root {α : Type} {H : Nat → Option (NodeR α)} {h : Nat} {T : BT α (h + 1)} (hT : IsT H (h + 1) T) : H T.1 = some ⟨(recOf (h + 1) T).cnt, T.2.1, some ((T.2.2.map rid).map some)⟩ := by
  have := hT.1
  rw [List.map_map]
  exact this

variable {ord : List Int}

theorem reb_join {k : Kc ord} {mn mx : Nat} {w : World} {F : Nat → Prop} {H : Nat → Option (NodeR (It ord))} {t h : Nat} {n : Nat} {X Y : List (It ord)} {x : It ord} {L R : List (BT (It ord) h)} {A B : BT (It ord) h}
    (hF : Fam (parM k) w F H) (hm : MapAt k mn mx w t) (hout : ∀ b, MOwn k t b → ¬ F b) (hL : L.length = X.length) (hR : R.length = Y.length)
    (hT : IsT H (h + 1) ((n, X ++ x :: Y, L ++ A :: B :: R) : BT (It ord) (h + 1))) (hd : (ids (h + 1) ((n, X ++ x :: Y, L ++ A :: B :: R) : BT (It ord) (h + 1))).Nodup)
    (hA : Sh mn mx h A) (hB : Sh mn mx h B) (hs : ∀ c, (c ∈ L ∨ c ∈ R) → mn ≤ (its c).length ∧ Sh mn mx h c) (hx : (X ++ x :: Y).length ≤ mx) (hmx : mx ≤ 1000) (hsum : (its A).length + (its B).length < mx) (hmn : mn ≤ (its A).length + (its B).length + 1)
    (hba : (toL h A).length ≤ 100000000000000) (hbb : (toL h B).length ≤ 100000000000000) (arg : Int) (harg : arg = (L.length : Int) ∨ (arg = ((X ++ x :: Y).length : Int) ∧ Y = [])) :
    Calls Try.prog 98 #[.pointer (some ⟨t, 0, none⟩), .pointer (some ⟨n, 0, none⟩), .int .i64 arg] w (RebAny k mn mx w F H h ((n, X ++ x :: Y, L ++ A :: B :: R) : BT (It ord) (h + 1))) := by
  obtain ⟨na, nb, ab⟩ := two_ne hd
  have hn : H n = some ⟨(recOf (h + 1) ((n, X ++ x :: Y, L ++ A :: B :: R) : BT (It ord) (h + 1))).cnt, X ++ x :: Y, some (((L ++ A :: B :: R).map rid).map some)⟩ := rec_root hT
  have mA : A ∈ L ++ A :: B :: R := List.mem_append_right _ List.mem_cons_self
  have mB : B ∈ L ++ A :: B :: R := List.mem_append_right _ (List.mem_cons_of_mem _ List.mem_cons_self)
  have rA := (hT.2 A mA).root
  have rB := (hT.2 B mB).root
  have hk : ((L ++ A :: B :: R).map rid).length = (X ++ x :: Y).length + 1 := by simp; omega
  have hia : ((L ++ A :: B :: R).map rid)[L.length]? = some (rid A) := by simp
  have hib : ((L ++ A :: B :: R).map rid)[L.length + 1]? = some (rid B) := by
    rw [List.getElem?_map, List.getElem?_append_right (by omega)]; simp
  have hxi : (X ++ x :: Y)[L.length]? = some x := by rw [hL]; simp
  have hi : L.length < (X ++ x :: Y).length := by simp; omega
  have ca := recOf_cnt A
  have cb := recOf_cnt B
  have fin : ∀ w' rb, Tri (parM k) w F H n (rid A) (rid B) w' ⟨(recOf (h + 1) ((n, X ++ x :: Y, L ++ A :: B :: R) : BT (It ord) (h + 1))).cnt, (X ++ x :: Y).take L.length ++ (X ++ x :: Y).drop (L.length + 1), some ((((L ++ A :: B :: R).map rid).map some).take (L.length + 1) ++ (((L ++ A :: B :: R).map rid).map some).drop (L.length + 1 + 1))⟩ (recOf h (catT A x B)) rb →
      RebAny k mn mx w F H h ((n, X ++ x :: Y, L ++ A :: B :: R) : BT (It ord) (h + 1)) (.returned (.tuple #[])) w' := by
    intro w' rb hTri
    obtain ⟨H', f1, f2, g1, g2, _, g4⟩ := hTri.fam hF
    rw [rec_join hL hR hA] at g1
    exact ⟨rfl, H', _, f1, f2, join_out hL hR hT hd hA hB hs hx hsum hmn g1 g2 g4⟩
  have wa : 0 ≤ (recOf h A).cnt ∧ (recOf h A).cnt ≤ 100000000000000 := by rw [ca]; omega
  have wb : 0 ≤ (recOf h B).cnt ∧ (recOf h B).cnt ≤ 100000000000000 := by rw [cb]; omega
  have hxl := Nat.le_trans hx hmx
  match h, A, B with
  | 0, A, B =>
    have e := rec_catT x (b := B) hA
    rcases harg with rfl | ⟨rfl, rfl⟩
    · refine (reb_merge_leaf (mn := mn) hF hm hout hn hk rA rB hia hib na nb ab hxi hi hxl hmx hsum wa wb).mono ?_
      rintro e' w' ⟨rfl, hTri⟩
      refine fin w' (recOf 0 B) ?_
      rw [e]
      exact hTri
    · refine (reb_merge_leaf_end (mn := mn) hF hm hout hn hk rA rB hia hib na nb ab hxi hi (by simp [hL]) hxl hmx hsum wa wb).mono ?_
      rintro e' w' ⟨rfl, hTri⟩
      refine fin w' (recOf 0 B) ?_
      rw [e]
      exact hTri
  | h + 1, A, B =>
    have e := rec_catT x (b := B) hA
    have hkb : (A.2.2.map fun c => some (rid c)).length + (B.2.2.map fun c => some (rid c)).length ≤ 2000 := by
      have h1 := hA.2.1
      have h2 := hB.2.1
      have h3 : A.2.1.length + B.2.1.length < mx := hsum
      simp only [List.length_map]
      omega
    rcases harg with rfl | ⟨rfl, rfl⟩
    · refine (reb_merge_kids (mn := mn) hF hm hout hn hk rA rB hia hib na nb ab hxi hi hxl hmx hsum wa hkb wb).mono ?_
      rintro e' w' ⟨rfl, hTri⟩
      refine fin w' (recOf (h + 1) B) ?_
      rw [e]
      exact hTri
    · refine (reb_merge_kids_end (mn := mn) hF hm hout hn hk rA rB hia hib na nb ab hxi hi (by simp [hL]) hxl hmx hsum wa hkb wb).mono ?_
      rintro e' w' ⟨rfl, hTri⟩
      refine fin w' (recOf (h + 1) B) ?_
      rw [e]
      exact hTri
end Go.Proofs.Ytgdchpinlboejaa

namespace Go.Proofs.Ytgdchpinlboejaa
set_option linter.unusedSimpArgs false
set_option linter.unusedVariables false
open Go.RowKit

theorem kid_ne {α : Type} {h : Nat} {n : Nat} {X : List α} {L R : List (BT α (h + 1))} {A B : BT α (h + 1)} (hd : (ids (h + 1 + 1) ((n, X, L ++ A :: B :: R) : BT α (h + 1 + 1))).Nodup) {c : BT α h} (hc : c ∈ A.2.2 ∨ c ∈ B.2.2) : rid c ≠ n ∧ rid c ≠ rid A ∧ rid c ≠ rid B := by
  rw [ids_two] at hd
  obtain ⟨d1, d2⟩ := List.nodup_cons.1 hd
  obtain ⟨_, d4, _⟩ := List.nodup_append.1 d2
  obtain ⟨d6, _, _⟩ := List.nodup_append.1 d4
  obtain ⟨d9, d10, d11⟩ := List.nodup_append.1 d6
  have hm := rid_mem c
  rcases hc with hc | hc
  · refine ⟨?_, fun e => nodup_root d9 hc (e ▸ hm), d11 _ (ids_kid hc hm) _ (rid_mem B)⟩
    intro e
    exact d1 (List.mem_append_right _ (List.mem_append_left _ (List.mem_append_left _ (e ▸ ids_kid hc hm))))
  · refine ⟨?_, fun e => d11 _ (rid_mem A) _ (ids_kid hc hm) e.symm, fun e => nodup_root d10 hc (e ▸ hm)⟩
    intro e
    exact d1 (List.mem_append_right _ (List.mem_append_left _ (List.mem_append_right _ (e ▸ ids_kid hc hm))))

variable {ord : List Int}

theorem reb_left {k : Kc ord} {mn mx : Nat} {w : World} {F : Nat → Prop} {H : Nat → Option (NodeR (It ord))} {t h : Nat} {n : Nat} {X Y : List (It ord)} {x : It ord} {L R : List (BT (It ord) h)} {A B : BT (It ord) h}
    (hF : Fam (parM k) w F H) (hm : MapAt k mn mx w t) (hout : ∀ b, MOwn k t b → ¬ F b) (hL : L.length = X.length) (hR : R.length = Y.length)
    (hT : IsT H (h + 1) ((n, X ++ x :: Y, L ++ A :: B :: R) : BT (It ord) (h + 1))) (hd : (ids (h + 1) ((n, X ++ x :: Y, L ++ A :: B :: R) : BT (It ord) (h + 1))).Nodup)
    (hA : Sh mn mx h A) (hB : Sh mn mx h B) (hs : ∀ c, (c ∈ L ∨ c ∈ R) → mn ≤ (its c).length ∧ Sh mn mx h c) (hx : (X ++ x :: Y).length ≤ mx) (hmx : mx ≤ 1000) (hsum : mx ≤ (its A).length + (its B).length) (hlt : (its A).length < (its B).length) (hla : mn ≤ (its A).length + 1) (hlb : mn + 1 ≤ (its B).length)
    (hba : (toL h A).length ≤ 100000000000000) (hbb : (toL h B).length ≤ 100000000000000) :
    Calls Try.prog 98 #[.pointer (some ⟨t, 0, none⟩), .pointer (some ⟨n, 0, none⟩), .int .i64 (L.length : Nat)] w (RebAny k mn mx w F H h ((n, X ++ x :: Y, L ++ A :: B :: R) : BT (It ord) (h + 1))) := by
  obtain ⟨na, nb, ab⟩ := two_ne hd
  have hn : H n = some ⟨(recOf (h + 1) ((n, X ++ x :: Y, L ++ A :: B :: R) : BT (It ord) (h + 1))).cnt, X ++ x :: Y, some (((L ++ A :: B :: R).map rid).map some)⟩ := rec_root hT
  have mA : A ∈ L ++ A :: B :: R := List.mem_append_right _ List.mem_cons_self
  have mB : B ∈ L ++ A :: B :: R := List.mem_append_right _ (List.mem_cons_of_mem _ List.mem_cons_self)
  have rA := (hT.2 A mA).root
  have rB := (hT.2 B mB).root
  have hk : ((L ++ A :: B :: R).map rid).length = (X ++ x :: Y).length + 1 := by simp; omega
  have hia : ((L ++ A :: B :: R).map rid)[L.length]? = some (rid A) := by simp
  have hib : ((L ++ A :: B :: R).map rid)[L.length + 1]? = some (rid B) := by
    rw [List.getElem?_map, List.getElem?_append_right (by omega)]; simp
  have hxi : (X ++ x :: Y)[L.length]? = some x := by rw [hL]; simp
  have hi : L.length < (X ++ x :: Y).length := by simp; omega
  obtain ⟨y, hy⟩ : ∃ y, (its B)[0]? = some y := ⟨_, List.getElem?_eq_getElem (by omega)⟩
  have ca := recOf_cnt A
  have cb := recOf_cnt B
  have lA := hA.len
  have lB := hB.len
  have hsh := sh_lft x hA hB (by omega) (by omega)
  have htl := toL_lft x hA hB hy
  have fin : ∀ w', Tri (parM k) w F H n (rid A) (rid B) w' ⟨(recOf (h + 1) ((n, X ++ x :: Y, L ++ A :: B :: R) : BT (It ord) (h + 1))).cnt, (X ++ x :: Y).set L.length y, some (((L ++ A :: B :: R).map rid).map some)⟩ (recOf h (lftA A x B)) (recOf h (lftB B)) →
      RebAny k mn mx w F H h ((n, X ++ x :: Y, L ++ A :: B :: R) : BT (It ord) (h + 1)) (.returned (.tuple #[])) w' := by
    intro w' hTri
    obtain ⟨H', f1, f2, g1, g2, g3, g4⟩ := hTri.fam hF
    rw [rec_lend (mn := mn) (mx := mx) hL hR htl (rid_lftA A B x) (rid_lftB B)] at g1
    exact ⟨rfl, H', _, f1, f2, lend_out hL hR hT hd hsh.1 hsh.2 hs hx (by rw [its_lftA]; simp; omega) (by rw [its_lftB]; simp; omega) (rid_lftA A B x) (rid_lftB B) (ids_lft A B x) htl (fun e c hc => lft_kids e c hc) g1 g2 g3 g4⟩
  have wa : 0 ≤ (recOf h A).cnt ∧ (recOf h A).cnt ≤ 100000000000000 := by rw [ca]; omega
  have wb : 0 ≤ (recOf h B).cnt ∧ (recOf h B).cnt ≤ 100000000000000 := by rw [cb]; omega
  have hxl := Nat.le_trans hx hmx
  match h, A, B with
  | 0, A, B =>
    refine (reb_left_leaf (mn := mn) hF hm hout hn hk rA rB hia hib na nb ab hxi hy hi hxl hmx hsum hlt (Nat.le_trans lB hmx) wa wb).mono ?_
    rintro e' w' ⟨rfl, hTri⟩
    refine fin w' ?_
    rw [← rec_lftA0, ← rec_lftB0 B (by omega)]
    exact hTri
  | h + 1, A, B =>
    have h1 := hA.2.1
    have h2 := hB.2.1
    have lA' : A.2.1.length ≤ mx := lA
    have lB' : B.2.1.length ≤ mx := lB
    obtain ⟨c, hc⟩ : ∃ c, B.2.2[0]? = some c := ⟨_, List.getElem?_eq_getElem (by omega)⟩
    have hcm : c ∈ B.2.2 := List.mem_of_getElem? hc
    obtain ⟨cN, cA, cB⟩ := kid_ne hd (.inr hcm)
    have hcc := ((hT.2 B mB).2 c hcm).root
    have hfst := toL_first hB hy hc
    have hcs : 0 ≤ (recOf h c).cnt ∧ (recOf h c).cnt ≤ 100000000000000 := by
      rw [recOf_cnt]
      rw [hfst] at hbb
      simp only [List.length_append] at hbb
      omega
    refine (reb_left_kids (mn := mn) hF hm hout hn hk rA rB hia hib na nb ab hxi hy hi hxl hmx hsum hlt (Nat.le_trans lB hmx) wa wb (by rw [List.getElem?_map, hc]; rfl) hcc cN cA cB hcs (by simp only [List.length_map]; omega) (by simp only [List.length_map]; omega)).mono ?_
    rintro e' w' ⟨rfl, hTri⟩
    refine fin w' ?_
    rw [← rec_lftA1 x hA hc, ← rec_lftB1 hB hy hc]
    exact hTri

theorem reb_right {k : Kc ord} {mn mx : Nat} {w : World} {F : Nat → Prop} {H : Nat → Option (NodeR (It ord))} {t h : Nat} {n : Nat} {X : List (It ord)} {x : It ord} {L : List (BT (It ord) h)} {A B : BT (It ord) h}
    (hF : Fam (parM k) w F H) (hm : MapAt k mn mx w t) (hout : ∀ b, MOwn k t b → ¬ F b) (hL : L.length = X.length)
    (hT : IsT H (h + 1) ((n, X ++ x :: [], L ++ A :: B :: []) : BT (It ord) (h + 1))) (hd : (ids (h + 1) ((n, X ++ x :: [], L ++ A :: B :: []) : BT (It ord) (h + 1))).Nodup)
    (hA : Sh mn mx h A) (hB : Sh mn mx h B) (hs : ∀ c, (c ∈ L ∨ c ∈ ([] : List (BT (It ord) h))) → mn ≤ (its c).length ∧ Sh mn mx h c) (hx : (X ++ x :: []).length ≤ mx) (hmx : mx ≤ 1000) (hsum : mx ≤ (its A).length + (its B).length) (hlt : (its B).length < (its A).length) (hla : mn + 1 ≤ (its A).length) (hlb : mn ≤ (its B).length + 1)
    (hba : (toL h A).length ≤ 100000000000000) (hbb : (toL h B).length ≤ 100000000000000) :
    Calls Try.prog 98 #[.pointer (some ⟨t, 0, none⟩), .pointer (some ⟨n, 0, none⟩), .int .i64 ((X ++ x :: []).length : Nat)] w (RebAny k mn mx w F H h ((n, X ++ x :: [], L ++ A :: B :: []) : BT (It ord) (h + 1))) := by
  obtain ⟨na, nb, ab⟩ := two_ne hd
  have hn : H n = some ⟨(recOf (h + 1) ((n, X ++ x :: [], L ++ A :: B :: []) : BT (It ord) (h + 1))).cnt, X ++ x :: [], some (((L ++ A :: B :: []).map rid).map some)⟩ := rec_root hT
  have mA : A ∈ L ++ A :: B :: [] := List.mem_append_right _ List.mem_cons_self
  have mB : B ∈ L ++ A :: B :: [] := List.mem_append_right _ (List.mem_cons_of_mem _ List.mem_cons_self)
  have rA := (hT.2 A mA).root
  have rB := (hT.2 B mB).root
  have hk : ((L ++ A :: B :: []).map rid).length = (X ++ x :: []).length + 1 := by simp; omega
  have hia : ((L ++ A :: B :: []).map rid)[L.length]? = some (rid A) := by simp
  have hib : ((L ++ A :: B :: []).map rid)[L.length + 1]? = some (rid B) := by
    rw [List.getElem?_map, List.getElem?_append_right (by omega)]; simp
  have hxi : (X ++ x :: [])[L.length]? = some x := by rw [hL]; simp
  have hi : L.length < (X ++ x :: []).length := by simp; omega
  obtain ⟨z, hz⟩ : ∃ z, (its A)[(its A).length - 1]? = some z := ⟨_, List.getElem?_eq_getElem (by omega)⟩
  have ca := recOf_cnt A
  have cb := recOf_cnt B
  have lA := hA.len
  have lB := hB.len
  have hsh := sh_rgt x hA hB (by omega) (by omega)
  have htl := toL_rgt x hA hB hz
  have fin : ∀ w', Tri (parM k) w F H n (rid A) (rid B) w' ⟨(recOf (h + 1) ((n, X ++ x :: [], L ++ A :: B :: []) : BT (It ord) (h + 1))).cnt, (X ++ x :: []).set L.length z, some (((L ++ A :: B :: []).map rid).map some)⟩ (recOf h (rgtA A)) (recOf h (rgtB A x B)) →
      RebAny k mn mx w F H h ((n, X ++ x :: [], L ++ A :: B :: []) : BT (It ord) (h + 1)) (.returned (.tuple #[])) w' := by
    intro w' hTri
    obtain ⟨H', f1, f2, g1, g2, g3, g4⟩ := hTri.fam hF
    rw [rec_lend (mn := mn) (mx := mx) hL rfl htl (rid_rgtA A) (rid_rgtB A B x)] at g1
    exact ⟨rfl, H', _, f1, f2, lend_out hL rfl hT hd hsh.1 hsh.2 hs hx (by rw [its_rgtA]; simp; omega) (by rw [its_rgtB]; simp; omega) (rid_rgtA A) (rid_rgtB A B x) (ids_rgt A B x) htl (fun e c hc => rgt_kids e c hc) g1 g2 g3 g4⟩
  have wa : 0 ≤ (recOf h A).cnt ∧ (recOf h A).cnt ≤ 100000000000000 := by rw [ca]; omega
  have wb : 0 ≤ (recOf h B).cnt ∧ (recOf h B).cnt ≤ 100000000000000 := by rw [cb]; omega
  have hxl := Nat.le_trans hx hmx
  match h, A, B with
  | 0, A, B =>
    refine (reb_right_leaf (mn := mn) hF hm hout hn hk rA rB hia hib na nb ab hxi hz hi (by simp [hL]) hxl hmx hsum hlt (Nat.le_trans lA hmx) wa wb).mono ?_
    rintro e' w' ⟨rfl, hTri⟩
    refine fin w' ?_
    rw [← rec_rgtA0 A (by omega), ← rec_rgtB0]
    exact hTri
  | h + 1, A, B =>
    have h1 := hA.2.1
    have h2 := hB.2.1
    have lA' : A.2.1.length ≤ mx := lA
    have lB' : B.2.1.length ≤ mx := lB
    obtain ⟨c, hc⟩ : ∃ c, A.2.2[A.2.2.length - 1]? = some c := ⟨_, List.getElem?_eq_getElem (by omega)⟩
    have hcm : c ∈ A.2.2 := List.mem_of_getElem? hc
    obtain ⟨cN, cA, cB⟩ := kid_ne hd (.inl hcm)
    have hcc := ((hT.2 A mA).2 c hcm).root
    have hlst := toL_last hA hz hc
    have hcs : 0 ≤ (recOf h c).cnt ∧ (recOf h c).cnt ≤ 100000000000000 := by
      rw [recOf_cnt]
      rw [hlst] at hba
      simp only [List.length_append, List.length_cons] at hba
      omega
    refine (reb_right_kids (mn := mn) hF hm hout hn hk rA rB hia hib na nb ab hxi hz hi (by simp [hL]) hxl hmx hsum hlt (Nat.le_trans lA hmx) wa wb (by rw [List.length_map, List.getElem?_map, hc]; rfl) hcc cN cA cB hcs (by simp only [List.length_map]; omega) (by simp only [List.length_map]; omega) (by simp only [List.length_map]; omega)).mono ?_
    rintro e' w' ⟨rfl, hTri⟩
    refine fin w' ?_
    rw [← rec_rgtA1 hA hz hc, ← rec_rgtB1 x hc]
    exact hTri
end Go.Proofs.Ytgdchpinlboejaa

namespace Go.Proofs.Ytgdchpinlboejaa
set_option linter.unusedSimpArgs false
set_option linter.unusedVariables false
open Go.RowKit

variable {ord : List Int}

theorem reb_any {k : Kc ord} {mn mx : Nat} {w : World} {F : Nat → Prop} {H : Nat → Option (NodeR (It ord))} {t h j : Nat} {T : BT (It ord) (h + 1)} {c0 : BT (It ord) h}
    (hF : Fam (parM k) w F H) (hm : MapAt k mn mx w t) (hout : ∀ b, MOwn k t b → ¬ F b) (hT : IsT H (h + 1) T) (hd : (ids (h + 1) T).Nodup) (hx1 : 1 ≤ T.2.1.length) (hx : T.2.1.length ≤ mx) (hlen : T.2.2.length = T.2.1.length + 1)
    (hsh : ∀ c ∈ T.2.2, Sh mn mx h c) (hoth : ∀ i c, T.2.2[i]? = some c → i ≠ j → mn ≤ (its c).length) (hj : T.2.2[j]? = some c0) (hdef : (its c0).length + 1 = mn) (hmn : mn + mn ≤ mx) (hmx : mx ≤ 1000) (big : (toL (h + 1) T).length ≤ 100000000000000) :
    Calls Try.prog 98 #[.pointer (some ⟨t, 0, none⟩), .pointer (some ⟨T.1, 0, none⟩), .int .i64 (j : Nat)] w (RebAny k mn mx w F H h T) := by
  have hjl := (List.getElem?_eq_some_iff.1 hj).1
  obtain ⟨i, hi, hij⟩ : ∃ i, i < T.2.1.length ∧ (i = j ∨ (i + 1 = j ∧ j = T.2.1.length)) := by
    rcases Nat.lt_or_ge j T.2.1.length with h | h
    · exact ⟨j, h, .inl rfl⟩
    · exact ⟨j - 1, by omega, .inr ⟨by omega, by omega⟩⟩
  obtain ⟨A, hA⟩ : ∃ A, T.2.2[i]? = some A := ⟨_, List.getElem?_eq_getElem (by omega)⟩
  obtain ⟨B, hB⟩ : ∃ B, T.2.2[i + 1]? = some B := ⟨_, List.getElem?_eq_getElem (by omega)⟩
  obtain ⟨x, hxi⟩ : ∃ x, T.2.1[i]? = some x := ⟨_, List.getElem?_eq_getElem hi⟩
  obtain ⟨e, hL, hR⟩ := two_at hlen hA hB hxi
  have sA := hsh A (List.mem_of_getElem? hA)
  have sB := hsh B (List.mem_of_getElem? hB)
  have lL : (T.2.2.take i).length = i := by simp; omega
  have hs : ∀ c, (c ∈ T.2.2.take i ∨ c ∈ T.2.2.drop (i + 2)) → mn ≤ (its c).length ∧ Sh mn mx h c := by
    rintro c (hc | hc)
    · obtain ⟨q, q1, q2⟩ := mem_take_get hc
      exact ⟨hoth q c q2 (by omega), hsh c (List.mem_of_getElem? q2)⟩
    · obtain ⟨q, q1, q2⟩ := mem_drop_get hc
      exact ⟨hoth q c q2 (by omega), hsh c (List.mem_of_getElem? q2)⟩
  have hxl : (T.2.1.take i ++ x :: T.2.1.drop (i + 1)).length = T.2.1.length := by simp; omega
  have hbig : (toL h A).length ≤ 100000000000000 ∧ (toL h B).length ≤ 100000000000000 := by
    have h1 : (toL (h + 1) T).length = (toL (h + 1) ((T.1, T.2.1.take i ++ x :: T.2.1.drop (i + 1), T.2.2.take i ++ A :: B :: T.2.2.drop (i + 2)) : BT (It ord) (h + 1))).length := by rw [← e]
    rw [toL_two (mn := mn) (mx := mx) hL hR] at h1
    simp only [List.length_append, List.length_cons] at h1
    omega
  revert hT hd
  generalize hX : T.2.1.take i = X at *
  generalize hY : T.2.1.drop (i + 1) = Y at *
  generalize hLL : T.2.2.take i = L at *
  generalize hRR : T.2.2.drop (i + 2) = R at *
  generalize hn : T.1 = n at *
  rw [e]
  intro hT hd
  rcases hij with rfl | ⟨rfl, hend⟩
  · obtain rfl : c0 = A := Option.some.inj (hj.symm.trans hA)
    have hBm := hoth (i + 1) B hB (by omega)
    rcases Nat.lt_or_ge ((its c0).length + (its B).length) mx with h1 | h1
    · exact reb_join hF hm hout hL hR hT hd sA sB hs (by omega) hmx h1 (by omega) hbig.1 hbig.2 _ (.inl (by rw [lL]))
    · have := reb_left hF hm hout hL hR hT hd sA sB hs (by omega) hmx h1 (by omega) (by omega) (by omega) hbig.1 hbig.2
      rw [lL] at this
      exact this
  · obtain rfl : c0 = B := Option.some.inj (hj.symm.trans hB)
    have hAm := hoth i A hA (by omega)
    have y0 : Y = [] := by rw [← hY]; exact List.drop_eq_nil_of_le (by omega)
    subst y0
    have r0 : R = [] := List.eq_nil_of_length_eq_zero (by simpa using hR)
    subst r0
    rcases Nat.lt_or_ge ((its A).length + (its c0).length) mx with h1 | h1
    · exact reb_join hF hm hout hL hR hT hd sA sB hs (by omega) hmx h1 (by omega) hbig.1 hbig.2 _ (.inr ⟨by rw [hxl, hend], rfl⟩)
    · have := reb_right hF hm hout hL hT hd sA sB hs (by omega) hmx h1 (by omega) (by omega) (by omega) hbig.1 hbig.2
      rw [hxl, ← hend] at this
      exact this
end Go.Proofs.Ytgdchpinlboejaa
