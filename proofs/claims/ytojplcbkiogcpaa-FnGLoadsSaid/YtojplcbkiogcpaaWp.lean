/- Set on whatever map. -/
import Derived.Test.YtojplcbkiogcpaaGp
namespace Go.Proofs.Ytojplcbkiogcpaa
set_option linter.unusedSimpArgs false
set_option linter.unusedVariables false
open Go.RowKit
variable {ord : List Int} {k : Kc ord}

/-- The map t holds the list l; its nodes lie in F. -/
def MapIn (k : Kc ord) (mn mx : Nat) (w : World) (F : Nat → Prop) (t : Nat) (l : List (It ord)) : Prop :=
  (l = [] ∧ (∀ b, ¬ F b) ∧ MapBlk k mn mx w t none 0) ∨ ∃ H h, ∃ T : BT (It ord) h, TreeIn k mn mx w F H t h T ∧ MapBlk k mn mx w t (some (rid T)) (toL h T).length ∧ toL h T = l ∧ 1 ≤ (its T).length

def SetPost (k : Kc ord) (mn mx : Nat) (w : World) (F : Nat → Prop) (t : Nat) (l : List (It ord)) (x : It ord) (e : Ending) (w' : World) : Prop :=
  SetRet l x e ∧ ∃ F', MapIn k mn mx w' F' t (insL ltM x l) ∧ Chg (fun b _ => F b ∨ b = t) w w' ∧ ∀ b, F' b → F b ∨ w.heap.size ≤ b

theorem set_any {mn mx : Nat} {w : World} {F : Nat → Prop} {t : Nat} {l : List (It ord)} (h : MapIn k mn mx w F t l) (x : It ord) (hl : l.length < 100000000000000) (hmn : 1 ≤ mn) (hmx : 3 ≤ mx) (hmx2 : mx ≤ 1000) (hmh : mn ≤ mx / 2) (hmh2 : mn ≤ mx - (mx / 2 + 1)) :
    Calls Try.prog 95 #[.pointer (some ⟨t, 0, none⟩), aggM x, .pointer none] w (SetPost k mn mx w F t l x) := by
  have fin : ∀ (G : Nat → Prop) e w', (∀ b, G b → F b) → SetTop k mn mx w G t l x e w' → SetPost k mn mx w F t l x e w' := by
    rintro G e w' hG ⟨hr, F', H', h', T', r1, r2, r3, r4, r5, r6⟩
    exact ⟨hr, F', .inr ⟨H', h', T', r1, r2, r3, r4⟩, r5.mono (fun b _ _ h => h.imp (hG b) id), fun b hb => (r6 b hb).imp (hG b) id⟩
  rcases h with ⟨rfl, hF, hB⟩ | ⟨H, h, T, hI, hB, rfl, h1⟩
  · exact (set_empty hB hmn hmx hmx2 hmh hmh2 x).mono fun e w' h => fin _ e w' (fun _ h => h.elim) h
  · by_cases ha : Avail mx h T x
    · exact (set_avail hI hB x ha h1 hl).mono fun e w' h => fin F e w' (fun _ h => h) h
    · exact (set_full hI hB x ha hl).mono fun e w' h => fin F e w' (fun _ h => h) h

/-- The list of a map grown from a list. -/
def growL (l : List (It ord)) : List (It ord) := l.foldl (fun acc x => insL ltM x acc) []

theorem MapIn.chg {mn mx : Nat} {w w' : World} {F : Nat → Prop} {t : Nat} {l : List (It ord)} (h : MapIn k mn mx w F t l) (c : Chg (fun _ _ => False) w w') : MapIn k mn mx w' F t l := by
  rcases h with ⟨h1, h2, h3⟩ | ⟨H, h, T, h1, h2, h3, h4⟩
  · exact .inl ⟨h1, h2, h3.chg c (fun _ _ _ h => h)⟩
  · exact .inr ⟨H, h, T, ⟨h1.fam.chg c (fun _ _ _ h => h), h1.map.chg c (fun _ _ _ h => h), h1.out, h1.isT, h1.nd, h1.sh, h1.srt, h1.big, h1.m3, h1.m1000, h1.mh, h1.mh2⟩, h2.chg c (fun _ _ _ h => h), h3, h4⟩

theorem MapIn.chgA {A : Nat → Nat → Prop} {mn mx : Nat} {w w' : World} {F : Nat → Prop} {t : Nat} {l : List (It ord)} (h : MapIn k mn mx w F t l) (c : Chg A w w') (h1 : ∀ b o, F b → ¬ A b o) (h2 : ∀ b o, MOwn k t b → ¬ A b o) : MapIn k mn mx w' F t l := by
  rcases h with ⟨g1, g2, g3⟩ | ⟨H, h, T, g1, g2, g3, g4⟩
  · exact .inl ⟨g1, g2, g3.chg c h2⟩
  · exact .inr ⟨H, h, T, ⟨g1.fam.chg c h1, g1.map.chg c h2, g1.out, g1.isT, g1.nd, g1.sh, g1.srt, g1.big, g1.m3, g1.m1000, g1.mh, g1.mh2⟩, g2.chg c h2, g3, g4⟩

theorem MapIn.own {mn mx : Nat} {w : World} {F : Nat → Prop} {t b : Nat} {l : List (It ord)} (h : MapIn k mn mx w F t l) (hb : MOwn k t b) : b < w.heap.size := by
  rcases h with ⟨_, _, g3⟩ | ⟨H, h, T, g1, _⟩
  · exact g3.at_.lt hb
  · exact g1.map.lt hb

theorem MapIn.famLt {mn mx : Nat} {w : World} {F : Nat → Prop} {t b : Nat} {l : List (It ord)} (h : MapIn k mn mx w F t l) (hb : F b) : b < w.heap.size := by
  rcases h with ⟨_, g2, _⟩ | ⟨H, h, T, g1, _⟩
  · exact absurd hb (g2 b)
  · exact g1.fam.lt hb

theorem growL_take {l : List (It ord)} {j : Nat} {x : It ord} (h : l[j]? = some x) : growL (l.take (j + 1)) = insL ltM x (growL (l.take j)) := by
  unfold growL
  rw [List.take_add_one, h, List.foldl_append]; rfl

theorem growL_len : ∀ (l acc : List (It ord)), (l.foldl (fun acc x => insL ltM x acc) acc).length ≤ acc.length + l.length
  | [], acc => by simp
  | x :: l, acc => by
    have h1 := growL_len l (insL ltM x acc)
    have h2 := insL_len (lt := ltM) (x := x) (l := acc)
    simp only [List.foldl_cons, List.length_cons]
    split at h2 <;> omega

theorem growL_take_len (l : List (It ord)) (j : Nat) : (growL (l.take j)).length ≤ l.length := by
  have := growL_len (l.take j) []
  simp only [List.length_nil, List.length_take] at this
  unfold growL; omega

end Go.Proofs.Ytojplcbkiogcpaa
