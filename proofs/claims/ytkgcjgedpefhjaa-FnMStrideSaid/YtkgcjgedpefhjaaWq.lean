/- growMap. -/
import Derived.Test.YtkgcjgedpefhjaaWp
import Derived.Test.YtkgcjgedpefhjaaSb
namespace Go.Proofs.Ytkgcjgedpefhjaa
open Go.RowKit

theorem MapIn.chg {mn mx : Nat} {w w' : World} {F : Nat → Prop} {t : Nat} {l : List (Int × Int)} (h : MapIn mn mx w F t l) (c : Chg (fun _ _ => False) w w') : MapIn mn mx w' F t l := by
  rcases h with ⟨h1, h2, h3⟩ | ⟨H, h, T, h1, h2, h3, h4⟩
  · exact .inl ⟨h1, h2, h3.chg c (fun _ h => h)⟩
  · exact .inr ⟨H, h, T, ⟨h1.fam.chg c (fun _ _ _ h => h), h1.map.chg c (fun _ h => h), h1.out, h1.isT, h1.nd, h1.sh, h1.srt, h1.big, h1.m3, h1.m1000, h1.mh, h1.mh2⟩, h2.chg c (fun _ h => h), h3, h4⟩

theorem growL_take {l : List (Int × Int)} {j : Nat} {x : Int × Int} (h : l[j]? = some x) : growL (l.take (j + 1)) = insL ltM x (growL (l.take j)) := by
  unfold growL
  rw [List.take_add_one, h, List.foldl_append]; rfl

theorem growL_len : ∀ (l acc : List (Int × Int)), (l.foldl (fun acc x => insL ltM x acc) acc).length ≤ acc.length + l.length
  | [], acc => by simp
  | x :: l, acc => by
    have h1 := growL_len l (insL ltM x acc)
    have h2 := insL_len (lt := ltM) (x := x) (l := acc)
    simp only [List.foldl_cons, List.length_cons]
    split at h2 <;> omega

theorem growL_take_len (l : List (Int × Int)) (j : Nat) : (growL (l.take j)).length ≤ l.length := by
  have := growL_len (l.take j) []
  simp only [List.length_nil, List.length_take] at this
  unfold growL; omega

def GrowPost (mn mx : Nat) (w : World) (l : List (Int × Int)) (e : Ending) (w' : World) : Prop :=
  ∃ t F, e = .returned (.pointer (some ⟨t, 0, none⟩)) ∧ w.heap.size ≤ t ∧ MapIn mn mx w' F t (growL l) ∧ Chg (fun _ _ => False) w w' ∧ ∀ b, F b → w.heap.size ≤ b

set_option maxRecDepth 100000 in
theorem growMap_any (d : Int) (p : Option Addr) (cap : Nat) (l : List (Int × Int)) (w : World) (h1 : 2 ≤ d) (h2 : d ≤ 128) (hl : ItemsAt w p l) (hlen : l.length ≤ 2147483647) :
    Calls Try.prog 42 #[.int .i64 d, .slice p l.length cap] w (GrowPost ((2 * d.toNat - 1) / 2) (2 * d.toNat - 1) w l) := by
  go_enter Try.func42, Try.ntmps42
  go_wp2_with fail
  refine (newMap_any d w h1 h2).mono ?_
  rintro e w1 ⟨rfl, hc1, hB1⟩
  have hlt1 : w.heap.size < w1.heap.size := hB1.lt
  go_wp2_with fail
  go_loopw [12] (fun i wr => ∃ (j : Nat) (F : Nat → Prop), j ≤ l.length ∧ i = .int .i64 j ∧ MapIn ((2 * d.toNat - 1) / 2) (2 * d.toNat - 1) wr F w.heap.size (growL (l.take j)) ∧ Chg (fun _ _ => False) w wr ∧ (∀ b, F b → w.heap.size ≤ b)) (fun i _ => l.length - (intOf i).toNat)
  case atStart => exact ⟨0, fun _ => False, Nat.zero_le _, rfl, .inl ⟨rfl, fun _ h => h, hB1⟩, hc1, fun _ h => h.elim⟩
  case round =>
    obtain ⟨j, F, hj, rfl, hM, hc, hF⟩ := hrel
    have hsz := hc.size
    by_cases hlt : j < l.length
    · obtain ⟨x, hx⟩ : ∃ x, l[j]? = some x := ⟨_, List.getElem?_eq_getElem hlt⟩
      rcases hl.chg hc with hl0 | ⟨b, o, rfl, hcell⟩
      · subst hl0; simp at hlt
      obtain ⟨g0, g1⟩ := hcell j x hx
      have i0 : (0 : Int) ≤ (j : Int) := by omega
      have i1 : (j : Int) < (l.length : Int) := by omega
      have hgl := growL_take_len l j
      have hgt := growL_take hx
      clear hcell hx
      go_wp2_with fail
      have hM1 : MapIn ((2 * d.toNat - 1) / 2) (2 * d.toNat - 1) (wr.alloc (.cells #[.int .i64 x.1, .int .i64 x.2] 39)) F w.heap.size (growL (l.take j)) := hM.chg ((Chg.refl (fun _ _ => False) wr).alloc _)
      refine (set_any hM1 x (by omega) (by omega) (by omega) (by omega) (by omega) (by omega)).mono ?_
      rintro e w2 ⟨hret, F', hM2, hc2, hF2⟩
      have hc02 : Chg (fun _ _ => False) w w2 := (hc.trans ((Chg.refl (fun _ _ => False) wr).alloc _)).trans' hc2 (fun _ _ _ h => h) (fun b o hb h => by
        rcases h with h | h
        · have := hF b h; omega
        · omega)
      have hF2' : ∀ b, F' b → w.heap.size ≤ b := fun b hb => by
        rcases hF2 b hb with h | h
        · exact hF b h
        · have h2 : wr.heap.size ≤ (wr.alloc (.cells #[.int .i64 x.1, .int .i64 x.2] 39)).heap.size := (((Chg.refl (fun _ _ => False) wr).alloc _)).size
          omega
      rcases hret with ⟨y, _, rfl⟩ | ⟨_, rfl⟩
      all_goals
        go_wp2_with fail
        go_roundw
        case rel => exact ⟨j + 1, F', by omega, by go_num, by rw [hgt]; exact hM2, hc02, hF2'⟩
        case measure => simp [intOf]; omega
    · obtain rfl : j = l.length := by omega
      go_wp2_with fail
      go_ret
      exact ⟨w.heap.size, F, rfl, Nat.le_refl _, by rw [List.take_length] at hM; exact hM, hc, hF⟩
end Go.Proofs.Ytkgcjgedpefhjaa
