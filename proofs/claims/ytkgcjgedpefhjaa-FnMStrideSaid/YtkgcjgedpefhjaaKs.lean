/- spec: Keys, Values. -/
import Derived.Test.YtkgcjgedpefhjaaEl
namespace Go.Proofs.Ytkgcjgedpefhjaa
open Go.RowKit

def OwnPost {α : Type} (p : El α) (xs : List α) (w : World) (e : Ending) (w' : World) : Prop := ∃ v, e = .returned v ∧ OwnE p w' v xs w.heap.size ∧ Chg (fun _ _ => False) w w'

set_option maxRecDepth 100000 in
theorem specKeys_any (v : Value) (xs : List (Int × Int)) (w : World) (h : SlE itemE w v xs) (hlen : xs.length ≤ 2147483648) :
    Calls Try.prog 40 #[v] w (OwnPost intE (xs.map Prod.fst) w) := by
  obtain ⟨a, cap, rfl⟩ := h.form
  have HS := Lib.hid h
  clear h
  obtain ⟨i0, hi0, hz0, hz1, hz2⟩ := info_parts infoInt
  go_enter Try.func40, Try.ntmps40
  go_wp2
  go_loopw [3, 8] (fun v i wr => ∃ (j : Nat), j ≤ xs.length ∧ i = .int .i64 j ∧ OwnE intE wr v ((xs.map Prod.fst).take j) w.heap.size ∧ Chg (fun _ _ => False) w wr) (fun _ i _ => xs.length - (intOf i).toNat)
  case atStart => exact ⟨0, Nat.zero_le _, rfl, OwnE.nil _ _ _, Chg.refl _ _⟩
  case round =>
    obtain ⟨j, hj, rfl, how, hc⟩ := hrel
    have hsz := hc.size
    by_cases hlt : j < xs.length
    · obtain ⟨x, hx⟩ : ∃ x, xs[j]? = some x := ⟨_, List.getElem?_eq_getElem hlt⟩
      obtain ⟨b, o, rfl, g0, g1⟩ := (HS.out.chg hc).item hx
      have ht : (xs.map Prod.fst).take (j + 1) = (xs.map Prod.fst).take j ++ [x.1] := by rw [List.take_add_one, List.getElem?_map, hx]; rfl
      have HT := Lib.hid ht
      clear hx ht
      have i0' : (0 : Int) ≤ (j : Int) := by omega
      have i1 : (j : Int) < (xs.length : Int) := by omega
      have hc2 : Chg (fun _ _ => False) w ((wr.alloc (.cells #[.int .i64 x.1, .int .i64 x.2] 39)).alloc (.cells #[.int .i64 x.1] 3)) := (hc.alloc _).alloc _
      have how2 := how.keep (((Chg.refl (fun _ _ => False) wr).alloc (.cells #[.int .i64 x.1, .int .i64 x.2] 39)).alloc (.cells #[.int .i64 x.1] 3))
      have HOW := Lib.hid how2
      clear how how2
      go_wp2_with (refine wpList_append_E intE (by rfl) _ _ _ (by rfl) i0 _ 8 Try.underlying30 hi0 hz0 hz1 hz2 rfl _ (by rfl) _ w.heap.size HOW.out hc2.size ⟨wr.heap.size + 1, 0, none⟩ 1 _ (by rfl) [x.1] rfl (by decide) ?_ ?_ ?_ ?_)
      · exact El.src1 intE (c := #[.int .i64 x.1]) (ha_at _ _ (by simp)) _ rfl
      · have : ((xs.map Prod.fst).take j).length ≤ xs.length := by simp; omega
        unfold maxLen; omega
      · have : ((xs.map Prod.fst).take j).length ≤ xs.length := by simp; omega
        omega
      intro v' w' h1 h2 _
      have hc3 : Chg (fun _ _ => False) w w' := hc2.trans' h2 (fun _ _ _ h => h) (fun b o hb h => by omega)
      go_wp2
      go_roundw
      case rel => exact ⟨j + 1, by omega, by go_num, by rw [HT.out]; exact h1, hc3⟩
      case measure => simp [intOf]; omega
    · obtain rfl : j = xs.length := by omega
      go_wp2
      go_ret
      exact ⟨_, rfl, by rw [List.take_of_length_le (by simp)] at how; exact how, hc⟩
set_option maxRecDepth 100000 in
theorem specValues_any (v : Value) (xs : List (Int × Int)) (w : World) (h : SlE itemE w v xs) (hlen : xs.length ≤ 2147483648) :
    Calls Try.prog 46 #[v] w (OwnPost intE (xs.map Prod.snd) w) := by
  obtain ⟨a, cap, rfl⟩ := h.form
  have HS := Lib.hid h
  clear h
  obtain ⟨i0, hi0, hz0, hz1, hz2⟩ := info_parts infoInt
  go_enter Try.func46, Try.ntmps46
  go_wp2
  go_loopw [3, 8] (fun v i wr => ∃ (j : Nat), j ≤ xs.length ∧ i = .int .i64 j ∧ OwnE intE wr v ((xs.map Prod.snd).take j) w.heap.size ∧ Chg (fun _ _ => False) w wr) (fun _ i _ => xs.length - (intOf i).toNat)
  case atStart => exact ⟨0, Nat.zero_le _, rfl, OwnE.nil _ _ _, Chg.refl _ _⟩
  case round =>
    obtain ⟨j, hj, rfl, how, hc⟩ := hrel
    have hsz := hc.size
    by_cases hlt : j < xs.length
    · obtain ⟨x, hx⟩ : ∃ x, xs[j]? = some x := ⟨_, List.getElem?_eq_getElem hlt⟩
      obtain ⟨b, o, rfl, g0, g1⟩ := (HS.out.chg hc).item hx
      have ht : (xs.map Prod.snd).take (j + 1) = (xs.map Prod.snd).take j ++ [x.2] := by rw [List.take_add_one, List.getElem?_map, hx]; rfl
      have HT := Lib.hid ht
      clear hx ht
      have i0' : (0 : Int) ≤ (j : Int) := by omega
      have i1 : (j : Int) < (xs.length : Int) := by omega
      have hc2 : Chg (fun _ _ => False) w ((wr.alloc (.cells #[.int .i64 x.1, .int .i64 x.2] 39)).alloc (.cells #[.int .i64 x.2] 3)) := (hc.alloc _).alloc _
      have how2 := how.keep (((Chg.refl (fun _ _ => False) wr).alloc (.cells #[.int .i64 x.1, .int .i64 x.2] 39)).alloc (.cells #[.int .i64 x.2] 3))
      have HOW := Lib.hid how2
      clear how how2
      go_wp2_with (refine wpList_append_E intE (by rfl) _ _ _ (by rfl) i0 _ 8 Try.underlying30 hi0 hz0 hz1 hz2 rfl _ (by rfl) _ w.heap.size HOW.out hc2.size ⟨wr.heap.size + 1, 0, none⟩ 1 _ (by rfl) [x.2] rfl (by decide) ?_ ?_ ?_ ?_)
      · exact El.src1 intE (c := #[.int .i64 x.2]) (ha_at _ _ (by simp)) _ rfl
      · have : ((xs.map Prod.snd).take j).length ≤ xs.length := by simp; omega
        unfold maxLen; omega
      · have : ((xs.map Prod.snd).take j).length ≤ xs.length := by simp; omega
        omega
      intro v' w' h1 h2 _
      have hc3 : Chg (fun _ _ => False) w w' := hc2.trans' h2 (fun _ _ _ h => h) (fun b o hb h => by omega)
      go_wp2
      go_roundw
      case rel => exact ⟨j + 1, by omega, by go_num, by rw [HT.out]; exact h1, hc3⟩
      case measure => simp [intOf]; omega
    · obtain rfl : j = xs.length := by omega
      go_wp2
      go_ret
      exact ⟨_, rfl, by rw [List.take_of_length_le (by simp)] at how; exact how, hc⟩
end Go.Proofs.Ytkgcjgedpefhjaa
