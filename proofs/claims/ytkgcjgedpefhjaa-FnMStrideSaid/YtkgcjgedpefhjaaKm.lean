/- Map.Keys, MKeys; what a make of integers gives. -/
import Derived.Test.YtkgcjgedpefhjaaKn
import Derived.Test.YtkgcjgedpefhjaaSt
import Derived.Test.YtkgcjgedpefhjaaLa
import Derived.Laws.MakeOwn
namespace Go.Proofs.Ytkgcjgedpefhjaa
open Go.RowKit

theorem MapIn.blk {mn mx : Nat} {w : World} {F : Nat → Prop} {t : Nat} {l : List (Int × Int)} (h : MapIn mn mx w F t l) : ∃ root, MapBlk 0 mn mx w t root l.length := by
  rcases h with ⟨rfl, _, hB⟩ | ⟨H, h, T, _, hB, rfl, _⟩
  · exact ⟨none, hB⟩
  · exact ⟨_, hB⟩

theorem Len_any {mn mx : Nat} {w : World} {F : Nat → Prop} {t : Nat} {l : List (Int × Int)} (hM : MapIn mn mx w F t l) :
    Calls Try.prog 91 #[.pointer (some ⟨t, 0, none⟩)] w fun e w' => e = .returned (.int .i64 l.length) ∧ w = w' := by
  obtain ⟨root, hB⟩ := hM.blk
  have c3 := hB.c3
  go_enter Try.func91, Try.ntmps91
  go_wp2
  go_ret
  exact ⟨rfl, rfl⟩

theorem made_ints (n : Nat) (w : World) (hn : n ≤ 1000000000000) : (Instr.makeSlice 30 (.int .i64 0) (.int .i64 n)).run Try.prog w = .ok (.slice (some ⟨w.heap.size, 0, none⟩) 0 n) (w.alloc (.cells (madeCells #[.int .i64 0] n) 3)) := by
  obtain ⟨i0, hi0, hz0, hz1, hz2⟩ := info_parts infoInt
  have h := run_make (P := Try.prog) w 30 3 i0 _ Try.underlying30 hi0 hz0 .i64 .i64 0 (n : Int) (by omega) (by omega) (by rw [hz2]; omega) (by omega)
  rw [h, hz1]
  simp [Value.cells]

theorem own_made (n : Nat) (w : World) : OwnE intE (w.alloc (.cells (madeCells #[.int .i64 0] n) 3)) (.slice (some ⟨w.heap.size, 0, none⟩) 0 n) [] w.heap.size := by
  refine .inr ⟨w.heap.size, 0, n, rfl, Nat.zero_le _, Nat.le_refl _, RowAt.of_block (ha_at _ _ rfl) _ _ (by simp [flat]) ?_ (by simp [flat])⟩
  simp [madeCells, intE]

set_option maxRecDepth 100000 in
theorem Keys_any {mn mx : Nat} {w : World} {F : Nat → Prop} {t : Nat} {l : List (Int × Int)} (hM : MapIn mn mx w F t l) (hF : ∀ b, F b → b < w.heap.size) (hlen : l.length ≤ 1000000000000) :
    Calls Try.prog 67 #[.pointer (some ⟨t, 0, none⟩)] w (OwnPost intE (l.map Prod.fst) w) := by
  have hL := Len_any hM
  obtain ⟨n, hn⟩ : ∃ n, l.length = n := ⟨_, rfl⟩
  rw [hn] at hL hlen
  have HN := Lib.hid hn
  clear hn
  have hmk := fun w' => made_ints n w' hlen
  have hca : Chg (fun _ _ => False) w (w.alloc (.cells (madeCells #[.int .i64 0] n) 3)) := (Chg.refl _ _).alloc _
  have hown := own_made n w
  have HOWN := Lib.hid hown
  clear hown
  rcases hM.chg hca with ⟨rfl, _, hB⟩ | ⟨H, h, T, hI, hB, rfl, h1⟩
  · have c2 : (w.alloc (.cells (madeCells #[.int .i64 0] n) 3)).cell? ⟨t, 2, none⟩ = some (.pointer none) := hB.c2
    go_enter Try.func67, Try.ntmps67
    go_wp2_with fail
    refine hL.mono ?_
    rintro e w' ⟨rfl, rfl⟩
    go_wp2_with fail
    go_ret
    exact ⟨_, rfl, HOWN.out, hca⟩
  · have c2 : (w.alloc (.cells (madeCells #[.int .i64 0] n) 3)).cell? ⟨t, 2, none⟩ = some (.pointer (some ⟨rid T, 0, none⟩)) := hB.c2
    have hk := keys_all h mn mx _ F H T _ [] w.heap.size hI.fam hI.isT hI.sh HOWN.out hca.size hF (by rw [HN.out]; simpa using hlen)
    have HK := Lib.hid hk
    clear hk
    go_enter Try.func67, Try.ntmps67
    go_wp2_with fail
    refine hL.mono ?_
    rintro e w' ⟨rfl, rfl⟩
    go_wp2_with fail
    refine HK.out.mono ?_
    rintro e w2 ⟨v2, rfl, how2, hc2⟩
    go_wp2_with fail
    go_ret
    exact ⟨v2, rfl, how2, hca.trans' hc2 (fun _ _ _ h => h) (fun b o hb h => by omega)⟩

set_option maxRecDepth 100000 in
theorem MKeys_any (d : Int) (p : Option Addr) (cap : Nat) (l : List (Int × Int)) (w : World) (h1 : 2 ≤ d) (h2 : d ≤ 128) (hl : ItemsAt w p l) (hlen : l.length ≤ 2147483647) :
    Calls Try.prog 39 #[.int .i64 d, .slice p l.length cap] w (OwnPost intE ((growL l).map Prod.fst) w) := by
  have hgl := growL_take_len l l.length
  rw [List.take_length] at hgl
  have HGL := Lib.hid hgl
  clear hgl
  go_enter Try.func39, Try.ntmps39
  go_wp2_with fail
  refine (growMap_any d p cap l _ h1 h2 hl hlen).mono ?_
  rintro e w2 ⟨t, F, rfl, _, hM, hc2, hF2⟩
  have hFl : ∀ b, F b → b < w2.heap.size := by
    intro b hb
    rcases hM with ⟨_, h, _⟩ | ⟨H, h, T, hI, _⟩
    · exact absurd hb (h b)
    · exact hI.fam.lt hb
  go_wp2_with fail
  refine (Keys_any hM hFl (by have := HGL.out; omega)).mono ?_
  rintro e w3 ⟨v, rfl, how, hc3⟩
  go_wp2_with fail
  go_ret
  exact ⟨v, rfl, how.mono hc2.size, hc2.trans hc3⟩

set_option maxRecDepth 100000 in
theorem mKeys_any (d : Int) (p : Option Addr) (cap : Nat) (l : List (Int × Int)) (w : World) (h1 : 2 ≤ d) (h2 : d ≤ 128) (hl : ItemsAt w p l) (hlen : l.length ≤ 2147483647) :
    Calls Try.prog 17 #[.int .i64 d, .slice p l.length cap] w fun e w' => e = .returned (.bool true) ∧ Chg (fun _ _ => False) w w' := by
  have hT := fun w1 (c : Chg (fun _ _ => False) w w1) => tree_any (.slice none 0 0) id p cap l w1 (rank_nil w1) (hl.chg c) hlen
  have hM := MKeys_any d p cap l w h1 h2 hl hlen
  have e1 : growL l = treeL (ltR id) l := rfl
  rw [e1] at hM
  have hlen2 := treeL_len (ltR id) l
  have HT := Lib.hid hT
  have HM := Lib.hid hM
  clear hT hM hl e1
  go_enter Try.func17, Try.ntmps17
  go_wp2_with fail
  refine HM.out.mono ?_
  rintro e w1 ⟨v1, rfl, how1, hc1⟩
  go_wp2_with fail
  refine (HT.out _ hc1).mono ?_
  rintro e w2 ⟨v2, rfl, hv2, hc2⟩
  obtain ⟨q, cap2, rfl, hi, hcap⟩ := hv2.items
  go_wp2_with fail
  refine (specKeys_any _ _ _ (hi.sl hcap) (by omega)).mono ?_
  rintro e w3 ⟨v3, rfl, how3, hc3⟩
  go_wp2_with fail
  refine (equal_int _ _ _ _ (how1.sl.chg (hc2.trans hc3)) how3.sl (by simp; omega)).mono ?_
  rintro e w4 ⟨rfl, hc4⟩
  go_wp2_with fail
  go_ret
  exact ⟨rfl, ((hc1.trans hc2).trans hc3).trans hc4⟩
end Go.Proofs.Ytkgcjgedpefhjaa
