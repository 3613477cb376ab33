/- Map.Keys, MKeys; what a make of integers gives. -/
import Derived.Test.YtbpnabhgnijbfaaKn
import Derived.BigQuiet
import Derived.Laws.MakeOwn
namespace Go.Proofs.Ytbpnabhgnijbfaa
set_option linter.unusedSimpArgs false
set_option linter.unusedVariables false
open Go.RowKit

theorem MapIn.blk {mn mx : Nat} {w : World} {F : Nat → Prop} {t : Nat} {l : List (ByteArray × Int)} (h : MapIn mn mx w F t l) : ∃ root, MapBlk 0 mn mx w t root l.length := by
  rcases h with ⟨rfl, _, hB⟩ | ⟨H, h, T, _, hB, rfl, _⟩
  · exact ⟨none, hB⟩
  · exact ⟨_, hB⟩

theorem Len_any {mn mx : Nat} {w : World} {F : Nat → Prop} {t : Nat} {l : List (ByteArray × Int)} (hM : MapIn mn mx w F t l) :
    Calls Try.prog 48 #[.pointer (some ⟨t, 0, none⟩)] w fun e w' => e = .returned (.int .i64 l.length) ∧ w = w' := by
  obtain ⟨root, hB⟩ := hM.blk
  have c3 := hB.c3
  go_enter Try.func48, Try.ntmps48
  go_wp2
  go_ret
  exact ⟨rfl, rfl⟩

theorem made_ints (n : Nat) (w : World) (hn : n ≤ 1000000000000) : (Instr.makeSlice 29 (.int .i64 0) (.int .i64 n)).run Try.prog w = .ok (.slice (some ⟨w.heap.size, 0, none⟩) 0 n) (w.alloc (.cells (madeCells #[.string ⟨#[]⟩] n) 9)) := by
  obtain ⟨i0, hi0, hz0, hz1, hz2⟩ := info_parts infoStr
  have h := run_make (P := Try.prog) w 29 9 i0 _ Try.underlying29 hi0 hz0 .i64 .i64 0 (n : Int) (by omega) (by omega) (by rw [hz2]; omega) (by omega)
  rw [h, hz1]
  simp [Value.cells]

theorem own_made (n : Nat) (w : World) : OwnE strE (w.alloc (.cells (madeCells #[.string ⟨#[]⟩] n) 9)) (.slice (some ⟨w.heap.size, 0, none⟩) 0 n) [] w.heap.size := by
  refine .inr ⟨w.heap.size, 0, n, rfl, Nat.zero_le _, Nat.le_refl _, RowAt.of_block (ha_at _ _ rfl) _ _ (by simp [flat]) ?_ (by simp [flat])⟩
  simp [madeCells, strE]

set_option maxRecDepth 100000 in
theorem Keys_any {mn mx : Nat} {w : World} {F : Nat → Prop} {t : Nat} {l : List (ByteArray × Int)} (hM : MapIn mn mx w F t l) (hF : ∀ b, F b → b < w.heap.size) (hlen : l.length ≤ 1000000000000) :
    Calls Try.prog 36 #[.pointer (some ⟨t, 0, none⟩)] w (OwnPost strE (l.map Prod.fst) w) := by
  have hL := Len_any hM
  obtain ⟨n, hn⟩ : ∃ n, l.length = n := ⟨_, rfl⟩
  rw [hn] at hL hlen
  have HN := Lib.hid hn
  clear hn
  have hmk := fun w' => made_ints n w' hlen
  have hca : Chg (fun _ _ => False) w (w.alloc (.cells (madeCells #[.string ⟨#[]⟩] n) 9)) := (Chg.refl _ _).alloc _
  have hown := own_made n w
  have HOWN := Lib.hid hown
  clear hown
  rcases hM.chg hca with ⟨rfl, _, hB⟩ | ⟨H, h, T, hI, hB, rfl, h1⟩
  · have c2 : (w.alloc (.cells (madeCells #[.string ⟨#[]⟩] n) 9)).cell? ⟨t, 2, none⟩ = some (.pointer none) := hB.c2
    go_enter Try.func36, Try.ntmps36
    go_wp2_with fail
    refine hL.mono ?_
    rintro e w' ⟨rfl, rfl⟩
    go_wp2_with fail
    go_ret
    exact ⟨_, rfl, HOWN.out, hca⟩
  · have c2 : (w.alloc (.cells (madeCells #[.string ⟨#[]⟩] n) 9)).cell? ⟨t, 2, none⟩ = some (.pointer (some ⟨rid T, 0, none⟩)) := hB.c2
    have hk := keys_all h mn mx _ F H T _ [] w.heap.size hI.fam hI.isT hI.sh HOWN.out hca.size hF (by rw [HN.out]; simpa using hlen)
    have HK := Lib.hid hk
    clear hk
    go_enter Try.func36, Try.ntmps36
    go_wp2_with fail
    refine hL.mono ?_
    rintro e w' ⟨rfl, rfl⟩
    go_wp2_with fail
    refine HK.out.mono ?_
    rintro e w2 ⟨v2, rfl, how2, hc2⟩
    go_wp2_with fail
    go_ret
    exact ⟨v2, rfl, how2, hca.trans' hc2 (fun _ _ _ h => h) (fun b o hb h => by omega)⟩

end Go.Proofs.Ytbpnabhgnijbfaa
