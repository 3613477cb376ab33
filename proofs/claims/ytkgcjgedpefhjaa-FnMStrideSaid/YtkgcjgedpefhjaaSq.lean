/- Walks of coprime and stride. -/
import Derived.Test.YtkgcjgedpefhjaaSp
import Derived.Test.YtkgcjgedpefhjaaHl
namespace Go.Proofs.Ytkgcjgedpefhjaa
open Go.RowKit

set_option maxRecDepth 100000 in
theorem coprime_any (n s : Nat) (w : World) (hn : n ≤ 65535) (hs : s ≤ 65535) :
    Calls Try.prog 27 #[.int .i64 n, .int .i64 s] w fun e w' => e = .returned (.bool (Nat.gcd n s == 1)) ∧ Chg (fun _ _ => False) w w' := by
  obtain ⟨g, hg⟩ : ∃ g, Nat.gcd n s = g := ⟨_, rfl⟩
  rw [hg]
  have HG := Lib.hid hg
  clear hg
  go_enter Try.func27, Try.ntmps27
  go_wp2
  go_loopw [0, 1] (fun av bv wr => ∃ (a b : Nat), av = .int .i64 a ∧ bv = .int .i64 b ∧ a ≤ 65535 ∧ b ≤ 65535 ∧ Nat.gcd a b = g ∧ Chg (fun _ _ => False) w wr) (fun _ bv _ => (intOf bv).toNat)
  case atStart => exact ⟨n, s, rfl, rfl, hn, hs, HG.out, Chg.refl _ _⟩
  case round =>
    obtain ⟨a, b, rfl, rfl, ha, hb, hab, hc⟩ := hrel
    have HAB := Lib.hid hab
    clear hab
    by_cases hlt : 0 < b
    · have b0 : (0 : Int) < (b : Int) := by omega
      have bz : ¬ (b : Int) = 0 := by omega
      have a0 : (0 : Int) ≤ (a : Int) := by omega
      have hl := Nat.mod_lt a hlt
      go_wp2
      go_quiet (fail)
      go_wp2
      go_roundw
      case rel =>
        exact ⟨b, a % b, rfl, by rw [Int.natCast_emod], hb, by omega, by rw [Nat.gcd_comm, ← Nat.gcd_rec, Nat.gcd_comm]; exact HAB.out, hc.drewN _⟩
      case measure => simp [intOf]; omega
    · obtain rfl : b = 0 := by omega
      have : a = g := by rw [← HAB.out]; simp
      subst this
      have e1 : ((a : Int) == 1) = (a == 1) := by rw [Bool.eq_iff_iff]; simp; omega
      have E1 := Lib.hid e1
      clear e1
      go_wp2
      go_ret
      exact ⟨by show Ending.returned (.bool ((a : Int) == 1)) = _; rw [E1.out], hc⟩

set_option maxRecDepth 100000 in
theorem stride_any (n s : Nat) (w : World) (hn : n ≤ 4000) (hs : s ≤ 65535) :
    Calls Try.prog 28 #[.int .i64 n, .int .i64 s] w (OwnPost itemE (strideL n s) w) := by
  obtain ⟨i0, hi0, hz0, hz1, hz2⟩ := info_parts infoItem
  go_enter Try.func28, Try.ntmps28
  go_wp2
  go_loopw [5, 8] (fun v iv wr => ∃ (i : Nat), i ≤ n ∧ iv = .int .i64 i ∧ OwnE itemE wr v ((strideL n s).take i) w.heap.size ∧ Chg (fun _ _ => False) w wr) (fun _ iv _ => n - (intOf iv).toNat)
  case atStart => exact ⟨0, Nat.zero_le _, rfl, OwnE.nil _ _ _, Chg.refl _ _⟩
  case round =>
    obtain ⟨i, hi, rfl, how, hc⟩ := hrel
    have hsz := hc.size
    by_cases hlt : i < n
    · obtain ⟨q, hq⟩ : ∃ q : Nat, i * s = q := ⟨_, rfl⟩
      have hql : q ≤ 4000 * 65535 := by rw [← hq]; exact Nat.mul_le_mul (by omega) hs
      have hqi : (i : Int) * (s : Int) = (q : Int) := by rw [← hq]; simp
      have ht : (strideL n s).take (i + 1) = (strideL n s).take i ++ [(((q % n : Nat) : Int), (i : Int))] := by
        have : (strideL n s)[i]? = some (((q % n : Nat) : Int), (i : Int)) := by rw [← hq]; simp [strideL, hlt]
        rw [List.take_add_one, this]; rfl
      have hm : ((q % n : Nat) : Int) = (i : Int) * (s : Int) % (n : Int) := by rw [← hq]; simp
      rw [hm] at ht
      have HT := Lib.hid ht
      have p0 : (0 : Int) ≤ (i : Int) * (s : Int) := by omega
      have p1 : (i : Int) * (s : Int) ≤ 9223372036854775807 := by omega
      have b0 : (0 : Int) < (n : Int) := by omega
      have bz : ¬ (n : Int) = 0 := by omega
      have i0' : (0 : Int) ≤ (i : Int) := by omega
      have i1 : (i : Int) < (n : Int) := by omega
      have HOW := Lib.hid how
      have hll : ((strideL n s).take i).length ≤ 4000 := by simp; omega
      have hca : Chg (fun _ _ => False) wr (wr.alloc (.cells #[.int .i64 ((i : Int) * (s : Int) % (n : Int)), .int .i64 i] 39)) := (Chg.refl _ _).alloc _
      have hc2 := hc.trans hca
      have HOW2 := Lib.hid (how.keep hca)
      have hsz2 := hc2.size
      clear ht hm hq how hqi
      go_wp2_with (refine wpList_append_E itemE (by rfl) _ _ _ (by rfl) i0 _ 16 Try.underlying22 hi0 hz0 hz1 hz2 rfl _ (by rfl) _ w.heap.size HOW2.out hsz2 ⟨wr.heap.size, 0, none⟩ 1 _ (by rfl) [((i : Int) * (s : Int) % (n : Int), (i : Int))] rfl (by decide) ?_ ?_ ?_ ?_)
      · exact El.src1 itemE (c := #[.int .i64 ((i : Int) * (s : Int) % (n : Int)), .int .i64 i]) (ha_at _ _ (by simp)) _ rfl
      · unfold maxLen; omega
      · omega
      intro v' w' h1 h2 _
      have hc3 : Chg (fun _ _ => False) w w' := hc2.trans' h2 (fun _ _ _ h => h) (fun b o hb h => by omega)
      go_wp2
      go_roundw
      case rel => exact ⟨i + 1, by omega, by go_num, by rw [HT.out]; exact h1, hc3⟩
      case measure => simp [intOf]; omega
    · obtain rfl : i = n := by omega
      go_wp2
      go_ret
      exact ⟨_, rfl, by rw [List.take_of_length_le (by simp [strideL])] at how; exact how, hc⟩
end Go.Proofs.Ytkgcjgedpefhjaa
