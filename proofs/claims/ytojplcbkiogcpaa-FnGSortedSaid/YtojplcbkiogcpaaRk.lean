/- The rank of a key in whatever order. -/
import Derived.Test.YtojplcbkiogcpaaSa
import Derived.Test.YtojplcbkiogcpaaEl
import Derived.Test.YtojplcbkiogcpaaRl
namespace Go.Proofs.Ytojplcbkiogcpaa
set_option linter.unusedSimpArgs false
set_option linter.unusedVariables false
open Go.RowKit

set_option maxRecDepth 100000 in
theorem rank_list (v : Value) (os : List Int) (w : World) (hs : SlE intE w v os) (hlen : os.length ≤ 2147483647) : RankOk v (rkL os) w := by
  intro w' hc key
  have hs' := hs.chg hc
  obtain ⟨a, cap, rfl⟩ := hs.form
  by_cases h0 : os.length = 0
  · have e1 : rkL os key = key := by simp [rkL, h0]
    rw [e1, h0]
    go_enter Try.func55, Try.ntmps55
    go_wp2
    go_ret
    exact ⟨rfl, rfl⟩
  · obtain ⟨n, hn⟩ : ∃ n, os.length = n := ⟨_, rfl⟩
    have hn0 : (0 : Int) < (n : Int) := by omega
    have hr := rem_twice hn0 key
    have g1 := Int.emod_nonneg key (by omega : (n : Int) ≠ 0)
    have g2 := Int.emod_lt_of_pos key hn0
    obtain ⟨q, hq⟩ : ∃ q : Nat, key % (n : Int) = (q : Int) := ⟨(key % (n : Int)).toNat, by omega⟩
    have hql : q < os.length := by omega
    have hx : os[q]? = some os[q] := List.getElem?_eq_getElem hql
    have e1 : rkL os key = os[q] := by
      have : ¬ n = 0 := by omega
      simp [rkL, hn, hq, this, hx]
    obtain ⟨b, o, rfl, hcell⟩ := hs'.int hx
    rw [e1, hn]
    obtain ⟨y, hy⟩ : ∃ y, os[q] = y := ⟨_, rfl⟩
    rw [hy] at hcell ⊢
    have t1 := Int.tmod_lt_of_pos key hn0
    have t2 := Int.lt_tmod_of_pos key hn0
    have n1 : (n : Int) ≤ 2147483647 := by omega
    have nz : ¬ (n : Int) = 0 := by omega
    have q0 : (0 : Int) ≤ (q : Int) := by omega
    have q1 : (q : Int) < (n : Int) := by omega
    rw [hq] at hr
    clear hq hx e1 hy g1 g2 h0 hn
    go_enter Try.func55, Try.ntmps55
    go_wp2
    go_ret
    exact ⟨rfl, rfl⟩
end Go.Proofs.Ytojplcbkiogcpaa
