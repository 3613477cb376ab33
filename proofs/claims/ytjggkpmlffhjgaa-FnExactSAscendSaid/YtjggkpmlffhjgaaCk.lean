/- spec: First. -/
import Derived.Test.YtjggkpmlffhjgaaZc
import Derived.Test.YtjggkpmlffhjgaaKg
namespace Go.Proofs.Ytjggkpmlffhjgaa
set_option linter.unusedSimpArgs false
set_option linter.unusedVariables false
open Go.RowKit

theorem SlE.take {α : Type} {p : El α} {w : World} {a : Option Addr} {cap : Nat} {xs : List α} (h : SlE p w (.slice a xs.length cap) xs) (k : Nat) (hk : k ≤ xs.length) : SlE p w (.slice a k cap) (xs.take k) := by
  obtain ⟨a', cap', h1, h2, h3⟩ := h
  injection h1 with e1 e2 e3
  subst e1 e3
  have hl : (xs.take k).length = k := by simp; omega
  refine ⟨a, cap, by rw [hl], by omega, ?_⟩
  rcases h3 with rfl | ⟨b, o, rfl, hc⟩
  · exact .inl (by simp)
  · refine .inr ⟨b, o, rfl, fun j u hj => hc j u ?_⟩
    have e : flat p.par (xs.take k) = (flat p.par xs).take (k * p.par.es) := (flat_take p.par xs k).symm
    rw [e] at hj
    have hjl : j < k * p.par.es := by
      have := (List.getElem?_eq_some_iff.1 hj).1
      simp at this; omega
    rw [List.getElem?_take_of_lt hjl] at hj
    exact hj

theorem First_any (v : Value) (xs : List (Int × Int)) (n : Int) (w : World) (h : SlE itemE w v xs) (hlen : xs.length ≤ 2147483648) :
    Calls Try.prog 93 #[v, .int .i64 n] w fun e w' => ∃ v', e = .returned v' ∧ SlE itemE w' v' (firstN n xs) ∧ Chg (fun _ _ => False) w w' := by
  obtain ⟨a, cap, rfl⟩ := h.form
  obtain ⟨_, _, _, hcap0, _⟩ := id h
  have hcap : xs.length ≤ cap := by
    obtain ⟨a', cap', e, h2, _⟩ := id h
    injection e with e1 e2 e3
    omega
  have HS := Lib.hid h
  clear h
  by_cases h1 : n < 1
  · have hf : firstN n xs = xs := by unfold firstN; rw [if_pos (.inl h1)]
    rw [hf]
    go_enter Try.func93, Try.ntmps93
    go_wp2
    go_ret
    exact ⟨_, rfl, HS.out, Chg.refl _ _⟩
  by_cases h2 : (xs.length : Int) < n
  · have hf : firstN n xs = xs := by unfold firstN; rw [if_pos (.inr h2)]
    rw [hf]
    go_enter Try.func93, Try.ntmps93
    go_wp2
    go_ret
    exact ⟨_, rfl, HS.out, Chg.refl _ _⟩
  · obtain ⟨k, rfl⟩ : ∃ k : Nat, n = (k : Int) := ⟨n.toNat, by omega⟩
    have hf : firstN (k : Int) xs = xs.take k := by unfold firstN; rw [if_neg (by omega)]; simp
    rw [hf]
    have k0 : (0 : Int) ≤ (k : Int) := by omega
    have k1 : (k : Int) ≤ (cap : Int) := by omega
    have k2 : k ≤ cap := by omega
    have ht := HS.out.take k (by omega)
    have HT := Lib.hid ht
    clear ht hf
    go_enter Try.func93, Try.ntmps93
    go_wp2
    go_ret
    exact ⟨_, rfl, HT.out, Chg.refl _ _⟩

theorem firstN_len {α : Type} (n : Int) (l : List α) : (firstN n l).length ≤ l.length := by
  unfold firstN
  split
  · exact Nat.le_refl _
  · simp; omega

end Go.Proofs.Ytjggkpmlffhjgaa
