/- from; spec: First, GScan. -/
import Derived.Test.YtcabnhpnkaielaaCd
namespace Go.Proofs.Ytcabnhpnkaielaa
set_option linter.unusedSimpArgs false
set_option linter.unusedVariables false
open Go.RowKit

theorem SlE.take {α : Type} {p : El α} {w : World} {a : Option Addr} {cap : Nat} {xs : List α} (h : SlE p w (.slice a xs.length cap) xs) (k : Nat) (hk : k ≤ xs.length) : SlE p w (.slice a k cap) (xs.take k) := by
  obtain ⟨a', cap', h1, h2, h3⟩ := h
  injection h1 with e1 e2 e3
  subst e1 e3
  have hl : (xs.take k).length = k := by simp; omega
  refine ⟨a, cap, by rw [hl], by omega, ?_⟩
  rcases h3 with rfl | ⟨b, o, rfl, hc⟩
  · exact .inl (by simp)
  · refine .inr ⟨b, o, rfl, fun j u hj => hc j u ?_⟩
    have e : flat p.par (xs.take k) = (flat p.par xs).take (k * p.par.es) := (flat_take p.par xs k).symm
    rw [e] at hj
    have hjl : j < k * p.par.es := by
      have := (List.getElem?_eq_some_iff.1 hj).1
      simp at this; omega
    rw [List.getElem?_take_of_lt hjl] at hj
    exact hj

theorem First_any (v : Value) (xs : List (Int × Int)) (n : Int) (w : World) (h : SlE itemE w v xs) (hlen : xs.length ≤ 2147483648) :
    Calls Try.prog 64 #[v, .int .i64 n] w fun e w' => ∃ v', e = .returned v' ∧ SlE itemE w' v' (firstN n xs) ∧ Chg (fun _ _ => False) w w' := by
  obtain ⟨a, cap, rfl⟩ := h.form
  obtain ⟨_, _, _, hcap0, _⟩ := id h
  have hcap : xs.length ≤ cap := by
    obtain ⟨a', cap', e, h2, _⟩ := id h
    injection e with e1 e2 e3
    omega
  have HS := Lib.hid h
  clear h
  by_cases h1 : n < 1
  · have hf : firstN n xs = xs := by unfold firstN; rw [if_pos (.inl h1)]
    rw [hf]
    go_enter Try.func64, Try.ntmps64
    go_wp2
    go_ret
    exact ⟨_, rfl, HS.out, Chg.refl _ _⟩
  by_cases h2 : (xs.length : Int) < n
  · have hf : firstN n xs = xs := by unfold firstN; rw [if_pos (.inr h2)]
    rw [hf]
    go_enter Try.func64, Try.ntmps64
    go_wp2
    go_ret
    exact ⟨_, rfl, HS.out, Chg.refl _ _⟩
  · obtain ⟨k, rfl⟩ : ∃ k : Nat, n = (k : Int) := ⟨n.toNat, by omega⟩
    have hf : firstN (k : Int) xs = xs.take k := by unfold firstN; rw [if_neg (by omega)]; simp
    rw [hf]
    have k0 : (0 : Int) ≤ (k : Int) := by omega
    have k1 : (k : Int) ≤ (cap : Int) := by omega
    have k2 : k ≤ cap := by omega
    have ht := HS.out.take k (by omega)
    have HT := Lib.hid ht
    clear ht hf
    go_enter Try.func64, Try.ntmps64
    go_wp2
    go_ret
    exact ⟨_, rfl, HT.out, Chg.refl _ _⟩

theorem firstN_len {α : Type} (n : Int) (l : List α) : (firstN n l).length ≤ l.length := by
  unfold firstN
  split
  · exact Nat.le_refl _
  · simp; omega

/-- The pivot that a call hands on: nil for all. -/
def pivV {ord : List Int} (all : Bool) (x : It ord) : Value := if all then .nilIface else aggM x

theorem from_any {ord : List Int} (all : Bool) (x : It ord) (w : World) :
    Calls Try.prog 62 #[.bool all, .agg #[.int .i64 x.1, .int .i64 x.2]] w fun e w' => e = .returned (pivV all x) ∧ Chg (fun _ _ => False) w w' := by
  cases all
  all_goals
    go_enter Try.func62, Try.ntmps62
    go_wp2
    go_ret
    exact ⟨rfl, (Chg.refl _ _).alloc _⟩

set_option maxRecDepth 100000 in
theorem specGScan_any {ord : List Int} (sv : Value) (d : Int) (nl : Bool) (p : Option Addr) (cap : Nat) (l : List (Int × Int)) (n : Int) (w : World) (hs : SlE intE w sv ord) (hol : ord.length ≤ 2147483647) (hl : ItemsAt w p l) (hlen : l.length ≤ 2147483647) :
    Calls Try.prog 41 #[.agg #[sv, .int .i64 d, .bool nl], .slice p l.length cap, .int .i64 n] w fun e w' => ∃ v', e = .returned v' ∧ SlE itemE w' v' (firstN n (treeL (ltR (rkL ord)) l)) ∧ Chg (fun _ _ => False) w w' := by
  have HT := Lib.hid (fun w1 (c : Chg (fun _ _ => False) w w1) => tree_any sv (rkL ord) p cap l w1 (rank_list sv ord w1 (hs.chg c) hol) (hl.chg c) hlen)
  have hlen2 := treeL_len (ltR (rkL ord)) l
  obtain ⟨sa, sc, rfl⟩ : ∃ a c, sv = .slice a ord.length c := hs.form
  clear hl hs
  go_enter Try.func41, Try.ntmps41
  go_wp2_with fail
  have hc1 : Chg (fun _ _ => False) w (w.alloc (.cells #[.slice sa ord.length sc, .int .i64 d, .bool nl] 24)) := (Chg.refl _ _).alloc _
  refine (HT.out _ hc1).mono ?_
  rintro e w2 ⟨v2, rfl, hv2, hc2⟩
  obtain ⟨q, cap2, rfl, hi, hcap⟩ := hv2.items
  go_wp2_with fail
  refine (First_any _ _ n _ (hi.sl hcap) (by omega)).mono ?_
  rintro e w4 ⟨v4, rfl, hs4, hc4⟩
  go_wp2_with fail
  go_ret
  exact ⟨v4, rfl, hs4, (hc1.trans hc2).trans hc4⟩
end Go.Proofs.Ytcabnhpnkaielaa
