/- Numbers, items and found items as elements; slices.Equal of equal lists. -/
import Derived.Test.YtojplcbkiogcpaaOwn
import Derived.Test.YtojplcbkiogcpaaSe
import Derived.BigQuiet
namespace Go.Proofs.Ytojplcbkiogcpaa
set_option linter.unusedSimpArgs false
set_option linter.unusedVariables false
open Go.RowKit

def intE : El Int where
  es := 1
  enc := fun x => [.int .i64 x]
  T := 3
  epos := by omega
  elen := fun _ => rfl
  eone := by intro x v hv; simp at hv; subst hv; rfl

def itemE : El (Int × Int) where
  es := 2
  enc := fun x => [.int .i64 x.1, .int .i64 x.2]
  T := 26
  epos := by omega
  elen := fun _ => rfl
  eone := by intro x v hv; simp at hv; rcases hv with rfl | rfl <;> rfl

def foundL (o : Option (Int × Int)) : List Value := match o with
  | some x => [.int .i64 x.1, .int .i64 x.2, .bool true]
  | none => [.int .i64 0, .int .i64 0, .bool false]

def foundE : El (Option (Int × Int)) where
  es := 3
  enc := foundL
  T := 38
  epos := by omega
  elen := by intro x; cases x <;> rfl
  eone := by intro x v hv; cases x <;> simp [foundL] at hv <;> rcases hv with rfl | rfl | rfl <;> rfl

theorem infoInt : (Try.prog.info? 3).map (fun i => (i.zero, i.size, i.bytes)) = some (some (.int .i64 0), 1, 8) := by kernel_rfl
theorem infoFound : (Try.prog.info? 38).map (fun i => (i.zero, i.size, i.bytes)) = some (some (.agg #[.int .i64 0, .int .i64 0, .bool false]), 3, 24) := by kernel_rfl

theorem SlE.int {w : World} {a : Option Addr} {n cap : Nat} {xs : List Int} (h : SlE intE w (.slice a n cap) xs) {j : Nat} {x : Int} (hj : xs[j]? = some x) : ∃ b o, a = some ⟨b, o, none⟩ ∧ w.cell? ⟨b, o + j, none⟩ = some (.int .i64 x) := by
  obtain ⟨b, o, h1, h2⟩ := h.cell hj
  exact ⟨b, o, h1, by have := h2 0 _ rfl; simpa [intE] using this⟩

theorem SlE.item {w : World} {a : Option Addr} {n cap : Nat} {xs : List (Int × Int)} (h : SlE itemE w (.slice a n cap) xs) {j : Nat} {x : Int × Int} (hj : xs[j]? = some x) : ∃ b o, a = some ⟨b, o, none⟩ ∧ w.cell? ⟨b, o + j * 2, none⟩ = some (.int .i64 x.1) ∧ w.cell? ⟨b, o + j * 2 + 1, none⟩ = some (.int .i64 x.2) := by
  obtain ⟨b, o, h1, h2⟩ := h.cell hj
  exact ⟨b, o, h1, by have := h2 0 _ rfl; simpa [itemE] using this, by have := h2 1 _ rfl; rw [Nat.add_assoc]; simpa [itemE] using this⟩

theorem SlE.found {w : World} {a : Option Addr} {n cap : Nat} {xs : List (Option (Int × Int))} (h : SlE foundE w (.slice a n cap) xs) {j : Nat} {x : Option (Int × Int)} (hj : xs[j]? = some x) : ∃ b o k v q, a = some ⟨b, o, none⟩ ∧ w.cell? ⟨b, o + j * 3, none⟩ = some (.int .i64 k) ∧ w.cell? ⟨b, o + j * 3 + 1, none⟩ = some (.int .i64 v) ∧ w.cell? ⟨b, o + j * 3 + 2, none⟩ = some (.bool q) ∧ foundL x = [.int .i64 k, .int .i64 v, .bool q] := by
  obtain ⟨b, o, h1, h2⟩ := h.cell hj
  cases x with
  | none => exact ⟨b, o, 0, 0, false, h1, by have := h2 0 _ rfl; simpa [foundE] using this, by have := h2 1 _ rfl; rw [Nat.add_assoc]; simpa [foundE] using this, by have := h2 2 _ rfl; rw [Nat.add_assoc]; simpa [foundE] using this, rfl⟩
  | some y => exact ⟨b, o, y.1, y.2, true, h1, by have := h2 0 _ rfl; simpa [foundE] using this, by have := h2 1 _ rfl; rw [Nat.add_assoc]; simpa [foundE] using this, by have := h2 2 _ rfl; rw [Nat.add_assoc]; simpa [foundE] using this, rfl⟩

/-- A slice of items, in the elder words. -/
theorem SlE.itemsAt {w : World} {v : Value} {xs : List (Int × Int)} (h : SlE itemE w v xs) : ∃ a cap, v = .slice a xs.length cap ∧ ItemsAt w a xs ∧ xs.length ≤ cap := by
  obtain ⟨a, cap, rfl, h2, h3⟩ := id h
  refine ⟨a, cap, rfl, ?_, h2⟩
  rcases h3 with rfl | ⟨b, o, rfl, _⟩
  · exact .inl rfl
  · refine .inr ⟨b, o, rfl, fun i x hx => ?_⟩
    obtain ⟨b', o', e, g0, g1⟩ := h.item hx
    obtain ⟨rfl, rfl⟩ : b = b' ∧ o = o' := by simpa using e
    exact ⟨g0, g1⟩

theorem flatI_flat : ∀ xs : List (Int × Int), flat itemE.par xs = flatI xs
  | [] => rfl
  | x :: xs => by rw [flat_cons]; have := flatI_flat xs; simp only [flatI, List.flatMap_cons] at this ⊢; rw [this]; rfl

theorem ItemsAt.sl {w : World} {a : Option Addr} {cap : Nat} {xs : List (Int × Int)} (h : ItemsAt w a xs) (hc : xs.length ≤ cap) : SlE itemE w (.slice a xs.length cap) xs := by
  refine ⟨a, cap, rfl, hc, h.imp id ?_⟩
  rintro ⟨b, o, rfl, hcell⟩
  refine ⟨b, o, rfl, fun j u hj => ?_⟩
  rw [flatI_flat] at hj
  have := ItemsAt.src (l := xs) hcell 0 xs.length j u (by simpa using hj)
  rw [add_none] at this
  simpa using this

set_option maxRecDepth 100000 in
theorem equal_item (v v' : Value) (xs : List (Int × Int)) (w : World) (h : SlE itemE w v xs) (h' : SlE itemE w v' xs) (hlen : xs.length ≤ 9223372036854775806) :
    Calls Try.prog 37 #[v, v'] w fun e w' => e = .returned (.bool true) ∧ Chg (fun _ _ => False) w w' := by
  obtain ⟨a, cap, rfl⟩ := h.form
  obtain ⟨a', cap', rfl⟩ := h'.form
  have HS := Lib.hid h
  have HS' := Lib.hid h'
  clear h h'
  go_enter Try.func37, Try.ntmps37
  go_wp2
  go_loopw [13] (fun i wr => ∃ (j : Nat), j ≤ xs.length ∧ i = .int .i64 j ∧ Chg (fun _ _ => False) w wr) (fun i _ => xs.length - (intOf i).toNat)
  case atStart => exact ⟨0, Nat.zero_le _, rfl, Chg.refl _ _⟩
  case round =>
    obtain ⟨j, hj, rfl, hc⟩ := hrel
    by_cases hlt : j < xs.length
    · obtain ⟨x, hx⟩ : ∃ x, xs[j]? = some x := ⟨_, List.getElem?_eq_getElem hlt⟩
      obtain ⟨b, o, rfl, g0, g1⟩ := (HS.out.chg hc).item hx
      obtain ⟨b', o', rfl, g0', g1'⟩ := (HS'.out.chg hc).item hx
      skip
      clear hx
      have i0 : (0 : Int) ≤ (j : Int) := by omega
      have i1 : (j : Int) < (xs.length : Int) := by omega
      go_wp2
      go_quiet (fail)
      go_wp2
      go_roundw
      case rel => exact ⟨j + 1, by omega, by go_num, hc.drewN _⟩
      case measure => simp [intOf]; omega
    · obtain rfl : j = xs.length := by omega
      go_wp2
      go_ret
      exact ⟨rfl, hc⟩
set_option maxRecDepth 100000 in
theorem equal_found (v v' : Value) (xs : List (Option (Int × Int))) (w : World) (h : SlE foundE w v xs) (h' : SlE foundE w v' xs) (hlen : xs.length ≤ 9223372036854775806) :
    Calls Try.prog 36 #[v, v'] w fun e w' => e = .returned (.bool true) ∧ Chg (fun _ _ => False) w w' := by
  obtain ⟨a, cap, rfl⟩ := h.form
  obtain ⟨a', cap', rfl⟩ := h'.form
  have HS := Lib.hid h
  have HS' := Lib.hid h'
  clear h h'
  go_enter Try.func36, Try.ntmps36
  go_wp2
  go_loopw [13] (fun i wr => ∃ (j : Nat), j ≤ xs.length ∧ i = .int .i64 j ∧ Chg (fun _ _ => False) w wr) (fun i _ => xs.length - (intOf i).toNat)
  case atStart => exact ⟨0, Nat.zero_le _, rfl, Chg.refl _ _⟩
  case round =>
    obtain ⟨j, hj, rfl, hc⟩ := hrel
    by_cases hlt : j < xs.length
    · obtain ⟨x, hx⟩ : ∃ x, xs[j]? = some x := ⟨_, List.getElem?_eq_getElem hlt⟩
      obtain ⟨b, o, k, u, q, rfl, g0, g1, g2, e1⟩ := (HS.out.chg hc).found hx
      obtain ⟨b', o', k', u', q', rfl, g0', g1', g2', e2⟩ := (HS'.out.chg hc).found hx
      obtain ⟨rfl, rfl, rfl⟩ : k = k' ∧ u = u' ∧ q = q' := by rw [e1] at e2; simpa using e2
      clear hx
      have i0 : (0 : Int) ≤ (j : Int) := by omega
      have i1 : (j : Int) < (xs.length : Int) := by omega
      go_wp2
      go_quiet (fail)
      go_wp2
      go_roundw
      case rel => exact ⟨j + 1, by omega, by go_num, hc.drewN _⟩
      case measure => simp [intOf]; omega
    · obtain rfl : j = xs.length := by omega
      go_wp2
      go_ret
      exact ⟨rfl, hc⟩
end Go.Proofs.Ytojplcbkiogcpaa
