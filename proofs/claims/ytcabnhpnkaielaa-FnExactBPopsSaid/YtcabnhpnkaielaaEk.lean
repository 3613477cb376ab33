/- DeleteHint of trees of interfaces. -/
import Derived.Test.YtcabnhpnkaielaaA11
import Derived.Test.YtcabnhpnkaielaaD1
import Derived.Test.YtcabnhpnkaielaaD5
namespace Go.Proofs.Ytcabnhpnkaielaa
set_option linter.unusedSimpArgs false
set_option linter.unusedVariables false
open Go.RowKit

variable {ord : List Int}

theorem deleteHint_any {k : Kc ord} {mn mx : Nat} {w : World} {F : Nat → Prop} {t : Nat} {l : List (It ord)} {hv : Option Nat} (x : It ord) (hM : MapIn k mn mx w F t l) (hmn : 1 ≤ mn) (hh : HintO hv w) (hvF : ∀ b, hv = some b → ¬ F b) (hvt : ∀ b, hv = some b → ¬ MOwn k t b) (hl : l.length ≤ 1000000000000) :
    Calls Try.prog 117 #[.pointer (some ⟨t, 0, none⟩), aggM x, hintV hv] w (DelAns k mn mx hv w F t l x) := by
  rcases hM with ⟨rfl, hF, hB⟩ | ⟨H, h, T, hI, hB, rfl, h1⟩
  · exact deleteHint_empty x hB hF hh
  · exact deleteHint_tree x hI hB h1 hmn hh hvF hvt hl

theorem DeleteHint_any {k : Kc ord} {mn mx : Nat} {w : World} {F : Nat → Prop} {t : Nat} {l : List (It ord)} {hv : Option Nat} (x : It ord) (hM : MapIn k mn mx w F t l) (hmn : 1 ≤ mn) (hh : HintO hv w) (hvF : ∀ b, hv = some b → ¬ F b) (hvt : ∀ b, hv = some b → ¬ MOwn k t b) (hl : l.length ≤ 1000000000000) :
    Calls Try.prog 98 #[.pointer (some ⟨t, 0, none⟩), aggM x, hintV hv] w (DelAns k mn mx hv w F t l x) := by
  have HC := Lib.hid (deleteHint_any x hM hmn hh hvF hvt hl)
  clear hM hh
  unfold aggM hintV at HC ⊢
  go_enter Try.func98, Try.ntmps98
  go_wp2_with fail
  refine (lock_any t true _).mono ?_
  rintro e w' ⟨rfl, rfl⟩
  go_wp2_with fail
  refine HC.out.mono ?_
  rintro e w2 ⟨hret, hrest⟩
  have HR := Lib.hid hrest
  have hret2 := hret
  clear hrest
  rcases hret2 with ⟨y, _, rfl⟩ | ⟨_, rfl⟩
  all_goals
    go_wp2_with fail
    go_ret2
    exact ⟨hret, HR.out⟩

def HDelAns (k : Kc ord) (mn mx : Nat) (hv : Option Nat) (w : World) (F : Nat → Prop) (t : Nat) (l : List (It ord)) (x : It ord) (e : Ending) (w' : World) : Prop :=
  e = .returned (optV (fndL ltM x l)) ∧ ∃ F', MapIn k mn mx w' F' t (delL ltM x l) ∧ Chg (fun b _ => (F b ∨ b = t) ∨ hv = some b) w w' ∧ (∀ b, F' b → F b ∨ w.heap.size ≤ b) ∧ HintO hv w'

theorem HDeleteHint_any {k : Kc ord} {mn mx : Nat} {w : World} {F : Nat → Prop} {hp t : Nat} {l : List (It ord)} {hv : Option Nat} (x : It ord) (hH : HeapAt k w hp t) (hM : MapIn k mn mx w F t l) (hmn : 1 ≤ mn) (hh : HintO hv w) (hvF : ∀ b, hv = some b → ¬ F b) (hvt : ∀ b, hv = some b → ¬ MOwn k t b) (hl : l.length ≤ 1000000000000) :
    Calls Try.prog 75 #[.pointer (some ⟨hp, 0, none⟩), aggM x, hintV hv] w (HDelAns k mn mx hv w F t l x) := by
  have HC := Lib.hid (DeleteHint_any x hM hmn hh hvF hvt hl)
  have c0 := cell_of_block hH 0
  simp only [List.getElem?_toArray, List.getElem?_cons_zero] at c0
  clear hM hh hH
  unfold aggM hintV at HC ⊢
  go_enter Try.func75, Try.ntmps75
  go_wp2_with fail
  refine HC.out.mono ?_
  rintro e w2 ⟨hret, hrest⟩
  have HR := Lib.hid hrest
  clear hrest
  rcases hret with ⟨y, hy, rfl⟩ | ⟨hy, rfl⟩
  all_goals
    have HY := Lib.hid hy
    clear hy
    go_wp2_with fail
    go_ret
    exact ⟨by rw [HY.out]; rfl, HR.out⟩
end Go.Proofs.Ytcabnhpnkaielaa
