/- BAscend and BAscendHint: what the thin package makes of Ascend. -/
import Derived.Test.YtcabnhpnkaielaaAh
import Derived.Test.YtcabnhpnkaielaaCn
namespace Go.Proofs.Ytcabnhpnkaielaa
set_option linter.unusedSimpArgs false
set_option linter.unusedVariables false
open Go.RowKit

def OwnPostI (xs : List (Int × Int)) (w : World) (e : Ending) (w' : World) : Prop := ∃ v, e = .returned v ∧ OwnE itemE w' v xs w.heap.size ∧ Chg (fun _ _ => False) w w'

/-- What is handed on from a pivot, or from the first item on. -/
def partL {ord : List Int} (all : Bool) (x : It ord) (l : List (It ord)) : List (It ord) := if all then l else upp ltM x l

theorem HAscendAll_any {ord : List Int} {k0 : Kc ord} {mn mx : Nat} {w : World} {F : Nat → Prop} {hp t : Nat} {l : List (It ord)} (all : Bool) (key : It ord) {n : Int} {ob b2 b3 rb : Nat} (hh : HeapAt k0 w hp t) (hM : MapIn k0 mn mx w F t l) (hmn : 1 ≤ mn) (hK : Kept n ob b2 b3 rb w []) (hFb : ∀ b, F b → ¬ HT none ob rb b) (htb : ∀ b, MOwn k0 t b → ¬ HT none ob rb b) (hlen : l.length ≤ 1000000000000) :
    Calls Try.prog 61 #[.pointer (some ⟨hp, 0, none⟩), pivV all key, fnG b2 b3] w (RunEndH none n ob b2 b3 rb [] (partL all key l) w) := by
  cases all
  · exact HAscend_any key hh hM hmn hK (HintO.none _) (fun b e => by cases e) hFb htb (by simpa using hlen)
  · refine (AscendNil_any hh hM hK (fun b hb h => hFb b hb (.inl h)) (fun h => htb t MOwn.self (.inl h)) hlen).mono ?_
    rintro e w' ⟨rfl, h1, h2⟩
    exact ⟨rfl, h1, HintO.none _, h2.mono (fun _ _ _ h => .inl h)⟩

theorem HAscendHintAll_any {ord : List Int} {k0 : Kc ord} {mn mx : Nat} {w : World} {F : Nat → Prop} {hp t : Nat} {l : List (It ord)} (all : Bool) (key : It ord) (hv : Option Nat) {n : Int} {ob b2 b3 rb : Nat} (hh : HeapAt k0 w hp t) (hM : MapIn k0 mn mx w F t l) (hmn : 1 ≤ mn) (hK : Kept n ob b2 b3 rb w []) (hH : HintO hv w) (hHK : HintK hv ob b2 b3 rb) (hFb : ∀ b, F b → ¬ HT hv ob rb b) (htb : ∀ b, MOwn k0 t b → ¬ HT hv ob rb b) (hlen : l.length ≤ 1000000000000) :
    Calls Try.prog 66 #[.pointer (some ⟨hp, 0, none⟩), pivV all key, fnG b2 b3, hintV hv] w (RunEndH hv n ob b2 b3 rb [] (partL all key l) w) := by
  cases all
  · exact HAscendHint_any key hv hh hM hmn hK hH hHK hFb htb (by simpa using hlen)
  · refine (HAscendHintNil_any hv hh hM hK (fun b hb h => hFb b hb (.inl h)) (fun h => htb t MOwn.self (.inl h)) hlen).mono ?_
    rintro e w' ⟨rfl, h1, h2⟩
    exact ⟨rfl, h1, hH.chg h2 (fun b _ hb => hHK.take hb), h2.mono (fun _ _ _ h => .inl h)⟩

theorem partL_len {ord : List Int} (all : Bool) (x : It ord) (l : List (It ord)) : (partL all x l).length ≤ l.length := by
  cases all
  · exact upp_len _ _ _
  · exact Nat.le_refl _

theorem pivV_plain {ord : List Int} (all : Bool) (x : It ord) : ∃ v, pivV all x = v := ⟨_, rfl⟩
end Go.Proofs.Ytcabnhpnkaielaa
