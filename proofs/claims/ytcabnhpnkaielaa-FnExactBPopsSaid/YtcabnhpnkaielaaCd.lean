/- Scan of a tree of interfaces; Ascend from nil; all its items. -/
import Derived.Test.YtcabnhpnkaielaaSg
import Derived.Test.YtcabnhpnkaielaaCb
namespace Go.Proofs.Ytcabnhpnkaielaa
set_option linter.unusedSimpArgs false
set_option linter.unusedVariables false
open Go.RowKit

def ScanPost (n : Int) (ob b2 b3 rb : Nat) {ord : List Int} (l : List (It ord)) (w : World) (e : Ending) (w' : World) : Prop :=
  e = .returned (.tuple #[]) ∧ Kept n ob b2 b3 rb w' (runL (contN n) [] l).1 ∧ Chg (fun b _ => TakeB ob rb b) w w'

set_option maxRecDepth 100000 in
theorem scan_any {ord : List Int} {k : Kc ord} {mn mx : Nat} {w : World} {F : Nat → Prop} {t : Nat} {l : List (It ord)} {n : Int} {ob b2 b3 rb : Nat} (mt : Bool) (hM : MapIn k mn mx w F t l) (hK : Kept n ob b2 b3 rb w []) (hFb : ∀ b, F b → ¬ TakeB ob rb b) (htb : ¬ TakeB ob rb t) (hlen : l.length ≤ 1000000000000) :
    Calls Try.prog 104 #[.pointer (some ⟨t, 0, none⟩), fnG b2 b3, .bool mt] w (ScanPost n ob b2 b3 rb l w) := by
  rcases hM with ⟨rfl, _, hB⟩ | ⟨H, h, T, hI, hB, rfl, h1⟩
  · have c2 : w.cell? ⟨t, 2, none⟩ = some (.pointer none) := hB.c2
    have HK := Lib.hid hK
    clear hB hK
    unfold fnG
    go_enter Try.func104, Try.ntmps104
    go_wp2_with fail
    refine (lock_any t mt _).mono ?_
    rintro e w' ⟨rfl, rfl⟩
    go_wp2_with fail
    refine bodyPost_ret (v := .tuple #[]) (by simp [results, Try.results104, go_sem]) rfl ?_
    exact ⟨rfl, HK.out, Chg.refl _ _⟩
  · have c2 : w.cell? ⟨t, 2, none⟩ = some (.pointer (some ⟨rid T, 0, none⟩)) := hB.c2
    have hsc := scan_all ord h k mn mx w F H T t ⟨t, 2, none⟩ mt n ob b2 b3 rb [] hI.fam hI.isT hI.sh hB.c2 hB.at_.c0 hK hFb htb (by simpa using hlen)
    unfold RunPost at hsc
    obtain ⟨q, hq⟩ : ∃ q, (runL (contN n) [] (toL h T)).2 = q := ⟨_, rfl⟩
    rw [hq] at hsc
    have HSC := Lib.hid hsc
    clear hsc hB hK hI hq
    unfold fnG at HSC ⊢
    go_enter Try.func104, Try.ntmps104
    go_wp2_with fail
    refine (lock_any t mt _).mono ?_
    rintro e w' ⟨rfl, rfl⟩
    go_wp2_with fail
    refine HSC.out.mono ?_
    rintro e w2 ⟨rfl, hk, hc⟩
    have HKK := Lib.hid hk
    clear hk HSC
    go_wp2_with fail
    refine bodyPost_ret (v := .tuple #[]) (by simp [results, Try.results104, go_sem]) rfl ?_
    exact ⟨rfl, HKK.out, hc⟩

theorem Scan_any {ord : List Int} {k : Kc ord} {mn mx : Nat} {w : World} {F : Nat → Prop} {t : Nat} {l : List (It ord)} {n : Int} {ob b2 b3 rb : Nat} (hM : MapIn k mn mx w F t l) (hK : Kept n ob b2 b3 rb w []) (hFb : ∀ b, F b → ¬ TakeB ob rb b) (htb : ¬ TakeB ob rb t) (hlen : l.length ≤ 1000000000000) :
    Calls Try.prog 82 #[.pointer (some ⟨t, 0, none⟩), fnG b2 b3] w (ScanPost n ob b2 b3 rb l w) := by
  have HC := Lib.hid (scan_any false hM hK hFb htb hlen)
  clear hM hK
  unfold fnG at HC ⊢
  go_enter Try.func82, Try.ntmps82
  go_wp2_with fail
  refine HC.out.mono ?_
  rintro e w2 ⟨rfl, h2⟩
  have H2 := Lib.hid h2
  clear h2 HC
  go_wp2_with fail
  refine bodyPost_ret (v := .tuple #[]) (by simp [results, Try.results82, go_sem]) rfl ?_
  exact ⟨rfl, H2.out⟩

theorem AscendNil_any {ord : List Int} {k : Kc ord} {mn mx : Nat} {w : World} {F : Nat → Prop} {hp t : Nat} {l : List (It ord)} {n : Int} {ob b2 b3 rb : Nat} (hh : HeapAt k w hp t) (hM : MapIn k mn mx w F t l) (hK : Kept n ob b2 b3 rb w []) (hFb : ∀ b, F b → ¬ TakeB ob rb b) (htb : ¬ TakeB ob rb t) (hlen : l.length ≤ 1000000000000) :
    Calls Try.prog 61 #[.pointer (some ⟨hp, 0, none⟩), .nilIface, fnG b2 b3] w (ScanPost n ob b2 b3 rb l w) := by
  have HC := Lib.hid (Scan_any hM hK hFb htb hlen)
  have c0 := cell_of_block hh 0
  simp only [List.getElem?_toArray, List.getElem?_cons_zero] at c0
  clear hM hK hh
  unfold fnG at HC ⊢
  go_enter Try.func61, Try.ntmps61
  go_wp2_with fail
  refine HC.out.mono ?_
  rintro e w2 ⟨rfl, h2⟩
  have H2 := Lib.hid h2
  clear h2 HC
  go_wp2_with fail
  refine bodyPost_ret (v := .tuple #[]) (by simp [results, Try.results61, go_sem]) rfl ?_
  exact ⟨rfl, H2.out⟩

def AllPost {ord : List Int} (l : List (It ord)) (w : World) (e : Ending) (w' : World) : Prop := ∃ v, e = .returned v ∧ OwnE itemE w' v l w.heap.size ∧ Chg (fun _ _ => False) w w'

theorem runL_all {α : Type} (l : List α) : (runL (contN 0) [] l).1 = l := by
  rw [runL_first]
  unfold firstN
  rw [if_pos (.inl (by omega))]

set_option maxRecDepth 100000 in
theorem allOf_any {ord : List Int} {k : Kc ord} {mn mx : Nat} {w : World} {F : Nat → Prop} {hp t : Nat} {l : List (It ord)} (hh : HeapAt k w hp t) (hM : MapIn k mn mx w F t l) (hlen : l.length ≤ 1000000000000) :
    Calls Try.prog 68 #[.pointer (some ⟨hp, 0, none⟩)] w (AllPost l w) := by
  have htl := hM.own MOwn.self
  have hfl := fun b (hb : F b) => hM.famLt hb
  have HM := Lib.hid hM
  have HH := Lib.hid hh
  clear hM hh
  go_enter Try.func68, Try.ntmps68
  go_wp2_with fail
  refine name_calls (fun w1 => Chg (fun _ _ => False) w w1 ∧ w1.heap[w.heap.size]? = some (.cells #[.slice none 0 0] 31 (0, 0))) ⟨(Chg.refl _ _).alloc _, ha_at _ _ rfl⟩ ?_
  rintro w1 ⟨hc1, hb1⟩
  refine (takerAny_any w.heap.size 0 w1 hb1).mono ?_
  rintro e w2 ⟨rfl, hK, hc2⟩
  have hc02 := hc1.trans hc2
  have hsz1 := hc1.size
  have hsz2 := hc2.size
  have hasc := AscendNil_any (HH.out.chg hc02) (HM.out.chg hc02) hK (fun b hb h => by
    have := hfl b hb
    rcases h with h | h <;> omega) (fun h => by rcases h with h | h <;> omega) hlen
  unfold ScanPost at hasc
  unfold fnG at hasc ⊢
  have HA := Lib.hid hasc
  clear hasc hK hb1
  go_wp2_with fail
  refine HA.out.mono ?_
  rintro e w3 ⟨rfl, hk3, hc3⟩
  rw [runL_all] at hk3
  obtain ⟨v, g1, g2⟩ := hk3.i.o
  have c0 := cell_of_block g1 0
  simp only [List.getElem?_toArray, List.getElem?_cons_zero] at c0
  have hv : ∃ a n c, v = .slice a n c := by
    obtain ⟨a, c, e, _⟩ := g2.sl
    exact ⟨_, _, _, e⟩
  have hc03 : Chg (fun _ _ => False) w w3 := hc02.trans' hc3 (fun _ _ _ h => h) (fun b o hb h => by rcases h with h | h <;> omega)
  have FIN := Lib.hid (show AllPost l w (.returned v) w3 from ⟨v, rfl, g2.mono (by omega), hc03⟩)
  obtain ⟨a, m, c, rfl⟩ := hv
  clear g1 g2 hk3 HA HM HH
  go_wp2_with fail
  go_ret
  exact FIN.out
end Go.Proofs.Ytcabnhpnkaielaa
