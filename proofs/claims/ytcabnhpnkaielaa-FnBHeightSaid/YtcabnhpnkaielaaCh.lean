/- Height of a tree of interfaces. -/
import Derived.Test.YtcabnhpnkaielaaHp
import Derived.Test.YtcabnhpnkaielaaCg
import Derived.WalkLawsBesides
namespace Go.Proofs.Ytcabnhpnkaielaa
set_option linter.unusedSimpArgs false
set_option linter.unusedVariables false
open Go.RowKit

def HgtPost (b m : Nat) (w : World) (e : Ending) (w' : World) : Prop := ∃ q : Nat, e = .returned (.int .i64 q) ∧ HgtOk b q m ∧ Chg (fun _ _ => False) w w'

set_option maxRecDepth 100000 in
theorem Height_any {ord : List Int} {k : Kc ord} {mn mx : Nat} {w : World} {F : Nat → Prop} {t : Nat} {l : List (It ord)} (hM : MapIn k mn mx w F t l) (hmn : 1 ≤ mn) (hlen : l.length ≤ 2147483647) :
    Calls Try.prog 72 #[.pointer (some ⟨t, 0, none⟩)] w (HgtPost (mx + 1) l.length w) := by
  rcases hM with ⟨rfl, _, hB⟩ | ⟨H, h, T, hI, hB, rfl, h1⟩
  · have c2 : w.cell? ⟨t, 2, none⟩ = some (.pointer none) := hB.c2
    go_enter Try.func72, Try.ntmps72
    go_wp2_with fail
    refine (lock_any t false _).mono ?_
    rintro e w' ⟨rfl, rfl⟩
    go_wp2
    go_ret
    exact ⟨0, rfl, ⟨by simp, by omega, by simp, by simp⟩, Chg.refl _ _⟩
  · have c2 : w.cell? ⟨t, 2, none⟩ = some (.pointer (some ⟨rid T, 0, none⟩)) := hB.c2
    have hok := hgt_ok hmn hI.sh h1 hlen
    have hq : h ≤ 63 := by have := hok.2.1; omega
    have HOK := Lib.hid hok
    clear hok
    go_enter Try.func72, Try.ntmps72
    go_wp2_with fail
    refine (lock_any t false _).mono ?_
    rintro e w' ⟨rfl, rfl⟩
    go_wp2
    go_loopw [3, 4] (fun hv nv wr => ∃ h', ∃ T' : BT (It ord) h', ∃ q : Nat, hv = .int .i64 q ∧ q + h' = h ∧ nv = .pointer (some ⟨rid T', 0, none⟩) ∧ IsT H h' T' ∧ Sh mn mx h' T' ∧ 1 ≤ (its T').length ∧ Chg (fun _ _ => False) w wr) (fun _ nv _ => mOf H nv)
    case atStart => exact ⟨h, T, 0, rfl, by omega, rfl, hI.isT, hI.sh, h1, Chg.refl _ _⟩
    case round =>
      obtain ⟨h', T', q, rfl, hqh, rfl, hT, hs, hit, hc⟩ := hrel
      obtain ⟨l2, hn2⟩ := (hI.fam.chg hc (fun _ _ _ h => h)).node hT.root
      have q0 : (0 : Int) ≤ (q : Int) := by omega
      have q1 : (q : Int) ≤ 63 := by omega
      rcases h' with _ | h'
      · have n3 := hn2.c3n rfl
        go_wp2_with (go_at_call 93; refine (leaf_any _ none _ ?_).mono ?_; (focus go_simp); rintro e w' ⟨rfl, rfl⟩)
        go_ret
        obtain rfl : q = h := by omega
        exact ⟨q + 1, by go_num, HOK.out, hc⟩
      · obtain ⟨c, hc0, g1, g2, g3, g4⟩ := first_kid hs hit hmn
        have hcm : c ∈ T'.2.2 := List.mem_of_getElem? hc0
        have hk : (recOf (h' + 1) T').kids = some (T'.2.2.map fun c => some (rid c)) := rfl
        have n3 := hn2.c3s hk
        have nc := hn2.cc hk
        have k0 := hn2.kidc hk (j := 0) (o := some (rid c)) (by simp [hc0])
        have k0' : wr.cell? ⟨l2.cb, l2.co, none⟩ = some (.pointer (some ⟨rid c, 0, none⟩)) := k0
        rw [List.length_map] at nc
        have i1 : (0 : Int) < (T'.2.2.length : Int) := by have := (List.getElem?_eq_some_iff.1 hc0).1; omega
        have m1 := mOf_root hT
        have m2 := mOf_root (hT.kid hcm)
        clear k0
        go_wp2_with (go_at_call 93; refine (leaf_any _ (some ⟨l2.cc, 0, none⟩) _ ?_).mono ?_; (focus go_simp); rintro e w' ⟨rfl, rfl⟩)
        go_roundw
        case rel => exact ⟨h', c, q + 1, by go_num, by omega, rfl, hT.kid hcm, g2, g1, hc⟩
        case measure => rw [m1, m2]; exact g4

theorem HHeight_any {ord : List Int} {k : Kc ord} {mn mx : Nat} {w : World} {F : Nat → Prop} {hp t : Nat} {l : List (It ord)} (hh : HeapAt k w hp t) (hM : MapIn k mn mx w F t l) (hmn : 1 ≤ mn) (hlen : l.length ≤ 2147483647) :
    Calls Try.prog 47 #[.pointer (some ⟨hp, 0, none⟩)] w (HgtPost (mx + 1) l.length w) := by
  have HC := Lib.hid (Height_any hM hmn hlen)
  have c0 := cell_of_block hh 0
  simp only [List.getElem?_toArray, List.getElem?_cons_zero] at c0
  clear hM hh
  go_enter Try.func47, Try.ntmps47
  go_wp2_with fail
  refine HC.out.mono ?_
  rintro e w2 ⟨q, rfl, h1, h2⟩
  have H1 := Lib.hid h1
  clear h1 HC
  go_wp2_with fail
  go_ret
  exact ⟨q, rfl, H1.out, h2⟩

theorem BHeight_any {ord : List Int} (sv : Value) (d : Int) (nl : Bool) (p : Option Addr) (cap : Nat) (l : List (It ord)) (w : World) (hs : SlE intE w sv ord) (hol : ord.length ≤ 2147483647) (hd : FitD d) (hl : ItemsAt w p l) (hlen : l.length ≤ 2147483647) :
    Calls Try.prog 27 #[.agg #[sv, .int .i64 d, .bool nl], .slice p l.length cap] w (HgtPost (2 * dg d) (growL l).length w) := by
  have HG := Lib.hid (fun w1 (c : Chg (fun _ _ => False) w w1) => grow_any (ord := ord) sv d nl p cap l w1 hd (hs.chg c) hol (hl.chg c) hlen)
  have hdim := hd.dims
  have hgl := growL_take_len l l.length
  rw [List.take_length] at hgl
  have HGL := Lib.hid hgl
  unfold GrowPost at HG
  obtain ⟨sa, sc, rfl⟩ : ∃ a c, sv = .slice a ord.length c := hs.form
  clear hs hl hgl
  go_enter Try.func27, Try.ntmps27
  go_wp2_with fail
  refine (HG.out _ ((Chg.refl _ _).alloc _)).mono ?_
  rintro e w2 ⟨k, hp, t, F, rfl, hH, hM, hc2, _⟩
  have hc02 := ((Chg.refl (fun _ _ => False) w).alloc (.cells #[.slice sa ord.length sc, .int .i64 d, .bool nl] 24)).trans hc2
  go_wp2_with fail
  refine (HHeight_any hH hM hdim.1 (by have := HGL.out; omega)).mono ?_
  rintro e w3 ⟨q, rfl, hok, hc3⟩
  have e2 : mxD d + 1 = 2 * dg d := by
    have h0 := hdim.2.1
    unfold mxD at h0 ⊢; omega
  rw [e2] at hok
  have HOK := Lib.hid hok
  clear hok hH hM
  go_wp2_with fail
  go_ret
  exact ⟨q, rfl, HOK.out, hc02.trans hc3⟩
end Go.Proofs.Ytcabnhpnkaielaa
