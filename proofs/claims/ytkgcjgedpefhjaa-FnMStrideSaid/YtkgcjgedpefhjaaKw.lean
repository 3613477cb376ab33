/- keyValues, KeyValues(Mut), MKeyValues(Mut); FnExactMKeyValuesMut. -/
import Derived.Test.YtkgcjgedpefhjaaKv
namespace Go.Proofs.Ytkgcjgedpefhjaa
open Go.RowKit

def TwoPost (k1 k2 : List Int) (w : World) (e : Ending) (w' : World) : Prop := ∃ v1 v2, e = .returned (.tuple #[v1, v2]) ∧ TwoOwn w' v1 v2 k1 k2 w.heap.size ∧ Chg (fun _ _ => False) w w'

set_option maxRecDepth 100000 in
theorem keyValues_any {mn mx : Nat} {w : World} {F : Nat → Prop} {t : Nat} {l : List (Int × Int)} (mt : Bool) (hM : MapIn mn mx w F t l) (hF : ∀ b, F b → b < w.heap.size) (hlen : l.length ≤ 1000000000000) :
    Calls Try.prog 75 #[.pointer (some ⟨t, 0, none⟩), .bool mt] w (TwoPost (l.map Prod.fst) (l.map Prod.snd) w) := by
  have htw : t < w.heap.size := by obtain ⟨root, hB⟩ := hM.blk; exact hB.lt
  have hL := Len_any hM
  have hL2 := fun (w1 : World) (c : Chg (fun _ _ => False) w w1) => Len_any (hM.chg c)
  obtain ⟨n, hn⟩ : ∃ n, l.length = n := ⟨_, rfl⟩
  rw [hn] at hL hL2 hlen
  have HN := Lib.hid hn
  have HL2 := Lib.hid hL2
  clear hn hL2
  have hmk := fun w' => made_ints n w' hlen
  have hca : Chg (fun _ _ => False) w (w.alloc (.cells (madeCells #[.int .i64 0] n) 3)) := (Chg.refl _ _).alloc _
  have hca2 : Chg (fun _ _ => False) w ((w.alloc (.cells (madeCells #[.int .i64 0] n) 3)).alloc (.cells (madeCells #[.int .i64 0] n) 3)) := hca.alloc _
  have htwo : TwoOwn ((w.alloc (.cells (madeCells #[.int .i64 0] n) 3)).alloc (.cells (madeCells #[.int .i64 0] n) 3)) (.slice (some ⟨w.heap.size, 0, none⟩) 0 n) (.slice (some ⟨w.heap.size + 1, 0, none⟩) 0 n) [] [] w.heap.size := by
    refine ⟨(own_made n w).keep ((Chg.refl _ _).alloc _), ?_, ?_⟩
    · have := (own_made n (w.alloc (.cells (madeCells #[.int .i64 0] n) 3))).mono (base' := w.heap.size) (by simp)
      simpa using this
    · intro b h1 h2
      simp [Value.ownBlock] at h1 h2
      omega
  have HTWO := Lib.hid htwo
  clear htwo
  rcases hM.chg hca2 with ⟨rfl, _, hB⟩ | ⟨H, h, T, hI, hB, rfl, h1⟩
  · have c2 : ((w.alloc (.cells (madeCells #[.int .i64 0] n) 3)).alloc (.cells (madeCells #[.int .i64 0] n) 3)).cell? ⟨t, 2, none⟩ = some (.pointer none) := hB.c2
    go_enter Try.func75, Try.ntmps75
    go_wp2_with fail
    refine hL.mono ?_
    rintro e w' ⟨rfl, rfl⟩
    go_wp2_with fail
    refine (HL2.out _ hca).mono ?_
    rintro e w' ⟨rfl, rfl⟩
    go_wp2_with fail
    go_ret2
    exact ⟨_, _, rfl, HTWO.out, hca2⟩
  · have c2 : ((w.alloc (.cells (madeCells #[.int .i64 0] n) 3)).alloc (.cells (madeCells #[.int .i64 0] n) 3)).cell? ⟨t, 2, none⟩ = some (.pointer (some ⟨rid T, 0, none⟩)) := hB.c2
    have c0 := hB.at_.c0
    have hk := kv_all h mn mx _ F H T t ⟨t, 2, none⟩ mt _ _ [] [] w.heap.size hI.fam hI.isT hI.sh c2 c0 HTWO.out hca2.size hF htw (by rw [HN.out]; simpa using hlen) (by rw [HN.out]; simpa using hlen)
    have HK := Lib.hid hk
    clear hk
    go_enter Try.func75, Try.ntmps75
    go_wp2_with fail
    refine hL.mono ?_
    rintro e w' ⟨rfl, rfl⟩
    go_wp2_with fail
    refine (HL2.out _ hca).mono ?_
    rintro e w' ⟨rfl, rfl⟩
    go_wp2_with fail
    refine HK.out.mono ?_
    rintro e w2 ⟨u1, u2, rfl, two2, hc2⟩
    go_wp2_with fail
    go_ret2
    exact ⟨u1, u2, rfl, two2, hca2.trans' hc2 (fun _ _ _ h => h) (fun b o hb h => by omega)⟩

theorem MapIn.flt {mn mx : Nat} {w : World} {F : Nat → Prop} {t : Nat} {l : List (Int × Int)} (hM : MapIn mn mx w F t l) : ∀ b, F b → b < w.heap.size := by
  intro b hb
  rcases hM with ⟨_, h, _⟩ | ⟨H, h, T, hI, _⟩
  · exact absurd hb (h b)
  · exact hI.fam.lt hb

theorem KeyValuesMut_any {mn mx : Nat} {w : World} {F : Nat → Prop} {t : Nat} {l : List (Int × Int)} (hM : MapIn mn mx w F t l) (hlen : l.length ≤ 1000000000000) :
    Calls Try.prog 72 #[.pointer (some ⟨t, 0, none⟩)] w (TwoPost (l.map Prod.fst) (l.map Prod.snd) w) := by
  have hk := keyValues_any true hM hM.flt hlen
  have HK := Lib.hid hk
  clear hk
  go_enter Try.func72, Try.ntmps72
  go_wp2_with fail
  refine HK.out.mono ?_
  rintro e w1 ⟨v1, v2, rfl, h1, h2⟩
  go_wp2_with fail
  go_ret2
  exact ⟨v1, v2, rfl, h1, h2⟩

set_option maxRecDepth 100000 in
theorem MKeyValuesMut_any (d : Int) (p : Option Addr) (cap : Nat) (l : List (Int × Int)) (w : World) (h1 : 2 ≤ d) (h2 : d ≤ 128) (hl : ItemsAt w p l) (hlen : l.length ≤ 2147483647) :
    Calls Try.prog 45 #[.int .i64 d, .slice p l.length cap] w (TwoPost ((growL l).map Prod.fst) ((growL l).map Prod.snd) w) := by
  have hgl := growL_take_len l l.length
  rw [List.take_length] at hgl
  have HGL := Lib.hid hgl
  clear hgl
  go_enter Try.func45, Try.ntmps45
  go_wp2_with fail
  refine (growMap_any d p cap l _ h1 h2 hl hlen).mono ?_
  rintro e w2 ⟨t, F, rfl, _, hM, hc2, hF2⟩
  go_wp2_with fail
  refine (KeyValuesMut_any hM (by have := HGL.out; omega)).mono ?_
  rintro e w3 ⟨v1, v2, rfl, ⟨o1, o2, ap⟩, hc3⟩
  go_wp2_with fail
  go_ret2
  exact ⟨v1, v2, rfl, ⟨o1.mono hc2.size, o2.mono hc2.size, ap⟩, hc2.trans hc3⟩
theorem KeyValues_any {mn mx : Nat} {w : World} {F : Nat → Prop} {t : Nat} {l : List (Int × Int)} (hM : MapIn mn mx w F t l) (hlen : l.length ≤ 1000000000000) :
    Calls Try.prog 53 #[.pointer (some ⟨t, 0, none⟩)] w (TwoPost (l.map Prod.fst) (l.map Prod.snd) w) := by
  have hk := keyValues_any false hM hM.flt hlen
  have HK := Lib.hid hk
  clear hk
  go_enter Try.func53, Try.ntmps53
  go_wp2_with fail
  refine HK.out.mono ?_
  rintro e w1 ⟨v1, v2, rfl, h1, h2⟩
  go_wp2_with fail
  go_ret2
  exact ⟨v1, v2, rfl, h1, h2⟩

set_option maxRecDepth 100000 in
theorem MKeyValues_any (d : Int) (p : Option Addr) (cap : Nat) (l : List (Int × Int)) (w : World) (h1 : 2 ≤ d) (h2 : d ≤ 128) (hl : ItemsAt w p l) (hlen : l.length ≤ 2147483647) :
    Calls Try.prog 29 #[.int .i64 d, .slice p l.length cap] w (TwoPost ((growL l).map Prod.fst) ((growL l).map Prod.snd) w) := by
  have hgl := growL_take_len l l.length
  rw [List.take_length] at hgl
  have HGL := Lib.hid hgl
  clear hgl
  go_enter Try.func29, Try.ntmps29
  go_wp2_with fail
  refine (growMap_any d p cap l _ h1 h2 hl hlen).mono ?_
  rintro e w2 ⟨t, F, rfl, _, hM, hc2, hF2⟩
  go_wp2_with fail
  refine (KeyValues_any hM (by have := HGL.out; omega)).mono ?_
  rintro e w3 ⟨v1, v2, rfl, ⟨o1, o2, ap⟩, hc3⟩
  go_wp2_with fail
  go_ret2
  exact ⟨v1, v2, rfl, ⟨o1.mono hc2.size, o2.mono hc2.size, ap⟩, hc2.trans hc3⟩

set_option maxRecDepth 100000 in
theorem mKeyValuesMut_any (d : Int) (p : Option Addr) (cap : Nat) (l : List (Int × Int)) (w : World) (h1 : 2 ≤ d) (h2 : d ≤ 128) (hl : ItemsAt w p l) (hlen : l.length ≤ 2147483647) :
    Calls Try.prog 23 #[.int .i64 d, .slice p l.length cap] w fun e w' => e = .returned (.bool true) ∧ Chg (fun _ _ => False) w w' := by
  have hT := fun w1 (c : Chg (fun _ _ => False) w w1) => tree_any (.slice none 0 0) id p cap l w1 (rank_nil w1) (hl.chg c) hlen
  have hM := MKeyValuesMut_any d p cap l w h1 h2 hl hlen
  have e1 : growL l = treeL (ltR id) l := rfl
  rw [e1] at hM
  have hlen2 := treeL_len (ltR id) l
  have HT := Lib.hid hT
  have HM := Lib.hid hM
  clear hT hM hl e1
  go_enter Try.func23, Try.ntmps23
  go_wp2_with fail
  refine HM.out.mono ?_
  rintro e w1 ⟨v1, v2, rfl, ⟨o1, o2, _⟩, hc1⟩
  go_wp2_with fail
  refine (HT.out _ hc1).mono ?_
  rintro e w2 ⟨u1, rfl, hv2, hc2⟩
  obtain ⟨q, cap2, rfl, hi, hcap⟩ := hv2.items
  go_wp2_with fail
  refine (specKeys_any _ _ _ (hi.sl hcap) (by omega)).mono ?_
  rintro e w3 ⟨v3, rfl, how3, hc3⟩
  have hc13 := (hc1.trans hc2).trans hc3
  go_wp2_with fail
  refine (HT.out _ hc13).mono ?_
  rintro e w4 ⟨u4, rfl, hv4, hc4⟩
  obtain ⟨q4, cap4, rfl, hi4, hcap4⟩ := hv4.items
  go_wp2_with fail
  refine (specValues_any _ _ _ (hi4.sl hcap4) (by omega)).mono ?_
  rintro e w5 ⟨v5, rfl, how5, hc5⟩
  have hc45 := hc4.trans hc5
  have hc25 := (hc2.trans hc3).trans hc45
  go_wp2_with fail
  refine (equal_int _ _ _ _ (o1.sl.chg hc25) (how3.sl.chg hc45) (by simp; omega)).mono ?_
  rintro e w6 ⟨rfl, hc6⟩
  go_wp2_with fail
  refine (equal_int _ _ _ _ (o2.sl.chg (hc25.trans hc6)) (how5.sl.chg hc6) (by simp; omega)).mono ?_
  rintro e w7 ⟨rfl, hc7⟩
  go_wp2_with fail
  go_ret
  exact ⟨rfl, ((hc13.trans hc45).trans hc6).trans hc7⟩
end Go.Proofs.Ytkgcjgedpefhjaa
