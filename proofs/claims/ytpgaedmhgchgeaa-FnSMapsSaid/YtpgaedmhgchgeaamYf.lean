/- Ascend, Descend, MAscend, MDescend, MKeys. -/
import Derived.Test.YtpgaedmhgchgeaaM8
import Derived.Test.YtpgaedmhgchgeaaM9
import Derived.Test.YtpgaedmhgchgeaamDn
namespace Go.Proofs.Ytpgaedmhgchgeaa.M
set_option linter.unusedSimpArgs false
set_option linter.unusedVariables false
open Go.RowKit

def RunEnd (n : Int) (ob b2 b3 cb rb : Nat) (acc l : List (Int × Int)) (w : World) (e : Ending) (w' : World) : Prop :=
  e = .returned (.tuple #[]) ∧ Kept n ob b2 b3 cb rb w' (runL (contN n) acc l).1 ∧ Chg (fun b _ => TakeB ob rb b) w w'

theorem descend_any {mn mx : Nat} {w : World} {F : Nat → Prop} {t : Nat} {l : List (Int × Int)} (key : Int) (mt : Bool) {n : Int} {ob b2 b3 cb rb : Nat} {acc : List (Int × Int)} (hM : MapIn mn mx w F t l) (hmn : 1 ≤ mn) (hK : Kept n ob b2 b3 cb rb w acc) (hFb : ∀ b, F b → ¬ TakeB ob rb b) (htb : ¬ TakeB ob rb t) (hlen : acc.length + l.length ≤ 1000000000000) :
    Calls Try.prog 38 #[.pointer (some ⟨t, 0, none⟩), .int .i64 key, fnP cb, .bool mt] w (RunEnd n ob b2 b3 cb rb acc ((dwn ltM (key, 0) l).reverse) w) := by
  rcases hM with ⟨rfl, _, hB⟩ | ⟨H, h, T, hI, hB, rfl, h1⟩
  · have c2 : w.cell? ⟨t, 2, none⟩ = some (.pointer none) := hB.c2
    have HK := Lib.hid hK
    clear hK
    unfold fnP
    go_enter Try.func38, Try.ntmps38
    go_wp2
    go_end0
    exact ⟨rfl, HK.out, Chg.refl _ _⟩
  · have c2 : w.cell? ⟨t, 2, none⟩ = some (.pointer (some ⟨rid T, 0, none⟩)) := hB.c2
    have hr := desc_all h mn mx w F H T t ⟨t, 2, none⟩ key mt n ob b2 b3 cb rb acc hI.fam hI.isT hI.sh hI.srt hI.m1000 c2 hB.at_ hK hFb htb hlen
    unfold fnP at hr ⊢
    have HR := Lib.hid hr
    clear hr hK
    go_enter Try.func38, Try.ntmps38
    go_wp2_with fail
    refine HR.out.mono ?_
    rintro e w1 ⟨rfl, h1, h2⟩
    go_wp2_with fail
    go_end0
    exact ⟨rfl, h1, h2⟩

theorem Descend_any {mn mx : Nat} {w : World} {F : Nat → Prop} {t : Nat} {l : List (Int × Int)} (key : Int) {n : Int} {ob b2 b3 cb rb : Nat} {acc : List (Int × Int)} (hM : MapIn mn mx w F t l) (hmn : 1 ≤ mn) (hK : Kept n ob b2 b3 cb rb w acc) (hFb : ∀ b, F b → ¬ TakeB ob rb b) (htb : ¬ TakeB ob rb t) (hlen : acc.length + l.length ≤ 1000000000000) :
    Calls Try.prog 23 #[.pointer (some ⟨t, 0, none⟩), .int .i64 key, fnP cb] w (RunEnd n ob b2 b3 cb rb acc ((dwn ltM (key, 0) l).reverse) w) := by
  have hr := descend_any key false hM hmn hK hFb htb hlen
  unfold fnP at hr ⊢
  have HR := Lib.hid hr
  clear hr hK
  go_enter Try.func23, Try.ntmps23
  go_wp2_with fail
  refine HR.out.mono ?_
  rintro e w1 ⟨rfl, h1, h2⟩
  go_wp2_with fail
  go_end0
  exact ⟨rfl, h1, h2⟩

theorem ascend_any {mn mx : Nat} {w : World} {F : Nat → Prop} {t : Nat} {l : List (Int × Int)} (key : Int) (mt : Bool) {n : Int} {ob b2 b3 cb rb : Nat} {acc : List (Int × Int)} (hM : MapIn mn mx w F t l) (hmn : 1 ≤ mn) (hK : Kept n ob b2 b3 cb rb w acc) (hFb : ∀ b, F b → ¬ TakeB ob rb b) (htb : ¬ TakeB ob rb t) (hlen : acc.length + l.length ≤ 1000000000000) :
    Calls Try.prog 33 #[.pointer (some ⟨t, 0, none⟩), .int .i64 key, fnP cb, .bool mt] w (RunEnd n ob b2 b3 cb rb acc (upp ltM (key, 0) l) w) := by
  rcases hM with ⟨rfl, _, hB⟩ | ⟨H, h, T, hI, hB, rfl, h1⟩
  · have c2 : w.cell? ⟨t, 2, none⟩ = some (.pointer none) := hB.c2
    have HK := Lib.hid hK
    clear hK
    unfold fnP
    go_enter Try.func33, Try.ntmps33
    go_wp2
    go_end0
    exact ⟨rfl, HK.out, Chg.refl _ _⟩
  · have c2 : w.cell? ⟨t, 2, none⟩ = some (.pointer (some ⟨rid T, 0, none⟩)) := hB.c2
    have hr := asc_all h 0 mn mx w F H T t ⟨t, 2, none⟩ (key, 0) mt n ob b2 b3 cb rb acc hI.fam hI.isT hI.sh hmn h1 hI.srt hI.m1000 c2 hB.at_ hK hFb (fun b hm h => htb (hm ▸ h)) hlen
    unfold fnP at hr ⊢
    have HR := Lib.hid hr
    clear hr hK
    go_enter Try.func33, Try.ntmps33
    go_wp2_with fail
    refine HR.out.mono ?_
    rintro e w1 ⟨rfl, h1, h2⟩
    go_wp2_with fail
    go_end0
    exact ⟨rfl, h1, h2⟩

theorem Ascend_any {mn mx : Nat} {w : World} {F : Nat → Prop} {t : Nat} {l : List (Int × Int)} (key : Int) {n : Int} {ob b2 b3 cb rb : Nat} {acc : List (Int × Int)} (hM : MapIn mn mx w F t l) (hmn : 1 ≤ mn) (hK : Kept n ob b2 b3 cb rb w acc) (hFb : ∀ b, F b → ¬ TakeB ob rb b) (htb : ¬ TakeB ob rb t) (hlen : acc.length + l.length ≤ 1000000000000) :
    Calls Try.prog 20 #[.pointer (some ⟨t, 0, none⟩), .int .i64 key, fnP cb] w (RunEnd n ob b2 b3 cb rb acc (upp ltM (key, 0) l) w) := by
  have hr := ascend_any key false hM hmn hK hFb htb hlen
  unfold fnP at hr ⊢
  have HR := Lib.hid hr
  clear hr hK
  go_enter Try.func20, Try.ntmps20
  go_wp2_with fail
  refine HR.out.mono ?_
  rintro e w1 ⟨rfl, h1, h2⟩
  go_wp2_with fail
  go_end0
  exact ⟨rfl, h1, h2⟩

theorem MapIn.flt' {mn mx : Nat} {w : World} {F : Nat → Prop} {t : Nat} {l : List (Int × Int)} (hM : MapIn mn mx w F t l) : ∀ b, F b → b < w.heap.size := fun _ hb => hM.famLt hb

set_option maxRecDepth 100000 in
theorem MDescend_any (d : Int) (v : Value) (l : List (Int × Int)) (key : Int) (n : Int) (w : World) (h1 : 2 ≤ d) (h2 : d ≤ 128) (hl : SlE itemE w v l) (hlen : l.length ≤ 2147483647) :
    Calls Try.prog 12 #[.int .i64 d, v, .int .i64 key, .int .i64 n] w (OwnPost itemE (firstN n ((dwn ltM (key, 0) (growL l)).reverse)) w) := by
  have hgl := growL_take_len l l.length
  rw [List.take_length] at hgl
  have HGL := Lib.hid hgl
  have HL := Lib.hid hl
  obtain ⟨p, cap, rfl⟩ := hl.form
  clear hgl hl
  go_enter Try.func12, Try.ntmps12
  go_wp2_with fail
  refine name_calls (fun w1 => Chg (fun _ _ => False) w w1 ∧ w1.heap[w.heap.size]? = some (.cells #[.slice none 0 0] 23 (0, 0))) ⟨(Chg.refl _ _).alloc _, ha_at _ _ rfl⟩ ?_
  rintro w1 ⟨hc1, hb1⟩
  refine (growMap_any d _ l _ h1 h2 (HL.out.chg hc1) hlen).mono ?_
  rintro e w2 ⟨t, F, rfl, ht, hM, hc2, hF2⟩
  have hb2 : w2.heap[w.heap.size]? = some (.cells #[.slice none 0 0] 23 (0, 0)) := by rw [hc2.block (heap_lt hb1) (fun _ h => h)]; exact hb1
  have hlt1 := heap_lt hb1
  have hp := pairs_any w.heap.size n w2 hb2
  have HP := Lib.hid hp
  clear hp hb1 hb2
  go_wp2_with fail
  refine HP.out.mono ?_
  rintro e w3 ⟨b2, b3, cb, rfl, hk, hc3⟩
  have hsz3 := hc3.size
  have hM3 := hM.chg hc3
  have hTb : ∀ b, F b → ¬ TakeB w.heap.size w3.heap.size b := by
    rintro b hb (h | h)
    · have := hF2 b hb; omega
    · have := hM3.flt' b hb; omega
  have htb : ¬ TakeB w.heap.size w3.heap.size t := by
    rintro (h | h)
    · omega
    · obtain ⟨root, hB⟩ := hM3.blk
      have := hB.lt; omega
  have hr := Descend_any key hM3 (by omega) hk hTb htb (by have := HGL.out; simp; omega)
  unfold fnP at hr
  have HR := Lib.hid hr
  clear hr hk
  go_wp2_with fail
  refine HR.out.mono ?_
  rintro e w4 ⟨rfl, hk4, hc4⟩
  rw [runL_first] at hk4
  obtain ⟨⟨v, g1, g2⟩, _⟩ := hk4
  have k0 := cell_of_block g1 0
  simp only [List.getElem?_toArray, List.getElem?_cons_zero] at k0
  clear g1
  go_wp2_with fail
  go_ret
  have hc03 := (hc1.trans hc2).trans hc3
  exact ⟨v, rfl, g2.mono hc03.size, hc03.trans' hc4 (fun _ _ _ h => h) (fun b o hb h => by rcases h with h | h <;> omega)⟩

set_option maxRecDepth 100000 in
theorem MAscend_any (d : Int) (v : Value) (l : List (Int × Int)) (key : Int) (n : Int) (w : World) (h1 : 2 ≤ d) (h2 : d ≤ 128) (hl : SlE itemE w v l) (hlen : l.length ≤ 2147483647) :
    Calls Try.prog 10 #[.int .i64 d, v, .int .i64 key, .int .i64 n] w (OwnPost itemE (firstN n (upp ltM (key, 0) (growL l))) w) := by
  have hgl := growL_take_len l l.length
  rw [List.take_length] at hgl
  have HGL := Lib.hid hgl
  have HL := Lib.hid hl
  obtain ⟨p, cap, rfl⟩ := hl.form
  clear hgl hl
  go_enter Try.func10, Try.ntmps10
  go_wp2_with fail
  refine name_calls (fun w1 => Chg (fun _ _ => False) w w1 ∧ w1.heap[w.heap.size]? = some (.cells #[.slice none 0 0] 23 (0, 0))) ⟨(Chg.refl _ _).alloc _, ha_at _ _ rfl⟩ ?_
  rintro w1 ⟨hc1, hb1⟩
  refine (growMap_any d _ l _ h1 h2 (HL.out.chg hc1) hlen).mono ?_
  rintro e w2 ⟨t, F, rfl, ht, hM, hc2, hF2⟩
  have hb2 : w2.heap[w.heap.size]? = some (.cells #[.slice none 0 0] 23 (0, 0)) := by rw [hc2.block (heap_lt hb1) (fun _ h => h)]; exact hb1
  have hlt1 := heap_lt hb1
  have hp := pairs_any w.heap.size n w2 hb2
  have HP := Lib.hid hp
  clear hp hb1 hb2
  go_wp2_with fail
  refine HP.out.mono ?_
  rintro e w3 ⟨b2, b3, cb, rfl, hk, hc3⟩
  have hsz3 := hc3.size
  have hM3 := hM.chg hc3
  have hTb : ∀ b, F b → ¬ TakeB w.heap.size w3.heap.size b := by
    rintro b hb (h | h)
    · have := hF2 b hb; omega
    · have := hM3.flt' b hb; omega
  have htb : ¬ TakeB w.heap.size w3.heap.size t := by
    rintro (h | h)
    · omega
    · obtain ⟨root, hB⟩ := hM3.blk
      have := hB.lt; omega
  have hr := Ascend_any key hM3 (by omega) hk hTb htb (by have := HGL.out; simp; omega)
  unfold fnP at hr
  have HR := Lib.hid hr
  clear hr hk
  go_wp2_with fail
  refine HR.out.mono ?_
  rintro e w4 ⟨rfl, hk4, hc4⟩
  rw [runL_first] at hk4
  obtain ⟨⟨v, g1, g2⟩, _⟩ := hk4
  have k0 := cell_of_block g1 0
  simp only [List.getElem?_toArray, List.getElem?_cons_zero] at k0
  clear g1
  go_wp2_with fail
  go_ret
  have hc03 := (hc1.trans hc2).trans hc3
  exact ⟨v, rfl, g2.mono hc03.size, hc03.trans' hc4 (fun _ _ _ h => h) (fun b o hb h => by rcases h with h | h <;> omega)⟩

theorem MKeys_any (d : Int) (v : Value) (l : List (Int × Int)) (w : World) (h1 : 2 ≤ d) (h2 : d ≤ 128) (hl : SlE itemE w v l) (hlen : l.length ≤ 2147483647) :
    Calls Try.prog 7 #[.int .i64 d, v] w (OwnPost intE ((growL l).map Prod.fst) w) := by
  have hgl := growL_take_len l l.length
  rw [List.take_length] at hgl
  have HG := Lib.hid (growMap_any d v l w h1 h2 hl hlen)
  obtain ⟨p, cap, rfl⟩ := hl.form
  clear hl
  go_enter Try.func7, Try.ntmps7
  go_wp2_with fail
  refine HG.out.mono ?_
  rintro e w2 ⟨t, F, rfl, ht, hM, hc2, hF2⟩
  have HK := Lib.hid (Keys_any hM hM.flt' (by omega))
  unfold OwnPost at HK
  clear hM HG
  go_wp2_with fail
  refine HK.out.mono ?_
  rintro e w3 ⟨v, rfl, how, hc3⟩
  have HOW := Lib.hid how
  clear how HK
  go_wp2_with fail
  go_ret
  exact ⟨v, rfl, HOW.out.mono hc2.size, hc2.trans hc3⟩
end Go.Proofs.Ytpgaedmhgchgeaa.M
