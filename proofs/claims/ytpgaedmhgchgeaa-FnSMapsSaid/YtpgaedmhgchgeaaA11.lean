/- The law FnSMaps. -/
import Derived.BigQuiet
import Derived.Laws.MakeOwn
import Derived.Test.YtpgaedmhgchgeaaA3
import Derived.Test.YtpgaedmhgchgeaaA9
import Derived.Test.YtpgaedmhgchgeaaAg
import Derived.Test.YtpgaedmhgchgeaaDn
import Derived.Test.YtpgaedmhgchgeaamYf
namespace Go.Proofs.Ytpgaedmhgchgeaa
set_option linter.unusedSimpArgs false
set_option linter.unusedVariables false
open Go.RowKit

theorem MapIn.blk {mn mx : Nat} {w : World} {F : Nat → Prop} {t : Nat} {l : List (Int × Int)} (h : MapIn mn mx w F t l) : ∃ root m1 m2, MapBlk 0 m1 m2 w t root l.length := by
  rcases h with ⟨rfl, _, hB⟩ | ⟨H, h, T, _, hB, rfl, _⟩
  · exact ⟨none, 0, 0, hB⟩
  · exact ⟨_, _, _, hB⟩

theorem Len_any {mn mx : Nat} {w : World} {F : Nat → Prop} {t : Nat} {l : List (Int × Int)} (hM : MapIn mn mx w F t l) :
    Calls Try.prog 40 #[.pointer (some ⟨t, 0, none⟩)] w fun e w' => e = .returned (.int .i64 l.length) ∧ w = w' := by
  obtain ⟨root, m1, m2, hB⟩ := hM.blk
  have c3 := hB.c3
  go_enter Try.func40, Try.ntmps40
  go_wp2
  go_ret
  exact ⟨rfl, rfl⟩

theorem made_ints (n : Nat) (w : World) (hn : n ≤ 1000000000000) : (Instr.makeSlice 22 (.int .i64 0) (.int .i64 n)).run Try.prog w = .ok (.slice (some ⟨w.heap.size, 0, none⟩) 0 n) (w.alloc (.cells (madeCells #[.int .i64 0] n) 3)) := by
  obtain ⟨i0, hi0, hz0, hz1, hz2⟩ := info_parts infoInt
  have h := run_make (P := Try.prog) w 22 3 i0 _ Try.underlying22 hi0 hz0 .i64 .i64 0 (n : Int) (by omega) (by omega) (by rw [hz2]; omega) (by omega)
  rw [h, hz1]
  simp [Value.cells]

theorem own_made (n : Nat) (w : World) : OwnE intE (w.alloc (.cells (madeCells #[.int .i64 0] n) 3)) (.slice (some ⟨w.heap.size, 0, none⟩) 0 n) [] w.heap.size := by
  refine .inr ⟨w.heap.size, 0, n, rfl, Nat.zero_le _, Nat.le_refl _, RowAt.of_block (ha_at _ _ rfl) _ _ (by simp [flat]) ?_ (by simp [flat])⟩
  simp [madeCells, intE]

set_option maxRecDepth 100000 in
theorem Keys_any {mn mx : Nat} {w : World} {F : Nat → Prop} {t : Nat} {l : List (Int × Int)} (hM : MapIn mn mx w F t l) (hF : ∀ b, F b → b < w.heap.size) (hlen : l.length ≤ 1000000000000) :
    Calls Try.prog 25 #[.pointer (some ⟨t, 0, none⟩)] w (OwnPost intE (l.map Prod.fst) w) := by
  have hL := Len_any hM
  obtain ⟨n, hn⟩ : ∃ n, l.length = n := ⟨_, rfl⟩
  rw [hn] at hL hlen
  have HN := Lib.hid hn
  clear hn
  have hmk := fun w' => made_ints n w' hlen
  have hca : Chg (fun _ _ => False) w (w.alloc (.cells (madeCells #[.int .i64 0] n) 3)) := (Chg.refl _ _).alloc _
  have hown := own_made n w
  have HOWN := Lib.hid hown
  clear hown
  rcases hM.chg hca with ⟨rfl, _, hB⟩ | ⟨H, h, T, hI, hB, rfl, h1⟩
  · have c2 : (w.alloc (.cells (madeCells #[.int .i64 0] n) 3)).cell? ⟨t, 2, none⟩ = some (.pointer none) := hB.c2
    go_enter Try.func25, Try.ntmps25
    go_wp2_with fail
    refine hL.mono ?_
    rintro e w' ⟨rfl, rfl⟩
    go_wp2_with fail
    go_ret
    exact ⟨_, rfl, HOWN.out, hca⟩
  · have c2 : (w.alloc (.cells (madeCells #[.int .i64 0] n) 3)).cell? ⟨t, 2, none⟩ = some (.pointer (some ⟨rid T, 0, none⟩)) := hB.c2
    have hk := keys_all h mn mx _ F H T _ [] w.heap.size hI.fam hI.isT hI.sh HOWN.out hca.size hF (by rw [HN.out]; simpa using hlen)
    have HK := Lib.hid hk
    clear hk
    go_enter Try.func25, Try.ntmps25
    go_wp2_with fail
    refine hL.mono ?_
    rintro e w' ⟨rfl, rfl⟩
    go_wp2_with fail
    refine HK.out.mono ?_
    rintro e w2 ⟨v2, rfl, how2, hc2⟩
    go_wp2_with fail
    go_ret
    exact ⟨v2, rfl, how2, hca.trans' hc2 (fun _ _ _ h => h) (fun b o hb h => by omega)⟩

theorem MapIn.fam {mn mx : Nat} {w : World} {F : Nat → Prop} {t : Nat} {l : List (Int × Int)} (hM : MapIn mn mx w F t l) : ∀ b, F b → b < w.heap.size := fun _ hb => hM.famLt hb

theorem SKeys_any {mn mx : Nat} {w : World} {F : Nat → Prop} {t : Nat} {l : List (Int × Int)} (hM : MapIn mn mx w F t l) (hlen : l.length ≤ 1000000000000) :
    Calls Try.prog 15 #[.pointer (some ⟨t, 0, none⟩)] w (OwnPost intE (l.map Prod.fst) w) := by
  have HK := Lib.hid (Keys_any hM hM.fam hlen)
  unfold OwnPost at HK
  clear hM
  go_enter Try.func15, Try.ntmps15
  go_wp2_with fail
  refine HK.out.mono ?_
  rintro e w2 ⟨v, rfl, how, hc⟩
  have HOW := Lib.hid how
  clear how HK
  go_wp2_with fail
  go_ret
  exact ⟨v, rfl, HOW.out, hc⟩

set_option maxRecDepth 100000 in
theorem SInsert_any (v : Value) (l : List Int) (w : World) (hs : SlE intE w v l) (hlen : l.length ≤ 2147483647) :
    Calls Try.prog 6 #[v] w (OwnPost intE ((growL (l.map itK)).map Prod.fst) w) := by
  have HG := Lib.hid (growSet_any v l w hs hlen)
  unfold GrowPost at HG
  have hgl := growL_lenK l l.length
  rw [List.take_of_length_le (by simp)] at hgl
  obtain ⟨a, cap, rfl⟩ := hs.form
  clear hs
  go_enter Try.func6, Try.ntmps6
  go_wp2_with fail
  refine HG.out.mono ?_
  rintro e w2 ⟨t, F, rfl, _, hM, hc2, hF2⟩
  have HK := Lib.hid (SKeys_any hM (by omega))
  unfold OwnPost at HK
  clear hM HG
  go_wp2_with fail
  refine HK.out.mono ?_
  rintro e w3 ⟨v, rfl, how, hc3⟩
  have HOW := Lib.hid how
  clear how HK
  go_wp2_with fail
  go_ret
  exact ⟨v, rfl, HOW.out.mono hc2.size, hc2.trans hc3⟩

theorem treeK_len (l : List Int) : (treeL (ltR id) (l.map itK)).length ≤ l.length := by
  have := treeL_len (ltR id) (l.map itK)
  simpa using this



theorem exInts (w : World) (b : Nat) (c : Array Value) (xs : List Int) (hx : c.toList = xs.map (.int .i64 ·)) (hb : w.heap[b]? = some (.cells c 3 (0, 0))) : SlE intE w (.slice (some ⟨b, 0, none⟩) xs.length xs.length) xs := by
  refine ⟨_, _, rfl, Nat.le_refl _, .inr ⟨b, 0, rfl, fun j u hj => ?_⟩⟩
  rw [cell_of_block hb]
  have e : flat intE.par xs = xs.map (.int .i64 ·) := by
    induction xs generalizing c j with
    | nil => rfl
    | cons x xs ih =>
      show [Value.int .i64 x] ++ flat intE.par xs = _
      have : ∀ ys : List Int, flat intE.par ys = ys.map (.int .i64 ·) := by
        intro ys
        induction ys with
        | nil => rfl
        | cons y ys ih => show [Value.int .i64 y] ++ flat intE.par ys = _; rw [ih]; rfl
      rw [this]; rfl
  rw [e, ← hx] at hj
  simpa using hj

end Go.Proofs.Ytpgaedmhgchgeaa

namespace Go.Proofs.Ytpgaedmhgchgeaa
set_option linter.unusedSimpArgs false
set_option linter.unusedVariables false
open Go.RowKit

def RunEndM (n : Int) (ob b2 b3 rb : Nat) (acc l : List (Int × Int)) (w : World) (e : Ending) (w' : World) : Prop :=
  e = .returned (.tuple #[]) ∧ KeptM n ob b2 b3 rb w' (runL (contN n) acc l).1 ∧ Chg (fun b _ => TakeB ob rb b) w w'


set_option maxRecDepth 100000 in
theorem ascendS_any {mn mx : Nat} {w : World} {F : Nat → Prop} {t : Nat} {l : List (Int × Int)} (key : Int × Int) (mt : Bool) {n : Int} {ob b2 b3 rb : Nat} {acc : List (Int × Int)} (hM : MapIn mn mx w F t l) (hmn : 1 ≤ mn) (hK : KeptM n ob b2 b3 rb w acc) (hFb : ∀ b, F b → ¬ TakeB ob rb b) (htb : ∀ b, MOwn 0 t b → ¬ TakeB ob rb b) (hlen : acc.length + l.length ≤ 1000000000000) :
    Calls Try.prog 48 #[.pointer (some ⟨t, 0, none⟩), .int .i64 key.1, fnG b2 b3, .bool mt] w (RunEndM n ob b2 b3 rb acc (upp ltM key l) w) := by
  rcases hM with ⟨rfl, _, hB⟩ | ⟨H, h, T, hI, hB, rfl, h1⟩
  · have c2 : w.cell? ⟨t, 2, none⟩ = some (.pointer none) := hB.c2
    have HK := Lib.hid hK
    clear hK hB
    unfold fnG
    go_enter Try.func48, Try.ntmps48
    go_wp2_with fail
    first
    | refine bodyPost_end (v := .tuple #[]) (by simp [results, Try.results48, go_sem]) rfl ?_
    | refine bodyPost_ret (v := .tuple #[]) (by simp [results, Try.results48, go_sem]) rfl ?_
    exact ⟨rfl, HK.out, Chg.refl _ _⟩
  · have c2 : w.cell? ⟨t, 2, none⟩ = some (.pointer (some ⟨rid T, 0, none⟩)) := hB.c2
    have hr := asc_all h 0 mn mx w F H T t ⟨t, 2, none⟩ key mt n ob b2 b3 rb acc hI.fam hI.isT hI.sh hmn h1 hI.srt hI.m1000 hB.c2 hB.at_ hK hFb htb hlen
    obtain ⟨q, hq⟩ : ∃ q, (runL (contN n) acc (upp ltM key (toL h T))).2 = q := ⟨_, rfl⟩
    unfold RunPostM at hr
    rw [hq] at hr
    unfold fnG at hr ⊢
    have HR := Lib.hid hr
    clear hr hK hB hI hq
    go_enter Try.func48, Try.ntmps48
    go_wp2_with fail
    refine HR.out.mono ?_
    rintro e w2 ⟨rfl, h1, h2⟩
    have H1 := Lib.hid h1
    clear h1 HR
    go_wp2_with fail
    first
    | refine bodyPost_end (v := .tuple #[]) (by simp [results, Try.results48, go_sem]) rfl ?_
    | refine bodyPost_ret (v := .tuple #[]) (by simp [results, Try.results48, go_sem]) rfl ?_
    exact ⟨rfl, H1.out, h2⟩

set_option maxRecDepth 100000 in
theorem MapAscend_any {mn mx : Nat} {w : World} {F : Nat → Prop} {t : Nat} {l : List (Int × Int)} (key : Int × Int) {n : Int} {ob b2 b3 rb : Nat} {acc : List (Int × Int)} (hM : MapIn mn mx w F t l) (hmn : 1 ≤ mn) (hK : KeptM n ob b2 b3 rb w acc) (hFb : ∀ b, F b → ¬ TakeB ob rb b) (htb : ∀ b, MOwn 0 t b → ¬ TakeB ob rb b) (hlen : acc.length + l.length ≤ 1000000000000) :
    Calls Try.prog 30 #[.pointer (some ⟨t, 0, none⟩), .int .i64 key.1, fnG b2 b3] w (RunEndM n ob b2 b3 rb acc (upp ltM key l) w) := by
  have hr := ascendS_any key false hM hmn hK hFb htb hlen
  unfold fnG at hr ⊢
  have HR := Lib.hid hr
  clear hr hM hK
  go_enter Try.func30, Try.ntmps30
  go_wp2_with fail
  refine HR.out.mono ?_
  rintro e w2 ⟨rfl, h1, h2⟩
  have H1 := Lib.hid h1
  clear h1 HR
  go_wp2_with fail
  first
  | refine bodyPost_end (v := .tuple #[]) (by simp [results, Try.results30, go_sem]) rfl ?_
  | refine bodyPost_ret (v := .tuple #[]) (by simp [results, Try.results30, go_sem]) rfl ?_
  exact ⟨rfl, H1.out, h2⟩

def SetRunPost (n : Int) (ob b3 : Nat) (l : List Int) (w : World) (e : Ending) (w' : World) : Prop :=
  e = .returned (.tuple #[]) ∧ (∃ v rb, w'.heap[ob]? = some (.cells #[v] 22 (0, 0)) ∧ OwnE intE w' v (firstN n l) rb ∧ w.heap.size ≤ rb) ∧ Chg (fun b _ => b = ob ∨ w.heap.size ≤ b) w w'

set_option maxRecDepth 100000 in
theorem SetAscend_any {mn mx : Nat} {w : World} {F : Nat → Prop} {t : Nat} {l : List (Int × Int)} (k : Int) {n : Int} {ob b3 : Nat} (hM : MapIn mn mx w F t l) (hmn : 1 ≤ mn)
    (ho : w.heap[ob]? = some (.cells #[.slice none 0 0] 22 (0, 0))) (h2 : w.heap[b3]? = some (.cells #[.pointer (some ⟨ob, 0, none⟩)] 43 (0, 0))) (h3 : w.heap[b3 + 1]? = some (.cells #[.int .i64 n] 3 (0, 0)))
    (n2 : ob ≠ b3) (n3 : ob ≠ b3 + 1) (hFb : ∀ b, F b → b ≠ ob) (htb : t ≠ ob) (hlen : l.length ≤ 1000000000000) :
    Calls Try.prog 18 #[.pointer (some ⟨t, 0, none⟩), .int .i64 k, fnI b3 (b3 + 1)] w (SetRunPost n ob b3 ((upp ltM (itK k) l).map Prod.fst) w) := by
  have hmf : ∀ (fn : Fn) (first cap : Array Value) (w : World), (Instr.makeFunc fn first cap).run Try.prog w = .ok (.func fn first cap) w := fun _ _ _ _ => rfl
  obtain ⟨w1, hw1⟩ : ∃ w1, w1 = w.alloc (.cells #[fnI b3 (b3 + 1)] 41) := ⟨_, rfl⟩
  have hc1 : Chg (fun _ _ => False) w w1 := by rw [hw1]; exact (Chg.refl _ _).alloc _
  have hs1 : w1.heap.size = w.heap.size + 1 := by rw [hw1]; simp
  have hb1 : w1.heap[w.heap.size]? = some (.cells #[fnI b3 (b3 + 1)] 41 (0, 0)) := by rw [hw1]; exact ha_at _ _ rfl
  have hob := heap_lt ho
  have hp2 := heap_lt h2
  have hp3 := heap_lt h3
  have hbl : ∀ {b : Nat} {o : Obj}, w.heap[b]? = some o → w1.heap[b]? = some o := fun h => by rw [hc1.block (heap_lt h) (fun _ h => h)]; exact h
  have hK : KeptM n ob w.heap.size b3 w1.heap.size w1 [] :=
    ⟨⟨⟨_, hbl ho, OwnE.nil _ _ _⟩, hbl h2, hbl h3, by omega, by omega, by omega, n2, n3, Nat.le_refl _⟩, hb1, by omega, by omega⟩
  have hr := MapAscend_any (itK k) (hM.chg hc1) hmn hK (fun b hb h => by
    rcases h with h | h
    · exact hFb b hb h
    · have := hM.famLt hb; omega) (fun b hb h => by
    have e : b = t := hb
    have := hM.own hb
    rcases h with h | h
    · omega
    · omega) (by simpa using hlen)
  unfold RunEndM at hr
  unfold fnG itK at hr
  rw [hw1] at hr
  have HR := Lib.hid hr
  have HC1 := Lib.hid hc1
  have HS1 := Lib.hid hs1
  have HW1 := Lib.hid hw1
  clear hr hM hK hc1 hs1 hb1 ho h2 h3 hbl hw1
  unfold fnI at HR HW1 ⊢
  go_enter Try.func18, Try.ntmps18
  go_wp2_with fail
  refine HR.out.mono ?_
  rintro e w2 ⟨rfl, h1, h2⟩
  rw [← HW1.out] at h1 h2
  have H1 := Lib.hid h1
  have H2 := Lib.hid h2
  clear h1 h2 HR
  go_wp2_with fail
  first
  | refine bodyPost_end (v := .tuple #[]) (by simp [results, Try.results18, go_sem]) rfl ?_
  | refine bodyPost_ret (v := .tuple #[]) (by simp [results, Try.results18, go_sem]) rfl ?_
  have hk := H1.out
  unfold KeptM at hk
  rw [runL_first] at hk
  have e1 : ∀ L : List (Int × Int), (firstN n L).map Prod.fst = firstN n (L.map Prod.fst) := fun L => by
    unfold firstN
    rw [List.length_map]
    split
    · rfl
    · rw [List.map_take]
  rw [e1] at hk
  obtain ⟨v, g1, g2⟩ := hk.i.o
  exact ⟨rfl, ⟨v, _, g1, g2, by have := HS1.out; omega⟩, (HC1.out.mono (fun _ _ _ h => h.elim)).trans (H2.out.mono (fun b _ _ h => h.imp id (fun h => by have := HS1.out; omega)))⟩

set_option maxRecDepth 100000 in
theorem SAscend_any (v : Value) (l : List Int) (k n : Int) (w : World) (hs : SlE intE w v l) (hlen : l.length ≤ 2147483647) :
    Calls Try.prog 8 #[v, .int .i64 k, .int .i64 n] w (OwnPost intE (firstN n ((upp ltM (itK k) (growL (l.map itK))).map Prod.fst)) w) := by
  have HG := Lib.hid (fun w1 (c : Chg (fun _ _ => False) w w1) => growSet_any v l w1 (hs.chg c) hlen)
  unfold GrowPost at HG
  have hgl := growL_lenK l l.length
  rw [List.take_of_length_le (by simp)] at hgl
  generalize growL (l.map itK) = L at HG hgl ⊢
  obtain ⟨a, cap, rfl⟩ := hs.form
  clear hs
  go_enter Try.func8, Try.ntmps8
  go_upto_region 2 with fail
  refine name_world (fun w1 => Chg (fun _ _ => False) w w1 ∧ w1.heap[w.heap.size]? = some (.cells #[.slice none 0 0] 22 (0, 0))) ⟨(Chg.refl _ _).alloc _, ha_at _ _ rfl⟩ ?_
  rintro w1 ⟨hc1, hb1⟩
  have hlt1 := heap_lt hb1
  have HB1 := Lib.hid hb1
  clear hb1
  go_wp2_with fail
  refine (HG.out _ hc1).mono ?_
  rintro e w2 ⟨t, F, rfl, ht, hM, hc2, hF2⟩
  have hsz2 := hc2.size
  have hb2 : w2.heap[w.heap.size]? = some (.cells #[.slice none 0 0] 22 (0, 0)) := by rw [hc2.block hlt1 (fun _ h => h)]; exact HB1.out
  have HM := Lib.hid hM
  have HB2 := Lib.hid hb2
  clear hM hb2 HG
  go_wp2_with fail
  refine (taker_any w.heap.size n w2).mono ?_
  rintro e w3 ⟨rfl, hw3⟩
  have hc3 : Chg (fun _ _ => False) w2 w3 := by rw [hw3]; exact ((Chg.refl _ _).alloc _).alloc _
  have hs3 : w3.heap.size = w2.heap.size + 2 := by rw [hw3]; simp
  have hp2 : w3.heap[w2.heap.size]? = some (.cells #[.pointer (some ⟨w.heap.size, 0, none⟩)] 43 (0, 0)) := by rw [hw3, ha_lt _ _ (by simp)]; exact ha_at _ _ rfl
  have hp3 : w3.heap[w2.heap.size + 1]? = some (.cells #[.int .i64 n] 3 (0, 0)) := by rw [hw3]; exact ha_at _ _ (by simp)
  have hb3 : w3.heap[w.heap.size]? = some (.cells #[.slice none 0 0] 22 (0, 0)) := by rw [hc3.block (heap_lt HB2.out) (fun _ h => h)]; exact HB2.out
  have ha := SetAscend_any k (HM.out.chg hc3) (by omega) hb3 hp2 hp3 (by omega) (by omega) (fun b hb => by have := hF2 b hb; omega) (by omega) (by omega)
  unfold SetRunPost fnI at ha
  have HA := Lib.hid ha
  have HS3 := Lib.hid hs3
  clear ha hp2 hp3 hb3 hw3 hs3
  go_wp2_with fail
  refine HA.out.mono ?_
  rintro e w4 ⟨rfl, ⟨v', rb, g1, g2, g3⟩, hc4⟩
  have c0 := cell_of_block g1 0
  simp only [List.getElem?_toArray, List.getElem?_cons_zero] at c0
  have HO := Lib.hid (show OwnE intE w4 v' _ w.heap.size from g2.mono (by have := HS3.out; omega))
  have HC := Lib.hid (show Chg (fun _ _ => False) w w4 from ((hc1.trans hc2).trans hc3).trans' hc4 (fun _ _ _ h => h) (fun b o hb h => by
    have := HS3.out
    rcases h with h | h
    · omega
    · omega))
  clear g1 g2 HA
  go_wp2_with fail
  go_ret
  exact ⟨v', rfl, HO.out, HC.out⟩
end Go.Proofs.Ytpgaedmhgchgeaa

namespace Go.Proofs.Ytpgaedmhgchgeaa
set_option linter.unusedSimpArgs false
set_option linter.unusedVariables false
open Go.RowKit


set_option maxRecDepth 100000 in
theorem descendS_any {mn mx : Nat} {w : World} {F : Nat → Prop} {t : Nat} {l : List (Int × Int)} (key : Int) (mt : Bool) {n : Int} {ob b2 b3 rb : Nat} {acc : List (Int × Int)} (hM : MapIn mn mx w F t l) (hmn : 1 ≤ mn) (hK : KeptM n ob b2 b3 rb w acc) (hFb : ∀ b, F b → ¬ TakeB ob rb b) (htb : ∀ b, MOwn 0 t b → ¬ TakeB ob rb b) (hlen : acc.length + l.length ≤ 1000000000000) :
    Calls Try.prog 51 #[.pointer (some ⟨t, 0, none⟩), .int .i64 key, fnGD b2 b3, .bool mt] w (RunEndM n ob b2 b3 rb acc ((dwn ltM (key, 0) l).reverse) w) := by
  rcases hM with ⟨rfl, _, hB⟩ | ⟨H, h, T, hI, hB, rfl, h1⟩
  · have c2 : w.cell? ⟨t, 2, none⟩ = some (.pointer none) := hB.c2
    have HK := Lib.hid hK
    clear hK hB
    unfold fnGD
    go_enter Try.func51, Try.ntmps51
    go_wp2_with fail
    first
    | refine bodyPost_end (v := .tuple #[]) (by simp [results, Try.results51, go_sem]) rfl ?_
    | refine bodyPost_ret (v := .tuple #[]) (by simp [results, Try.results51, go_sem]) rfl ?_
    exact ⟨rfl, HK.out, Chg.refl _ _⟩
  · have c2 : w.cell? ⟨t, 2, none⟩ = some (.pointer (some ⟨rid T, 0, none⟩)) := hB.c2
    have hr := desc_all h mn mx w F H T t ⟨t, 2, none⟩ key mt n ob b2 b3 rb acc hI.fam hI.isT hI.sh hI.srt hI.m1000 hB.c2 hB.at_ hK hFb (htb t MOwn.self) hlen
    obtain ⟨q, hq⟩ : ∃ q, (runL (contN n) acc (dwn ltM (key, 0) (toL h T)).reverse).2 = q := ⟨_, rfl⟩
    unfold RunPostM at hr
    rw [hq] at hr
    unfold fnGD at hr ⊢
    have HR := Lib.hid hr
    clear hr hK hB hI hq
    go_enter Try.func51, Try.ntmps51
    go_wp2_with fail
    refine HR.out.mono ?_
    rintro e w2 ⟨rfl, h1, h2⟩
    have H1 := Lib.hid h1
    clear h1 HR
    go_wp2_with fail
    first
    | refine bodyPost_end (v := .tuple #[]) (by simp [results, Try.results51, go_sem]) rfl ?_
    | refine bodyPost_ret (v := .tuple #[]) (by simp [results, Try.results51, go_sem]) rfl ?_
    exact ⟨rfl, H1.out, h2⟩

set_option maxRecDepth 100000 in
theorem MapDescend_any {mn mx : Nat} {w : World} {F : Nat → Prop} {t : Nat} {l : List (Int × Int)} (key : Int) {n : Int} {ob b2 b3 rb : Nat} {acc : List (Int × Int)} (hM : MapIn mn mx w F t l) (hmn : 1 ≤ mn) (hK : KeptM n ob b2 b3 rb w acc) (hFb : ∀ b, F b → ¬ TakeB ob rb b) (htb : ∀ b, MOwn 0 t b → ¬ TakeB ob rb b) (hlen : acc.length + l.length ≤ 1000000000000) :
    Calls Try.prog 36 #[.pointer (some ⟨t, 0, none⟩), .int .i64 key, fnGD b2 b3] w (RunEndM n ob b2 b3 rb acc ((dwn ltM (key, 0) l).reverse) w) := by
  have hr := descendS_any key false hM hmn hK hFb htb hlen
  unfold fnGD at hr ⊢
  have HR := Lib.hid hr
  clear hr hM hK
  go_enter Try.func36, Try.ntmps36
  go_wp2_with fail
  refine HR.out.mono ?_
  rintro e w2 ⟨rfl, h1, h2⟩
  have H1 := Lib.hid h1
  clear h1 HR
  go_wp2_with fail
  first
  | refine bodyPost_end (v := .tuple #[]) (by simp [results, Try.results36, go_sem]) rfl ?_
  | refine bodyPost_ret (v := .tuple #[]) (by simp [results, Try.results36, go_sem]) rfl ?_
  exact ⟨rfl, H1.out, h2⟩

set_option maxRecDepth 100000 in
theorem SetDescend_any {mn mx : Nat} {w : World} {F : Nat → Prop} {t : Nat} {l : List (Int × Int)} (k : Int) {n : Int} {ob b3 : Nat} (hM : MapIn mn mx w F t l) (hmn : 1 ≤ mn)
    (ho : w.heap[ob]? = some (.cells #[.slice none 0 0] 22 (0, 0))) (h2 : w.heap[b3]? = some (.cells #[.pointer (some ⟨ob, 0, none⟩)] 43 (0, 0))) (h3 : w.heap[b3 + 1]? = some (.cells #[.int .i64 n] 3 (0, 0)))
    (n2 : ob ≠ b3) (n3 : ob ≠ b3 + 1) (hFb : ∀ b, F b → b ≠ ob) (htb : t ≠ ob) (hlen : l.length ≤ 1000000000000) :
    Calls Try.prog 22 #[.pointer (some ⟨t, 0, none⟩), .int .i64 k, fnI b3 (b3 + 1)] w (SetRunPost n ob b3 ((dwn ltM (k, 0) l).reverse.map Prod.fst) w) := by
  have hmf : ∀ (fn : Fn) (first cap : Array Value) (w : World), (Instr.makeFunc fn first cap).run Try.prog w = .ok (.func fn first cap) w := fun _ _ _ _ => rfl
  obtain ⟨w1, hw1⟩ : ∃ w1, w1 = w.alloc (.cells #[fnI b3 (b3 + 1)] 41) := ⟨_, rfl⟩
  have hc1 : Chg (fun _ _ => False) w w1 := by rw [hw1]; exact (Chg.refl _ _).alloc _
  have hs1 : w1.heap.size = w.heap.size + 1 := by rw [hw1]; simp
  have hb1 : w1.heap[w.heap.size]? = some (.cells #[fnI b3 (b3 + 1)] 41 (0, 0)) := by rw [hw1]; exact ha_at _ _ rfl
  have hob := heap_lt ho
  have hp2 := heap_lt h2
  have hp3 := heap_lt h3
  have hbl : ∀ {b : Nat} {o : Obj}, w.heap[b]? = some o → w1.heap[b]? = some o := fun h => by rw [hc1.block (heap_lt h) (fun _ h => h)]; exact h
  have hK : KeptM n ob w.heap.size b3 w1.heap.size w1 [] :=
    ⟨⟨⟨_, hbl ho, OwnE.nil _ _ _⟩, hbl h2, hbl h3, by omega, by omega, by omega, n2, n3, Nat.le_refl _⟩, hb1, by omega, by omega⟩
  have hr := MapDescend_any k (hM.chg hc1) hmn hK (fun b hb h => by
    rcases h with h | h
    · exact hFb b hb h
    · have := hM.famLt hb; omega) (fun b hb h => by
    have e : b = t := hb
    have := hM.own hb
    rcases h with h | h
    · omega
    · omega) (by simpa using hlen)
  unfold RunEndM at hr
  unfold fnGD at hr
  rw [hw1] at hr
  have HR := Lib.hid hr
  have HC1 := Lib.hid hc1
  have HS1 := Lib.hid hs1
  have HW1 := Lib.hid hw1
  clear hr hM hK hc1 hs1 hb1 ho h2 h3 hbl hw1
  unfold fnI at HR HW1 ⊢
  go_enter Try.func22, Try.ntmps22
  go_wp2_with fail
  refine HR.out.mono ?_
  rintro e w2 ⟨rfl, h1, h2⟩
  rw [← HW1.out] at h1 h2
  have H1 := Lib.hid h1
  have H2 := Lib.hid h2
  clear h1 h2 HR
  go_wp2_with fail
  first
  | refine bodyPost_end (v := .tuple #[]) (by simp [results, Try.results22, go_sem]) rfl ?_
  | refine bodyPost_ret (v := .tuple #[]) (by simp [results, Try.results22, go_sem]) rfl ?_
  have hk := H1.out
  unfold KeptM at hk
  rw [runL_first] at hk
  have e1 : ∀ L : List (Int × Int), (firstN n L).map Prod.fst = firstN n (L.map Prod.fst) := fun L => by
    unfold firstN
    rw [List.length_map]
    split
    · rfl
    · rw [List.map_take]
  rw [e1] at hk
  obtain ⟨v, g1, g2⟩ := hk.i.o
  exact ⟨rfl, ⟨v, _, g1, g2, by have := HS1.out; omega⟩, (HC1.out.mono (fun _ _ _ h => h.elim)).trans (H2.out.mono (fun b _ _ h => h.imp id (fun h => by have := HS1.out; omega)))⟩

set_option maxRecDepth 100000 in
theorem SDescend_any (v : Value) (l : List Int) (k n : Int) (w : World) (hs : SlE intE w v l) (hlen : l.length ≤ 2147483647) :
    Calls Try.prog 11 #[v, .int .i64 k, .int .i64 n] w (OwnPost intE (firstN n ((dwn ltM (k, 0) (growL (l.map itK))).reverse.map Prod.fst)) w) := by
  have HG := Lib.hid (fun w1 (c : Chg (fun _ _ => False) w w1) => growSet_any v l w1 (hs.chg c) hlen)
  unfold GrowPost at HG
  have hgl := growL_lenK l l.length
  rw [List.take_of_length_le (by simp)] at hgl
  generalize growL (l.map itK) = L at HG hgl ⊢
  obtain ⟨a, cap, rfl⟩ := hs.form
  clear hs
  go_enter Try.func11, Try.ntmps11
  go_upto_region 2 with fail
  refine name_world (fun w1 => Chg (fun _ _ => False) w w1 ∧ w1.heap[w.heap.size]? = some (.cells #[.slice none 0 0] 22 (0, 0))) ⟨(Chg.refl _ _).alloc _, ha_at _ _ rfl⟩ ?_
  rintro w1 ⟨hc1, hb1⟩
  have hlt1 := heap_lt hb1
  have HB1 := Lib.hid hb1
  clear hb1
  go_wp2_with fail
  refine (HG.out _ hc1).mono ?_
  rintro e w2 ⟨t, F, rfl, ht, hM, hc2, hF2⟩
  have hsz2 := hc2.size
  have hb2 : w2.heap[w.heap.size]? = some (.cells #[.slice none 0 0] 22 (0, 0)) := by rw [hc2.block hlt1 (fun _ h => h)]; exact HB1.out
  have HM := Lib.hid hM
  have HB2 := Lib.hid hb2
  clear hM hb2 HG
  go_wp2_with fail
  refine (taker_any w.heap.size n w2).mono ?_
  rintro e w3 ⟨rfl, hw3⟩
  have hc3 : Chg (fun _ _ => False) w2 w3 := by rw [hw3]; exact ((Chg.refl _ _).alloc _).alloc _
  have hs3 : w3.heap.size = w2.heap.size + 2 := by rw [hw3]; simp
  have hp2 : w3.heap[w2.heap.size]? = some (.cells #[.pointer (some ⟨w.heap.size, 0, none⟩)] 43 (0, 0)) := by rw [hw3, ha_lt _ _ (by simp)]; exact ha_at _ _ rfl
  have hp3 : w3.heap[w2.heap.size + 1]? = some (.cells #[.int .i64 n] 3 (0, 0)) := by rw [hw3]; exact ha_at _ _ (by simp)
  have hb3 : w3.heap[w.heap.size]? = some (.cells #[.slice none 0 0] 22 (0, 0)) := by rw [hc3.block (heap_lt HB2.out) (fun _ h => h)]; exact HB2.out
  have ha := SetDescend_any k (HM.out.chg hc3) (by omega) hb3 hp2 hp3 (by omega) (by omega) (fun b hb => by have := hF2 b hb; omega) (by omega) (by omega)
  unfold SetRunPost fnI at ha
  have HA := Lib.hid ha
  have HS3 := Lib.hid hs3
  clear ha hp2 hp3 hb3 hw3 hs3
  go_wp2_with fail
  refine HA.out.mono ?_
  rintro e w4 ⟨rfl, ⟨v', rb, g1, g2, g3⟩, hc4⟩
  have c0 := cell_of_block g1 0
  simp only [List.getElem?_toArray, List.getElem?_cons_zero] at c0
  have HO := Lib.hid (show OwnE intE w4 v' _ w.heap.size from g2.mono (by have := HS3.out; omega))
  have HC := Lib.hid (show Chg (fun _ _ => False) w w4 from ((hc1.trans hc2).trans hc3).trans' hc4 (fun _ _ _ h => h) (fun b o hb h => by
    have := HS3.out
    rcases h with h | h
    · omega
    · omega))
  clear g1 g2 HA
  go_wp2_with fail
  go_ret
  exact ⟨v', rfl, HO.out, HC.out⟩
end Go.Proofs.Ytpgaedmhgchgeaa

namespace Go.Proofs.Ytpgaedmhgchgeaa
set_option linter.unusedSimpArgs false
set_option linter.unusedVariables false
open Go.RowKit

theorem alive3S : (growL (([5, 3, 9] : List Int).map itK)).length = 3 := by decide

theorem aliveS_any (w : World) : Calls Try.prog 13 #[] w fun e w' => e = .returned (.bool true) ∧ Chg (fun _ _ => False) w w' := by
  have hown : SlE intE (w.alloc (.cells #[.int .i64 5, .int .i64 3, .int .i64 9] 3)) (.slice (some ⟨w.heap.size, 0, none⟩) 3 3) [5, 3, 9] := by
    refine ⟨_, _, rfl, Nat.le_refl _, .inr ⟨w.heap.size, 0, rfl, fun j u hj => ?_⟩⟩
    rw [cell_of_block (ha_at _ _ rfl)]
    have e : flat intE.par [5, 3, 9] = [.int .i64 5, .int .i64 3, .int .i64 9] := rfl
    rw [e] at hj
    rw [Nat.zero_add]
    simpa using hj
  have hi := SInsert_any _ [5, 3, 9] _ hown (by decide)
  unfold OwnPost at hi
  have HIN := Lib.hid hi
  have hca := (Chg.refl (fun _ _ => False) w).alloc (.cells #[.int .i64 5, .int .i64 3, .int .i64 9] 3)
  clear hi hown
  go_enter Try.func13, Try.ntmps13
  go_wp2_with fail
  refine HIN.out.mono ?_
  rintro e w2 ⟨v, rfl, how, hc2⟩
  obtain ⟨a, c, hf⟩ := how.sl.form
  rw [List.length_map, alive3S] at hf
  subst hf
  clear how HIN
  go_wp2_with fail
  go_ret
  exact ⟨rfl, hca.trans hc2⟩

theorem firstN0 {α : Type} (l : List α) : firstN 0 l = l := by simp [firstN]
theorem firstN0M {α : Type} (l : List α) : M.firstN 0 l = l := by simp [M.firstN]

theorem chgM {A : Nat → Nat → Prop} {w w' : World} (h : M.Chg A w w') : Chg A w w' := ⟨h.os, h.tape, h.output, h.size, h.cells, h.other⟩

theorem slI {w : World} {v : Value} {xs : List Int} (h : M.SlE M.intE w v xs) : SlE intE w v xs := by
  obtain ⟨a, c, h1, h2, h3⟩ := h
  exact ⟨a, c, h1, h2, h3⟩

theorem slP {w : World} {v : Value} {xs : List (Int × Int)} (h : M.SlE M.itemE w v xs) : SlE itemE w v xs := by
  obtain ⟨a, c, h1, h2, h3⟩ := h
  exact ⟨a, c, h1, h2, h3⟩

theorem slM {w : World} {v : Value} {xs : List (Int × Int)} (h : SlE itemE w v xs) : M.SlE M.itemE w v xs := by
  obtain ⟨a, c, h1, h2, h3⟩ := h
  exact ⟨a, c, h1, h2, h3⟩

theorem insL_eq {α : Type} (lt : α → α → Bool) (x : α) : ∀ l : List α, M.insL lt x l = insL lt x l
  | [] => rfl
  | y :: l => by
    have ih := insL_eq lt x l
    simp only [M.insL, insL, ih]

theorem growL_eq (l : List (Int × Int)) : M.growL l = growL l := by
  unfold M.growL growL
  congr 1
  funext acc x
  exact insL_eq ltM x acc

theorem dwnS_len (x : Int × Int) (l : List (Int × Int)) : (dwn ltM x l).length ≤ l.length := dwn_len _ _ _
theorem uppS_len (x : Int × Int) (l : List (Int × Int)) : (upp ltM x l).length ≤ l.length := (List.dropWhile_sublist _).length_le

theorem MKeysN (v : Value) (l : List (Int × Int)) (w : World) (hl : SlE itemE w v l) (hlen : l.length ≤ 2147483647) :
    Calls Try.prog 7 #[.int .i64 2, v] w fun e w' => ∃ v', e = .returned v' ∧ SlE intE w' v' ((growL l).map Prod.fst) ∧ Chg (fun _ _ => False) w w' := by
  refine (M.MKeys_any 2 v l w (by decide) (by decide) (slM hl) hlen).mono ?_
  rintro e w' ⟨v', rfl, h1, h2⟩
  exact ⟨v', rfl, by rw [← growL_eq]; exact slI h1.sl, chgM h2⟩

theorem MAscendN (v : Value) (l : List (Int × Int)) (k : Int) (w : World) (hl : SlE itemE w v l) (hlen : l.length ≤ 2147483647) :
    Calls Try.prog 10 #[.int .i64 2, v, .int .i64 k, .int .i64 0] w fun e w' => ∃ v', e = .returned v' ∧ SlE itemE w' v' (upp ltM (itK k) (growL l)) ∧ Chg (fun _ _ => False) w w' := by
  refine (M.MAscend_any 2 v l k 0 w (by decide) (by decide) (slM hl) hlen).mono ?_
  rintro e w' ⟨v', rfl, h1, h2⟩
  rw [firstN0M, growL_eq] at h1
  exact ⟨v', rfl, slP h1.sl, chgM h2⟩

theorem MDescendN (v : Value) (l : List (Int × Int)) (k : Int) (w : World) (hl : SlE itemE w v l) (hlen : l.length ≤ 2147483647) :
    Calls Try.prog 12 #[.int .i64 2, v, .int .i64 k, .int .i64 0] w fun e w' => ∃ v', e = .returned v' ∧ SlE itemE w' v' (dwn ltM (k, 0) (growL l)).reverse ∧ Chg (fun _ _ => False) w w' := by
  refine (M.MDescend_any 2 v l k 0 w (by decide) (by decide) (slM hl) hlen).mono ?_
  rintro e w' ⟨v', rfl, h1, h2⟩
  rw [firstN0M, growL_eq] at h1
  exact ⟨v', rfl, slP h1.sl, chgM h2⟩

set_option maxRecDepth 100000 in
set_option maxHeartbeats 2000000 in
theorem law_SMaps (v : Value) (l : List Int) (k : Int) (w : World) (hl : SlE intE w v l) :
    Calls Try.prog 3 #[v, .int .i64 k] w fun e w' => e = .returned (.bool true) ∧ Chg (fun _ _ => False) w w' := by
  have HL := Lib.hid hl
  obtain ⟨a, cap, hf⟩ := hl.form
  by_cases hlen : l.length ≤ 2147483647
  rotate_left
  · have hlen' : (2147483647 : Int) < (l.length : Int) := by omega
    subst hf
    clear hl
    go_enter Try.func3, Try.ntmps3
    go_wp2
    go_ret
    exact ⟨rfl, Chg.refl _ _⟩
  have hlen' : ¬ (2147483647 : Int) < (l.length : Int) := by omega
  have H1 := fun w1 (c : Chg (fun _ _ => False) w w1) => specItems_any v l w1 (hl.chg c) (by omega)
  have H2 := fun w1 (c : Chg (fun _ _ => False) w w1) => SInsert_any v l w1 (hl.chg c) hlen
  have H3 := fun v2 w1 (h : SlE itemE w1 v2 (l.map itK)) => MKeysN v2 (l.map itK) w1 h (by simpa using hlen)
  have H4 := fun w1 (c : Chg (fun _ _ => False) w w1) => SAscend_any v l k 0 w1 (hl.chg c) hlen
  have H5 := fun v2 w1 (h : SlE itemE w1 v2 (l.map itK)) => MAscendN v2 (l.map itK) k w1 h (by simpa using hlen)
  have H6 := fun w1 (c : Chg (fun _ _ => False) w w1) => SDescend_any v l k 0 w1 (hl.chg c) hlen
  have H7 := fun v2 w1 (h : SlE itemE w1 v2 (l.map itK)) => MDescendN v2 (l.map itK) k w1 h (by simpa using hlen)
  simp only [firstN0] at H4 H6
  have hgl := growL_lenK l l.length
  rw [List.take_of_length_le (by simp)] at hgl
  have hul := uppS_len (itK k) (growL (l.map itK))
  have hdl := dwnS_len (k, 0) (growL (l.map itK))
  unfold OwnPost at H1 H2 H4 H6
  generalize growL (l.map itK) = L at *
  generalize hI : l.map itK = I at *
  have hil : I.length = l.length := by rw [← hI]; simp
  generalize upp ltM (itK k) L = U at *
  have hdr : (dwn ltM (k, 0) L).reverse.length ≤ L.length := by rw [List.length_reverse]; exact hdl
  generalize (dwn ltM (k, 0) L).reverse = D at *
  replace H1 := Lib.hid H1
  replace H2 := Lib.hid H2
  replace H3 := Lib.hid H3
  replace H4 := Lib.hid H4
  replace H5 := Lib.hid H5
  replace H6 := Lib.hid H6
  replace H7 := Lib.hid H7
  have hLl : (L.map Prod.fst).length ≤ 2147483648 := by simp; omega
  have hUl : U.length ≤ 2147483648 := by omega
  have hDl : D.length ≤ 2147483648 := by omega
  have hUm : (U.map Prod.fst).length ≤ 2147483648 := by simp; omega
  have hDm : (D.map Prod.fst).length ≤ 2147483648 := by simp; omega
  subst hf
  clear hl hI hgl hul hdl hdr hil
  go_enter Try.func3, Try.ntmps3
  go_wp2_with fail
  refine (H1.out _ (Chg.refl _ _)).mono ?_
  rintro e w1 ⟨v1, rfl, how1, hc1⟩
  have HI1 := Lib.hid how1.sl
  clear how1
  go_wp2_with fail
  refine (H2.out _ hc1).mono ?_
  rintro e w2 ⟨v2, rfl, how2, hc2⟩
  have HA := Lib.hid how2.sl
  have hc02 := hc1.trans hc2
  clear how2
  go_wp2_with fail
  refine (H3.out v1 _ (HI1.out.chg hc2)).mono ?_
  rintro e w3 ⟨v3, rfl, hs3, hc3⟩
  have HB := Lib.hid hs3
  have hc03 := hc02.trans hc3
  have hc13 := hc2.trans hc3
  clear hs3
  go_wp2_with fail
  refine (equal_int _ _ _ _ (HA.out.chg hc3) HB.out (by omega)).mono ?_
  rintro e w4 ⟨rfl, hc4⟩
  have hc04 := hc03.trans hc4
  have hc14 := hc13.trans hc4
  clear HA HB
  go_wp2_with fail
  refine (H4.out _ hc04).mono ?_
  rintro e w5 ⟨v5, rfl, how5, hc5⟩
  have HA := Lib.hid how5.sl
  have hc05 := hc04.trans hc5
  have hc15 := hc14.trans hc5
  clear how5
  go_wp2_with fail
  refine (H5.out v1 _ (HI1.out.chg hc15)).mono ?_
  rintro e w6 ⟨v6, rfl, hs6, hc6⟩
  have HK := Lib.hid (specKeys_any v6 U w6 hs6 hUl)
  unfold OwnPost at HK
  clear hs6
  go_wp2_with fail
  refine HK.out.mono ?_
  rintro e w7 ⟨v7, rfl, how7, hc7⟩
  have HB := Lib.hid how7.sl
  have hc57 := hc6.trans hc7
  have hc07 := hc05.trans hc57
  have hc17 := hc15.trans hc57
  clear how7 HK
  go_wp2_with fail
  refine (equal_int _ _ _ _ (HA.out.chg hc57) HB.out (by omega)).mono ?_
  rintro e w8 ⟨rfl, hc8⟩
  have hc08 := hc07.trans hc8
  have hc18 := hc17.trans hc8
  clear HA HB
  go_wp2_with fail
  refine (H6.out _ hc08).mono ?_
  rintro e w9 ⟨v9, rfl, how9, hc9⟩
  have HA := Lib.hid how9.sl
  have hc09 := hc08.trans hc9
  have hc19 := hc18.trans hc9
  clear how9
  go_wp2_with fail
  refine (H7.out v1 _ (HI1.out.chg hc19)).mono ?_
  rintro e w10 ⟨v10, rfl, hs10, hc10⟩
  have HK := Lib.hid (specKeys_any v10 D w10 hs10 hDl)
  unfold OwnPost at HK
  clear hs10
  go_wp2_with fail
  refine HK.out.mono ?_
  rintro e w11 ⟨v11, rfl, how11, hc11⟩
  have HB := Lib.hid how11.sl
  have hc911 := hc10.trans hc11
  have hc011 := hc09.trans hc911
  clear how11 HK
  go_wp2_with fail
  refine (equal_int _ _ _ _ (HA.out.chg hc911) HB.out (by omega)).mono ?_
  rintro e w12 ⟨rfl, hc12⟩
  have hc012 := hc011.trans hc12
  clear HA HB
  go_wp2_with fail
  refine (aliveS_any _).mono ?_
  rintro e w13 ⟨rfl, hc13⟩
  go_wp2_with fail
  go_ret
  exact ⟨rfl, hc012.trans hc13⟩
end Go.Proofs.Ytpgaedmhgchgeaa
