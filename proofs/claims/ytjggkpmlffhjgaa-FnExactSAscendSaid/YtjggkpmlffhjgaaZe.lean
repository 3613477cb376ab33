/- ascend of sets from a pivot on; Set.Ascend; SAscend. -/
import Derived.Test.YtjggkpmlffhjgaaAg
import Derived.Test.YtjggkpmlffhjgaaZb
namespace Go.Proofs.Ytjggkpmlffhjgaa
set_option linter.unusedSimpArgs false
set_option linter.unusedVariables false
open Go.RowKit

def RunEndM (n : Int) (ob b2 b3 rb : Nat) (acc l : List (Int × Int)) (w : World) (e : Ending) (w' : World) : Prop :=
  e = .returned (.tuple #[]) ∧ KeptM n ob b2 b3 rb w' (runL (contN n) acc l).1 ∧ Chg (fun b _ => TakeB ob rb b) w w'


set_option maxRecDepth 100000 in
theorem ascendS_any {mn mx : Nat} {w : World} {F : Nat → Prop} {t : Nat} {l : List (Int × Int)} (key : Int × Int) (mt : Bool) {n : Int} {ob b2 b3 rb : Nat} {acc : List (Int × Int)} (hM : MapIn mn mx w F t l) (hmn : 1 ≤ mn) (hK : KeptM n ob b2 b3 rb w acc) (hFb : ∀ b, F b → ¬ TakeB ob rb b) (htb : ∀ b, MOwn 0 t b → ¬ TakeB ob rb b) (hlen : acc.length + l.length ≤ 1000000000000) :
    Calls Try.prog 147 #[.pointer (some ⟨t, 0, none⟩), .int .i64 key.1, fnG b2 b3, .bool mt] w (RunEndM n ob b2 b3 rb acc (upp ltM key l) w) := by
  rcases hM with ⟨rfl, _, hB⟩ | ⟨H, h, T, hI, hB, rfl, h1⟩
  · have c2 : w.cell? ⟨t, 2, none⟩ = some (.pointer none) := hB.c2
    have HK := Lib.hid hK
    clear hK hB
    unfold fnG
    go_enter Try.func147, Try.ntmps147
    go_wp2_with fail
    first
    | refine bodyPost_end (v := .tuple #[]) (by simp [results, Try.results147, go_sem]) rfl ?_
    | refine bodyPost_ret (v := .tuple #[]) (by simp [results, Try.results147, go_sem]) rfl ?_
    exact ⟨rfl, HK.out, Chg.refl _ _⟩
  · have c2 : w.cell? ⟨t, 2, none⟩ = some (.pointer (some ⟨rid T, 0, none⟩)) := hB.c2
    have hr := asc_all h 0 mn mx w F H T t ⟨t, 2, none⟩ key mt n ob b2 b3 rb acc hI.fam hI.isT hI.sh hmn h1 hI.srt hI.m1000 hB.c2 hB.at_ hK hFb htb hlen
    obtain ⟨q, hq⟩ : ∃ q, (runL (contN n) acc (upp ltM key (toL h T))).2 = q := ⟨_, rfl⟩
    unfold RunPostM at hr
    rw [hq] at hr
    unfold fnG at hr ⊢
    have HR := Lib.hid hr
    clear hr hK hB hI hq
    go_enter Try.func147, Try.ntmps147
    go_wp2_with fail
    refine HR.out.mono ?_
    rintro e w2 ⟨rfl, h1, h2⟩
    have H1 := Lib.hid h1
    clear h1 HR
    go_wp2_with fail
    first
    | refine bodyPost_end (v := .tuple #[]) (by simp [results, Try.results147, go_sem]) rfl ?_
    | refine bodyPost_ret (v := .tuple #[]) (by simp [results, Try.results147, go_sem]) rfl ?_
    exact ⟨rfl, H1.out, h2⟩

set_option maxRecDepth 100000 in
theorem MapAscend_any {mn mx : Nat} {w : World} {F : Nat → Prop} {t : Nat} {l : List (Int × Int)} (key : Int × Int) {n : Int} {ob b2 b3 rb : Nat} {acc : List (Int × Int)} (hM : MapIn mn mx w F t l) (hmn : 1 ≤ mn) (hK : KeptM n ob b2 b3 rb w acc) (hFb : ∀ b, F b → ¬ TakeB ob rb b) (htb : ∀ b, MOwn 0 t b → ¬ TakeB ob rb b) (hlen : acc.length + l.length ≤ 1000000000000) :
    Calls Try.prog 104 #[.pointer (some ⟨t, 0, none⟩), .int .i64 key.1, fnG b2 b3] w (RunEndM n ob b2 b3 rb acc (upp ltM key l) w) := by
  have hr := ascendS_any key false hM hmn hK hFb htb hlen
  unfold fnG at hr ⊢
  have HR := Lib.hid hr
  clear hr hM hK
  go_enter Try.func104, Try.ntmps104
  go_wp2_with fail
  refine HR.out.mono ?_
  rintro e w2 ⟨rfl, h1, h2⟩
  have H1 := Lib.hid h1
  clear h1 HR
  go_wp2_with fail
  first
  | refine bodyPost_end (v := .tuple #[]) (by simp [results, Try.results104, go_sem]) rfl ?_
  | refine bodyPost_ret (v := .tuple #[]) (by simp [results, Try.results104, go_sem]) rfl ?_
  exact ⟨rfl, H1.out, h2⟩

def SetRunPost (n : Int) (ob b3 : Nat) (l : List Int) (w : World) (e : Ending) (w' : World) : Prop :=
  e = .returned (.tuple #[]) ∧ (∃ v rb, w'.heap[ob]? = some (.cells #[v] 22 (0, 0)) ∧ OwnE intE w' v (firstN n l) rb ∧ w.heap.size ≤ rb) ∧ Chg (fun b _ => b = ob ∨ w.heap.size ≤ b) w w'

set_option maxRecDepth 100000 in
theorem SetAscend_any {mn mx : Nat} {w : World} {F : Nat → Prop} {t : Nat} {l : List (Int × Int)} (k : Int) {n : Int} {ob b3 : Nat} (hM : MapIn mn mx w F t l) (hmn : 1 ≤ mn)
    (ho : w.heap[ob]? = some (.cells #[.slice none 0 0] 22 (0, 0))) (h2 : w.heap[b3]? = some (.cells #[.pointer (some ⟨ob, 0, none⟩)] 88 (0, 0))) (h3 : w.heap[b3 + 1]? = some (.cells #[.int .i64 n] 3 (0, 0)))
    (n2 : ob ≠ b3) (n3 : ob ≠ b3 + 1) (hFb : ∀ b, F b → b ≠ ob) (htb : t ≠ ob) (hlen : l.length ≤ 1000000000000) :
    Calls Try.prog 61 #[.pointer (some ⟨t, 0, none⟩), .int .i64 k, fnI b3 (b3 + 1)] w (SetRunPost n ob b3 ((upp ltM (itK k) l).map Prod.fst) w) := by
  have hmf : ∀ (fn : Fn) (first cap : Array Value) (w : World), (Instr.makeFunc fn first cap).run Try.prog w = .ok (.func fn first cap) w := fun _ _ _ _ => rfl
  obtain ⟨w1, hw1⟩ : ∃ w1, w1 = w.alloc (.cells #[fnI b3 (b3 + 1)] 29) := ⟨_, rfl⟩
  have hc1 : Chg (fun _ _ => False) w w1 := by rw [hw1]; exact (Chg.refl _ _).alloc _
  have hs1 : w1.heap.size = w.heap.size + 1 := by rw [hw1]; simp
  have hb1 : w1.heap[w.heap.size]? = some (.cells #[fnI b3 (b3 + 1)] 29 (0, 0)) := by rw [hw1]; exact ha_at _ _ rfl
  have hob := heap_lt ho
  have hp2 := heap_lt h2
  have hp3 := heap_lt h3
  have hbl : ∀ {b : Nat} {o : Obj}, w.heap[b]? = some o → w1.heap[b]? = some o := fun h => by rw [hc1.block (heap_lt h) (fun _ h => h)]; exact h
  have hK : KeptM n ob w.heap.size b3 w1.heap.size w1 [] :=
    ⟨⟨⟨_, hbl ho, OwnE.nil _ _ _⟩, hbl h2, hbl h3, by omega, by omega, by omega, n2, n3, Nat.le_refl _⟩, hb1, by omega, by omega⟩
  have hr := MapAscend_any (itK k) (hM.chg hc1) hmn hK (fun b hb h => by
    rcases h with h | h
    · exact hFb b hb h
    · have := hM.famLt hb; omega) (fun b hb h => by
    have e : b = t := hb
    have := hM.own hb
    rcases h with h | h
    · omega
    · omega) (by simpa using hlen)
  unfold RunEndM at hr
  unfold fnG itK at hr
  rw [hw1] at hr
  have HR := Lib.hid hr
  have HC1 := Lib.hid hc1
  have HS1 := Lib.hid hs1
  have HW1 := Lib.hid hw1
  clear hr hM hK hc1 hs1 hb1 ho h2 h3 hbl hw1
  unfold fnI at HR HW1 ⊢
  go_enter Try.func61, Try.ntmps61
  go_wp2_with fail
  refine HR.out.mono ?_
  rintro e w2 ⟨rfl, h1, h2⟩
  rw [← HW1.out] at h1 h2
  have H1 := Lib.hid h1
  have H2 := Lib.hid h2
  clear h1 h2 HR
  go_wp2_with fail
  first
  | refine bodyPost_end (v := .tuple #[]) (by simp [results, Try.results61, go_sem]) rfl ?_
  | refine bodyPost_ret (v := .tuple #[]) (by simp [results, Try.results61, go_sem]) rfl ?_
  have hk := H1.out
  unfold KeptM at hk
  rw [runL_first] at hk
  have e1 : ∀ L : List (Int × Int), (firstN n L).map Prod.fst = firstN n (L.map Prod.fst) := fun L => by
    unfold firstN
    rw [List.length_map]
    split
    · rfl
    · rw [List.map_take]
  rw [e1] at hk
  obtain ⟨v, g1, g2⟩ := hk.i.o
  exact ⟨rfl, ⟨v, _, g1, g2, by have := HS1.out; omega⟩, (HC1.out.mono (fun _ _ _ h => h.elim)).trans (H2.out.mono (fun b _ _ h => h.imp id (fun h => by have := HS1.out; omega)))⟩

set_option maxRecDepth 100000 in
theorem SAscend_any (v : Value) (l : List Int) (k n : Int) (w : World) (hs : SlE intE w v l) (hlen : l.length ≤ 2147483647) :
    Calls Try.prog 27 #[v, .int .i64 k, .int .i64 n] w (OwnPost intE (firstN n ((upp ltM (itK k) (growL (l.map itK))).map Prod.fst)) w) := by
  have HG := Lib.hid (fun w1 (c : Chg (fun _ _ => False) w w1) => growSet_any v l w1 (hs.chg c) hlen)
  unfold GrowPost at HG
  have hgl := growL_lenK l l.length
  rw [List.take_of_length_le (by simp)] at hgl
  generalize growL (l.map itK) = L at HG hgl ⊢
  obtain ⟨a, cap, rfl⟩ := hs.form
  clear hs
  go_enter Try.func27, Try.ntmps27
  go_upto_region 2 with fail
  refine name_world (fun w1 => Chg (fun _ _ => False) w w1 ∧ w1.heap[w.heap.size]? = some (.cells #[.slice none 0 0] 22 (0, 0))) ⟨(Chg.refl _ _).alloc _, ha_at _ _ rfl⟩ ?_
  rintro w1 ⟨hc1, hb1⟩
  have hlt1 := heap_lt hb1
  have HB1 := Lib.hid hb1
  clear hb1
  go_wp2_with fail
  refine (HG.out _ hc1).mono ?_
  rintro e w2 ⟨t, F, rfl, ht, hM, hc2, hF2⟩
  have hsz2 := hc2.size
  have hb2 : w2.heap[w.heap.size]? = some (.cells #[.slice none 0 0] 22 (0, 0)) := by rw [hc2.block hlt1 (fun _ h => h)]; exact HB1.out
  have HM := Lib.hid hM
  have HB2 := Lib.hid hb2
  clear hM hb2 HG
  go_wp2_with fail
  refine (taker_any w.heap.size n w2).mono ?_
  rintro e w3 ⟨rfl, hw3⟩
  have hc3 : Chg (fun _ _ => False) w2 w3 := by rw [hw3]; exact ((Chg.refl _ _).alloc _).alloc _
  have hs3 : w3.heap.size = w2.heap.size + 2 := by rw [hw3]; simp
  have hp2 : w3.heap[w2.heap.size]? = some (.cells #[.pointer (some ⟨w.heap.size, 0, none⟩)] 88 (0, 0)) := by rw [hw3, ha_lt _ _ (by simp)]; exact ha_at _ _ rfl
  have hp3 : w3.heap[w2.heap.size + 1]? = some (.cells #[.int .i64 n] 3 (0, 0)) := by rw [hw3]; exact ha_at _ _ (by simp)
  have hb3 : w3.heap[w.heap.size]? = some (.cells #[.slice none 0 0] 22 (0, 0)) := by rw [hc3.block (heap_lt HB2.out) (fun _ h => h)]; exact HB2.out
  have ha := SetAscend_any k (HM.out.chg hc3) (by omega) hb3 hp2 hp3 (by omega) (by omega) (fun b hb => by have := hF2 b hb; omega) (by omega) (by omega)
  unfold SetRunPost fnI at ha
  have HA := Lib.hid ha
  have HS3 := Lib.hid hs3
  clear ha hp2 hp3 hb3 hw3 hs3
  go_wp2_with fail
  refine HA.out.mono ?_
  rintro e w4 ⟨rfl, ⟨v', rb, g1, g2, g3⟩, hc4⟩
  have c0 := cell_of_block g1 0
  simp only [List.getElem?_toArray, List.getElem?_cons_zero] at c0
  have HO := Lib.hid (show OwnE intE w4 v' _ w.heap.size from g2.mono (by have := HS3.out; omega))
  have HC := Lib.hid (show Chg (fun _ _ => False) w w4 from ((hc1.trans hc2).trans hc3).trans' hc4 (fun _ _ _ h => h) (fun b o hb h => by
    have := HS3.out
    rcases h with h | h
    · omega
    · omega))
  clear g1 g2 HA
  go_wp2_with fail
  go_ret
  exact ⟨v', rfl, HO.out, HC.out⟩
end Go.Proofs.Ytjggkpmlffhjgaa
