/- ascend with a hint or without one, and its methods (trees of interfaces). -/
import Derived.Test.YtcabnhpnkaielaaAg
import Derived.Test.YtcabnhpnkaielaaCd
namespace Go.Proofs.Ytcabnhpnkaielaa
set_option linter.unusedSimpArgs false
set_option linter.unusedVariables false
open Go.RowKit

def RunEndH (hv : Option Nat) (n : Int) (ob b2 b3 rb : Nat) (acc l : List (Int × Int)) (w : World) (e : Ending) (w' : World) : Prop :=
  e = .returned (.tuple #[]) ∧ Kept n ob b2 b3 rb w' (runL (contN n) acc l).1 ∧ HintO hv w' ∧ Chg (fun b _ => HT hv ob rb b) w w'

theorem height_le {α : Type} {mn mx : Nat} (hmn : 1 ≤ mn) : (h : Nat) → (T : BT α h) → Sh mn mx h T → 1 ≤ (its T).length → h ≤ (toL h T).length
  | 0, _, _, _ => Nat.zero_le _
  | h + 1, T, hs, h1 => by
    obtain ⟨c, hc⟩ : ∃ c, T.2.2[0]? = some c := ⟨_, List.getElem?_eq_getElem (by have := hs.2.1; omega)⟩
    have hcm : c ∈ T.2.2 := List.mem_of_getElem? hc
    have h2 := height_le hmn h c (hs.2.2 c hcm).2 (by have := (hs.2.2 c hcm).1; omega)
    have h3 := kid_lt hs hcm h1
    omega

set_option maxRecDepth 100000 in
theorem ascendH_any {ord : List Int} {k0 : Kc ord} {mn mx : Nat} {w : World} {F : Nat → Prop} {t : Nat} {l : List (It ord)} (key : It ord) (mt : Bool) (hv : Option Nat) {n : Int} {ob b2 b3 rb : Nat} {acc : List (It ord)} (hM : MapIn k0 mn mx w F t l) (hmn : 1 ≤ mn) (hK : Kept n ob b2 b3 rb w acc) (hH : HintO hv w) (hHK : HintK hv ob b2 b3 rb) (hFb : ∀ b, F b → ¬ HT hv ob rb b) (htb : ∀ b, MOwn k0 t b → ¬ HT hv ob rb b) (hlen : acc.length + l.length ≤ 1000000000000) :
    Calls Try.prog 105 #[.pointer (some ⟨t, 0, none⟩), .iface 26 (.agg #[.int .i64 key.1, .int .i64 key.2]), fnG b2 b3, .bool mt, hintV hv] w (RunEndH hv n ob b2 b3 rb acc (upp ltM key l) w) := by
  rcases hM with ⟨rfl, _, hB⟩ | ⟨H, h, T, hI, hB, rfl, h1⟩
  · have c2 : w.cell? ⟨t, 2, none⟩ = some (.pointer none) := hB.c2
    have HK := Lib.hid hK
    have HH := Lib.hid hH
    clear hK hB hH
    unfold fnG hintV
    go_enter Try.func105, Try.ntmps105
    go_wp2_with fail
    refine (lock_any t mt _).mono ?_
    rintro e w' ⟨rfl, rfl⟩
    go_wp2_with fail
    refine bodyPost_ret (v := .tuple #[]) (by simp [results, Try.results105, go_sem]) rfl ?_
    exact ⟨rfl, HK.out, HH.out, Chg.refl _ _⟩
  · have c2 : w.cell? ⟨t, 2, none⟩ = some (.pointer (some ⟨rid T, 0, none⟩)) := hB.c2
    have hhl := height_le hmn h T hI.sh h1
    have hr := asc_all h k0 mn mx w F H T t ⟨t, 2, none⟩ key 0 hv mt n ob b2 b3 rb acc hI.fam hI.isT hI.sh hmn h1 hI.srt hI.m1000 hB.c2 hB.at_ hK hH hHK hFb htb (by omega) hlen
    rw [show ((0 : Nat) : Int) = 0 from rfl] at hr
    obtain ⟨q, hq⟩ : ∃ q, (runL (contN n) acc (upp ltM key (toL h T))).2 = q := ⟨_, rfl⟩
    unfold RunPostH at hr
    rw [hq] at hr
    unfold fnG hintV at hr ⊢
    have HR := Lib.hid hr
    clear hr hK hB hH hI hq
    go_enter Try.func105, Try.ntmps105
    go_wp2_with fail
    refine (lock_any t mt _).mono ?_
    rintro e w' ⟨rfl, rfl⟩
    go_wp2_with fail
    refine HR.out.mono ?_
    rintro e w2 ⟨rfl, h1, h3, h2⟩
    have H1 := Lib.hid h1
    have H3 := Lib.hid h3
    clear h1 h3 HR
    go_wp2_with fail
    refine bodyPost_ret (v := .tuple #[]) (by simp [results, Try.results105, go_sem]) rfl ?_
    exact ⟨rfl, H1.out, H3.out, h2⟩

theorem Ascend_any {ord : List Int} {k0 : Kc ord} {mn mx : Nat} {w : World} {F : Nat → Prop}  {t : Nat} {l : List (It ord)} (key : It ord)  {n : Int} {ob b2 b3 rb : Nat} {acc : List (It ord)}  (hM : MapIn k0 mn mx w F t l) (hmn : 1 ≤ mn) (hK : Kept n ob b2 b3 rb w acc) (hH : HintO none w) (hHK : HintK none ob b2 b3 rb) (hFb : ∀ b, F b → ¬ HT none ob rb b) (htb : ∀ b, MOwn k0 t b → ¬ HT none ob rb b) (hlen : acc.length + l.length ≤ 1000000000000) :
    Calls Try.prog 83 #[.pointer (some ⟨t, 0, none⟩), .iface 26 (.agg #[.int .i64 key.1, .int .i64 key.2]), fnG b2 b3] w (RunEndH none n ob b2 b3 rb acc (upp ltM key l) w) := by
  have hr := ascendH_any key false none hM hmn hK hH hHK hFb htb hlen
  unfold fnG at hr
  try unfold hintV at hr
  unfold fnG 
  have HR := Lib.hid hr
  skip
  clear hr hK hH 
  go_enter Try.func83, Try.ntmps83
  go_wp2_with fail
  refine HR.out.mono ?_
  rintro e w1 ⟨rfl, h1, h3, h2⟩
  have H1 := Lib.hid h1
  have H3 := Lib.hid h3
  clear h1 h3 HR
  go_wp2_with fail
  refine bodyPost_ret (v := .tuple #[]) (by simp [results, Try.results83, go_sem]) rfl ?_
  exact ⟨rfl, H1.out, H3.out, h2⟩

theorem AscendHint_any {ord : List Int} {k0 : Kc ord} {mn mx : Nat} {w : World} {F : Nat → Prop}  {t : Nat} {l : List (It ord)} (key : It ord) (hv : Option Nat) {n : Int} {ob b2 b3 rb : Nat} {acc : List (It ord)}  (hM : MapIn k0 mn mx w F t l) (hmn : 1 ≤ mn) (hK : Kept n ob b2 b3 rb w acc) (hH : HintO hv w) (hHK : HintK hv ob b2 b3 rb) (hFb : ∀ b, F b → ¬ HT hv ob rb b) (htb : ∀ b, MOwn k0 t b → ¬ HT hv ob rb b) (hlen : acc.length + l.length ≤ 1000000000000) :
    Calls Try.prog 86 #[.pointer (some ⟨t, 0, none⟩), .iface 26 (.agg #[.int .i64 key.1, .int .i64 key.2]), fnG b2 b3, hintV hv] w (RunEndH hv n ob b2 b3 rb acc (upp ltM key l) w) := by
  have hr := ascendH_any key false hv hM hmn hK hH hHK hFb htb hlen
  unfold fnG at hr
  try unfold hintV at hr
  unfold fnG hintV
  have HR := Lib.hid hr
  skip
  clear hr hK hH 
  go_enter Try.func86, Try.ntmps86
  go_wp2_with fail
  refine HR.out.mono ?_
  rintro e w1 ⟨rfl, h1, h3, h2⟩
  have H1 := Lib.hid h1
  have H3 := Lib.hid h3
  clear h1 h3 HR
  go_wp2_with fail
  refine bodyPost_ret (v := .tuple #[]) (by simp [results, Try.results86, go_sem]) rfl ?_
  exact ⟨rfl, H1.out, H3.out, h2⟩

theorem HAscend_any {ord : List Int} {k0 : Kc ord} {mn mx : Nat} {w : World} {F : Nat → Prop} {hp : Nat} {t : Nat} {l : List (It ord)} (key : It ord)  {n : Int} {ob b2 b3 rb : Nat} {acc : List (It ord)} (hh : HeapAt k0 w hp t) (hM : MapIn k0 mn mx w F t l) (hmn : 1 ≤ mn) (hK : Kept n ob b2 b3 rb w acc) (hH : HintO none w) (hHK : HintK none ob b2 b3 rb) (hFb : ∀ b, F b → ¬ HT none ob rb b) (htb : ∀ b, MOwn k0 t b → ¬ HT none ob rb b) (hlen : acc.length + l.length ≤ 1000000000000) :
    Calls Try.prog 61 #[.pointer (some ⟨hp, 0, none⟩), .iface 26 (.agg #[.int .i64 key.1, .int .i64 key.2]), fnG b2 b3] w (RunEndH none n ob b2 b3 rb acc (upp ltM key l) w) := by
  have hr := Ascend_any key hM hmn hK hH hHK hFb htb hlen
  unfold fnG at hr
  try unfold hintV at hr
  unfold fnG 
  have HR := Lib.hid hr
  (have c0 := cell_of_block hh 0; simp only [List.getElem?_toArray, List.getElem?_cons_zero] at c0)
  clear hr hK hH hh
  go_enter Try.func61, Try.ntmps61
  go_wp2_with fail
  refine HR.out.mono ?_
  rintro e w1 ⟨rfl, h1, h3, h2⟩
  have H1 := Lib.hid h1
  have H3 := Lib.hid h3
  clear h1 h3 HR
  go_wp2_with fail
  refine bodyPost_ret (v := .tuple #[]) (by simp [results, Try.results61, go_sem]) rfl ?_
  exact ⟨rfl, H1.out, H3.out, h2⟩

theorem HAscendHint_any {ord : List Int} {k0 : Kc ord} {mn mx : Nat} {w : World} {F : Nat → Prop} {hp : Nat} {t : Nat} {l : List (It ord)} (key : It ord) (hv : Option Nat) {n : Int} {ob b2 b3 rb : Nat} {acc : List (It ord)} (hh : HeapAt k0 w hp t) (hM : MapIn k0 mn mx w F t l) (hmn : 1 ≤ mn) (hK : Kept n ob b2 b3 rb w acc) (hH : HintO hv w) (hHK : HintK hv ob b2 b3 rb) (hFb : ∀ b, F b → ¬ HT hv ob rb b) (htb : ∀ b, MOwn k0 t b → ¬ HT hv ob rb b) (hlen : acc.length + l.length ≤ 1000000000000) :
    Calls Try.prog 66 #[.pointer (some ⟨hp, 0, none⟩), .iface 26 (.agg #[.int .i64 key.1, .int .i64 key.2]), fnG b2 b3, hintV hv] w (RunEndH hv n ob b2 b3 rb acc (upp ltM key l) w) := by
  have hr := AscendHint_any key hv hM hmn hK hH hHK hFb htb hlen
  unfold fnG at hr
  try unfold hintV at hr
  unfold fnG hintV
  have HR := Lib.hid hr
  (have c0 := cell_of_block hh 0; simp only [List.getElem?_toArray, List.getElem?_cons_zero] at c0)
  clear hr hK hH hh
  go_enter Try.func66, Try.ntmps66
  go_wp2_with fail
  refine HR.out.mono ?_
  rintro e w1 ⟨rfl, h1, h3, h2⟩
  have H1 := Lib.hid h1
  have H3 := Lib.hid h3
  clear h1 h3 HR
  go_wp2_with fail
  refine bodyPost_ret (v := .tuple #[]) (by simp [results, Try.results66, go_sem]) rfl ?_
  exact ⟨rfl, H1.out, H3.out, h2⟩

/-- From nil: no hint is used. -/
theorem HAscendHintNil_any {ord : List Int} {k0 : Kc ord} {mn mx : Nat} {w : World} {F : Nat → Prop} {hp t : Nat} {l : List (It ord)} (hv : Option Nat) {n : Int} {ob b2 b3 rb : Nat} (hh : HeapAt k0 w hp t) (hM : MapIn k0 mn mx w F t l) (hK : Kept n ob b2 b3 rb w []) (hFb : ∀ b, F b → ¬ TakeB ob rb b) (htb : ¬ TakeB ob rb t) (hlen : l.length ≤ 1000000000000) :
    Calls Try.prog 66 #[.pointer (some ⟨hp, 0, none⟩), .nilIface, fnG b2 b3, hintV hv] w (ScanPost n ob b2 b3 rb l w) := by
  have HC := Lib.hid (Scan_any hM hK hFb htb hlen)
  have c0 := cell_of_block hh 0
  simp only [List.getElem?_toArray, List.getElem?_cons_zero] at c0
  clear hM hK hh
  unfold fnG at HC ⊢
  unfold hintV
  go_enter Try.func66, Try.ntmps66
  go_wp2_with fail
  refine HC.out.mono ?_
  rintro e w2 ⟨rfl, h2⟩
  have H2 := Lib.hid h2
  clear h2 HC
  go_wp2_with fail
  refine bodyPost_ret (v := .tuple #[]) (by simp [results, Try.results66, go_sem]) rfl ?_
  exact ⟨rfl, H2.out⟩

theorem Kept.nilAt {n : Int} {ob b2 b3 rb rb' : Nat} {w w' : World} (h : Kept n ob b2 b3 rb w []) (c : Chg (fun _ _ => False) w w') (ho : w'.heap[ob]? = some (.cells #[.slice none 0 0] 31 (0, 0))) (h1 : rb ≤ rb') (h2 : rb' ≤ w'.heap.size) : Kept n ob b2 b3 rb' w' [] := by
  obtain ⟨⟨_, p2, p3, l0, l2, l3, n2, n3, hr⟩, hf, hl, hne⟩ := h.keep c
  exact ⟨⟨⟨_, ho, OwnE.nil _ _ _⟩, p2, p3, by omega, by omega, by omega, n2, n3, h2⟩, hf, by omega, hne⟩

abbrev hintO0 : Obj := .cells #[.bool false, .bool false, .bool false, .bool false, .bool false, .bool false, .bool false, .bool false, .int .u8 0, .int .u8 0, .int .u8 0, .int .u8 0, .int .u8 0, .int .u8 0, .int .u8 0, .int .u8 0] 84

theorem hintC0 : HintC #[.bool false, .bool false, .bool false, .bool false, .bool false, .bool false, .bool false, .bool false, .int .u8 0, .int .u8 0, .int .u8 0, .int .u8 0, .int .u8 0, .int .u8 0, .int .u8 0, .int .u8 0] where
  sz := rfl
  used := fun o ho => ⟨false, by match o, ho with | 0, _ => rfl | 1, _ => rfl | 2, _ => rfl | 3, _ => rfl | 4, _ => rfl | 5, _ => rfl | 6, _ => rfl | 7, _ => rfl⟩
  path := fun o ho => ⟨0, by omega, by omega, by match o, ho with | 0, _ => rfl | 1, _ => rfl | 2, _ => rfl | 3, _ => rfl | 4, _ => rfl | 5, _ => rfl | 6, _ => rfl | 7, _ => rfl⟩
end Go.Proofs.Ytcabnhpnkaielaa
