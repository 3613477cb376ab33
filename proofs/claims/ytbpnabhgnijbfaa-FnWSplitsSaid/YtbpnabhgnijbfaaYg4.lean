/- The law FnWSplits. -/
import Derived.Test.YtbpnabhgnijbfaaYg1
import Derived.Test.YtbpnabhgnijbfaaYg2
import Derived.Test.YtbpnabhgnijbfaaYg3
namespace Go.Proofs.Ytbpnabhgnijbfaa
set_option linter.unusedSimpArgs false
set_option linter.unusedVariables false
open Go.RowKit

set_option maxRecDepth 100000 in
set_option maxHeartbeats 4000000 in
theorem law_WSplits (d : Int) (v : Value) (l : List (ByteArray × Int)) (key : ByteArray) (w : World) (hl : SlE wordE w v l) :
    Calls Try.prog 5 #[.int .i64 d, v, .string key] w fun e w' => e = .returned (.bool true) ∧ Chg (fun _ _ => False) w w' := by
  by_cases hyes : key.size ≤ 2147483647 ∧ 2 ≤ d ∧ d ≤ 128
  · obtain ⟨y1, y2, y3⟩ := hyes
    rcases parts_of (growL l) key (grow_srt l) with h | h
    · by_cases hu : (upp ltM (key, 0) (growL l)).length = 0
      · exact wsplits_a d v l key w hl y1 y2 y3 h hu
      · exact wsplits_b d v l key w hl y1 y2 y3 h hu
    · exact wsplits_c d v l key w hl y1 y2 y3 h
  have HZ := Lib.hid (zzFits2_any v l w hl)
  have HS := Lib.hid hl
  obtain ⟨a, cap, rfl⟩ := hl.form
  clear hl
  obtain ⟨i0, hi0, hz0, hz1, hz2⟩ := info_parts infoStr
  go_enter Try.func5, Try.ntmps5
  go_wp2_with fail
  refine HZ.out.mono ?_
  rintro e w1 ⟨q, rfl, hq, hc1⟩
  cases q
  · go_wp2_with fail
    go_ret
    exact ⟨rfl, hc1⟩
  have hlen := hq rfl
  clear hq HZ
  by_cases hkl : key.size ≤ 2147483647
  rotate_left
  · have hkl' : (2147483647 : Int) < (key.size : Int) := by omega
    go_wp2_with fail
    go_ret
    exact ⟨rfl, hc1⟩
  have hkn : ¬ (2147483647 : Int) < (key.size : Int) := by omega
  clear hkl
  by_cases hd : 2 ≤ d ∧ d ≤ 128
  rotate_left
  · have HF := Lib.hid (fun w => fit_no d w (by omega))
    clear hd
    go_wp2_with fail
    refine (HF.out _).mono ?_
    rintro e w' ⟨rfl, rfl⟩
    go_wp2_with fail
    refine (aliveW_any _).mono ?_
    rintro e w12 ⟨rfl, hc12⟩
    go_wp2_with fail
    go_ret
    exact ⟨rfl, hc1.trans hc12⟩
  exact absurd ⟨by omega, hd.1, hd.2⟩ hyes
end Go.Proofs.Ytbpnabhgnijbfaa
