/- find with a hint or without one (trees of interfaces). -/
import Derived.Test.YtcabnhpnkaielaaHn
import Derived.Test.YtcabnhpnkaielaaRg
namespace Go.Proofs.Ytcabnhpnkaielaa
set_option linter.unusedSimpArgs false
set_option linter.unusedVariables false
open Go.RowKit

/-- A hint's place, or none. -/
def hintV (hv : Option Nat) : Value := .pointer (hv.map fun b => ⟨b, 0, none⟩)
def HintO (hv : Option Nat) (w : World) : Prop := ∀ b, hv = some b → HintB b w

theorem HintO.chg {A : Nat → Nat → Prop} {hv : Option Nat} {w w' : World} (h : HintO hv w) (c : Chg A w w') (hA : ∀ b o, hv = some b → ¬ A b o) : HintO hv w' :=
  fun b hb => (h b hb).chg c (fun o => hA b o hb)
theorem HintO.keep {hv : Option Nat} {w w' : World} (h : HintO hv w) (c : Chg (fun _ _ => False) w w') : HintO hv w' := h.chg c (fun _ _ _ h => h)
theorem HintO.lt {hv : Option Nat} {w : World} (h : HintO hv w) {b : Nat} (hb : hv = some b) : b < w.heap.size := (h b hb).lt
theorem HintO.none (w : World) : HintO none w := fun b hb => by cases hb

/-- What a search gives. -/
def SrchO {ord : List Int} (hv : Option Nat) (xs : List (It ord)) (x : It ord) (w : World) (e : Ending) (w' : World) : Prop :=
  ∃ (i : Nat) (f : Bool), e = .returned (.tuple #[.int .i64 i, .bool f]) ∧ Chg (fun b _ => hv = some b) w w' ∧ HintO hv w' ∧ ((f = true ∧ ∃ y, HitAt ltM xs x i y) ∨ (f = false ∧ PosAt ltM xs x i))

set_option maxRecDepth 100000 in
theorem find_o {ord : List Int} {k : Kc ord} {mn mx : Nat} {w : World} {n : Nat} {r : NodeR (It ord)} {l : Lay} (hv : Option Nat) (t d : Nat) (x : It ord) (hm : MapAt k mn mx w t) (h : NodeAt (parM k) w n r l) (hs : Srt ltM r.items) (hlen : r.items.length ≤ 1000000) (hpos : 1 ≤ r.items.length) (hh : HintO hv w) (hd : d ≤ 1000000000000) :
    Calls Try.prog 129 #[.pointer (some ⟨t, 0, none⟩), .pointer (some ⟨n, 0, none⟩), aggM x, hintV hv, .int .i64 d] w (SrchO hv r.items x w) := by
  rcases hv with _ | hb
  · refine (find_any t x (d : Int) hm h hs hlen).mono ?_
    rintro e w' ⟨i, f, rfl, hc, hf⟩
    exact ⟨i, f, rfl, hc.mono (fun _ _ _ h => h.elim), HintO.none _, hf⟩
  · have HS := Lib.hid (hintsearch_any t hb d x hm h hs hlen hpos (hh hb rfl) hd)
    clear hm h hs hh
    unfold aggM at HS ⊢
    unfold SrchH at HS
    show Calls _ _ #[_, _, _, .pointer (some ⟨hb, 0, none⟩), _] _ _
    go_enter Try.func129, Try.ntmps129
    go_wp2_with fail
    refine HS.out.mono ?_
    rintro e w2 ⟨i, f, rfl, hc, hb2, hf⟩
    have HB2 := Lib.hid hb2
    have HF := Lib.hid hf
    clear hb2 hf
    go_wp2_with fail
    go_ret2
    refine ⟨i, f, rfl, ?_, fun b e => by obtain rfl := Option.some.inj e; exact HB2.out, by simpa using HF.out⟩
    exact hc.mono (fun b o _ e => by rw [e])

/-- The hint lies apart from what the keeping function changes, and from its own variables. -/
def HintK (hv : Option Nat) (ob b2 b3 rb : Nat) : Prop := ∀ b, hv = some b → b ≠ ob ∧ b ≠ b2 ∧ b ≠ b3 ∧ b ≠ b3 + 1 ∧ b < rb

/-- What a walk with a hint and the keeping function changes. -/
def HT (hv : Option Nat) (ob rb b : Nat) : Prop := TakeB ob rb b ∨ hv = some b

theorem HintK.take {hv : Option Nat} {ob b2 b3 rb b : Nat} (h : HintK hv ob b2 b3 rb) (hb : hv = some b) : ¬ TakeB ob rb b := by
  obtain ⟨h1, _, _, _, h4⟩ := h b hb
  rintro (e | e)
  · exact h1 e
  · omega

theorem Kept.hint {hv : Option Nat} {n : Int} {ob b2 b3 rb : Nat} {w w' : World} {acc : List (Int × Int)} (h : Kept n ob b2 b3 rb w acc) (hk : HintK hv ob b2 b3 rb) (c : Chg (fun b _ => hv = some b) w w') : Kept n ob b2 b3 rb w' acc := by
  obtain ⟨⟨⟨v, h1, h2⟩, p2, p3, l0, l2, l3, n2, n3, hr⟩, hf, hl, hne⟩ := h
  have hb : ∀ {b : Nat} {o : Obj}, ¬ hv = some b → w.heap[b]? = some o → w'.heap[b]? = some o := fun hn h => by rw [c.block (heap_lt h) (fun _ => hn)]; exact h
  refine ⟨⟨⟨v, hb (fun e => (hk _ e).1 rfl) h1, h2.chgOwn c (fun b _ hb e => ?_)⟩, hb (fun e => (hk _ e).2.2.1 rfl) p2, hb (fun e => (hk _ e).2.2.2.1 rfl) p3, l0, l2, l3, n2, n3, Nat.le_trans hr c.size⟩, hb (fun e => (hk _ e).2.1 rfl) hf, hl, hne⟩
  have h5 := (h2.own_lt hb).1
  have h6 := (hk _ e).2.2.2.2
  omega
end Go.Proofs.Ytcabnhpnkaielaa
