/- A region that draws its order and holds a call, and an alloc that no one waits for: all that reads is taken first; the alloc may come whenever. No program in sight. -/
import Derived.WalkKit
import Derived.OrdersHeld
import Derived.StillTail
namespace Go.Proofs.Ytnohimhihombmaa
set_option linter.unusedSimpArgs false
set_option linter.unusedVariables false
set_option maxRecDepth 100000
set_option maxHeartbeats 40000000
open Value renaming int → Ii, pointer → Ip, slice → Is, tuple → Iu
open IntKind renaming i64 → Ij
open Obj renaming cells → Ic
open Ending renaming returned → Ir
open Option.some renaming inj → Iq
open Region renaming wanted → zI
open Act renaming put → zJ
open Nat renaming le_refl → zi
section
section
variable {P:Program} {ops:Array Oper} {Q:Exit→Act→World→Prop} {md:Region.Mode} {S:World→Prop} {n:Nat}
def wpHT (P:Program) (md:Region.Mode) (ops:Array Oper) (Q:Exit→Act→World→Prop) (S:World→Prop) (n:Nat):Nat→Array Bool→Act→World→Prop
 | 0,listed,a,w=>Region.ready md ops listed=[]∧Q .normal a w
 | f+1,listed,a,w =>
  (Region.ready md ops listed=[]→Q .normal a w)∧∀i∈Region.ready md ops listed,wpOp P ops Q i (fun a' w'=>(i < n→S w')∧wpHT P md ops Q S n f (listed.setIfInBounds i true) a' w') a w
theorem kdR:∀(f:Nat) (listed:Array Bool) (a:Act) (w:World),wpHT P md ops Q S n f listed a w→wpAny P md ops Q f listed a w
 | 0,_,_,_,h=>h
 | f+1,_,_,_,h=>⟨h.1,fun i hi=>wpOp_mono (fun a' w' h'=>kdR f _ a' w' h'.2) (h.2 i hi)⟩
def kfX (md:Region.Mode) (ops:Array Oper) (n:Nat):Bool :=
 (List.range ops.size).all fun t=>decide (t < n) || (List.range n).all fun i=>Region.waitsFor md ops t i
theorem phase_lt {listed:Array Bool} {i j:Nat} (hp:kfX md ops n=true) (hi:i < n) (hun:listed.getD i true=false) (hj:j∈Region.ready md ops listed):j < n:=by
 obtain ⟨_,oj,hoj,hall⟩:=mem_ready.1 hj
 have hjs:j < ops.size:=(Array.getElem?_eq_some_iff.1 hoj).1
 have h1:=List.all_eq_true.1 hp j (List.mem_range.2 hjs)
 simp only [Bool.or_eq_true,decide_eq_true_eq] at h1
 rcases h1 with h1 | h1
 ·exact h1
 ·have h2:=List.all_eq_true.1 h1 i (List.mem_range.2 hi)
  obtain ⟨o',ho',e,he,hb,hon⟩:=Region.waitsFor_spec h2
  obtain rfl:o'=oj:=Iq (ho'.symm.trans hoj)
  have h3:=hall e he hb
  rw [hon,getD_both hun] at h3
  cases h3
theorem wpHT_first {i:Nat} {oi:Oper} {v:Value} (hp:kfX md ops n=true) (hin:i < n) (hi:ops[i]?=some oi) (hsel:∀(j:Nat) (o:Oper) cs b,ops[j]?=some o→o.op≠.select cs b)
  (hQ:∀c a d v w,Q (.panic c) (zJ a d v) w→Q (.panic c) a w) :
  ∀(f:Nat) (listed:Array Bool) (a:Act) (w:World),
   (∀j oj,ops[j]?=some oj→j≠i→listed.getD j true=false→(∀e∈oj.after,Region.binds md e=true→e.on≠i)→oi.apart ops oj=true) →
   i∈Region.ready md ops listed→YieldsIf P ops S oi v a→S w →
   wpHT P md ops Q S n f (listed.setIfInBounds i true) (a.put oi.dst v) w→wpHT P md ops Q S n (f+1) listed a w:=by
 intro f
 induction f with
 | zero =>
  intro listed a w _ hr hy hS H
  refine ⟨fun h=>(by rw [h] at hr;cases hr),fun j hj=>?_⟩
  by_cases hji:j=i
  ·subst hji;exact hy.wpOp hi hS ⟨fun _=>hS,H⟩
  ·have:=ready_mono hj hji
   rw [H.1] at this
   cases this
 | succ f ih =>
  intro listed a w hfree hr hy hS H
  have hun:=(mem_ready.1 hr).1
  refine ⟨fun h=>(by rw [h] at hr;cases hr),fun j hj=>?_⟩
  have hjn:=phase_lt hp hin hun hj
  by_cases hji:j=i
  ·subst hji;exact hy.wpOp hi hS ⟨fun _=>hS,H⟩
  ·have h1:=H.2 j (ready_mono hj hji)
   obtain ⟨hjun,oj,hoj,hall⟩:=mem_ready.1 hj
   have hnot:∀e∈oj.after,Region.binds md e=true→e.on≠i:=fun e he hb heq=>by
    have h3:=hall e he hb
    rw [heq,getD_both hun] at h3
    cases h3
   have h2:=wpOp_putIf hoj (hfree j oj hoj hji hjun hnot) (fun cs b=>hsel i oi cs b hi) (fun cs b=>hsel j oj cs b hoj) (fun c a w=>hQ c a _ _ w) hy h1
   refine wpOp_mono (fun a' w' h3=>⟨h3.2.1,ih (listed.setIfInBounds j true) a' w' ?_ (ready_mono hr (Ne.symm hji)) h3.1 (h3.2.1 hjn) ?_⟩) h2
   ·intro q oq hq hqi hqun hno
    refine hfree q oq hq hqi ?_ hno
    by_cases hjq:j=q
    ·subst hjq;exact hjun
    ·rw [getD_set_ne true hjq] at hqun;exact hqun
   ·rw [Array.setIfInBounds_comm _ _ hji]
    exact h3.2.2
def kcY (P:Program) (ops:Array Oper) (S:World→Prop) (L:Act→Prop):List Oper→Act→Prop
 | [],a=>L a
 | o::l,a=>∃v,YieldsIf P ops S o v a∧kcY P ops S L l (a.put o.dst v)
variable {l:List Oper} {a:Act}
theorem kbR {L:Act→Prop} {o:Oper} (v:Value) (hg:o.guard=none) (h:∀w,S w→(execOp a.eval o).run P w=.ok (.value v) w) (h2:kcY P ops S L l (a.put o.dst v)):kcY P ops S L (o::l) a :=
 ⟨v,.inl ⟨by simp [zI,hg],h⟩,h2⟩
theorem kbS {L:Act→Prop} (h:L a):kcY P ops S L [] a:=h
def kfM (md:Region.Mode) (ops:Array Oper) (n:Nat):List Nat→Array Bool→Bool
 | [],_=>true
 | i::r,listed=>decide (i < n) && Region.free md ops listed i && (Region.ready md ops listed).contains i && kfM md ops n r (listed.setIfInBounds i true)
def kcX:List Nat→Array Bool→Array Bool
 | [],listed=>listed
 | i::r,listed=>kcX r (listed.setIfInBounds i true)
theorem kgG (hp:kfX md ops n=true) (hsel:Region.noSelect ops=true) (hQ:∀c a d v w,Q (.panic c) (zJ a d v) w→Q (.panic c) a w) :
  ∀(softs:List Nat) (sops:List Oper) (f:Nat) (listed:Array Bool) (a:Act) (w:World),(softs.map fun i=>ops[i]?)=sops.map some→kfM md ops n softs listed=true→S w →
   kcY P ops S (fun a'=>wpHT P md ops Q S n f (kcX softs listed) a' w) sops a→wpHT P md ops Q S n (f+softs.length) listed a w
 | [],[],f,listed,a,w,_,_,_,h=>h
 | [],_::_,_,_,_,_,he,_,_,_=>by simp at he
 | _::_,[],_,_,_,_,he,_,_,_=>by simp at he
 | i::softs,o::sops,f,listed,a,w,he,hB,hS,⟨v,hy,h⟩=>by
  simp only [List.map_cons,List.cons.injEq] at he
  simp only [kfM,Bool.and_eq_true,decide_eq_true_eq] at hB
  obtain ⟨⟨⟨h1,h2⟩,h3⟩,h4⟩:=hB
  exact wpHT_first hp h1 he.1 (Region.noSelect_spec hsel) hQ (f+softs.length) listed a w (Region.free_spec he.1 h2) (by simpa using h3) hy hS
   (kgG hp hsel hQ softs sops f _ _ w he.2 h4 hS h)
def kdC (P:Program) (ops:Array Oper) (Q:Exit→Act→World→Prop) (S:World→Prop) (tail:List Oper):List Oper→Act→World→Prop
 | [],a,w=>wpList P ops Q tail a w
 | o::l,a,w=>o.wp P a w (fun a' w'=>S w'∧kdC P ops Q S tail l a' w') Q
theorem kbN {tail l:List Oper} {o:Oper} {w:World} (h:∀K:Act→World→Prop,(∀a' w',S w'→kdC P ops Q S tail l a' w'→K a' w')→o.wp P a w K Q):kdC P ops Q S tail (o::l) a w :=
 h _ fun _ _ h1 h2=>⟨h1,h2⟩
def hardsB (md:Region.Mode) (ops:Array Oper) (n:Nat):List Nat→Array Bool→Bool
 | [],listed=>Region.seqB md ops (ops.size - n) n listed
 | i::r,listed=>decide (Region.ready md ops listed=[i]) && ((ops[i]?).any fun o=>o.guard.isNone) && hardsB md ops n r (listed.setIfInBounds i true)
theorem wpHT_tail {tail:List Oper}:∀(l:List Oper) (k:Nat) (listed:Array Bool) (a:Act) (w:World),(∀j,l[j]?=ops[k+j]?)→n≤k →
  Region.seqB md ops l.length k listed=true→wpList P ops Q l a w→wpHT P md ops Q S n l.length listed a w
 | [],_,_,_,_,_,_,hB,h=>⟨by simpa [Region.seqB] using hB,h⟩
 | o::l,k,listed,a,w,hl,hk,hB,h=>by
  have h0:ops[k]?=some o:=by simpa using (hl 0).symm
  simp only [List.length_cons,Region.seqB,Bool.and_eq_true,decide_eq_true_eq] at hB
  refine ⟨fun h1=>(by rw [hB.1] at h1;cases h1),fun i hi=>?_⟩
  rw [hB.1] at hi
  obtain rfl:i=k:=by simpa using hi
  have hw:wpOp P ops Q i (wpList P ops Q l) a w:=by unfold wpOp;simp only [h0];exact h
  exact wpOp_mono (fun a' w' h'=>⟨fun hx=>absurd hx (by omega),wpHT_tail (tail:=tail) l (i+1) _ a' w' (fun j=>by have:=hl (j+1);simpa [Nat.add_assoc,Nat.add_comm 1 j] using this) (by omega) hB.2 h'⟩) hw
theorem wpHT_hards (hops:ops=l.toArray) (hn:n≤l.length):∀(hards:List Nat) (hs:List Oper) (listed:Array Bool) (a:Act) (w:World),(hards.map fun i=>ops[i]?)=hs.map some→hardsB md ops n hards listed=true →
  kdC P ops Q S (l.drop n) hs a w→wpHT P md ops Q S n (l.length - n+hards.length) listed a w
 | [],[],listed,a,w,_,hB,h=>by
  have hlen:(l.drop n).length=l.length - n:=by simp
  have:=wpHT_tail (tail:=[]) (S:=S) (P:=P) (Q:=Q) (md:=md) (n:=n) (ops:=ops) (l.drop n) n listed a w (fun j=>by rw [hops];simp) (zi _) (by rw [hlen];subst hops;simpa [hardsB] using hB) h
  rw [hlen] at this
  exact this
 | [],_::_,_,_,_,he,_,_=>by simp at he
 | _::_,[],_,_,_,he,_,_=>by simp at he
 | i::hards,o::hs,listed,a,w,he,hB,h=>by
  simp only [List.map_cons,List.cons.injEq] at he
  simp only [hardsB,Bool.and_eq_true,decide_eq_true_eq] at hB
  obtain ⟨⟨h1,h2⟩,h3⟩:=hB
  rw [he.1] at h2
  refine ⟨fun h0=>(by rw [h0] at h1;cases h1),fun j hj=>?_⟩
  rw [h1] at hj
  obtain rfl:j=i:=by simpa using hj
  have hg:o.guard=none:=by simpa using h2
  unfold wpOp
  simp only [he.1,zI,hg,if_true]
  exact .inl (Oper.wp_mono (fun a' w' h'=>⟨fun _=>h'.1,wpHT_hards hops hn hards hs _ a' w' he.2 h3 h'.2⟩) h)
def kbK (l:List Oper) (is:List Nat):List Oper:=is.filterMap fun i=>l[i]?
theorem kcS {id:Nat} {w:World} (S:World→Prop) (n:Nat) (softs hards:List Nat) (hm:P.follows .mixedOrders=true)
  (hB:(kfX .any l.toArray n && Region.noSelect l.toArray && decide (n≤l.length) && decide (softs.length+hards.length=n) && kfM .any l.toArray n softs (Array.replicate l.length false) && hardsB .any l.toArray n hards (kcX softs (Array.replicate l.length false)))=true)
  (hQ0:∀c a d v w,Q (.panic c) (zJ a (some d) v) w→Q (.panic c) a w) (hs:(softs.map fun i=>l.toArray[i]?)=(kbK l softs).map some) (hh:(hards.map fun i=>l.toArray[i]?)=(kbK l hards).map some)
  (hS:S w.drew) (h:kcY P l.toArray S (fun a'=>kdC P l.toArray Q S (l.drop n) (kbK l hards) a' w.drew) (kbK l softs) a):(Code.region id l.toArray true).wp P Q a w:=by
 simp only [Bool.and_eq_true,decide_eq_true_eq] at hB
 obtain ⟨⟨⟨⟨⟨h1,h2⟩,h3⟩,h4⟩,h5⟩,h6⟩:=hB
 have hQ:∀c a d v w,Q (.panic c) (zJ a d v) w→Q (.panic c) a w:=by
  intro c a d v w h
  cases d with
  | none=>exact h
  | some d=>exact hQ0 c a d v w h
 refine wp_region_any hm (kdR (S:=S) (n:=n) _ _ _ _ ?_)
 have hmono:∀(L L':Act→Prop),(∀a,L a→L' a)→∀(sl:List Oper) (a:Act),kcY P l.toArray S L sl a→kcY P l.toArray S L' sl a:=by
  intro L L' hL sl
  induction sl with
  | nil=>intro a h;exact hL a h
  | cons o sl ih=>rintro a ⟨v,hy,h⟩;exact ⟨v,hy,ih _ h⟩
 have:=kgG (P:=P) (Q:=Q) (S:=S) (md:=.any) (ops:=l.toArray) h1 h2 hQ softs (kbK l softs) (l.length - n+hards.length) (Array.replicate l.length false) a w.drew hs h5 hS
  (hmono _ _ (fun a' ha=>wpHT_hards rfl h3 hards (kbK l hards) _ a' w.drew hh h6 ha) (kbK l softs) a h)
 rw [show l.length - n+hards.length+softs.length=l.toArray.size by simp;omega] at this
 simpa using this
end
end
section
section
variable {P:Program} {ops:Array Oper} {Q:Exit→Act→World→Prop} {md:Region.Mode} {S:World→Prop} {n:Nat}
def chain2B (md:Region.Mode) (ops:Array Oper) (n:Nat):Bool :=
 (List.range ops.size).all fun t=>decide (t≤n) || (List.range t).any fun s=>decide (n≤s) && Region.waitsFor md ops t s
theorem tail_waits2 {listed:Array Bool} (hs:Region.sinkB md ops n=true) (hc:chain2B md ops n=true) (hn:n < ops.size) (inv:HeadInv md ops n listed) :
  ∀(d i:Nat),n - i=d→i < n→listed.getD i true=false→∀t,n≤t→t∉Region.ready md ops listed:=by
 intro d
 induction d using Nat.strongRecOn with
 | _ d ih =>
  intro i hd hi hun t ht hr
  obtain ⟨_,ot,hot,hall⟩:=mem_ready.1 hr
  have htlt:t < ops.size:=(Array.getElem?_eq_some_iff.1 hot).1
  by_cases htn:t=n
  ·subst htn
   have h1:=List.all_eq_true.1 hs i (List.mem_range.2 hi)
   obtain ⟨j,hj,hj2⟩:=List.any_eq_true.1 h1
   simp only [Bool.and_eq_true,decide_eq_true_eq] at hj2
   obtain ⟨oj,hoj,e,he,hb,hon⟩:=Region.waitsFor_spec hj2.2
   have hjle:j≤t:=by have:=List.mem_range.1 hj;omega
   by_cases hjt:j=t
   ·subst hjt
    have:oj=ot:=Iq (hoj.symm.trans hot)
    subst this
    have h2:=hall e he hb
    rw [hon,getD_both hun] at h2
    cases h2
   ·cases hl:listed.getD j false with
    | true =>
     have h2:=inv.closed j oj hoj hl e he hb
     rw [hon,getD_both hun] at h2
     cases h2
    | false =>
     have hjs:j < listed.size:=by rw [inv.size];omega
     exact ih (t - j) (by omega) j rfl (by omega) (getD_in hjs hl) t (zi _) hr
  ·have h1:=List.all_eq_true.1 hc t (List.mem_range.2 htlt)
   simp only [Bool.or_eq_true,decide_eq_true_eq] at h1
   rcases h1 with h1 | h1
   ·omega
   ·obtain ⟨s,hs1,hs2⟩:=List.any_eq_true.1 h1
    simp only [Bool.and_eq_true,decide_eq_true_eq] at hs2
    obtain ⟨o',ho',e,he,hb,hon⟩:=Region.waitsFor_spec hs2.2
    have:o'=ot:=Iq (ho'.symm.trans hot)
    subst this
    have h2:=hall e he hb
    have:=List.mem_range.1 hs1
    rw [hon,getD_both (inv.tail s hs2.1 (by omega))] at h2
    cases h2
theorem wpHT_firstC {i:Nat} {oi:Oper} {v:Value} (hs:Region.sinkB md ops n=true) (hc:chain2B md ops n=true) (hn:n < ops.size) (hin:i < n) (hi:ops[i]?=some oi) (hsel:∀(j:Nat) (o:Oper) cs b,ops[j]?=some o→o.op≠.select cs b)
  (hQ:∀c a d v w,Q (.panic c) (zJ a d v) w→Q (.panic c) a w) :
  ∀(f:Nat) (listed:Array Bool) (a:Act) (w:World),HeadInv md ops n listed →
   (∀j oj,ops[j]?=some oj→j≠i→listed.getD j true=false→(∀e∈oj.after,Region.binds md e=true→e.on≠i)→oi.apart ops oj=true) →
   i∈Region.ready md ops listed→YieldsIf P ops S oi v a→S w →
   wpHT P md ops Q S n f (listed.setIfInBounds i true) (a.put oi.dst v) w→wpHT P md ops Q S n (f+1) listed a w:=by
 intro f
 induction f with
 | zero =>
  intro listed a w _ _ hr hy hS H
  refine ⟨fun h=>(by rw [h] at hr;cases hr),fun j hj=>?_⟩
  by_cases hji:j=i
  ·subst hji;exact hy.wpOp hi hS ⟨fun _=>hS,H⟩
  ·have:=ready_mono hj hji
   rw [H.1] at this
   cases this
 | succ f ih =>
  intro listed a w inv hfree hr hy hS H
  have hun:=(mem_ready.1 hr).1
  refine ⟨fun h=>(by rw [h] at hr;cases hr),fun j hj=>?_⟩
  have hjn:j < n:=by
   rcases Nat.lt_or_ge j n with h | h
   ·exact h
   ·exact absurd hj (tail_waits2 hs hc hn inv _ i rfl hin hun j h)
  by_cases hji:j=i
  ·subst hji;exact hy.wpOp hi hS ⟨fun _=>hS,H⟩
  ·have h1:=H.2 j (ready_mono hj hji)
   obtain ⟨hjun,oj,hoj,hall⟩:=mem_ready.1 hj
   have hnot:∀e∈oj.after,Region.binds md e=true→e.on≠i:=fun e he hb heq=>by
    have h3:=hall e he hb
    rw [heq,getD_both hun] at h3
    cases h3
   have h2:=wpOp_putIf hoj (hfree j oj hoj hji hjun hnot) (fun cs b=>hsel i oi cs b hi) (fun cs b=>hsel j oj cs b hoj) (fun c a w=>hQ c a _ _ w) hy h1
   refine wpOp_mono (fun a' w' h3=>⟨h3.2.1,ih (listed.setIfInBounds j true) a' w' (inv.set hj hjn) ?_ (ready_mono hr (Ne.symm hji)) h3.1 (h3.2.1 hjn) ?_⟩) h2
   ·intro q oq hq hqi hqun hno
    refine hfree q oq hq hqi ?_ hno
    by_cases hjq:j=q
    ·subst hjq;exact hjun
    ·rw [getD_set_ne true hjq] at hqun;exact hqun
   ·rw [Array.setIfInBounds_comm _ _ hji]
    exact h3.2.2
theorem wpHT_softsC (hs:Region.sinkB md ops n=true) (hc:chain2B md ops n=true) (hn:n < ops.size) (hsel:Region.noSelect ops=true) (hQ:∀c a d v w,Q (.panic c) (zJ a d v) w→Q (.panic c) a w) :
  ∀(softs:List Nat) (sops:List Oper) (f:Nat) (listed:Array Bool) (a:Act) (w:World),HeadInv md ops n listed→(softs.map fun i=>ops[i]?)=sops.map some→kfM md ops n softs listed=true→S w →
   kcY P ops S (fun a'=>wpHT P md ops Q S n f (kcX softs listed) a' w) sops a→wpHT P md ops Q S n (f+softs.length) listed a w
 | [],[],f,listed,a,w,_,_,_,_,h=>h
 | [],_::_,_,_,_,_,_,he,_,_,_=>by simp at he
 | _::_,[],_,_,_,_,_,he,_,_,_=>by simp at he
 | i::softs,o::sops,f,listed,a,w,inv,he,hB,hS,⟨v,hy,h⟩=>by
  simp only [List.map_cons,List.cons.injEq] at he
  simp only [kfM,Bool.and_eq_true,decide_eq_true_eq] at hB
  obtain ⟨⟨⟨h1,h2⟩,h3⟩,h4⟩:=hB
  exact wpHT_firstC hs hc hn h1 he.1 (Region.noSelect_spec hsel) hQ (f+softs.length) listed a w inv (Region.free_spec he.1 h2) (by simpa using h3) hy hS
   (wpHT_softsC hs hc hn hsel hQ softs sops f _ _ w (inv.set (by simpa using h3) h1) he.2 h4 hS h)
theorem wpHT_over {S':World→Prop} {n':Nat}:∀(f:Nat) (listed:Array Bool) (a:Act) (w:World),(∀i,i < n→listed.getD i false=true)→wpHT P md ops Q S' n' f listed a w→wpHT P md ops Q S n f listed a w
 | 0,_,_,_,_,h=>h
 | f+1,listed,a,w,hl,h=>by
  refine ⟨h.1,fun j hj=>?_⟩
  have hjun:=(mem_ready.1 hj).1
  have hjn:n≤j:=by
   rcases Nat.lt_or_ge j n with c | c
   ·have:=hl j c
    rw [getD_both hjun] at this;cases this
   ·exact c
  refine wpOp_mono (fun a' w' h3=>⟨fun c=>absurd c (by omega),wpHT_over f _ a' w' (fun i hi=>?_) h3.2⟩) (h.2 j hj)
  rw [getD_set_ne false (by omega)]
  exact hl i hi
variable {l:List Oper} {a:Act} {w:World} {id:Nat}
theorem wp_region_call (S:World→Prop) (n:Nat) (softs:List Nat) (oc:Oper) (rest:List Nat) (hm:P.follows .mixedOrders=true)
  (hB:(Region.sinkB .any l.toArray n && chain2B .any l.toArray n && Region.noSelect l.toArray && decide (n < l.length) && decide (softs.length=n) && decide (n+1+rest.length=l.length) && kfM .any l.toArray n softs (Array.replicate l.length false) &&
   decide (Region.ready .any l.toArray (kcX softs (Array.replicate l.length false))=[n]) && oc.guard.isNone && kfM .any l.toArray l.length rest ((kcX softs (Array.replicate l.length false)).setIfInBounds n true) &&
   decide (Region.ready .any l.toArray (kcX rest ((kcX softs (Array.replicate l.length false)).setIfInBounds n true))=[]) &&
   (List.range n).all fun i=>((kcX softs (Array.replicate l.length false)).setIfInBounds n true).getD i false)=true)
  (hQ0:∀c a d v w,Q (.panic c) (zJ a (some d) v) w→Q (.panic c) a w) (hs:(softs.map fun i=>l.toArray[i]?)=(kbK l softs).map some) (hh0:l[n]?=some oc)
  (hr:(rest.map fun i=>l.toArray[i]?)=(kbK l rest).map some)
  (hS:S w.drew) (h:kcY P l.toArray S (fun a'=>oc.wp P a' w.drew (fun a2 w2=>kcY P l.toArray (fun _=>True) (fun a3=>Q .normal a3 w2) (kbK l rest) a2) Q) (kbK l softs) a):(Code.region id l.toArray true).wp P Q a w:=by
 simp only [Bool.and_eq_true,decide_eq_true_eq] at hB
 obtain ⟨⟨⟨⟨⟨⟨⟨⟨⟨⟨⟨h1,h2⟩,h3⟩,h4⟩,h5⟩,h6⟩,h7⟩,h8⟩,h9⟩,h10⟩,h11⟩,h12⟩:=hB
 have hQ:∀c a d v w,Q (.panic c) (zJ a d v) w→Q (.panic c) a w:=by
  intro c a d v w h
  cases d with
  | none=>exact h
  | some d=>exact hQ0 c a d v w h
 have hh:l.toArray[n]?=some oc:=by simpa using hh0
 have hg:oc.guard=none:=by simpa using h9
 have hn:n < l.toArray.size:=by simpa using h4
 refine wp_region_any hm (kdR (S:=S) (n:=n) _ _ _ _ ?_)
 have hmono:∀(S:World→Prop) (L L':Act→Prop),(∀a,L a→L' a)→∀(sl:List Oper) (a:Act),kcY P l.toArray S L sl a→kcY P l.toArray S L' sl a:=by
  intro S L L' hL sl
  induction sl with
  | nil=>intro a h;exact hL a h
  | cons o sl ih=>rintro a ⟨v,hy,h⟩;exact ⟨v,hy,ih _ h⟩
 have hrest:∀a w,kcY P l.toArray (fun _=>True) (fun a3=>Q .normal a3 w) (kbK l rest) a →
   wpHT P .any l.toArray Q (fun _=>True) l.length (0+rest.length) ((kcX softs (Array.replicate l.length false)).setIfInBounds n true) a w:=by
  intro a w hw
  have hp:kfX .any l.toArray l.length=true:=by
   unfold kfX
   refine List.all_eq_true.2 fun t ht=>?_
   have:=List.mem_range.1 ht
   simp only [List.size_toArray] at this
   simp [this]
  exact kgG (P:=P) (Q:=Q) (S:=fun _=>True) (md:=.any) (ops:=l.toArray) hp h3 hQ rest (kbK l rest) 0 _ a w hr h10 trivial (hmono _ _ _ (fun a' ha=>⟨h11,ha⟩) _ _ hw)
 have hcall:∀a w,oc.wp P a w (fun a2 w2=>kcY P l.toArray (fun _=>True) (fun a3=>Q .normal a3 w2) (kbK l rest) a2) Q →
   wpHT P .any l.toArray Q S n (0+rest.length+1) (kcX softs (Array.replicate l.length false)) a w:=by
  intro a w hw
  refine ⟨fun h0=>(by rw [h0] at h8;cases h8),fun j hj=>?_⟩
  rw [h8] at hj
  obtain rfl:j=n:=by simpa using hj
  unfold wpOp
  simp only [hh,zI,hg,if_true]
  refine .inl (Oper.wp_mono (fun a' w' h'=>⟨fun hx=>absurd hx (by omega),?_⟩) hw)
  exact wpHT_over _ _ _ _ (fun i hi=>by simpa using List.all_eq_true.1 h12 i (List.mem_range.2 hi)) (hrest a' w' h')
 have inv:HeadInv .any l.toArray n (Array.replicate l.length false):=by
  refine ⟨by simp,fun j oj _ hl=>?_,fun t _ ht=>?_⟩
  ·rw [getD_replicate_false] at hl;cases hl
  ·simp only [List.size_toArray] at ht
   simp [ht]
 have:=wpHT_softsC (P:=P) (Q:=Q) (S:=S) (md:=.any) (ops:=l.toArray) h1 h2 hn h3 hQ softs (kbK l softs) (0+rest.length+1) (Array.replicate l.length false) a w.drew inv hs h7 hS
  (hmono _ _ _ (fun a' ha=>hcall a' w.drew ha) (kbK l softs) a h)
 rw [show 0+rest.length+1+softs.length=l.toArray.size by simp;omega] at this
 simpa using this
variable {o:Oper}
theorem wpSoft_guard {L:Act→Prop} (v:Value) (hg:zI o (yielded ops a.tmps)=true) (h:∀w,S w→(execOp a.eval o).run P w=.ok (.value v) w) (h2:kcY P ops S L l (a.put o.dst v)):kcY P ops S L (o::l) a :=
 ⟨v,.inl ⟨hg,h⟩,h2⟩
theorem wpSoft_skip {L:Act→Prop} (hg:zI o (yielded ops a.tmps)=false) (h2:kcY P ops S L l (a.put o.dst undef)):kcY P ops S L (o::l) a :=
 ⟨undef,.inr ⟨hg,rfl⟩,h2⟩
theorem wp_region_callg (S:World→Prop) (n:Nat) (softs:List Nat) (oc:Oper) (rest:List Nat) (hm:P.follows .mixedOrders=true)
  (hB:(Region.sinkB .any l.toArray n && chain2B .any l.toArray n && Region.noSelect l.toArray && decide (n < l.length) && decide (softs.length=n) && decide (n+1+rest.length=l.length) && kfM .any l.toArray n softs (Array.replicate l.length false) &&
   decide (Region.ready .any l.toArray (kcX softs (Array.replicate l.length false))=[n]) && kfM .any l.toArray l.length rest ((kcX softs (Array.replicate l.length false)).setIfInBounds n true) &&
   decide (Region.ready .any l.toArray (kcX rest ((kcX softs (Array.replicate l.length false)).setIfInBounds n true))=[]) &&
   (List.range n).all fun i=>((kcX softs (Array.replicate l.length false)).setIfInBounds n true).getD i false)=true)
  (hQ0:∀c a d v w,Q (.panic c) (zJ a (some d) v) w→Q (.panic c) a w) (hs:(softs.map fun i=>l.toArray[i]?)=(kbK l softs).map some) (hh0:l[n]?=some oc)
  (hr:(rest.map fun i=>l.toArray[i]?)=(kbK l rest).map some)
  (hS:S w.drew) (h:kcY P l.toArray S (fun a' =>
   (zI oc (yielded l.toArray a'.tmps)=true∧oc.wp P a' w.drew (fun a2 w2=>kcY P l.toArray (fun _=>True) (fun a3=>Q .normal a3 w2) (kbK l rest) a2) Q) ∨
   (zI oc (yielded l.toArray a'.tmps)=false∧kcY P l.toArray (fun _=>True) (fun a3=>Q .normal a3 w.drew) (kbK l rest) (a'.put oc.dst undef))) (kbK l softs) a):(Code.region id l.toArray true).wp P Q a w:=by
 simp only [Bool.and_eq_true,decide_eq_true_eq] at hB
 obtain ⟨⟨⟨⟨⟨⟨⟨⟨⟨⟨h1,h2⟩,h3⟩,h4⟩,h5⟩,h6⟩,h7⟩,h8⟩,h10⟩,h11⟩,h12⟩:=hB
 have hQ:∀c a d v w,Q (.panic c) (zJ a d v) w→Q (.panic c) a w:=by
  intro c a d v w h
  cases d with
  | none=>exact h
  | some d=>exact hQ0 c a d v w h
 have hh:l.toArray[n]?=some oc:=by simpa using hh0
 have hn:n < l.toArray.size:=by simpa using h4
 refine wp_region_any hm (kdR (S:=S) (n:=n) _ _ _ _ ?_)
 have hmono:∀(S:World→Prop) (L L':Act→Prop),(∀a,L a→L' a)→∀(sl:List Oper) (a:Act),kcY P l.toArray S L sl a→kcY P l.toArray S L' sl a:=by
  intro S L L' hL sl
  induction sl with
  | nil=>intro a h;exact hL a h
  | cons o sl ih=>rintro a ⟨v,hy,h⟩;exact ⟨v,hy,ih _ h⟩
 have hrest:∀a w,kcY P l.toArray (fun _=>True) (fun a3=>Q .normal a3 w) (kbK l rest) a →
   wpHT P .any l.toArray Q (fun _=>True) l.length (0+rest.length) ((kcX softs (Array.replicate l.length false)).setIfInBounds n true) a w:=by
  intro a w hw
  have hp:kfX .any l.toArray l.length=true:=by
   unfold kfX
   refine List.all_eq_true.2 fun t ht=>?_
   have:=List.mem_range.1 ht
   simp only [List.size_toArray] at this
   simp [this]
  exact kgG (P:=P) (Q:=Q) (S:=fun _=>True) (md:=.any) (ops:=l.toArray) hp h3 hQ rest (kbK l rest) 0 _ a w hr h10 trivial (hmono _ _ _ (fun a' ha=>⟨h11,ha⟩) _ _ hw)
 have hover:∀a w,kcY P l.toArray (fun _=>True) (fun a3=>Q .normal a3 w) (kbK l rest) a→wpHT P .any l.toArray Q S n (0+rest.length) ((kcX softs (Array.replicate l.length false)).setIfInBounds n true) a w :=
  fun a w hw=>wpHT_over _ _ _ _ (fun i hi=>by simpa using List.all_eq_true.1 h12 i (List.mem_range.2 hi)) (hrest a w hw)
 have hcall:∀a w,((zI oc (yielded l.toArray a.tmps)=true∧oc.wp P a w (fun a2 w2=>kcY P l.toArray (fun _=>True) (fun a3=>Q .normal a3 w2) (kbK l rest) a2) Q) ∨
   (zI oc (yielded l.toArray a.tmps)=false∧kcY P l.toArray (fun _=>True) (fun a3=>Q .normal a3 w) (kbK l rest) (a.put oc.dst undef))) →
   wpHT P .any l.toArray Q S n (0+rest.length+1) (kcX softs (Array.replicate l.length false)) a w:=by
  intro a w hw
  refine ⟨fun h0=>(by rw [h0] at h8;cases h8),fun j hj=>?_⟩
  rw [h8] at hj
  obtain rfl:j=n:=by simpa using hj
  unfold wpOp
  rcases hw with ⟨hg,hw⟩ | ⟨hg,hw⟩
  ·simp only [hh,hg,if_true]
   exact .inl (Oper.wp_mono (fun a' w' h'=>⟨fun hx=>absurd hx (by omega),hover a' w' h'⟩) hw)
  ·simp only [hh,hg,Bool.false_eq_true,if_false]
   exact ⟨fun hx=>absurd hx (by omega),hover _ w hw⟩
 have inv:HeadInv .any l.toArray n (Array.replicate l.length false):=by
  refine ⟨by simp,fun j oj _ hl=>?_,fun t _ ht=>?_⟩
  ·rw [getD_replicate_false] at hl;cases hl
  ·simp only [List.size_toArray] at ht
   simp [ht]
 have:=wpHT_softsC (P:=P) (Q:=Q) (S:=S) (md:=.any) (ops:=l.toArray) h1 h2 hn h3 hQ softs (kbK l softs) (0+rest.length+1) (Array.replicate l.length false) a w.drew inv hs h7 hS
  (hmono _ _ _ (fun a' ha=>hcall a' w.drew ha) (kbK l softs) a h)
 rw [show 0+rest.length+1+softs.length=l.toArray.size by simp;omega] at this
 simpa using this
theorem wp_region_keepg (S:World→Prop) (nc:Nat) (softs:List Nat) (oc:Oper) (rest:List Nat) (hm:P.follows .mixedOrders=true)
  (hB:(Region.noSelect l.toArray && decide (softs.length+1+rest.length=l.length) && kfM .any l.toArray l.length softs (Array.replicate l.length false) &&
   decide (Region.ready .any l.toArray (kcX softs (Array.replicate l.length false))=[nc]) && kfM .any l.toArray l.length rest ((kcX softs (Array.replicate l.length false)).setIfInBounds nc true) &&
   decide (Region.ready .any l.toArray (kcX rest ((kcX softs (Array.replicate l.length false)).setIfInBounds nc true))=[]))=true)
  (hQ0:∀c a d v w,Q (.panic c) (zJ a (some d) v) w→Q (.panic c) a w) (hs:(softs.map fun i=>l.toArray[i]?)=(kbK l softs).map some) (hh0:l[nc]?=some oc)
  (hr:(rest.map fun i=>l.toArray[i]?)=(kbK l rest).map some)
  (hS:S w.drew) (h:kcY P l.toArray S (fun a' =>
   (zI oc (yielded l.toArray a'.tmps)=true∧oc.wp P a' w.drew (fun a2 w2=>S w2∧kcY P l.toArray S (fun a3=>Q .normal a3 w2) (kbK l rest) a2) Q) ∨
   (zI oc (yielded l.toArray a'.tmps)=false∧kcY P l.toArray S (fun a3=>Q .normal a3 w.drew) (kbK l rest) (a'.put oc.dst undef))) (kbK l softs) a):(Code.region id l.toArray true).wp P Q a w:=by
 simp only [Bool.and_eq_true,decide_eq_true_eq] at hB
 obtain ⟨⟨⟨⟨⟨h3,h6⟩,h7⟩,h8⟩,h10⟩,h11⟩:=hB
 have hQ:∀c a d v w,Q (.panic c) (zJ a d v) w→Q (.panic c) a w:=by
  intro c a d v w h
  cases d with
  | none=>exact h
  | some d=>exact hQ0 c a d v w h
 have hh:l.toArray[nc]?=some oc:=by simpa using hh0
 have hp:kfX .any l.toArray l.length=true:=by
  unfold kfX
  refine List.all_eq_true.2 fun t ht=>?_
  have:=List.mem_range.1 ht
  simp only [List.size_toArray] at this
  simp [this]
 refine wp_region_any hm (kdR (S:=S) (n:=l.length) _ _ _ _ ?_)
 have hmono:∀(S:World→Prop) (L L':Act→Prop),(∀a,L a→L' a)→∀(sl:List Oper) (a:Act),kcY P l.toArray S L sl a→kcY P l.toArray S L' sl a:=by
  intro S L L' hL sl
  induction sl with
  | nil=>intro a h;exact hL a h
  | cons o sl ih=>rintro a ⟨v,hy,h⟩;exact ⟨v,hy,ih _ h⟩
 have hrest:∀a w,S w→kcY P l.toArray S (fun a3=>Q .normal a3 w) (kbK l rest) a →
   wpHT P .any l.toArray Q S l.length (0+rest.length) ((kcX softs (Array.replicate l.length false)).setIfInBounds nc true) a w:=by
  intro a w hSw hw
  exact kgG (P:=P) (Q:=Q) (S:=S) (md:=.any) (ops:=l.toArray) hp h3 hQ rest (kbK l rest) 0 _ a w hr h10 hSw (hmono _ _ _ (fun a' ha=>⟨h11,ha⟩) _ _ hw)
 have hcall:∀a,((zI oc (yielded l.toArray a.tmps)=true∧oc.wp P a w.drew (fun a2 w2=>S w2∧kcY P l.toArray S (fun a3=>Q .normal a3 w2) (kbK l rest) a2) Q) ∨
   (zI oc (yielded l.toArray a.tmps)=false∧kcY P l.toArray S (fun a3=>Q .normal a3 w.drew) (kbK l rest) (a.put oc.dst undef))) →
   wpHT P .any l.toArray Q S l.length (0+rest.length+1) (kcX softs (Array.replicate l.length false)) a w.drew:=by
  intro a hw
  refine ⟨fun h0=>(by rw [h0] at h8;cases h8),fun j hj=>?_⟩
  rw [h8] at hj
  obtain rfl:j=nc:=by simpa using hj
  unfold wpOp
  rcases hw with ⟨hg,hw⟩ | ⟨hg,hw⟩
  ·simp only [hh,hg,if_true]
   exact .inl (Oper.wp_mono (fun a' w' h'=>⟨fun _=>h'.1,hrest a' w' h'.1 h'.2⟩) hw)
  ·simp only [hh,hg,Bool.false_eq_true,if_false]
   exact ⟨fun _=>hS,hrest _ _ hS hw⟩
 have:=kgG (P:=P) (Q:=Q) (S:=S) (md:=.any) (ops:=l.toArray) hp h3 hQ softs (kbK l softs) (0+rest.length+1) (Array.replicate l.length false) a w.drew hs h7 hS
  (hmono _ _ _ (fun a' ha=>hcall a' ha) (kbK l softs) a h)
 rw [show 0+rest.length+1+softs.length=l.toArray.size by simp;omega] at this
 simpa using this
theorem wp_hide {K0:Act→World→Prop} (h:∀K:Act→World→Prop,(∀a w,K0 a w→K a w)→o.wp P a w K Q):o.wp P a w K0 Q:=h _ (fun _ _ h=>h)
end
end
section
section
variable {P:Program} {ops:Array Oper} {Q:Exit→Act→World→Prop} {md:Region.Mode} {S:World→Prop}
def scriptB (md:Region.Mode) (ops:Array Oper) (n:Nat):List (Nat×Bool)→Array Bool→Bool
 | [],listed=>decide (Region.ready md ops listed=[])
 | (i,true)::r,listed=>decide (i < n) && Region.free md ops listed i && (Region.ready md ops listed).contains i && scriptB md ops n r (listed.setIfInBounds i true)
 | (i,false)::r,listed=>decide (Region.ready md ops listed=[i]) && (decide (i < n) || r.all fun p=>!p.2 && decide (n≤p.1)) && scriptB md ops n r (listed.setIfInBounds i true)
def kdV (P:Program) (ops:Array Oper) (Q:Exit→Act→World→Prop) (S:World→Prop) (n:Nat):List (Nat×Bool)→Act→World→Prop
 | [],a,w=>Q .normal a w
 | (i,true)::r,a,w=>∃o v,ops[i]?=some o∧YieldsIf P ops S o v a∧kdV P ops Q S n r (a.put o.dst v) w
 | (i,false)::r,a,w=>∃o,ops[i]?=some o∧((zI o (yielded ops a.tmps)=true∧o.wp P a w (fun a' w'=>(i < n→S w')∧kdV P ops Q S n r a' w') Q)∨(zI o (yielded ops a.tmps)=false∧kdV P ops Q S n r (a.put o.dst undef) w))
theorem wpHT_script (n:Nat) (hp:kfX md ops n=true) (hsel:Region.noSelect ops=true) (hQ:∀c a d v w,Q (.panic c) (zJ a d v) w→Q (.panic c) a w) :
  ∀(sc:List (Nat×Bool)) (listed:Array Bool) (a:Act) (w:World),scriptB md ops n sc listed=true→(S w∨(sc.all fun p=>!p.2 && decide (n≤p.1))=true)→kdV P ops Q S n sc a w→wpHT P md ops Q S n sc.length listed a w
 | [],listed,a,w,hB,_,h=>⟨by simpa [scriptB] using hB,h⟩
 | (i,true)::r,listed,a,w,hB,hS,⟨o,v,ho,hy,h⟩=>by
  simp only [scriptB,Bool.and_eq_true,decide_eq_true_eq] at hB
  obtain ⟨⟨⟨h1,h2⟩,h3⟩,h4⟩:=hB
  have hS':S w:=by
   rcases hS with hS | hS
   ·exact hS
   ·simp at hS
  exact wpHT_first hp h1 ho (Region.noSelect_spec hsel) hQ r.length listed a w (Region.free_spec ho h2) (by simpa using h3) hy hS' (wpHT_script n hp hsel hQ r _ _ w h4 (.inl hS') h)
 | (i,false)::r,listed,a,w,hB,hS,⟨o,ho,h⟩=>by
  simp only [scriptB,Bool.and_eq_true,decide_eq_true_eq,Bool.or_eq_true] at hB
  refine ⟨fun h0=>(by rw [h0] at hB;cases hB.1.1),fun j hj=>?_⟩
  rw [hB.1.1] at hj
  obtain rfl:j=i:=by simpa using hj
  have hS2:∀w':World,(j < n→S w')→S w'∨(r.all fun p=>!p.2 && decide (n≤p.1))=true:=fun w' g=>hB.1.2.imp g id
  have hS3:j < n→S w:=by
   intro hj
   rcases hS with hS | hS
   ·exact hS
   ·simp at hS;omega
  unfold wpOp
  rcases h with ⟨hg,h⟩ | ⟨hg,h⟩
  ·simp only [ho,hg,if_true]
   exact .inl (Oper.wp_mono (fun a' w' h'=>⟨h'.1,wpHT_script n hp hsel hQ r _ a' w' hB.2 (hS2 w' h'.1) h'.2⟩) h)
  ·simp only [ho,hg,Bool.false_eq_true,if_false]
   exact ⟨hS3,wpHT_script n hp hsel hQ r _ _ w hB.2 (hS2 w hS3) h⟩
variable {l:List Oper} {w:World} {a:Act}
theorem kfD {id:Nat} (S:World→Prop) (n:Nat) (sc:List (Nat×Bool)) (hm:P.follows .mixedOrders=true)
  (hB:(kfX .any l.toArray n && Region.noSelect l.toArray && decide (sc.length=l.length) && scriptB .any l.toArray n sc (Array.replicate l.length false))=true)
  (hQ0:∀c a d v w,Q (.panic c) (zJ a (some d) v) w→Q (.panic c) a w) (hS:S w.drew) (h:kdV P l.toArray Q S n sc a w.drew):(Code.region id l.toArray true).wp P Q a w:=by
 simp only [Bool.and_eq_true,decide_eq_true_eq] at hB
 obtain ⟨⟨⟨hp,h1⟩,h2⟩,h3⟩:=hB
 have hQ:∀c a d v w,Q (.panic c) (zJ a d v) w→Q (.panic c) a w:=by
  intro c a d v w h
  cases d with
  | none=>exact h
  | some d=>exact hQ0 c a d v w h
 refine wp_region_any hm (kdR (S:=S) (n:=n) _ _ _ _ ?_)
 have:=wpHT_script (md:=.any) n hp h1 hQ sc (Array.replicate l.length false) a w.drew h3 (.inl hS) h
 rw [h2] at this
 simpa using this
variable {n:Nat}
theorem kdQ {ops:Array Oper} (h:Q .normal a w):kdV P ops Q S n [] a w:=h
theorem kcN {i:Nat} {r:List (Nat×Bool)} {o:Oper} (ho:l[i]?=some o) (v:Value) (hg:zI o (yielded l.toArray a.tmps)=true) (h:∀w,S w→(execOp a.eval o).run P w=.ok (.value v) w) (h2:kdV P l.toArray Q S n r (a.put o.dst v) w):kdV P l.toArray Q S n ((i,true)::r) a w :=
 ⟨o,v,by simpa using ho,.inl ⟨hg,h⟩,h2⟩
theorem kcR {i:Nat} {r:List (Nat×Bool)} {o:Oper} (ho:l[i]?=some o) (hg:zI o (yielded l.toArray a.tmps)=true) (h:∀K:Act→World→Prop,(∀a' w',(i < n→S w')→kdV P l.toArray Q S n r a' w'→K a' w')→o.wp P a w K Q):kdV P l.toArray Q S n ((i,false)::r) a w :=
 ⟨o,by simpa using ho,.inl ⟨hg,h _ fun _ _ h1 h2=>⟨h1,h2⟩⟩⟩
end
end
section
section
variable {P:Program} {Q:Exit→Act→World→Prop}
theorem kfN {id:Nat} {a:Act} {w:World} {l:List Oper} (S:World→Prop) (n:Nat) (softs:List Nat) (oc:Oper) (sc:List (Nat×Bool)) (hm:P.follows .mixedOrders=true)
  (hB:(Region.sinkB .any l.toArray n && chain2B .any l.toArray n && Region.noSelect l.toArray && decide (n < l.length) && decide (softs.length=n) && decide (n+1+sc.length=l.length) && kfM .any l.toArray n softs (Array.replicate l.length false) &&
   decide (Region.ready .any l.toArray (kcX softs (Array.replicate l.length false))=[n]) && oc.guard.isNone && scriptB .any l.toArray l.length sc ((kcX softs (Array.replicate l.length false)).setIfInBounds n true) &&
   (List.range n).all fun i=>((kcX softs (Array.replicate l.length false)).setIfInBounds n true).getD i false)=true)
  (hQ0:∀c a d v w,Q (.panic c) (zJ a (some d) v) w→Q (.panic c) a w) (hs:(softs.map fun i=>l.toArray[i]?)=(kbK l softs).map some) (hh0:l[n]?=some oc)
  (hS:S w.drew) (h:kcY P l.toArray S (fun a'=>oc.wp P a' w.drew (fun a2 w2=>kdV P l.toArray Q (fun _=>True) l.length sc a2 w2) Q) (kbK l softs) a):(Code.region id l.toArray true).wp P Q a w:=by
 simp only [Bool.and_eq_true,decide_eq_true_eq] at hB
 obtain ⟨⟨⟨⟨⟨⟨⟨⟨⟨⟨h1,h2⟩,h3⟩,h4⟩,h5⟩,h6⟩,h7⟩,h8⟩,h9⟩,h10⟩,h12⟩:=hB
 have hQ:∀c a d v w,Q (.panic c) (zJ a d v) w→Q (.panic c) a w:=by
  intro c a d v w h
  cases d with
  | none=>exact h
  | some d=>exact hQ0 c a d v w h
 have hh:l.toArray[n]?=some oc:=by simpa using hh0
 have hg:oc.guard=none:=by simpa using h9
 have hn:n < l.toArray.size:=by simpa using h4
 refine wp_region_any hm (kdR (S:=S) (n:=n) _ _ _ _ ?_)
 have hmono:∀(S:World→Prop) (L L':Act→Prop),(∀a,L a→L' a)→∀(sl:List Oper) (a:Act),kcY P l.toArray S L sl a→kcY P l.toArray S L' sl a:=by
  intro S L L' hL sl
  induction sl with
  | nil=>intro a h;exact hL a h
  | cons o sl ih=>rintro a ⟨v,hy,h⟩;exact ⟨v,hy,ih _ h⟩
 have hrest:∀a w,kdV P l.toArray Q (fun _=>True) l.length sc a w →
   wpHT P .any l.toArray Q (fun _=>True) l.length (0+sc.length) ((kcX softs (Array.replicate l.length false)).setIfInBounds n true) a w:=by
  intro a w hw
  have hp:kfX .any l.toArray l.length=true:=by
   unfold kfX
   refine List.all_eq_true.2 fun t ht=>?_
   have:=List.mem_range.1 ht
   simp only [List.size_toArray] at this
   simp [this]
  have:=wpHT_script (P:=P) (Q:=Q) (S:=fun _=>True) (md:=.any) (ops:=l.toArray) l.length hp h3 hQ sc _ a w h10 (.inl trivial) hw
  rwa [Nat.zero_add]
 have hcall:∀a w,oc.wp P a w (fun a2 w2=>kdV P l.toArray Q (fun _=>True) l.length sc a2 w2) Q →
   wpHT P .any l.toArray Q S n (0+sc.length+1) (kcX softs (Array.replicate l.length false)) a w:=by
  intro a w hw
  refine ⟨fun h0=>(by rw [h0] at h8;cases h8),fun j hj=>?_⟩
  rw [h8] at hj
  obtain rfl:j=n:=by simpa using hj
  unfold wpOp
  simp only [hh,zI,hg,if_true]
  refine .inl (Oper.wp_mono (fun a' w' h'=>⟨fun hx=>absurd hx (by omega),?_⟩) hw)
  exact wpHT_over _ _ _ _ (fun i hi=>by simpa using List.all_eq_true.1 h12 i (List.mem_range.2 hi)) (hrest a' w' h')
 have inv:HeadInv .any l.toArray n (Array.replicate l.length false):=by
  refine ⟨by simp,fun j oj _ hl=>?_,fun t _ ht=>?_⟩
  ·rw [getD_replicate_false] at hl;cases hl
  ·simp only [List.size_toArray] at ht
   simp [ht]
 have:=wpHT_softsC (P:=P) (Q:=Q) (S:=S) (md:=.any) (ops:=l.toArray) h1 h2 hn h3 hQ softs (kbK l softs) (0+sc.length+1) (Array.replicate l.length false) a w.drew inv hs h7 hS
  (hmono _ _ _ (fun a' ha=>hcall a' w.drew ha) (kbK l softs) a h)
 rw [show 0+sc.length+1+softs.length=l.toArray.size by simp;omega] at this
 simpa using this
end
end
section
inductive Scr where
 | nil:Scr
 | soft:Nat→Scr→Scr
 | hard:Nat→Scr→Scr
 | fork:Nat→Nat→Scr→Scr→Scr
 | fork3:Nat→Nat→Nat→Scr→Scr→Scr→Scr
section
variable {P:Program} {ops:Array Oper} {Q:Exit→Act→World→Prop} {md:Region.Mode} {S:World→Prop}
def Scr.len:Scr→Nat
 | .nil=>0
 | .soft _ r=>r.len+1
 | .hard _ r=>r.len+1
 | .fork _ _ r _=>r.len+1
 | .fork3 _ _ _ r _ _=>r.len+1
def scrB (md:Region.Mode) (ops:Array Oper):Scr→Array Bool→Bool
 | .nil,listed=>decide (Region.ready md ops listed=[])
 | .soft i r,listed=>decide (i < ops.size) && Region.free md ops listed i && (Region.ready md ops listed).contains i && scrB md ops r (listed.setIfInBounds i true)
 | .hard i r,listed=>decide (Region.ready md ops listed=[i]) && scrB md ops r (listed.setIfInBounds i true)
 | .fork i j r s,listed=>decide (Region.ready md ops listed=[i,j]) && decide (r.len=s.len) && scrB md ops r (listed.setIfInBounds i true) && scrB md ops s (listed.setIfInBounds j true)
 | .fork3 i j k r s t,listed=>decide (Region.ready md ops listed=[i,j,k]) && decide (r.len=s.len) && decide (r.len=t.len) && scrB md ops r (listed.setIfInBounds i true) && scrB md ops s (listed.setIfInBounds j true) && scrB md ops t (listed.setIfInBounds k true)
def wpScr (P:Program) (ops:Array Oper) (Q:Exit→Act→World→Prop) (S:World→Prop):Scr→Act→World→Prop
 | .nil,a,w=>Q .normal a w
 | .soft i r,a,w=>∃o v,ops[i]?=some o∧YieldsIf P ops S o v a∧wpScr P ops Q S r (a.put o.dst v) w
 | .hard i r,a,w=>∃o,ops[i]?=some o∧((zI o (yielded ops a.tmps)=true∧o.wp P a w (fun a' w'=>S w'∧wpScr P ops Q S r a' w') Q)∨(zI o (yielded ops a.tmps)=false∧wpScr P ops Q S r (a.put o.dst undef) w))
 | .fork i j r s,a,w=>∃o p,ops[i]?=some o∧ops[j]?=some p∧o.guard=none∧p.guard=none∧o.wp P a w (fun a' w'=>S w'∧wpScr P ops Q S r a' w') Q∧p.wp P a w (fun a' w'=>S w'∧wpScr P ops Q S s a' w') Q
 | .fork3 i j k r s t,a,w=>∃o p q,ops[i]?=some o∧ops[j]?=some p∧ops[k]?=some q∧o.guard=none∧p.guard=none∧q.guard=none∧o.wp P a w (fun a' w'=>S w'∧wpScr P ops Q S r a' w') Q∧p.wp P a w (fun a' w'=>S w'∧wpScr P ops Q S s a' w') Q∧q.wp P a w (fun a' w'=>S w'∧wpScr P ops Q S t a' w') Q
theorem wpHT_scr (hp:kfX md ops ops.size=true) (hsel:Region.noSelect ops=true) (hQ:∀c a d v w,Q (.panic c) (zJ a d v) w→Q (.panic c) a w) :
  ∀(sc:Scr) (listed:Array Bool) (a:Act) (w:World),scrB md ops sc listed=true→S w→wpScr P ops Q S sc a w→wpHT P md ops Q S ops.size sc.len listed a w
 | .nil,listed,a,w,hB,_,h=>⟨by simpa [scrB] using hB,h⟩
 | .soft i r,listed,a,w,hB,hS,⟨o,v,ho,hy,h⟩=>by
  simp only [scrB,Bool.and_eq_true,decide_eq_true_eq] at hB
  obtain ⟨⟨⟨h1,h2⟩,h3⟩,h4⟩:=hB
  exact wpHT_first hp h1 ho (Region.noSelect_spec hsel) hQ r.len listed a w (Region.free_spec ho h2) (by simpa using h3) hy hS (wpHT_scr hp hsel hQ r _ _ w h4 hS h)
 | .hard i r,listed,a,w,hB,hS,⟨o,ho,h⟩=>by
  simp only [scrB,Bool.and_eq_true,decide_eq_true_eq] at hB
  refine ⟨fun h0=>(by rw [h0] at hB;cases hB.1),fun j hj=>?_⟩
  rw [hB.1] at hj
  obtain rfl:j=i:=by simpa using hj
  unfold wpOp
  rcases h with ⟨hg,h⟩ | ⟨hg,h⟩
  ·simp only [ho,hg,if_true]
   exact .inl (Oper.wp_mono (fun a' w' h'=>⟨fun _=>h'.1,wpHT_scr hp hsel hQ r _ a' w' hB.2 h'.1 h'.2⟩) h)
  ·simp only [ho,hg,Bool.false_eq_true,if_false]
   exact ⟨fun _=>hS,wpHT_scr hp hsel hQ r _ _ w hB.2 hS h⟩
 | .fork i j r s,listed,a,w,hB,hS,⟨o,p,ho,hpj,hgo,hgp,g1,g2⟩=>by
  simp only [scrB,Bool.and_eq_true,decide_eq_true_eq] at hB
  obtain ⟨⟨⟨h1,h2⟩,h3⟩,h4⟩:=hB
  refine ⟨fun h0=>(by rw [h0] at h1;cases h1),fun q hq=>?_⟩
  rw [h1] at hq
  simp only [List.mem_cons,List.not_mem_nil,or_false] at hq
  rcases hq with rfl | rfl
  ·unfold wpOp
   simp only [ho,zI,hgo,if_true]
   exact .inl (Oper.wp_mono (fun a' w' h'=>⟨fun _=>h'.1,wpHT_scr hp hsel hQ r _ a' w' h3 h'.1 h'.2⟩) g1)
  ·unfold wpOp
   simp only [hpj,zI,hgp,if_true]
   exact .inl (Oper.wp_mono (fun a' w' h'=>⟨fun _=>h'.1,by rw [h2];exact wpHT_scr hp hsel hQ s _ a' w' h4 h'.1 h'.2⟩) g2)
 | .fork3 i j k r s t,listed,a,w,hB,hS,⟨o,p,q0,ho,hpj,hqk,hgo,hgp,hgq,g1,g2,g3⟩=>by
  simp only [scrB,Bool.and_eq_true,decide_eq_true_eq] at hB
  obtain ⟨⟨⟨⟨⟨h1,h2⟩,h2'⟩,h3⟩,h4⟩,h5⟩:=hB
  refine ⟨fun h0=>(by rw [h0] at h1;cases h1),fun q hq=>?_⟩
  rw [h1] at hq
  simp only [List.mem_cons,List.not_mem_nil,or_false] at hq
  rcases hq with rfl | rfl | rfl
  ·unfold wpOp
   simp only [ho,zI,hgo,if_true]
   exact .inl (Oper.wp_mono (fun a' w' h'=>⟨fun _=>h'.1,wpHT_scr hp hsel hQ r _ a' w' h3 h'.1 h'.2⟩) g1)
  ·unfold wpOp
   simp only [hpj,zI,hgp,if_true]
   exact .inl (Oper.wp_mono (fun a' w' h'=>⟨fun _=>h'.1,by rw [h2];exact wpHT_scr hp hsel hQ s _ a' w' h4 h'.1 h'.2⟩) g2)
  ·unfold wpOp
   simp only [hqk,zI,hgq,if_true]
   exact .inl (Oper.wp_mono (fun a' w' h'=>⟨fun _=>h'.1,by rw [h2'];exact wpHT_scr hp hsel hQ t _ a' w' h5 h'.1 h'.2⟩) g3)
variable {l:List Oper} {w:World} {a:Act}
theorem kbM {id:Nat} (S:World→Prop) (sc:Scr) (hm:P.follows .mixedOrders=true)
  (hB:(Region.noSelect l.toArray && decide (sc.len=l.length) && scrB .any l.toArray sc (Array.replicate l.length false))=true)
  (hQ0:∀c a d v w,Q (.panic c) (zJ a (some d) v) w→Q (.panic c) a w) (hS:S w.drew) (h:wpScr P l.toArray Q S sc a w.drew):(Code.region id l.toArray true).wp P Q a w:=by
 simp only [Bool.and_eq_true,decide_eq_true_eq] at hB
 obtain ⟨⟨h1,h2⟩,h3⟩:=hB
 have hQ:∀c a d v w,Q (.panic c) (zJ a d v) w→Q (.panic c) a w:=by
  intro c a d v w h
  cases d with
  | none=>exact h
  | some d=>exact hQ0 c a d v w h
 have hp:kfX .any l.toArray l.toArray.size=true:=by
  unfold kfX
  refine List.all_eq_true.2 fun t ht=>?_
  have ht2:=List.mem_range.1 ht
  simp only [List.size_toArray] at ht2
  simp [ht2]
 refine wp_region_any hm (kdR (S:=S) (n:=l.toArray.size) _ _ _ _ ?_)
 have:=wpHT_scr (md:=.any) hp h1 hQ sc (Array.replicate l.length false) a w.drew h3 hS h
 rw [h2] at this
 simpa using this
theorem kcT (h:Q .normal a w):wpScr P ops Q S .nil a w:=h
variable {o:Oper} {i:Nat} {r:Scr}
theorem kbH (ho:l[i]?=some o) (v:Value) (hg:zI o (yielded l.toArray a.tmps)=true) (h:∀w,S w→(execOp a.eval o).run P w=.ok (.value v) w) (h2:wpScr P l.toArray Q S r (a.put o.dst v) w):wpScr P l.toArray Q S (.soft i r) a w :=
 ⟨o,v,by simpa using ho,.inl ⟨hg,h⟩,h2⟩
theorem kbJ (ho:l[i]?=some o) (hg:zI o (yielded l.toArray a.tmps)=false) (h2:wpScr P l.toArray Q S r (a.put o.dst undef) w):wpScr P l.toArray Q S (.soft i r) a w :=
 ⟨o,undef,by simpa using ho,.inr ⟨hg,rfl⟩,h2⟩
theorem kbY (ho:l[i]?=some o) (hg:zI o (yielded l.toArray a.tmps)=true) (h:∀K:Act→World→Prop,(∀a' w',S w'→wpScr P l.toArray Q S r a' w'→K a' w')→o.wp P a w K Q):wpScr P l.toArray Q S (.hard i r) a w :=
 ⟨o,by simpa using ho,.inl ⟨hg,h _ fun _ _ h1 h2=>⟨h1,h2⟩⟩⟩
theorem kfW (ho:l[i]?=some o) (hg:zI o (yielded l.toArray a.tmps)=false) (h2:wpScr P l.toArray Q S r (a.put o.dst undef) w):wpScr P l.toArray Q S (.hard i r) a w :=
 ⟨o,by simpa using ho,.inr ⟨hg,h2⟩⟩
theorem scr_fork {i j:Nat} {r s:Scr} {o p:Oper} (ho:l[i]?=some o) (hp:l[j]?=some p) (go:o.guard=none) (gp:p.guard=none)
  (h1:∀K:Act→World→Prop,(∀a' w',S w'→wpScr P l.toArray Q S r a' w'→K a' w')→o.wp P a w K Q) (h2:∀K:Act→World→Prop,(∀a' w',S w'→wpScr P l.toArray Q S s a' w'→K a' w')→p.wp P a w K Q):wpScr P l.toArray Q S (.fork i j r s) a w :=
 ⟨o,p,by simpa using ho,by simpa using hp,go,gp,h1 _ fun _ _ h1 h2=>⟨h1,h2⟩,h2 _ fun _ _ h1 h2=>⟨h1,h2⟩⟩
end
end
section
section
variable {P:Program} {ops:Array Oper} {Q:Exit→Act→World→Prop} {md:Region.Mode} {S:World→Prop} {n:Nat}
theorem wpHT_hards_two {l:List Oper} (hops:ops=l.toArray) (hn:n≤l.length) {i j:Nat} {r1 r2:List Nat} {oi oj:Oper} {hs1 hs2:List Oper} {listed:Array Bool} {a:Act} {w:World} (hi:ops[i]?=some oi) (hj:ops[j]?=some oj)
  (h1:(r1.map fun i=>ops[i]?)=hs1.map some) (h2:(r2.map fun i=>ops[i]?)=hs2.map some) (hr:Region.ready md ops listed=[i,j]) (hgi:oi.guard=none) (hgj:oj.guard=none)
  (hB1:hardsB md ops n r1 (listed.setIfInBounds i true)=true) (hB2:hardsB md ops n r2 (listed.setIfInBounds j true)=true) (hl:r1.length=r2.length)
  (g1:kdC P ops Q S (l.drop n) (oi::hs1) a w) (g2:kdC P ops Q S (l.drop n) (oj::hs2) a w):wpHT P md ops Q S n (l.length - n+r1.length+1) listed a w:=by
 refine ⟨fun h0=>(by rw [h0] at hr;cases hr),fun q hq=>?_⟩
 rw [hr] at hq
 simp only [List.mem_cons,List.not_mem_nil,or_false] at hq
 rcases hq with rfl | rfl
 ·unfold wpOp
  simp only [hi,zI,hgi,if_true]
  exact .inl (Oper.wp_mono (fun a' w' h'=>⟨fun _=>h'.1,wpHT_hards hops hn r1 hs1 _ a' w' h1 hB1 h'.2⟩) g1)
 ·unfold wpOp
  simp only [hj,zI,hgj,if_true]
  exact .inl (Oper.wp_mono (fun a' w' h'=>⟨fun _=>h'.1,by rw [hl];exact wpHT_hards hops hn r2 hs2 _ a' w' h2 hB2 h'.2⟩) g2)
theorem wp_region_two {id:Nat} {a:Act} {w:World} {l:List Oper} (S:World→Prop) (n:Nat) (softs:List Nat) (i j:Nat) (r1 r2:List Nat) (oi oj:Oper) (hm:P.follows .mixedOrders=true)
  (hB:(kfX .any l.toArray n && Region.noSelect l.toArray && decide (n≤l.length) && decide (softs.length+(r1.length+1)=n) && decide (r1.length=r2.length) && kfM .any l.toArray n softs (Array.replicate l.length false) &&
   decide (Region.ready .any l.toArray (kcX softs (Array.replicate l.length false))=[i,j]) && oi.guard.isNone && oj.guard.isNone && hardsB .any l.toArray n r1 ((kcX softs (Array.replicate l.length false)).setIfInBounds i true) &&
   hardsB .any l.toArray n r2 ((kcX softs (Array.replicate l.length false)).setIfInBounds j true))=true)
  (hQ0:∀c a d v w,Q (.panic c) (zJ a (some d) v) w→Q (.panic c) a w) (hs:(softs.map fun i=>l.toArray[i]?)=(kbK l softs).map some) (hi:l[i]?=some oi) (hj:l[j]?=some oj)
  (hh1:(r1.map fun i=>l.toArray[i]?)=(kbK l r1).map some) (hh2:(r2.map fun i=>l.toArray[i]?)=(kbK l r2).map some)
  (hS:S w.drew) (h:kcY P l.toArray S (fun a'=>kdC P l.toArray Q S (l.drop n) (oi::kbK l r1) a' w.drew∧kdC P l.toArray Q S (l.drop n) (oj::kbK l r2) a' w.drew) (kbK l softs) a):(Code.region id l.toArray true).wp P Q a w:=by
 simp only [Bool.and_eq_true,decide_eq_true_eq] at hB
 obtain ⟨⟨⟨⟨⟨⟨⟨⟨⟨⟨h1,h2⟩,h3⟩,h4⟩,h4'⟩,h5⟩,h6⟩,h7⟩,h8⟩,h9⟩,h10⟩:=hB
 have hQ:∀c a d v w,Q (.panic c) (zJ a d v) w→Q (.panic c) a w:=by
  intro c a d v w h
  cases d with
  | none=>exact h
  | some d=>exact hQ0 c a d v w h
 refine wp_region_any hm (kdR (S:=S) (n:=n) _ _ _ _ ?_)
 have hmono:∀(L L':Act→Prop),(∀a,L a→L' a)→∀(sl:List Oper) (a:Act),kcY P l.toArray S L sl a→kcY P l.toArray S L' sl a:=by
  intro L L' hL sl
  induction sl with
  | nil=>intro a h;exact hL a h
  | cons o sl ih=>rintro a ⟨v,hy,h⟩;exact ⟨v,hy,ih _ h⟩
 have:=kgG (P:=P) (Q:=Q) (S:=S) (md:=.any) (ops:=l.toArray) h1 h2 hQ softs (kbK l softs) (l.length - n+r1.length+1) (Array.replicate l.length false) a w.drew hs h5 hS
  (hmono _ _ (fun a' ha=>wpHT_hards_two rfl h3 (by simpa using hi) (by simpa using hj) hh1 hh2 h6 (by simpa using h7) (by simpa using h8) h9 h10 h4' ha.1 ha.2) (kbK l softs) a h)
 rw [show l.length - n+r1.length+1+softs.length=l.toArray.size by simp;omega] at this
 simpa using this
end
end
section
section
variable {P:Program} {ops:Array Oper} {Q:Exit→Act→World→Prop} {md:Region.Mode} {S:World→Prop} {n:Nat}
def sinkPB (md:Region.Mode) (ops:Array Oper) (n:Nat) (pure:List Nat):Bool :=
 (List.range n).all fun i=>pure.contains i || (List.range (n+1)).any fun j=>decide (i < j) && Region.waitsFor md ops j i
theorem tail_waitsP {pure:List Nat} {listed:Array Bool} (hs:sinkPB md ops n pure=true) (hc:chain2B md ops n=true) (hn:n < ops.size) (hpl:∀i∈pure,listed.getD i true=true) (inv:HeadInv md ops n listed) :
  ∀(d i:Nat),n - i=d→i < n→listed.getD i true=false→∀t,n≤t→t∉Region.ready md ops listed:=by
 intro d
 induction d using Nat.strongRecOn with
 | _ d ih =>
  intro i hd hi hun t ht hr
  obtain ⟨_,ot,hot,hall⟩:=mem_ready.1 hr
  have htlt:t < ops.size:=(Array.getElem?_eq_some_iff.1 hot).1
  by_cases htn:t=n
  ·subst htn
   have h1:=List.all_eq_true.1 hs i (List.mem_range.2 hi)
   simp only [Bool.or_eq_true] at h1
   rcases h1 with h1 | h1
   ·have:=hpl i (by simpa using h1)
    rw [hun] at this;cases this
   obtain ⟨j,hj,hj2⟩:=List.any_eq_true.1 h1
   simp only [Bool.and_eq_true,decide_eq_true_eq] at hj2
   obtain ⟨oj,hoj,e,he,hb,hon⟩:=Region.waitsFor_spec hj2.2
   have hjle:j≤t:=by have:=List.mem_range.1 hj;omega
   by_cases hjt:j=t
   ·subst hjt
    have:oj=ot:=Iq (hoj.symm.trans hot)
    subst this
    have h2:=hall e he hb
    rw [hon,getD_both hun] at h2
    cases h2
   ·cases hl:listed.getD j false with
    | true =>
     have h2:=inv.closed j oj hoj hl e he hb
     rw [hon,getD_both hun] at h2
     cases h2
    | false =>
     have hjs:j < listed.size:=by rw [inv.size];omega
     exact ih (t - j) (by omega) j rfl (by omega) (getD_in hjs hl) t (zi _) hr
  ·have h1:=List.all_eq_true.1 hc t (List.mem_range.2 htlt)
   simp only [Bool.or_eq_true,decide_eq_true_eq] at h1
   rcases h1 with h1 | h1
   ·omega
   ·obtain ⟨s,hs1,hs2⟩:=List.any_eq_true.1 h1
    simp only [Bool.and_eq_true,decide_eq_true_eq] at hs2
    obtain ⟨o',ho',e,he,hb,hon⟩:=Region.waitsFor_spec hs2.2
    have:o'=ot:=Iq (ho'.symm.trans hot)
    subst this
    have h2:=hall e he hb
    have:=List.mem_range.1 hs1
    rw [hon,getD_both (inv.tail s hs2.1 (by omega))] at h2
    cases h2
theorem getD_set_tt {listed:Array Bool} {i q:Nat} (h:listed.getD q true=true):(listed.setIfInBounds i true).getD q true=true:=by
 by_cases hq:i=q
 ·subst hq
  by_cases hi:i < listed.size
  ·simp [hi]
  ·simp [hi]
 ·rw [getD_set_ne true hq];exact h
theorem wpHT_firstP {pure:List Nat} {i:Nat} {oi:Oper} {v:Value} (hs:sinkPB md ops n pure=true) (hc:chain2B md ops n=true) (hn:n < ops.size) (hin:i < n) (hi:ops[i]?=some oi) (hsel:∀(j:Nat) (o:Oper) cs b,ops[j]?=some o→o.op≠.select cs b)
  (hQ:∀c a d v w,Q (.panic c) (zJ a d v) w→Q (.panic c) a w) :
  ∀(f:Nat) (listed:Array Bool) (a:Act) (w:World),(∀i∈pure,listed.getD i true=true)→HeadInv md ops n listed →
   (∀j oj,ops[j]?=some oj→j≠i→listed.getD j true=false→(∀e∈oj.after,Region.binds md e=true→e.on≠i)→oi.apart ops oj=true) →
   i∈Region.ready md ops listed→YieldsIf P ops S oi v a→S w →
   wpHT P md ops Q S n f (listed.setIfInBounds i true) (a.put oi.dst v) w→wpHT P md ops Q S n (f+1) listed a w:=by
 intro f
 induction f with
 | zero =>
  intro listed a w _ _ _ hr hy hS H
  refine ⟨fun h=>(by rw [h] at hr;cases hr),fun j hj=>?_⟩
  by_cases hji:j=i
  ·subst hji;exact hy.wpOp hi hS ⟨fun _=>hS,H⟩
  ·have:=ready_mono hj hji
   rw [H.1] at this
   cases this
 | succ f ih =>
  intro listed a w hpl inv hfree hr hy hS H
  have hun:=(mem_ready.1 hr).1
  refine ⟨fun h=>(by rw [h] at hr;cases hr),fun j hj=>?_⟩
  have hjn:j < n:=by
   rcases Nat.lt_or_ge j n with h | h
   ·exact h
   ·exact absurd hj (tail_waitsP hs hc hn hpl inv _ i rfl hin hun j h)
  by_cases hji:j=i
  ·subst hji;exact hy.wpOp hi hS ⟨fun _=>hS,H⟩
  ·have h1:=H.2 j (ready_mono hj hji)
   obtain ⟨hjun,oj,hoj,hall⟩:=mem_ready.1 hj
   have hnot:∀e∈oj.after,Region.binds md e=true→e.on≠i:=fun e he hb heq=>by
    have h3:=hall e he hb
    rw [heq,getD_both hun] at h3
    cases h3
   have h2:=wpOp_putIf hoj (hfree j oj hoj hji hjun hnot) (fun cs b=>hsel i oi cs b hi) (fun cs b=>hsel j oj cs b hoj) (fun c a w=>hQ c a _ _ w) hy h1
   refine wpOp_mono (fun a' w' h3=>⟨h3.2.1,ih (listed.setIfInBounds j true) a' w' (fun q hq=>getD_set_tt (hpl q hq)) (inv.set hj hjn) ?_ (ready_mono hr (Ne.symm hji)) h3.1 (h3.2.1 hjn) ?_⟩) h2
   ·intro q oq hq hqi hqun hno
    refine hfree q oq hq hqi ?_ hno
    by_cases hjq:j=q
    ·subst hjq;exact hjun
    ·rw [getD_set_ne true hjq] at hqun;exact hqun
   ·rw [Array.setIfInBounds_comm _ _ hji]
    exact h3.2.2
theorem wpHT_softsP {pure:List Nat} (hs:sinkPB md ops n pure=true) (hc:chain2B md ops n=true) (hn:n < ops.size) (hsel:Region.noSelect ops=true) (hQ:∀c a d v w,Q (.panic c) (zJ a d v) w→Q (.panic c) a w) :
  ∀(softs:List Nat) (sops:List Oper) (f:Nat) (listed:Array Bool) (a:Act) (w:World),(∀i∈pure,listed.getD i true=true)→HeadInv md ops n listed→(softs.map fun i=>ops[i]?)=sops.map some→kfM md ops n softs listed=true→S w →
   kcY P ops S (fun a'=>wpHT P md ops Q S n f (kcX softs listed) a' w) sops a→wpHT P md ops Q S n (f+softs.length) listed a w
 | [],[],f,listed,a,w,_,_,_,_,_,h=>h
 | [],_::_,_,_,_,_,_,_,he,_,_,_=>by simp at he
 | _::_,[],_,_,_,_,_,_,he,_,_,_=>by simp at he
 | i::softs,o::sops,f,listed,a,w,hpl,inv,he,hB,hS,⟨v,hy,h⟩=>by
  simp only [List.map_cons,List.cons.injEq] at he
  simp only [kfM,Bool.and_eq_true,decide_eq_true_eq] at hB
  obtain ⟨⟨⟨h1,h2⟩,h3⟩,h4⟩:=hB
  exact wpHT_firstP hs hc hn h1 he.1 (Region.noSelect_spec hsel) hQ (f+softs.length) listed a w hpl inv (Region.free_spec he.1 h2) (by simpa using h3) hy hS
   (wpHT_softsP hs hc hn hsel hQ softs sops f _ _ w (fun q hq=>getD_set_tt (hpl q hq)) (inv.set (by simpa using h3) h1) he.2 h4 hS h)
theorem wpHT_loose:∀(f:Nat) (listed:Array Bool) (a:Act) (w:World),wpHT P md ops Q S n f listed a w→wpHT P md ops Q (fun _=>True) ops.size f listed a w
 | 0,_,_,_,h=>h
 | f+1,_,_,_,h=>⟨h.1,fun j hj=>wpOp_mono (fun a' w' h3=>⟨fun _=>trivial,wpHT_loose f _ a' w' h3.2⟩) (h.2 j hj)⟩
theorem inv_marked:∀(softs:List Nat) (listed:Array Bool),HeadInv md ops n listed→kfM md ops n softs listed=true→HeadInv md ops n (kcX softs listed)
 | [],_,inv,_=>inv
 | i::softs,listed,inv,hB=>by
  simp only [kfM,Bool.and_eq_true,decide_eq_true_eq] at hB
  obtain ⟨⟨⟨h1,h2⟩,h3⟩,h4⟩:=hB
  exact inv_marked softs _ (inv.set (by simpa using h3) h1) h4
theorem wp_region_callp {id:Nat} {a:Act} {w:World} {l:List Oper} (S:World→Prop) (n:Nat) (pure softs:List Nat) (oc:Oper) (sc:List (Nat×Bool)) (hm:P.follows .mixedOrders=true)
  (hB:(sinkPB .any l.toArray n pure && chain2B .any l.toArray n && Region.noSelect l.toArray && decide (n < l.length) && decide (pure.length+softs.length=n) && decide (n+1+sc.length=l.length) && kfM .any l.toArray n pure (Array.replicate l.length false) && kfM .any l.toArray n softs (kcX pure (Array.replicate l.length false)) &&
   kfM .any l.toArray l.length pure (Array.replicate l.length false) && decide (Region.ready .any l.toArray (kcX softs (kcX pure (Array.replicate l.length false)))=[n]) && oc.guard.isNone && scriptB .any l.toArray l.length sc ((kcX softs (kcX pure (Array.replicate l.length false))).setIfInBounds n true) &&
   (List.range n).all (fun i=>((kcX softs (kcX pure (Array.replicate l.length false))).setIfInBounds n true).getD i false) && pure.all fun i=>(kcX pure (Array.replicate l.length false)).getD i false)=true)
  (hQ0:∀c a d v w,Q (.panic c) (zJ a (some d) v) w→Q (.panic c) a w) (hp:(pure.map fun i=>l.toArray[i]?)=(kbK l pure).map some) (hs:(softs.map fun i=>l.toArray[i]?)=(kbK l softs).map some) (hh0:l[n]?=some oc)
  (hS:S w.drew) (h:kcY P l.toArray (fun _=>True) (fun a0=>kcY P l.toArray S (fun a'=>oc.wp P a' w.drew (fun a2 w2=>kdV P l.toArray Q (fun _=>True) l.length sc a2 w2) Q) (kbK l softs) a0) (kbK l pure) a):(Code.region id l.toArray true).wp P Q a w:=by
 simp only [Bool.and_eq_true,decide_eq_true_eq] at hB
 obtain ⟨⟨⟨⟨⟨⟨⟨⟨⟨⟨⟨⟨⟨h1,h2⟩,h3⟩,h4⟩,h5⟩,h6⟩,h7a⟩,h7⟩,h7b⟩,h8⟩,h9⟩,h10⟩,h12⟩,h13⟩:=hB
 have hQ:∀c a d v w,Q (.panic c) (zJ a d v) w→Q (.panic c) a w:=by
  intro c a d v w h
  cases d with
  | none=>exact h
  | some d=>exact hQ0 c a d v w h
 have hh:l.toArray[n]?=some oc:=by simpa using hh0
 have hg:oc.guard=none:=by simpa using h9
 have hn:n < l.toArray.size:=by simpa using h4
 have hp0:kfX .any l.toArray l.toArray.size=true:=by
  unfold kfX
  refine List.all_eq_true.2 fun t ht=>?_
  have ht2:=List.mem_range.1 ht
  simp only [List.size_toArray] at ht2
  simp [ht2]
 refine wp_region_any hm (kdR (S:=fun _=>True) (n:=l.toArray.size) _ _ _ _ ?_)
 have hmono:∀(S:World→Prop) (L L':Act→Prop),(∀a,L a→L' a)→∀(sl:List Oper) (a:Act),kcY P l.toArray S L sl a→kcY P l.toArray S L' sl a:=by
  intro S L L' hL sl
  induction sl with
  | nil=>intro a h;exact hL a h
  | cons o sl ih=>rintro a ⟨v,hy,h⟩;exact ⟨v,hy,ih _ h⟩
 have hrest:∀a w,kdV P l.toArray Q (fun _=>True) l.length sc a w →
   wpHT P .any l.toArray Q (fun _=>True) l.length (0+sc.length) ((kcX softs (kcX pure (Array.replicate l.length false))).setIfInBounds n true) a w:=by
  intro a w hw
  have:=wpHT_script (P:=P) (Q:=Q) (S:=fun _=>True) (md:=.any) (ops:=l.toArray) l.length (by simpa using hp0) h3 hQ sc _ a w h10 (.inl trivial) hw
  rwa [Nat.zero_add]
 have hcall:∀a w,oc.wp P a w (fun a2 w2=>kdV P l.toArray Q (fun _=>True) l.length sc a2 w2) Q →
   wpHT P .any l.toArray Q S n (0+sc.length+1) (kcX softs (kcX pure (Array.replicate l.length false))) a w:=by
  intro a w hw
  refine ⟨fun h0=>(by rw [h0] at h8;cases h8),fun j hj=>?_⟩
  rw [h8] at hj
  obtain rfl:j=n:=by simpa using hj
  unfold wpOp
  simp only [hh,zI,hg,if_true]
  refine .inl (Oper.wp_mono (fun a' w' h'=>⟨fun hx=>absurd hx (by omega),?_⟩) hw)
  exact wpHT_over _ _ _ _ (fun i hi=>by simpa using List.all_eq_true.1 h12 i (List.mem_range.2 hi)) (hrest a' w' h')
 have inv0:HeadInv .any l.toArray n (Array.replicate l.length false):=by
  refine ⟨by simp,fun j oj _ hl=>?_,fun t _ ht=>?_⟩
  ·rw [getD_replicate_false] at hl;cases hl
  ·simp only [List.size_toArray] at ht
   simp [ht]
 have inv:=inv_marked pure _ inv0 h7a
 have hpl:∀i∈pure,(kcX pure (Array.replicate l.length false)).getD i true=true:=by
  intro i hi
  have h2:=List.all_eq_true.1 h13 i hi
  cases h3:(kcX pure (Array.replicate l.length false)).getD i true with
  | true=>rfl
  | false=>rw [getD_both h3] at h2;cases h2
 have hmain:∀a0,kcY P l.toArray S (fun a'=>oc.wp P a' w.drew (fun a2 w2=>kdV P l.toArray Q (fun _=>True) l.length sc a2 w2) Q) (kbK l softs) a0 →
   wpHT P .any l.toArray Q (fun _=>True) l.toArray.size (0+sc.length+1+softs.length) (kcX pure (Array.replicate l.length false)) a0 w.drew:=by
  intro a0 h0
  refine wpHT_loose (S:=S) (n:=n) _ _ _ _ ?_
  exact wpHT_softsP (P:=P) (Q:=Q) (S:=S) (md:=.any) (ops:=l.toArray) h1 h2 hn h3 hQ softs (kbK l softs) (0+sc.length+1) _ a0 w.drew hpl inv hs h7 hS
   (hmono _ _ _ (fun a' ha=>hcall a' w.drew ha) (kbK l softs) a0 h0)
 have:=kgG (P:=P) (Q:=Q) (S:=fun _=>True) (md:=.any) (ops:=l.toArray) hp0 h3 hQ pure (kbK l pure) (0+sc.length+1+softs.length) (Array.replicate l.length false) a w.drew hp (by simpa using h7b) trivial
  (hmono _ _ _ (fun a' ha=>hmain a' ha) (kbK l pure) a h)
 rw [show 0+sc.length+1+softs.length+pure.length=l.toArray.size by simp;omega] at this
 simpa using this
end
end
section
section
variable {P:Program} {ops:Array Oper} {Q:Exit→Act→World→Prop} {md:Region.Mode} {S:World→Prop} {n b:Nat}
def chain3B (md:Region.Mode) (ops:Array Oper) (n b:Nat):Bool :=
 (List.range ops.size).all fun t=>decide (t≤n) || decide (t=b) || (List.range t).any fun s=>decide (n≤s) && decide (s≠b) && Region.waitsFor md ops t s
structure HeadInv3 (md:Region.Mode) (ops:Array Oper) (n b:Nat) (listed:Array Bool):Prop where
 size:listed.size=ops.size
 closed:∀j oj,ops[j]?=some oj→listed.getD j false=true→∀e∈oj.after,Region.binds md e=true→listed.getD e.on false=true
 tail:∀t,n≤t→t≠b→t < ops.size→listed.getD t true=false
theorem HeadInv3.set {i:Nat} {listed:Array Bool} (inv:HeadInv3 md ops n b listed) (hi:i∈Region.ready md ops listed) (hin:i < n∨i=b):HeadInv3 md ops n b (listed.setIfInBounds i true):=by
 obtain ⟨_,oi,hoi,hall⟩:=mem_ready.1 hi
 refine ⟨by simp [inv.size],fun j oj hj hl e he hb=>?_,fun t ht htb ht'=>by rw [getD_set_ne true (by omega)];exact inv.tail t ht htb ht'⟩
 by_cases hij:i=j
 ·subst hij
  have:oj=oi:=Iq (hj.symm.trans hoi)
  subst this
  exact getD_set_true (hall e he hb)
 ·rw [getD_set_ne false hij] at hl
  exact getD_set_true (inv.closed j oj hj hl e he hb)
theorem tail_waits3 {listed:Array Bool} (hnb:n < b) (hs:Region.sinkB md ops n=true) (hc:chain3B md ops n b=true) (hn:n < ops.size) (inv:HeadInv3 md ops n b listed) :
  ∀(d i:Nat),n - i=d→i < n→listed.getD i true=false→∀t,n≤t→t≠b→t∉Region.ready md ops listed:=by
 intro d
 induction d using Nat.strongRecOn with
 | _ d ih =>
  intro i hd hi hun t ht htb hr
  obtain ⟨_,ot,hot,hall⟩:=mem_ready.1 hr
  have htlt:t < ops.size:=(Array.getElem?_eq_some_iff.1 hot).1
  by_cases htn:t=n
  ·subst htn
   have h1:=List.all_eq_true.1 hs i (List.mem_range.2 hi)
   obtain ⟨j,hj,hj2⟩:=List.any_eq_true.1 h1
   simp only [Bool.and_eq_true,decide_eq_true_eq] at hj2
   obtain ⟨oj,hoj,e,he,hb,hon⟩:=Region.waitsFor_spec hj2.2
   have hjle:j≤t:=by have:=List.mem_range.1 hj;omega
   by_cases hjt:j=t
   ·subst hjt
    have:oj=ot:=Iq (hoj.symm.trans hot)
    subst this
    have h2:=hall e he hb
    rw [hon,getD_both hun] at h2
    cases h2
   ·cases hl:listed.getD j false with
    | true =>
     have h2:=inv.closed j oj hoj hl e he hb
     rw [hon,getD_both hun] at h2
     cases h2
    | false =>
     have hjs:j < listed.size:=by rw [inv.size];omega
     exact ih (t - j) (by omega) j rfl (by omega) (getD_in hjs hl) t (zi _) htb hr
  ·have h1:=List.all_eq_true.1 hc t (List.mem_range.2 htlt)
   simp only [Bool.or_eq_true,decide_eq_true_eq] at h1
   rcases h1 with (h1 | h1) | h1
   ·omega
   ·exact htb h1
   ·obtain ⟨s,hs1,hs2⟩:=List.any_eq_true.1 h1
    simp only [Bool.and_eq_true,decide_eq_true_eq] at hs2
    obtain ⟨o',ho',e,he,hb,hon⟩:=Region.waitsFor_spec hs2.2
    have:o'=ot:=Iq (ho'.symm.trans hot)
    subst this
    have h2:=hall e he hb
    have:=List.mem_range.1 hs1
    rw [hon,getD_both (inv.tail s hs2.1.1 hs2.1.2 (by omega))] at h2
    cases h2
theorem wpHT_first3 {i:Nat} {oi:Oper} {v:Value} (hnb:n < b) (hs:Region.sinkB md ops n=true) (hc:chain3B md ops n b=true) (hn:n < ops.size) (hin:i < n) (hi:ops[i]?=some oi) (hsel:∀(j:Nat) (o:Oper) cs b,ops[j]?=some o→o.op≠.select cs b)
  (hQ:∀c a d v w,Q (.panic c) (zJ a d v) w→Q (.panic c) a w) (hkeep:∀a w K,S w→wpOp P ops Q b K a w→wpOp P ops Q b (fun a' w'=>S w'∧K a' w') a w) :
  ∀(f:Nat) (listed:Array Bool) (a:Act) (w:World),HeadInv3 md ops n b listed →
   (∀j oj,ops[j]?=some oj→j≠i→listed.getD j true=false→(∀e∈oj.after,Region.binds md e=true→e.on≠i)→oi.apart ops oj=true) →
   i∈Region.ready md ops listed→YieldsIf P ops S oi v a→S w →
   wpHT P md ops Q S n f (listed.setIfInBounds i true) (a.put oi.dst v) w→wpHT P md ops Q S n (f+1) listed a w:=by
 intro f
 induction f with
 | zero =>
  intro listed a w _ _ hr hy hS H
  refine ⟨fun h=>(by rw [h] at hr;cases hr),fun j hj=>?_⟩
  by_cases hji:j=i
  ·subst hji;exact hy.wpOp hi hS ⟨fun _=>hS,H⟩
  ·have:=ready_mono hj hji
   rw [H.1] at this
   cases this
 | succ f ih =>
  intro listed a w inv hfree hr hy hS H
  have hun:=(mem_ready.1 hr).1
  refine ⟨fun h=>(by rw [h] at hr;cases hr),fun j hj=>?_⟩
  have hjn:j < n∨j=b:=by
   rcases Nat.lt_or_ge j n with h | h
   ·exact .inl h
   ·by_cases hjb:j=b
    ·exact .inr hjb
    ·exact absurd hj (tail_waits3 hnb hs hc hn inv _ i rfl hin hun j h hjb)
  by_cases hji:j=i
  ·subst hji;exact hy.wpOp hi hS ⟨fun _=>hS,H⟩
  ·have h0:=H.2 j (ready_mono hj hji)
   have h1:wpOp P ops Q j (fun a' w'=>S w'∧wpHT P md ops Q S n f ((listed.setIfInBounds i true).setIfInBounds j true) a' w') (a.put oi.dst v) w:=by
    rcases hjn with hjn | rfl
    ·exact wpOp_mono (fun a' w' h=>⟨h.1 hjn,h.2⟩) h0
    ·exact wpOp_mono (fun a' w' h=>⟨h.1,h.2.2⟩) (hkeep _ _ _ hS h0)
   obtain ⟨hjun,oj,hoj,hall⟩:=mem_ready.1 hj
   have hnot:∀e∈oj.after,Region.binds md e=true→e.on≠i:=fun e he hb heq=>by
    have h3:=hall e he hb
    rw [heq,getD_both hun] at h3
    cases h3
   have h2:=wpOp_putIf hoj (hfree j oj hoj hji hjun hnot) (fun cs b=>hsel i oi cs b hi) (fun cs b=>hsel j oj cs b hoj) (fun c a w=>hQ c a _ _ w) hy h1
   refine wpOp_mono (fun a' w' h3=>⟨fun _=>h3.2.1,ih (listed.setIfInBounds j true) a' w' (inv.set hj hjn) ?_ (ready_mono hr (Ne.symm hji)) h3.1 h3.2.1 ?_⟩) h2
   ·intro q oq hq hqi hqun hno
    refine hfree q oq hq hqi ?_ hno
    by_cases hjq:j=q
    ·subst hjq;exact hjun
    ·rw [getD_set_ne true hjq] at hqun;exact hqun
   ·rw [Array.setIfInBounds_comm _ _ hji]
    exact h3.2.2
theorem wpHT_softs3 (hnb:n < b) (hs:Region.sinkB md ops n=true) (hc:chain3B md ops n b=true) (hn:n < ops.size) (hsel:Region.noSelect ops=true) (hQ:∀c a d v w,Q (.panic c) (zJ a d v) w→Q (.panic c) a w) (hkeep:∀a w K,S w→wpOp P ops Q b K a w→wpOp P ops Q b (fun a' w'=>S w'∧K a' w') a w) :
  ∀(softs:List Nat) (sops:List Oper) (f:Nat) (listed:Array Bool) (a:Act) (w:World),HeadInv3 md ops n b listed→(softs.map fun i=>ops[i]?)=sops.map some→kfM md ops n softs listed=true→S w →
   kcY P ops S (fun a'=>wpHT P md ops Q S n f (kcX softs listed) a' w) sops a→wpHT P md ops Q S n (f+softs.length) listed a w
 | [],[],f,listed,a,w,_,_,_,_,h=>h
 | [],_::_,_,_,_,_,_,he,_,_,_=>by simp at he
 | _::_,[],_,_,_,_,_,he,_,_,_=>by simp at he
 | i::softs,o::sops,f,listed,a,w,inv,he,hB,hS,⟨v,hy,h⟩=>by
  simp only [List.map_cons,List.cons.injEq] at he
  simp only [kfM,Bool.and_eq_true,decide_eq_true_eq] at hB
  obtain ⟨⟨⟨h1,h2⟩,h3⟩,h4⟩:=hB
  exact wpHT_first3 hnb hs hc hn h1 he.1 (Region.noSelect_spec hsel) hQ hkeep (f+softs.length) listed a w inv (Region.free_spec he.1 h2) (by simpa using h3) hy hS
   (wpHT_softs3 hnb hs hc hn hsel hQ hkeep softs sops f _ _ w (inv.set (by simpa using h3) (.inl h1)) he.2 h4 hS h)
theorem wp_alloc_iff {o:Oper} {a:Act} {w:World} {K:Act→World→Prop} {T:TypeId} (ho:o.op=.alloc T) {z:Value} (hz:(P.info? T).map (·.zero)=some (some z)) :
  o.wp P a w K Q ↔ K (a.put o.dst (Ip (some ⟨w.heap.size,0,none⟩))) (w.alloc (.cells z.cells T)):=by
 obtain ⟨i,hi,hz⟩:∃i,P.info? T=some i∧i.zero=some z:=by
  cases h:P.info? T with
  | none=>rw [h] at hz;cases hz
  | some i=>rw [h] at hz;exact ⟨i,rfl,by simpa using hz⟩
 unfold Oper.wp execOp
 simp [ho,Instr.alloc,zeroValue,typeInfo,hi,hz,newVar,newRow,Oper.upon]
theorem wp_region_callb {id:Nat} {a:Act} {w:World} {l:List Oper} (S:World→Prop) (n b:Nat) (softs:List Nat) (sc:Scr) {ob:Oper} {T:TypeId} {z:Value} (hm:P.follows .mixedOrders=true)
  (hB:(decide (n < b) && Region.sinkB .any l.toArray n && chain3B .any l.toArray n b && Region.noSelect l.toArray && decide (n < l.length) && decide (softs.length=n) && decide (softs.length+sc.len=l.length) && kfM .any l.toArray n softs (Array.replicate l.length false) &&
   scrB .any l.toArray sc (kcX softs (Array.replicate l.length false)) && (List.range n).all fun i=>(kcX softs (Array.replicate l.length false)).getD i false)=true)
  (hQ0:∀c a d v w,Q (.panic c) (zJ a (some d) v) w→Q (.panic c) a w) (hs:(softs.map fun i=>l.toArray[i]?)=(kbK l softs).map some) (hb0:l[b]?=some ob) (hb1:ob.op=.alloc T) (hb2:ob.guard=none) (hz:(P.info? T).map (·.zero)=some (some z))
  (hSa:∀w o,S w→S (w.alloc o)) (hS:S w.drew) (h:kcY P l.toArray S (fun a'=>wpScr P l.toArray Q (fun _=>True) sc a' w.drew) (kbK l softs) a):(Code.region id l.toArray true).wp P Q a w:=by
 simp only [Bool.and_eq_true,decide_eq_true_eq] at hB
 obtain ⟨⟨⟨⟨⟨⟨⟨⟨⟨h0,h1⟩,h2⟩,h3⟩,h4⟩,h5⟩,h6⟩,h7⟩,h8⟩,h12⟩:=hB
 have hQ:∀c a d v w,Q (.panic c) (zJ a d v) w→Q (.panic c) a w:=by
  intro c a d v w h
  cases d with
  | none=>exact h
  | some d=>exact hQ0 c a d v w h
 have hh:l.toArray[b]?=some ob:=by simpa using hb0
 have hn:n < l.toArray.size:=by simpa using h4
 refine wp_region_any hm (kdR (S:=S) (n:=n) _ _ _ _ ?_)
 have hmono:∀(S:World→Prop) (L L':Act→Prop),(∀a,L a→L' a)→∀(sl:List Oper) (a:Act),kcY P l.toArray S L sl a→kcY P l.toArray S L' sl a:=by
  intro S L L' hL sl
  induction sl with
  | nil=>intro a h;exact hL a h
  | cons o sl ih=>rintro a ⟨v,hy,h⟩;exact ⟨v,hy,ih _ h⟩
 have hp:kfX .any l.toArray l.toArray.size=true:=by
  unfold kfX
  refine List.all_eq_true.2 fun t ht=>?_
  have ht2:=List.mem_range.1 ht
  simp only [List.size_toArray] at ht2
  simp [ht2]
 have hrest:∀a,wpScr P l.toArray Q (fun _=>True) sc a w.drew→wpHT P .any l.toArray Q S n sc.len (kcX softs (Array.replicate l.length false)) a w.drew:=by
  intro a hw
  exact wpHT_over _ _ _ _ (fun i hi=>by simpa using List.all_eq_true.1 h12 i (List.mem_range.2 hi)) (wpHT_scr hp h3 hQ sc _ a w.drew h8 trivial hw)
 have hkeep:∀a w K,S w→wpOp P l.toArray Q b K a w→wpOp P l.toArray Q b (fun a' w'=>S w'∧K a' w') a w:=by
  intro a w K hSw hop
  unfold wpOp at hop ⊢
  simp only [hh,zI,hb2,if_true] at hop ⊢
  rcases hop with hop | hop
  ·exact .inl ((wp_alloc_iff hb1 hz).2 ⟨hSa _ _ hSw,(wp_alloc_iff hb1 hz).1 hop⟩)
  ·exact .inr hop
 have inv:HeadInv3 .any l.toArray n b (Array.replicate l.length false):=by
  refine ⟨by simp,fun j oj _ hl=>?_,fun t _ _ ht=>?_⟩
  ·rw [getD_replicate_false] at hl;cases hl
  ·simp only [List.size_toArray] at ht
   simp [ht]
 have:=wpHT_softs3 (P:=P) (Q:=Q) (S:=S) (md:=.any) (ops:=l.toArray) h0 h1 h2 hn h3 hQ hkeep softs (kbK l softs) sc.len (Array.replicate l.length false) a w.drew inv hs h7 hS
  (hmono _ _ _ (fun a' ha=>hrest a' ha) (kbK l softs) a h)
 rw [show sc.len+softs.length=l.toArray.size by simp;omega] at this
 simpa using this
end
end
end Go.Proofs.Ytnohimhihombmaa
