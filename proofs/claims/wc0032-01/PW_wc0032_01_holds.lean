import PyProof.Rows.All
import PySem.Sre
import Wide.All
import OpenK.AllK
import Wide.FinOn
import PyProof.StrLawsTight
import KE.KBits
import PySem.Challenge.RW_wc0032_01
set_option Elab.async false
set_option tactic.hygienic false
set_option linter.all false
set_option maxRecDepth 100000
set_option compiler.extract_closed false in
local macro_rules
  | `(tactic| exists $t:term) => do
    if t.raw.isOfKind ``Lean.Parser.Term.paren then return ← `(tactic| exists $(⟨t.raw[1]⟩):term)
    if t.raw.isOfKind ``Lean.Parser.Term.app then
      let f := t.raw[0]
      if ("ar_cons,ev_bin,ev_cmp,ev_comp,ev_hm,ev_inv,ev_list,ev_me,ev_neg,ev_rev,ev_slice,ev_str,ev_sub,ev_tup,op_some,st_ret,ts_b,ts_cmp,ts_not,ev_ite,ws_cons,z_app,z_asn,z_asnc,z_aug,z_augs,z_bi,z_fn,z_frz,z_pair,z_sub,z_tup2".splitOn ",").contains f.getId.toString then
        let mut b := t.raw; let mut s := #[]; let mut i := 0
        for a in t.raw[1].getArgs do
          unless a.isOfKind ``Lean.Parser.Term.namedArgument || a.isOfKind Lean.numLitKind || a.isOfKind ``Lean.Parser.Term.hole do
            let h := Lean.mkIdent (← Lean.Macro.addMacroScope (.num `q i))
            b := b.modifyArg 1 (·.setArg i (← `(?$h))); s := s.push (← `(tactic| case $h:ident => exists $(⟨a⟩):term))
          i := i + 1
        return ← `(tactic| (refine' $(⟨b⟩); $s;*))
    match t with
    | `(rfl) => `(tactic| rfl)
    | `(kk) => `(tactic| kernel_rfl!)
    | `(dd) => `(tactic| decide)
    | _ => `(tactic| exact $t)
open List (length_append length_map mem_cons_self mem_singleton append_assoc length_cons getD_eq_getElem?_getD mem_range mem_cons_of_mem map_cons lookup_cons length_range length_nil getElem?_eq_getElem mem_of_getElem? length_replicate size_toArray map_append length_singleton foldl_cons map_map mem_filter mem_append mem_map mem_cons mem_append_left mem_append_right all_eq_true not_mem_nil length_set length_filter_le map_congr_left getElem_mem flatMap_cons cons_append nil_append append_nil replicate_succ getElem?_map)
section
open PySem PySem.Sre
namespace Mine
noncomputable abbrev St (code text:Array Nat) (lim start last pc pos handed:Nat) (om:Bool) (fr:List Sre.Frame) (wt:Nat) (ans:Option Bool) (sn:Seen):M:=
 { code,text,lim,start,lastStart:=last,pc,pos,handed,outermost:=om,marks:= #[],frames:=fr,weight:=wt,answer:=ans,seen:=sn }
section
variable {code text:Array Nat} {lim start last pc pos handed:Nat} {om:Bool} {fr:List Sre.Frame} {wt:Nat} {sn:Seen}
noncomputable def litX (m:M) (b:Bool):M:=match (Except.ok (b,m.seen):Except String (Bool×Seen))with
 | .error why=>m.stick why
 | .ok (false,seen)=>{ m with seen }.say false
 | .ok (true,seen)=>{ m with seen,pc:=m.pc+itemWidth m.code m.pc,pos:=m.pos+1 }
theorem lit_yes {c:Nat} (e:(St code text lim start last pc pos handed om fr wt none sn).step=if pos≥lim then St code text lim start last pc pos handed om fr wt (some false) (sn.add 16)else litX (St code text lim start last pc pos handed om fr wt none (sn.add 16)) (text.getD pos 0==c))
 (h3:pos<lim) (h4:text.getD pos 0=c) (ew:itemWidth code pc=2):(St code text lim start last pc pos handed om fr wt none sn).step=St code text lim start last (pc+2) (pos+1) handed om fr wt none (sn.add 16):=by
 rw[e,if_neg (Nat.not_le_of_lt h3),beq_of_eq h4]
 exact congrArg (fun w=>St code text lim start last (pc+w) (pos+1) handed om fr wt none (sn.add 16)) ew
theorem lit_no {c:Nat} (e:(St code text lim start last pc pos handed om fr wt none sn).step=if pos≥lim then St code text lim start last pc pos handed om fr wt (some false) (sn.add 16)else litX (St code text lim start last pc pos handed om fr wt none (sn.add 16)) (text.getD pos 0==c))
 (h3:lim≤pos∨text.getD pos 0≠c):(St code text lim start last pc pos handed om fr wt none sn).step=St code text lim start last pc pos handed om fr wt (some false) (sn.add 16):=by
 refine Eq.trans (e) ?_
 rcases h3 with h|h
 ·exact(if_pos h)
 ·rw[beq_false_of_ne h]
  exact ite_self _
inductive Ends (m:M) (n:Nat) (oc:Sre.Outcome) (st hd:Nat):Prop
 |mk (k:Nat):k≤n→((M.runFor k m).outcome=some oc∧(M.runFor k m).start=st∧(M.runFor k m).handed=hd)→Ends m n oc st hd
theorem runFor_done {m:M} {o:Sre.Outcome} (h:m.outcome=some o):∀n,M.runFor n m=m:=by
 intro v0_
 induction v0_ with
 |zero=>
  exact rfl
 |succ n ih_=>
  unfold M.runFor;rw[h];rfl
theorem runFor_succ {m:M} (h:m.outcome=none) (n:Nat):M.runFor (n+1) m=M.runFor n m.step:=by
 show(if m.outcome.isSome=true then m else _)=_
 rw[h];rfl
theorem runFor_add:∀(a b:Nat) (m:M),M.runFor (a+b) m=M.runFor b (M.runFor a m):=by
 intro v0_
 induction v0_ with
 |zero=>
  intro b m
  rw[Nat.zero_add];rfl
 |succ a ih_=>
  intro b m
  cases h:m.outcome with
  |none=>simp only[show a+1+b=a+b+1 by exact Nat.add_right_comm a 1 b,runFor_succ h,runFor_succ h,ih_ b]
  |some o=>rw[runFor_done h,runFor_done h,runFor_done h]
theorem Ends.step {m m':M} {n oc st hd} (h:m.outcome=none) (e:m.step=m') (x:Ends m' n oc st hd):Ends m (n+1) oc st hd:=by
 obtain⟨k,hk,x⟩:=x
 exact⟨k+1,Nat.succ_le_succ hk,by rw[runFor_succ h,e];exact x⟩
theorem Ends.now {m:M} {n oc st hd} (h:m.outcome=some oc) (h1:m.start=st) (h2:m.handed=hd):Ends m n oc st hd:=⟨0,Nat.zero_le _,h,h1,h2⟩
theorem Ends.le {m:M} {n n' oc st hd} (x:Ends m n oc st hd) (h:n≤n'):Ends m n' oc st hd:=by
 obtain⟨k,hk,x⟩:=x
 exact⟨k,Nat.le_trans hk h,x⟩
theorem Ends.run {m:M} {n oc st hd} (x:Ends m n oc st hd):(M.runFor n m).outcome=some oc∧(M.runFor n m).start=st∧(M.runFor n m).handed=hd:=by
 obtain⟨k,hk,x⟩:=x
 obtain⟨j,rfl⟩:∃j,n=k+j:=⟨n-k,(Nat.add_sub_cancel' hk).symm⟩
 rw[runFor_add,runFor_done x.1]
 exact x
noncomputable def lit (c:Nat):List Nat:=[16,c]
noncomputable def jump (k:Nat):List Nat:=[15,k]
noncomputable def nlCode:Array Nat:=([14,9,4,1,2]++lit 10++lit 13++[0]++[7]++([7]++lit 13++lit 10++jump 18)++([5]++lit 10++jump 13)++([11]++lit 13++([5,5,0]++lit 10++[1])++jump 2)++[0]++[1]).toArray
noncomputable def dotCode:Array Nat:=([14,4,0,1,1]++[6,1]++lit 46++[1]).toArray
noncomputable abbrev f0 (pc s:Nat) (om:Bool):Sre.Frame:={ wait:= .nextStart,pc,pos:=s,outermost:=om }
noncomputable abbrev f1 (pc s:Nat) (om:Bool):Sre.Frame:={ wait:= .nextBranch,pc,pos:=s,outermost:=om }
theorem nl_home (om:Bool) (j p s sp:Nat) (x:Nat):Ends (St nlCode text lim s last p sp x om [f1 j s om,f0 10 s om] 2 (some true) sn) 3 .matched s x:=
 .step rfl rfl (.step rfl rfl (.step rfl rfl (.now rfl rfl rfl)))
theorem nl_success (om:Bool) (j s sp:Nat) (x:Nat):Ends (St nlCode text lim s last 35 sp x om [f1 j s om,f0 10 s om] 2 none sn) 4 .matched s sp:=by
 have:(St nlCode text lim s last 35 sp x om [f1 j s om,f0 10 s om] 2 none sn).step=St nlCode text lim s last 35 sp sp om [f1 j s om,f0 10 s om] 2 (some true) (sn.add 1):=by
  cases om<;>rfl
 exact .step rfl this (nl_home om j 35 s sp sp)
theorem nl_at {s:Nat} (om:Bool) (hs:s<lim) (h:text.getD s 0=10∨text.getD s 0=13):
 Ends (St nlCode text lim s last 10 s s om [f0 10 s om] 1 none sn) 30 .matched s (if text.getD s 0=13∧s+1<lim∧text.getD (s+1) 0=10 then s+2 else s+1):=by
 refine .step (n:=29) rfl (m':=St nlCode text lim s last 12 s s om [f1 11 s om,f0 10 s om] 2 none (sn.add 7)) rfl ?_
 rcases h with h|h
 ·(refine Eq.mpr (congrArg _ (if_neg (by rw[h];simp))) ?_)
  refine .step (n:=28) rfl (lit_no (c:=13) rfl (.inr (by rw[h];decide))) ?_
  refine .step (n:=27) rfl (m':=St nlCode text lim s last 19 s s om [f1 18 s om,f0 10 s om] 2 none ((sn.add 7).add 16)) rfl ?_
  refine .step (n:=26) rfl (lit_yes (c:=10) rfl hs h rfl) ?_
  refine .step (n:=25) rfl (m':=St nlCode text lim s last 35 (s+1) s om [f1 18 s om,f0 10 s om] 2 none ((((sn.add 7).add 16).add 16).add 15)) rfl ?_
  exact(nl_success om 18 s (s+1) s).le (by decide)
 ·refine .step (n:=28) rfl (lit_yes (c:=13) rfl hs h rfl) ?_
  by_cases h2:s+1<lim∧text.getD (s+1) 0=10
  ·rw[if_pos ⟨h,h2⟩]
   refine .step (n:=27) rfl (lit_yes (c:=10) rfl h2.1 h2.2 rfl) ?_
   refine .step (n:=26) rfl (m':=St nlCode text lim s last 35 (s+2) s om [f1 11 s om,f0 10 s om] 2 none ((((sn.add 7).add 16).add 16).add 15)) rfl ?_
   exact(nl_success om 11 s (s+2) s).le (by decide)
  ·rw[if_neg (fun q=>h2 q.2)]
   have h3:lim≤s+1∨text.getD (s+1) 0≠10:=by
    by_cases q:s+1<lim
    ·exact .inr fun e=>h2 ⟨q,e⟩
    ·exact .inl (Nat.le_of_not_lt q)
   refine .step (n:=27) rfl (lit_no (c:=10) rfl h3) ?_
   refine .step (n:=26) rfl (m':=St nlCode text lim s last 19 s s om [f1 18 s om,f0 10 s om] 2 none (((sn.add 7).add 16).add 16)) rfl ?_
   refine .step (n:=25) rfl (lit_no (c:=10) rfl (.inr (by rw[h];decide))) ?_
   refine .step (n:=24) rfl (m':=St nlCode text lim s last 24 s s om [f1 23 s om,f0 10 s om] 2 none ((((sn.add 7).add 16).add 16).add 16)) rfl ?_
   refine .step (n:=23) rfl (lit_yes (c:=13) rfl hs h rfl) ?_
   refine .step (n:=22) rfl (m':=St nlCode text lim s last 29 (s+1) (s+1) false [{ wait:= .lookNot,pc:=26,pos:=s+1,outermost:=om },f1 23 s om,f0 10 s om] 3 none ((((((sn.add 7).add 16).add 16).add 16).add 16).add 5)) rfl ?_
   refine .step (n:=21) rfl (lit_no (c:=10) rfl h3) ?_
   refine .step (n:=20) rfl (m':=St nlCode text lim s last 32 (s+1) (s+1) om [f1 23 s om,f0 10 s om] 2 none (((((((sn.add 7).add 16).add 16).add 16).add 16).add 5).add 16)) rfl ?_
   refine .step (n:=19) rfl (m':=St nlCode text lim s last 35 (s+1) (s+1) om [f1 23 s om,f0 10 s om] 2 none ((((((((sn.add 7).add 16).add 16).add 16).add 16).add 5).add 16).add 15)) rfl ?_
   exact(nl_success om 23 s (s+1) (s+1)).le (by decide)
end
end Mine
end
section
open PySem PySem.Sre
namespace Mine
noncomputable def nextIx (P:Nat→Bool) (lim:Nat):Nat→Nat→Option Nat
 |0,_=>none
 |n+1,s=>if s≥lim then none else if P s then some s else nextIx P lim n (s+1)
theorem nextIx_succ {P:Nat→Bool} {lim n s:Nat}:nextIx P lim (n+1) s=if s≥lim then none else if P s then some s else nextIx P lim n (s+1):=rfl
set_option tactic.hygienic true in
theorem nextIx_spec {P:Nat→Bool} {lim:Nat}:∀{n s k},nextIx P lim n s=some k→s≤k∧k<lim∧P k=true∧∀j,s≤j→j<k→P j=false:=by
 intro v0_
 induction v0_ with
 |zero=>
  intro _ _ h
  cases h
 |succ n ih_=>
  intro s k h
  rw[nextIx_succ]at h
  split at h
  ·cases h
  split at h
  ·rename_i h1 h2
   cases h
   exact⟨Nat.le_refl _,by exact Nat.lt_of_not_le h1,h2,fun j a b=>by lia⟩
  ·rename_i h1 h2
   obtain⟨a,b,c,d⟩:=ih_ h
   refine⟨by exact Nat.le_of_succ_le a,b,c,fun j x y=>?_⟩
   by_cases hj:j=s
   ·subst hj;simpa using h2
   ·exact d j (by lia) y
set_option tactic.hygienic true in
theorem nextIx_none {P:Nat→Bool} {lim:Nat}:∀{n s},lim<n+s→nextIx P lim n s=none→∀j,s≤j→j<lim→P j=false:=by
 intro v0_
 induction v0_ with
 |zero=>
  intro s hl ux_ j a b
  lia
 |succ n ih_=>
  intro s hl h j a b
  rw[nextIx_succ]at h
  split at h
  ·lia
  split at h
  ·cases h
  ·rename_i h1 h2
   by_cases hj:j=s
   ·subst hj;simpa using h2
   ·exact ih_ (by lia) h j (by lia) b
noncomputable def Fails (m:M) (n:Nat):Prop:=∃k≤n,(M.runFor k m).outcome=some .failed
theorem Fails.step {m m':M} {n} (h:m.outcome=none) (e:m.step=m') (x:Fails m' n):Fails m (n+1):=by
 obtain⟨k,hk,x⟩:=x
 exact⟨k+1,by exact Nat.add_le_add_right hk 1,by rw[runFor_succ h,e];exact x⟩
theorem Fails.now {m:M} {n} (h:m.outcome=some .failed):Fails m n:=⟨0,by exact Nat.zero_le n,h⟩
theorem Fails.le {m:M} {n n'} (x:Fails m n) (h:n≤n'):Fails m n':=let ⟨k,hk,x⟩:=x;⟨k,by exact Nat.le_trans hk h,x⟩
theorem Fails.run {m:M} {n} (x:Fails m n):(M.runFor n m).outcome=some .failed:=by
 obtain⟨k,hk,x⟩:=x
 obtain⟨j,rfl⟩:∃j,n=k+j:=⟨n-k,by exact Eq.symm (Nat.add_sub_of_le hk)⟩
 rw[runFor_add,runFor_done x]
 exact x
section
variable {text:Array Nat} {lim:Nat}
noncomputable def isNl (text:Array Nat) (s:Nat):Bool:=text.getD s 0==10||text.getD s 0==13
theorem inSet_nl (c:Nat) (sn:Seen):∃sn',inSet nlCode c nlCode.size 5 true sn= .ok (c==10||c==13,sn'):=by
 show∃sn',(if(c==10)=true then Except.ok (true,sn.add 16)else if(c==13)=true then .ok (true,(sn.add 16).add 16)else .ok (false,((sn.add 16).add 16).add 0))= .ok (c==10||c==13,sn')
 by_cases h:(c==10)=true
 ·exact⟨_,by rw[if_pos h,h];rfl⟩
 ·rw[if_neg h]
  by_cases h2:(c==13)=true
  ·exact⟨(sn.add 16).add 16,by rw[if_pos h2,h2];simp⟩
  ·refine⟨((sn.add 16).add 16).add 0,?_⟩
   refine Eq.trans (if_neg h2) ?_
   simp at h h2
   simp[h,h2]
theorem admitted_nl (m:M) (hc:m.code=nlCode) (ht:m.text=text) (hl:m.lim=lim):∀(n s:Nat) (sn:Seen),∃sn',M.admitted m n s sn= .ok (nextIx (isNl text) lim n s,sn'):=by
 intro v0_
 induction v0_ with
 |zero=>
  intro s sn
  exact⟨sn,rfl⟩
 |succ n ih_=>
  intro s sn
  rw[nextIx_succ];unfold M.admitted
  rw[hl]
  split
  ·exact⟨sn,rfl⟩
  ·rw[hc,ht]
   obtain⟨sn',e⟩:=inSet_nl (text.getD s 0) sn
   rw[e]
   cases h:(text.getD s 0==10||text.getD s 0==13)<;>(have h':isNl text s=_:=h;refine(Eq.symm (h'))▸ ?_)
   ·obtain⟨sn2,e2⟩:=ih_ (s+1) sn'
    exact⟨sn2,e2⟩
   ·exact⟨sn',rfl⟩
noncomputable def nlStart (text:Array Nat) (lim start:Nat):M:={ code:=nlCode,text,lim,start,pc:=10,pos:=start,handed:=start,marks:= #[],seen:=({}:Seen).add 14,lastStart:=lim }
theorem forSearch_nl (start:Nat):forSearch nlCode text 0 start lim false=
 if(decide (start>lim)||decide (lim-start<1))=true then({ code:=nlCode,text,lim,start,pc:=10,pos:=start,handed:=start,marks:= #[],seen:=({}:Seen).add 14 }:M).say false
 else(nlStart text lim start).attemptFrom start true:=rfl
noncomputable def nlEnd (text:Array Nat) (lim s:Nat):Nat:=if text.getD s 0=13∧s+1<lim∧text.getD (s+1) 0=10 then s+2 else s+1
theorem say_fails {m:M} {n:Nat} (h1:m.outcome=none) (h2:m.frames=[]):Fails (m.say false) (n+1):=by
 refine .step h1 (m':={ m.say false with outcome:=some .failed }) ?_ (.now rfl)
 show(if m.outcome.isSome=true then _ else match some false,m.frames with|some yes,[]=>_|some yes,f::rest=>_|none,_=>_)=_
 rw[h1,h2];rfl
theorem search_nl (start:Nat):match nextIx (isNl text) lim (lim+1-start) start with
 |none=>Fails (forSearch nlCode text 0 start lim false) 1
 |some s=>Ends (forSearch nlCode text 0 start lim false) 30 .matched s (nlEnd text lim s):=by
 rw[forSearch_nl]
 by_cases h:(decide (start>lim)||decide (lim-start<1))=true
 ·have hn:nextIx (isNl text) lim (lim+1-start) start=none:=by
   cases q:nextIx (isNl text) lim (lim+1-start) start with
   |none=>rfl
   |some k=>
    obtain⟨a,b,_⟩:=nextIx_spec q
    simp at h;lia
  rw[hn,if_pos h]
  exact say_fails rfl rfl
 ·rw[if_neg h]
  unfold M.attemptFrom
  have hf:(nlStart text lim start).hasFirstSet=true:=rfl
  rw[hf]
  obtain⟨sn,e⟩:=admitted_nl (nlStart text lim start) rfl (text:=text) rfl (lim:=lim) rfl (lim+1-start) start (nlStart text lim start).seen
  have hl:(nlStart text lim start).lim=lim:=rfl
  rw[hl,e]
  cases q:nextIx (isNl text) lim (lim+1-start) start with
  |none=>exact say_fails rfl rfl
  |some s=>
   obtain⟨a,b,c,_⟩:=nextIx_spec q
   have hc:text.getD s 0=10∨text.getD s 0=13:=by
    unfold isNl at c
    simpa using c
   exact nl_at_gen b hc
where
 nl_at_gen {s:Nat} {sn:Seen} (hs:s<lim) (h:text.getD s 0=10∨text.getD s 0=13):Ends (({ nlStart text lim start with mustAdvance:=false,seen:=sn }:M).attemptAt s true) 30 .matched s (nlEnd text lim s):=
  nl_at (last:=lim) (sn:=sn) true hs h
end
end Mine
end
section
open PySem PySem.Sre
namespace Mine
section
variable {text:Array Nat} {lim:Nat}
noncomputable def isDot (text:Array Nat) (s:Nat):Bool:=text.getD s 0==46&&(s==0||text.getD (s-1) 0==10)
theorem dot_win (start s:Nat) (om:Bool) (sn:Seen) (hs:s<lim) (h:isDot text s=true):
 Ends (St dotCode text lim s lim 5 s start om [f0 5 s om] 1 none sn) 6 .matched s (s+1):=by
 unfold isDot at h
 rw[Bool.and_eq_true,beq_iff_eq]at h
 obtain⟨h1,h2⟩:=h
 have e1:(St dotCode text lim s lim 5 s start om [f0 5 s om] 1 none sn).step=St dotCode text lim s lim 7 s start om [f0 5 s om] 1 none ((sn.add 6).add 44):=by
  show(if(s==0||text.getD (s-1) 0==10)=true then _ else _)=_
  refine Eq.trans (if_pos h2) ?_;rfl
 refine .step (n:=5) rfl e1 ?_
 refine .step (n:=4) rfl (lit_yes (c:=46) rfl hs h1 rfl) ?_
 have e2:(St dotCode text lim s lim 9 (s+1) start om [f0 5 s om] 1 none (((sn.add 6).add 44).add 16)).step=St dotCode text lim s lim 9 (s+1) (s+1) om [f0 5 s om] 1 (some true) ((((sn.add 6).add 44).add 16).add 1):=by
  cases om<;>rfl
 refine .step (n:=3) rfl e2 ?_
 exact .step rfl rfl (.step rfl rfl (.now rfl rfl rfl))
theorem dot_lose (start s hd:Nat) (om:Bool) (sn:Seen) (h:¬(s<lim∧isDot text s=true)):∃sn',∃k,k≤2∧∃pc,M.runFor k (St dotCode text lim s lim 5 s hd om [f0 5 s om] 1 none sn)=St dotCode text lim s lim pc s hd om [f0 5 s om] 1 (some false) sn':=by
 by_cases h2:(s==0||text.getD (s-1) 0==10)=true
 ·have e1:(St dotCode text lim s lim 5 s hd om [f0 5 s om] 1 none sn).step=St dotCode text lim s lim 7 s hd om [f0 5 s om] 1 none ((sn.add 6).add 44):=by
   show(if(s==0||text.getD (s-1) 0==10)=true then _ else _)=_
   refine Eq.trans (if_pos h2) ?_;rfl
  refine⟨((sn.add 6).add 44).add 16,2,by decide,7,?_⟩
  rw[runFor_succ rfl,e1,runFor_succ rfl,lit_no (c:=46) rfl ?_]
  ·rfl
  ·by_cases q:s<lim
   ·refine .inr fun e=>h ⟨q,?_⟩
    unfold isDot
    rw[e,h2];rfl
   ·exact .inl (Nat.le_of_not_lt q)
 ·have e1:(St dotCode text lim s lim 5 s hd om [f0 5 s om] 1 none sn).step=St dotCode text lim s lim 5 s hd om [f0 5 s om] 1 (some false) ((sn.add 6).add 44):=by
   show(if(s==0||text.getD (s-1) 0==10)=true then _ else _)=_
   refine Eq.trans (if_neg h2) ?_;rfl
  exact⟨(sn.add 6).add 44,1,by decide,5,by rw[runFor_succ rfl,e1];rfl⟩
theorem Ends.after {m:M} {k n oc st hd} (x:Ends (M.runFor k m) n oc st hd):Ends m (k+n) oc st hd:=by
 obtain⟨j,hj,x⟩:=x
 exact⟨k+j,by exact Nat.add_le_add_iff_left.mpr hj,by rw[runFor_add];exact x⟩
theorem Fails.after {m:M} {k n} (x:Fails (M.runFor k m) n):Fails m (k+n):=by
 obtain⟨j,hj,x⟩:=x
 exact⟨k+j,by exact Nat.add_le_add_iff_left.mpr hj,by rw[runFor_add];exact x⟩
theorem dot_next (s hd pc:Nat) (om:Bool) (sn:Seen) (hs:s<lim):(St dotCode text lim s lim pc s hd om [f0 5 s om] 1 (some false) sn).step=St dotCode text lim (s+1) lim 5 (s+1) (s+1) false [f0 5 (s+1) false] 1 none sn:=by
 show(if s<lim then _ else _)=_
 refine Eq.trans (if_pos hs) ?_;rfl
theorem dot_end (s hd pc:Nat) (om:Bool) (sn:Seen) (hs:¬s<lim):Fails (St dotCode text lim s lim pc s hd om [f0 5 s om] 1 (some false) sn) 2:=by
 have:(St dotCode text lim s lim pc s hd om [f0 5 s om] 1 (some false) sn).step=St dotCode text lim s lim 5 s hd om [] 0 (some false) sn:=by
  show(if s<lim then _ else _)=_
  refine Eq.trans (if_neg hs) ?_;rfl
 exact .step rfl this (.step rfl rfl (.now rfl))
set_option tactic.hygienic true in
theorem dot_from:∀(n s hd:Nat) (om:Bool) (sn:Seen),lim+1≤n+s→s≤lim→match nextIx (isDot text) lim n s with
 |none=>Fails (St dotCode text lim s lim 5 s hd om [f0 5 s om] 1 none sn) (3*n+8)
 |some k=>Ends (St dotCode text lim s lim 5 s hd om [f0 5 s om] 1 none sn) (3*n+8) .matched k (k+1):=by
 intro v0_
 induction v0_ with
 |zero=>
  intro s hd om sn h hs
  grind
 |succ n ih_=>
  intro s hd om sn h hs
  rw[nextIx_succ]
  by_cases h1:s≥lim
  ·rw[if_pos h1]
   obtain⟨sn',k,hk,pc,e⟩:=dot_lose (text:=text) (lim:=lim) hd s hd om sn (fun q=>by lia)
   exact(Fails.after (k:=k) (by rw[e];exact dot_end s hd pc om sn' (Nat.not_lt.mpr h1))).le (by lia)
  ·rw[if_neg h1]
   by_cases h2:isDot text s=true
   ·rw[if_pos h2]
    exact(dot_win hd s om sn (Nat.lt_of_not_le h1) h2).le (Nat.le_add_left 6 (3*(n+1)+2))
   ·rw[if_neg h2]
    obtain⟨sn',k,hk,pc,e⟩:=dot_lose (text:=text) (lim:=lim) hd s hd om sn (fun q=>h2 q.2)
    have ih:=ih_ (s+1) (s+1) false sn' (by lia) (by lia)
    have e2:=dot_next (text:=text) s hd pc om sn' (by exact Nat.lt_of_not_le h1:s<lim)
    split at ih
    ·rename_i q
     try rw[q]
     exact(Fails.after (k:=k) (by rw[e];exact .step rfl e2 ih)).le (by lia)
    ·rename_i j q
     try rw[q]
     exact(Ends.after (k:=k) (by rw[e];exact .step rfl e2 ih)).le (by lia)
theorem forSearch_dot (start:Nat):forSearch dotCode text 0 start lim false=
 if(decide (start>lim)||decide (lim-start<1))=true then({ code:=dotCode,text,lim,start,pc:=5,pos:=start,handed:=start,marks:= #[],seen:=({}:Seen).add 14 }:M).say false
 else St dotCode text lim start lim 5 start start true [f0 5 start true] 1 none (({}:Seen).add 14):=rfl
set_option tactic.hygienic true in
theorem search_dot (start:Nat):match nextIx (isDot text) lim (lim+1-start) start with
 |none=>Fails (forSearch dotCode text 0 start lim false) (3*lim+12)
 |some s=>Ends (forSearch dotCode text 0 start lim false) (3*lim+12) .matched s (s+1):=by
 simp only[forSearch_dot]
 by_cases h:(decide (start>lim)||decide (lim-start<1))=true
 ·have hn:nextIx (isDot text) lim (lim+1-start) start=none:=by
   cases q:nextIx (isDot text) lim (lim+1-start) start with
   |none=>rfl
   |some k=>
    obtain⟨a,b,_⟩:=nextIx_spec q
    simp at h;lia
  rw[hn,if_pos h]
  exact(say_fails (n:=0) rfl rfl).le (Nat.le_add_left (0+1) (3*lim+11))
 ·rw[if_neg h]
  simp at h
  have:=dot_from (text:=text) (lim:=lim) (lim+1-start) start start true (({}:Seen).add 14) (by omega) (by omega)
  split at this
  ·rename_i q
   try rw[q]
   exact this.le (by omega)
  ·rename_i j q
   try rw[q]
   exact this.le (by omega)
set_option tactic.hygienic true in
theorem admitted_none (m:M) (hset:∀s,s<m.lim→∀sn,∃sn',inSet m.code (m.text.getD s 0) m.code.size 5 true sn= .ok (false,sn')):∀(n s:Nat) (sn:Seen),∃sn',M.admitted m n s sn= .ok (none,sn'):=by
 intro v0_
 induction v0_ with
 |zero=>
  intro s sn
  exact⟨sn,rfl⟩
 |succ n ih_=>
  intro s sn
  unfold M.admitted
  split
  ·exact⟨sn,rfl⟩
  ·rename_i h
   obtain⟨sn',e⟩:=hset s (Nat.lt_of_not_le h) sn
   rw[e]
   exact ih_ (s+1) sn'
theorem attempt_none {m:M} (hf:m.hasFirstSet=true) (h1:m.outcome=none) (h2:m.frames=[]) (hset:∀s,s<m.lim→∀sn,∃sn',inSet m.code (m.text.getD s 0) m.code.size 5 true sn= .ok (false,sn')) (s:Nat) (om:Bool):Fails (m.attemptFrom s om) 1:=by
 unfold M.attemptFrom
 rw[hf]
 obtain⟨sn,e⟩:=admitted_none m hset (m.lim+1-s) s m.seen
 rw[e]
 exact say_fails h1 h2
noncomputable def nameCode:Array Nat:=([14,10,4,1,1]++[22,0,31]++lit 127++[0]++[13,7]++[22,0,31]++lit 127++[0]++[1]).toArray
noncomputable def valSet:List Nat:=[9,2^32-1-2^9,0,0,2^31,0,0,0,0,0]
noncomputable def valCode:Array Nat:=([14,14,4,1,1]++valSet++[13,11]++valSet++[1]).toArray
theorem inSet_name (c:Nat) (sn:Seen) (h1:31<c) (h2:c≠127):∃sn',inSet nameCode c nameCode.size 5 true sn= .ok (false,sn'):=by
 refine⟨((sn.add 22).add 16).add 0,?_⟩
 show(if(decide (0≤c)&&decide (c≤31))=true then Except.ok (true,sn.add 22)else if(c==127)=true then .ok (true,(sn.add 22).add 16)else .ok (false,((sn.add 22).add 16).add 0))=_
 rw[if_neg (by simp;exact Nat.lt_of_succ_le h1),if_neg (by simpa using h2)]
theorem val_small:∀c,c<256→(31<c∧c≠127∨c=9)→(valCode.getD (5+(1+c/32)) 0).testBit (c%32)=false:=by decide +kernel
theorem inSet_val (c:Nat) (sn:Seen) (h1:31<c∧c≠127∨c=9):∃sn',inSet valCode c valCode.size 5 true sn= .ok (false,sn'):=by
 refine⟨(sn.add 9).add 0,?_⟩
 show(if(decide (c<256)&&(valCode.getD (5+(1+c/32)) 0).testBit (c%32))=true then Except.ok (true,sn.add 9)else .ok (false,(sn.add 9).add 0))=_
 rw[if_neg]
 intro q
 simp only[Bool.and_eq_true,decide_eq_true_eq]at q
 rw[val_small c q.1 h1]at q
 exact Bool.noConfusion q.2
theorem search_name (h:∀s,s<lim→31<text.getD s 0∧text.getD s 0≠127):Fails (forSearch nameCode text 0 0 lim false) 1:=by
 show Fails (if(decide (0>lim)||decide (lim-0<1))=true then({ code:=nameCode,text,lim,start:=0,pc:=11,pos:=0,handed:=0,marks:= #[],seen:=({}:Seen).add 14 }:M).say false
  else({ code:=nameCode,text,lim,start:=0,pc:=11,pos:=0,handed:=0,marks:= #[],seen:=({}:Seen).add 14,lastStart:=lim }:M).attemptFrom 0 true) 1
 split
 ·exact say_fails rfl rfl
 ·exact attempt_none rfl rfl rfl (fun s hs sn=>inSet_name _ sn (h s hs).1 (h s hs).2) 0 true
theorem search_val (h:∀s,s<lim→(31<text.getD s 0∧text.getD s 0≠127∨text.getD s 0=9)):Fails (forSearch valCode text 0 0 lim false) 1:=by
 show Fails (if(decide (0>lim)||decide (lim-0<1))=true then({ code:=valCode,text,lim,start:=0,pc:=15,pos:=0,handed:=0,marks:= #[],seen:=({}:Seen).add 14 }:M).say false
  else({ code:=valCode,text,lim,start:=0,pc:=15,pos:=0,handed:=0,marks:= #[],seen:=({}:Seen).add 14,lastStart:=lim }:M).attemptFrom 0 true) 1
 split
 ·exact say_fails rfl rfl
 ·exact attempt_none rfl rfl rfl (fun s hs sn=>inSet_val _ sn (h s hs)) 0 true
end
end Mine
end
open PySem PySem.W PyProof.Rows PySem.Calls PySem.Spec PySem.Builtin.Str PySem.Builtin
namespace Mine
theorem hid {g:Prop} (h:∀G:Prop,(g→G)→G):g:=h g id
inductive V where
 |none
 |bool (b:Bool)
 |int (i:Int)
 |str (s:Str)
 |tup (l:List V)
 |lst (l:List V)
 |rng (a b st:Int)
 |toks
 |hdr (r:Nat)
inductive W where
 |p (v:V)
 |f (l:List V)
 |o (l:List V)
 |it (l:List V)
abbrev HS:=List (List (Str×Str))
inductive Slot where
 |any
 |p (v:V)
 |o (l:List V)
abbrev Gam:=List (Str×Slot)
abbrev Names:=List (Str×NameKind)
noncomputable def W.rd:W→Option V
 | .p v=>some v
 | .f l=>some (.lst l)
 | .o l=>some (.lst l)
 | .it _=> .none
noncomputable def W.esc:W→Option V
 | .p v=>some v
 | .f l=>some (.lst l)
 | .o _=> .none
 | .it _=> .none
noncomputable def room (n:Nat):Bool:=decide (n≤16777216)
noncomputable def mapO {α β:Type} (f:α→Option β):List α→Option (List β)
 |[]=>some []
 |a::r=>(f a).bind fun b=>(mapO f r).map (b::·)
noncomputable def toPS (g:Option (V→Option PyData)):V→Option PyData
 | .none=>some .none
 | .bool b=>some (.bool b)
 | .int i=>some (.int i)
 | .str x=>if PyData.strOk x then some (.str x)else .none
 | .tup l=>g.bind fun g=>(mapO g l).map .tuple
 | .lst l=>g.bind fun g=>(mapO g l).map .list
 | .rng _ _ _=> .none
 | .toks=> .none
 | .hdr _=> .none
noncomputable def toP:Nat→V→Option PyData
 |0=>toPS .none
 |n+1=>toPS (some (toP n))
noncomputable def V.beq (a b:V):Option Bool:=
 match toP 8 a,toP 8 b with
 |some x,some y=>some (PyData.eqv x y)
 |_,_=> .none
noncomputable def mulOk (a b:Int):Bool:= !(decide (Builtin.Int.intBits a>shortFactorBits)&&decide (Builtin.Int.intBits b>shortFactorBits)&&Builtin.Int.intTooBig (↑(Builtin.Int.intBits a)+↑(Builtin.Int.intBits b)))
noncomputable def repl (l:List V) (n:Int):List V:=(List.replicate n.toNat l).flatten
noncomputable def inL (a:V) (l:List V):Option Bool:=
 match toP 8 a,mapO (toP 8) l with
 |some d,some ds=>some (ds.any fun y=>PyData.eqv y d)
 |_,_=> .none
noncomputable def isSt (e:Expr):Bool:=isStarred e
noncomputable def rngL (a b:Int) (st:Int):Option (List V):=
 if st=1 then some ((List.range (b-a).toNat).map fun(k:Nat)=> .int (a+k))
 else if st= -1 then some ((List.range (a-b).toNat).map fun(k:Nat)=> .int (a-k))
 else .none
noncomputable def chars (x:Str):List V:=x.cps.toList.map fun c=> .str ⟨#[c]⟩
noncomputable def maxI:List Int→Option Int
 |[]=> .none
 |a::r=>some (r.foldl (fun m x=>if x>m then x else m) a)
noncomputable def minI:List Int→Option Int
 |[]=> .none
 |a::r=>some (r.foldl (fun m x=>if x<m then x else m) a)
noncomputable def small (i:Int):Bool:=decide (-(2^62)<i∧i<2^62)
noncomputable def setHs (hs:HS) (r:Nat) (l:List (Str×Str)):HS:=hs.set r l
noncomputable def okText (x:Str) (tab:Bool):Bool:=x.cps.toList.all fun c=>decide (31<c∧c≠127∨(tab=true∧c=9))&&decide (c<1114112)
noncomputable def relab (ns:Names) (sc:List (Str×NameKind)):Names:=
 sc.map fun(n,k)=>if(k== .free&&ns.lookup n==some .cell)then(n,.cell)else(n,k)
noncomputable def ownNames (sc:List (Str×NameKind)):Gam:=(sc.filter fun x=>x.2== .local||x.2== .cell).map fun x=>(x.1,Slot.any)
noncomputable def setG (x:Str) (sl:Slot):Gam→Gam
 |[]=>[]
 |(y,s)::r=>if x==y then(y,sl)::r else(y,s)::setG x sl r
noncomputable abbrev NSet (e:Expr):Prop:=(fun op=>(behindInMarks op e,fun(env:Env) (x:Value)=>(foldedSetIterable e env x:Sem Value)))=fun _=>(false,fun _ x=>pure x)
noncomputable def dirNames (l:List Expr):List Str:=l.filterMap nameOf?
noncomputable def scOk (ns:Names) (sc:Scope):Bool:=
 sc.kind== .function&& !sc.isCoroutine&& !sc.isGenerator&&sc.names.all fun x=>match x.2 with
  | .local=>sc.names.lookup x.1==some .local
  | .cell=>sc.names.lookup x.1==some .cell
  | .free=>ns.lookup x.1==some .cell&&sc.names.lookup x.1==some .free
  | .globalImplicit=>sc.names.lookup x.1==some .globalImplicit
  |_=>false
noncomputable def slotW:Slot→Option W
 | .any=> .none
 | .p v=>some (.p v)
 | .o l=>some (.o l)
noncomputable def sliceL (l:List V) (a b:Option Int):List V:=
 (l.drop (a.elim 0 (clipAt l.length))).take (b.elim l.length (clipAt l.length)-a.elim 0 (clipAt l.length))
noncomputable abbrev NBare (o:Expr):Prop:=(fun(n:Str) (env:Env) (w:Sem Value)=>attributeBase o n env w)=fun _ _ w=>w
noncomputable def frz1 (x:Str):Gam→Gam
 |[]=>[]
 |(y,s)::r=>if x==y then(y,match s with| .o l=> .p (.lst l)|s=>s)::r else(y,s)::frz1 x r
noncomputable def frz:List Str→Gam→Gam
 |[],Γ=>Γ
 |x::r,Γ=>frz r (frz1 x Γ)
noncomputable def isVar (ns:Names) (x:Str):Bool:=match ns.lookup x with
 |some .local=>true
 |some .cell=>true
 |_=>false
theorem isVar_or {ns:Names} {x:Str} (h:isVar ns x=true):ns.lookup x=some .local∨ns.lookup x=some .cell:=by
 unfold isVar at h
 split at h
 ·exact .inl (by assumption)
 ·exact .inr (by assumption)
 ·cases h
structure FD where
 params:List Str
 body:List Stmt
 scope:Scope
noncomputable def pv:Nat→V→Bool
 |_,.hdr _=>false
 |0,_=>false
 |n+1,.tup l=>l.all (pv n)
 |n+1,.lst l=>l.all (pv n)
 |_,_=>true
noncomputable def pw:W→Bool
 | .p v=>pv 8 v
 | .f l=>l.all (pv 8)
 |_=>false
noncomputable def argNames (a:Arguments):List Str:=a.args.map (·.arg)
structure Inn where
 args:Arguments
 body:List Stmt
 scope:Scope
 pos:Pos
noncomputable def innS:Stmt→Str×Inn
 | .FunctionDef n a b _ _ _ sc _ _ p=>(n,⟨a,b,sc,p⟩)
 | .ClassDef n _ _ b _ _ _ _ _ _ _=>(n,⟨⟨[],[],none,[],[],none,[]⟩,b,⟨.function,[],false,false,[]⟩,⟨0,0,0,0⟩⟩)
 |_=>("",⟨⟨[],[],none,[],[],none,[]⟩,[],⟨.function,[],false,false,[]⟩,⟨0,0,0,0⟩⟩)
noncomputable def innOf (l:List Stmt) (x:Str):Inn:=(l.findSome? fun st=>let p:=innS st;if p.1==x then some p.2 else none).getD ⟨⟨[],[],none,[],[],none,[]⟩,[],⟨.function,[],false,false,[]⟩,⟨0,0,0,0⟩⟩
noncomputable def fdI (i:Inn):FD:=⟨argNames i.args,i.body,i.scope⟩
noncomputable def PI (x:Str):Inn:=innOf PySem.Challenge.pw_wc0032_01.main.body x
noncomputable def PM (x:Str):Inn:=innOf (PI "Headers").body x
noncomputable def P2 (x:Str):FD:=fdI (PI x)
noncomputable def PC (x:Str):FD:=fdI (PM x)
noncomputable def I2:Inn:=innOf (P2 "_int2digits").body "inner"
noncomputable def D2:Inn:=innOf (P2 "_digits2int").body "inner"
structure InnIs (fd:FuncData) (I:Inn):Prop where
 body:fd.body= .stmts I.body
 scope:fd.scope=I.scope
 params:fd.params=I.args
 dfl:fd.defaults= .none
 kwd:fd.kwdefaults= .none
noncomputable abbrev pwL:Program:=PySem.Challenge.pw_wc0032_01
noncomputable def runQ:=PySem.W.Fast.tw14082659384304107361
noncomputable def tabQ:=PySem.W.Fast.tw14364793385576792824
noncomputable def qV:Program:=view pwL [89]
noncomputable def looseL:List Str:=pwL.boundNames.filter fun n=> !(n==("law":Str))
noncomputable def refP:(v:Value)→Option {a:Addr//v= .ref a}
 | .ref a=>some ⟨a,rfl⟩
 |_=>none
noncomputable def strP:(v:Value)→Option {x:Str//∃t,v= .str x t}
 | .str x t=>some ⟨x,t,rfl⟩
 |_=>none
noncomputable def intP:(v:Value)→Option {i:Int//∃t,v= .int i t}
 | .int i t=>some ⟨i,t,rfl⟩
 |_=>none
noncomputable def boolP:(v:Value)→Option {b:Bool//v= .bool b}
 | .bool b=>some ⟨b,rfl⟩
 |_=>none
noncomputable def noneP:(v:Value)→Option (PLift (v= .none))
 | .none=>some ⟨rfl⟩
 |_=>none
noncomputable def funcP:(d:Data)→Option {f:FuncData//d= .func f}
 | .func fd=>some ⟨fd,rfl⟩
 |_=>none
noncomputable def fldP:(d:Data)→Option {vs:Array Value//d= .fields vs}
 | .fields vs=>some ⟨vs,rfl⟩
 |_=>none
noncomputable def seqP:(d:Data)→Option {vs:Array Value//∃n,d= .seq vs n}
 | .seq vs n=>some ⟨vs,n,rfl⟩
 |_=>none
noncomputable def dictP:(d:Data)→Option {es:Array DictEntry//∃n,d= .dict es n}
 | .dict es n=>some ⟨es,n,rfl⟩
 |_=>none
noncomputable def plainP:(d:Data)→Option (PLift (d= .plain))
 | .plain=>some ⟨rfl⟩
 |_=>none
noncomputable def refOf (v:Value):Option Addr:=(refP v).map (·.1)
noncomputable def strOfV (v:Value):Option Str:=(strP v).map (·.1)
noncomputable def intOfV (v:Value):Option Int:=(intP v).map (·.1)
noncomputable def funcOf (d:Data):Option FuncData:=(funcP d).map (·.1)
noncomputable def fldOf (d:Data):Option (Array Value):=(fldP d).map (·.1)
noncomputable def seqOf (d:Data):Option (Array Value):=(seqP d).map (·.1)
noncomputable def dictOfD (d:Data):Option (Array DictEntry):=(dictP d).map (·.1)
noncomputable def isPlain (d:Data):Bool:=(plainP d).isSome
noncomputable def isBoolV (v:Value):Bool:=(boolP v).isSome
noncomputable def isNoneV (v:Value):Bool:=(noneP v).isSome
theorem got {α:Type} {P:α→Prop} {o:Option {a:α//P a}} {a:α} (h:o.map (·.1)=some a):P a:=by
 obtain⟨x,_,rfl⟩:=Option.map_eq_some_iff.mp h
 exact x.2
noncomputable def objAt (h:Heap) (v:Option Value):Option (Addr×Obj):=(v.bind refOf).bind fun a=>(h.get? a).map fun o=>(a,o)
noncomputable def fdAt (h:Heap) (v:Option Value):Option FuncData:=(objAt h v).bind fun p=>funcOf p.2.data
noncomputable def codeT (h:Heap) (fd:FuncData):Option Bool:=(objAt h (some fd.code)).bind fun p=>(fldOf p.2.data).bind fun vs=>(vs[1]?).bind fun v=>(strOfV v).map fun q=>q==fd.qualname
noncomputable abbrev FT:=Arguments×FuncBody×Scope×List (Str×Addr)×Addr×Addr×Option Bool×Bool×Bool
noncomputable def fnT (h:Heap) (fd:FuncData):FT:=(fd.params,fd.body,fd.scope,fd.closure,fd.globals,fd.builtins,codeT h fd,isNoneV fd.defaults,isNoneV fd.kwdefaults)
noncomputable def PA (x:Str):Arguments:=(PI x).args
noncomputable def PCA (x:Str):Arguments:=(PM x).args
noncomputable def fnL:List Str:=["law","_law_cells","_law_operators","_law_roads","_law_told","_law_dots","_law_parts","_law_name","_law_loads","_law_has","_law_spare","_law_send","_law_way","quotedata","int_divmod","_divmod_pos","_div2n1n","_div3n2n","_int2digits","_digits2int","ISTERMINAL","ISNONTERMINAL","ISEOF"]
noncomputable def fnE (D:FD) (A:Arguments) (b:Bool):FT:=(A,.stmts D.body,D.scope,[],mainGlobals,builtinsNs,some true,b,true)
noncomputable def isTab (o:Obj):Bool:=(fldOf o.data).any fun vs=>vs.size==0
noncomputable def KH (h:Heap) (C:Addr):Frag:=match (h.get? C).map Obj.data with
 |some (Data.cls cd)=>(C::cd.ns::match (h.get? cd.ns).bind fun o=>dictOfD o.data with
  |some es=>es.toList.filterMap fun e=>refOf e.val
  |none=>[]).filterMap fun a=>(h.get? a).bind fun o=>bif isTab o then none else some (a,o)
 |_=>[]
noncomputable def mthL:List Str:=["_convert_string_type","get_all","add_header","keys"]
noncomputable def mthT (h:Heap) (K:Frag) (C:Addr) (x:Str):Option (Option (Option Value)×Option FT):=(findIn K (.ref C) x).map fun v=>(v.map (typeIn K),(fdAt h v).map (fnT h))
noncomputable abbrev CT:=List (Option (Option (Option Value)×Option FT))×Option (Option (Option Value)×Option FT)×Option Bool×Option (Option Value)×Option (Option Value)×Bool×Option (Option Value)×Bool×Option (Option Value)×Bool×Option (Option Value)×Bool
noncomputable def clsT (h:Heap) (C:Addr):CT:=
 (mthL.map (mthT h (KH h C) C),mthT h (KH h C) C "__init__",((findIn (KH h C) (.ref C) "__init__").bind fun v=>fdAt h v).bind (fun fd=>(objAt h (some fd.defaults)).bind fun p=>(seqOf p.2.data).map fun vs=>vs.size==1&&vs.all isNoneV),
  findIn (KH h C) (.ref C) "__getattribute__",findIn (KH h C) (.ref C) "__getattr__",hasDictIn (KH h C) C,findIn (KH h C) (.ref C) "_headers",makesIn (KH h C) C,findIn (KH h C) (.ref C) "__setattr__",plainOver (KH h C) C,takerIn (KH h C) C "_headers",(hasDictIn (KH h C) C&&keepIn (KH h C) (.ref C)))
noncomputable def mthE (x:Str) (b:Bool):Option (Option (Option Value)×Option FT):=some (some (some (.type "function")),some (fnE (PC x) (PCA x) b))
noncomputable def clsE:CT:=(mthL.map fun x=>mthE x true,mthE "__init__" false,some true,some (some (.builtin "object.__getattribute__")),some none,true,some none,true,some (some (.builtin "object.__setattr__")),true,some none,true)
noncomputable abbrev PT:=Value×Option Addr×Nat×Nat×Array Nat
noncomputable def patT (h:Heap) (v:Option Value):Option PT:=(objAt h v).bind fun p=>(fldOf p.2.data).bind fun vs=>(objAt h (some (vs.getD 5 .none))).bind fun q=>(seqOf q.2.data).map fun its=>(p.2.cls,p.2.dict,Re.reRawNat (vs.getD 2 .none),Re.reRawNat (vs.getD 6 .none),(its.map Re.reRawOf).map Int.toNat)
noncomputable def patE (c:Array Nat):Option PT:=some (.type "re.Pattern",none,0,0,c)
noncomputable def tokT (h:Heap) (v:Option Value):Option (Bool×Value×Option Addr×Nat×List (Int×Option Str×Option Int)):=(objAt h v).bind fun p=>(dictOfD p.2.data).map fun es=>(p.1==sysModules,p.2.cls,p.2.dict,p.2.slots.size,es.toList.map fun e=>(e.hash,strOfV e.key,intOfV e.val))
noncomputable def tokL:List (Str×Int):=[(Str.ofString "!",(54:Int)),(Str.ofString "!=",(28:Int)),(Str.ofString "%",(24:Int)),(Str.ofString "%=",(40:Int)),(Str.ofString "&",(19:Int)),(Str.ofString "&=",(41:Int)),(Str.ofString "(",(7:Int)),(Str.ofString ")",(8:Int)),(Str.ofString "*",(16:Int)),(Str.ofString "**",(35:Int)),(Str.ofString "**=",(46:Int)),(Str.ofString "*=",(38:Int)),(Str.ofString "+",(14:Int)),(Str.ofString "+=",(36:Int)),(Str.ofString ",",(12:Int)),(Str.ofString "-",(15:Int)),(Str.ofString "-=",(37:Int)),(Str.ofString "->",(51:Int)),(Str.ofString ".",(23:Int)),(Str.ofString "...",(52:Int)),(Str.ofString "/",(17:Int)),(Str.ofString "//",(47:Int)),(Str.ofString "//=",(48:Int)),(Str.ofString "/=",(39:Int)),(Str.ofString ":",(11:Int)),(Str.ofString ":=",(53:Int)),(Str.ofString ";",(13:Int)),(Str.ofString "<",(20:Int)),(Str.ofString "<<",(33:Int)),(Str.ofString "<<=",(44:Int)),(Str.ofString "<=",(29:Int)),(Str.ofString "=",(22:Int)),(Str.ofString "==",(27:Int)),(Str.ofString ">",(21:Int)),(Str.ofString ">=",(30:Int)),(Str.ofString ">>",(34:Int)),(Str.ofString ">>=",(45:Int)),(Str.ofString "@",(49:Int)),(Str.ofString "@=",(50:Int)),(Str.ofString "[",(9:Int)),(Str.ofString "]",(10:Int)),(Str.ofString "^",(32:Int)),(Str.ofString "^=",(43:Int)),(Str.ofString "{",(25:Int)),(Str.ofString "|",(18:Int)),(Str.ofString "|=",(42:Int)),(Str.ofString "}",(26:Int)),(Str.ofString "~",(31:Int))]
noncomputable def tokE (w:World):Option (Bool×Value×Option Addr×Nat×List (Int×Option Str×Option Int)):=some (false,.type "dict",none,0,tokL.map fun p=>(hashStr w p.1,some p.1,some p.2))
noncomputable abbrev XT:=Value×Bool×Bool×Bool×Bool×Option (Value×Option Addr×Nat×Option Nat)
noncomputable def cdT (h:Heap) (v:Option Value):Option XT:=(fdAt h v).bind fun fd=>(objAt h (some fd.code)).bind fun p=>(fldOf p.2.data).map fun vs=>
 (p.2.cls,(strOfV (vs.getD 18 .none)).isSome,(intOfV (vs.getD 7 .none)).isSome,isBoolV (vs.getD 9 .none),(intOfV (vs.getD 10 .none)).isSome,(objAt h vs[11]?).map fun q=>(q.2.cls,q.2.dict,q.2.slots.size,(fldOf q.2.data).map (·.size)))
noncomputable def pAt (h:Heap) (v:Option Value):Option Addr:=(fdAt h v).bind fun fd=>(objAt h (some fd.code)).bind fun p=>(fldOf p.2.data).bind fun vs=>(vs[11]?).bind refOf
noncomputable def cdE:Option XT:=some (.type "code",true,true,true,true,some (.none,none,0,some 0))
noncomputable def bmT (h:Heap) (v:Option Value):Option (Bool×Value×Option Addr×Bool):=(objAt h v).map fun p=>(p.1==builtinsNs,p.2.cls,p.2.dict,isPlain p.2.data)
noncomputable def biL:List (Str×Value):=[("len",.builtin "len"),("range",.type "range"),("max",.builtin "max"),("min",.builtin "min"),("sum",.builtin "sum"),("divmod",.builtin "divmod"),("reversed",.type "reversed"),("type",.type "type"),("str",.type "str"),("list",.type "list"),("set",.type "set")]
noncomputable def inL0:List (Str×Int):=[("NT_OFFSET",256),("ENDMARKER",0),("_DIV_LIMIT",4000)]
noncomputable def paL:List (Str×Array Nat):=[("_twin_re_1",dotCode),("_twin_re_2",nlCode),("_name_disallowed_re",nameCode),("_value_disallowed_re",valCode)]
noncomputable abbrev YT:=Bool×List (Option FT)×Option CT×List (Option Int)×List (Option PT)×Option Str×Option (Bool×Value×Option Addr×Nat×List (Int×Option Str×Option Int))×List (Option XT)×Option (Bool×Value×Option Addr×Bool)×List (Option Value×Option Value)
noncomputable def Yf (s:Shared):YT:=
 ((s.heap.isNs mainGlobals&&s.heap.isNs builtinsNs)&&(s.heap.noLimitOk&&(!(pAt s.heap (s.heap.nsMap mainGlobals "_int2digits")==pAt s.heap (s.heap.nsMap mainGlobals "_digits2int"))&&(s.heap.get? sysModules).any fun o=> !isTab o)),fnL.map fun x=>(fdAt s.heap (s.heap.nsMap mainGlobals x)).map (fnT s.heap),((s.heap.nsMap mainGlobals "Headers").bind refOf).map (clsT s.heap),inL0.map fun p=>(s.heap.nsMap mainGlobals p.1).bind intOfV,
  paL.map fun p=>patT s.heap (s.heap.nsMap mainGlobals p.1),(s.heap.nsMap mainGlobals "CRLF").bind strOfV,tokT s.heap (s.heap.nsMap mainGlobals "EXACT_TOKEN_TYPES"),([Str.ofString "_int2digits",Str.ofString "_digits2int"]:List Str).map fun x=>cdT s.heap (s.heap.nsMap mainGlobals x),
  bmT s.heap (s.heap.nsMap mainGlobals "__builtins__"),biL.map fun p=>(s.heap.nsMap mainGlobals p.1,s.heap.nsMap builtinsNs p.1))
noncomputable def Ya (w:World):YT:=
 (true,fnL.map fun x=>some (fnE (P2 x) (PA x) true),some clsE,inL0.map fun p=>some p.2,paL.map fun p=>patE p.2,some ⟨#[13,10]⟩,tokE w,[cdE,cdE],some (false,.type "module",some builtinsNs,true),biL.map fun p=>(none,some p.2))
theorem t_run:topRun=runQ:=PySem.W.Fast.te14082659384304107361
theorem t_tab:treeTable=tabQ:=PySem.W.Fast.te14364793385576792824
noncomputable abbrev rwL:RowW:=PySem.Challenge.rw_wc0032_01.row.toRowW
theorem said:PySem.Challenge.rw_wc0032_01.wellSaid=true:=by kernel_rfl
theorem okk:(chainsOk qV&&opensWell pwL&&(frees rwL&&rwL.within.isEmpty))=true:=by kernel_rfl
theorem bare:pwL.bare:=by
 unfold Program.bare
 refine⟨?_,?_,?_,?_,?_,?_⟩<;>kernel_rfl
theorem promised:rwL.promised:=⟨[.list []],by kernel_rfl,by kernel_rfl⟩
noncomputable abbrev half (b:Bool):Prop:=∀w:World,(fencedOpening treeTable pwL w 6900).bind (fun s₀=>(topFrom treeTable pwL (w.withFollow "special-get-raises" b) 6900 s₀).map (fun s=>(openSeen qV looseL (importedModules pwL.main.body) (fun ux=>true) true s,Yf s)))=some (openGood qV looseL,Ya (w.withFollow "special-get-raises" b))
theorem left_f:half false:=fun w=>by
 unfold topFrom
 rw[t_run,t_tab]
 kernel_rfl
theorem left_t:half true:=fun w=>by
 unfold topFrom
 rw[t_run,t_tab]
 kernel_rfl
theorem left_ok:LeftO pwL qV looseL (fun ux=>true) Yf Ya 6900:=by
 refine LeftO.of_split "special-get-raises" fun w=>?_
 obtain⟨s₀,e1,e2⟩:=Option.bind_eq_some_iff.mp (left_f w)
 obtain⟨s₁,e3,e4⟩:=Option.bind_eq_some_iff.mp (left_t w)
 rw[e1]at e3
 cases e3
 rw[e1]
 exact congrArg some (Prod.ext e2 e4)
end Mine
section
open PySem PySem.W PyProof.Rows PySem.Calls
namespace Mine
structure TK where
 a:Addr
 X:List (Addr×(Int×Int×Str))
structure RC where
 O:List (Str×Addr)
 ρ:List ((Addr×Addr)×Addr)
 tk:TK
noncomputable def RC.hl (R:RC):List Addr:=R.ρ.map (·.2)++R.tk.X.map (·.1)
noncomputable def RC.bad (R:RC):List Addr:=R.O.map (·.2)++R.hl
noncomputable def RC.with (R:RC) (x:Str) (a:Addr):RC:={ R with O:=(x,a)::R.O }
inductive TupAt (n:Nat) (h:Heap) (R:RC) (P:List Value→Prop) (v:Value):Prop
 |mk (le:n≤sizeLine) (a:Addr) (vs:List Value):v= .ref a→a∉R.bad→h.IsTuple a vs.toArray→P vs→TupAt n h R P v
inductive LstAt (n:Nat) (h:Heap) (R:RC) (P:List Value→Prop) (v:Value):Prop
 |mk (le:n≤sizeLine) (a:Addr) (vs:List Value):v= .ref a→a∉R.bad→h.PlainList a vs.toArray→P vs→LstAt n h R P v
inductive RngAt (h:Heap) (R:RC) (a b st:Int) (v:Value):Prop
 |mk (x:Addr) (t u z:Tok):v= .ref x→x∉R.bad→IsRange h x a b st t u z→Builtin.Range.small a b st=true→RngAt h R a b st v
inductive HdAt (R:RC) (r:Nat) (v:Value):Prop
 |mk (i:Addr×Addr) (a:Addr):R.ρ[r]? =some (i,a)→v= .ref i.1→HdAt R r v
inductive ConsAt (P:Value→Prop) (Q:List Value→Prop) (vs:List Value):Prop
 |mk (v:Value) (vr:List Value):vs=v::vr→P v→Q vr→ConsAt P Q vs
mutual
noncomputable def VR (h:Heap) (R:RC):V→Value→Prop
 | .none=>fun v=>v= .none
 | .bool b=>fun v=>v= .bool b
 | .int i=>fun v=>∃t,v= .int i t
 | .str x=>fun v=>x.length≤sizeLine∧∃t,v= .str x t
 | .tup l=>TupAt l.length h R (VRs h R l)
 | .lst l=>LstAt l.length h R (VRs h R l)
 | .rng a b st=>RngAt h R a b st
 | .toks=>fun v=>v= .ref R.tk.a
 | .hdr r=>HdAt R r
noncomputable def VRs (h:Heap) (R:RC):List V→List Value→Prop
 |[]=>fun vs=>vs=[]
 |x::r=>ConsAt (VR h R x) (VRs h R r)
end
noncomputable def Kept (B:List Addr) (h h':Heap):Prop:=∀b o,b∉B→h.get? b=some o→h'.get? b=some o
theorem VRs.nil_eq {h R} {vs:List Value} (e:VRs h R [] vs):vs=[]:=e
theorem Kept.refl (B h):Kept B h h:=fun ux ux ux e=>e
theorem Kept.trans {B h h' h''} (a:Kept B h h') (b:Kept B h' h''):Kept B h h'':=fun x o hx e=>b x o hx (a x o hx e)
theorem Kept.mono {B B' h h'} (a:Kept B h h') (hs:∀b∈B,b∈B'):Kept B' h h':=fun x o hx e=>a x o (fun m=>hx (hs x m)) e
theorem Kept.push {B h h'} (a:Kept B h h') (o:Obj):Kept B h (h'.push o):=fun x o' hx e=>Heap.get?_push_of_some o (a x o' hx e)
theorem Kept.all {B h h'} (a:∀b o,h.get? b=some o→h'.get? b=some o):Kept B h h':=fun x o ux e=>a x o e
theorem Kept.same {B h h'} {a:Addr} (hs:Heap.SameBut a h h') (ha:a∈B):Kept B h h':=fun x o hx e=>(hs.2 x (fun q=>hx (q▸ha))).trans e
noncomputable def Odd (o:Obj):Prop:=o.cls= .type "range"∨o.cls= .type "code"∨o.cls= .none
noncomputable def Stands (o:Obj):Prop:=(∃vs n,o.data= .seq vs n)∨(Odd o∧∃vs,o.data= .fields vs)
section
variable {h h':Heap} {R R':RC}
theorem VR.tp (ht:R'.tk=R.tk) (hρ:∀(r:Nat) (p:(Addr×Addr)×Addr),R.ρ[r]? =some p→R'.ρ[r]? =some p)
 (H:∀b o,b∉R.bad→h.get? b=some o→Stands o→h'.get? b=some o∧b∉R'.bad) (x:V):∀(v:Value),VR h R x v→VR h' R' x v:=by
 refine V.rec (motive_1:=fun x=>∀v,VR h R x v→VR h' R' x v) (motive_2:=fun l=>∀vs,VRs h R l vs→VRs h' R' l vs) (fun ux e=>e) (fun ux ux e=>e) (fun ux ux e=>e) (fun ux ux e=>e) ?_ ?_ ?_ ?_ ?_ (fun ux e=>e) ?_ x
 ·intro l ih v e
  obtain⟨n,a,vs,e,na,⟨o,ho,hc,n0,hd⟩,hs⟩:=e
  have:=H a o na ho (.inl ⟨_,_,hd⟩)
  exact⟨n,a,vs,e,this.2,⟨o,this.1,hc,n0,hd⟩,ih vs hs⟩
 ·intro l ih v e
  obtain⟨n,a,vs,e,na,⟨n0,ho⟩,hs⟩:=e
  have:=H a _ na ho (.inl ⟨_,_,rfl⟩)
  exact⟨n,a,vs,e,this.2,⟨n0,this.1⟩,ih vs hs⟩
 ·intro a b st v e
  obtain⟨x,t,u,z,e,na,hr,hs⟩:=e
  have:=H x _ na hr (.inr ⟨.inl rfl,_,rfl⟩)
  exact⟨x,t,u,z,e,this.2,this.1,hs⟩
 ·intro v e
  show v= .ref R'.tk.a
  rw[ht];exact e
 ·intro r v e
  obtain⟨i,a,e,q⟩:=e
  exact⟨i,a,hρ _ _ e,q⟩
 ·intro x r h1 h2 vs e
  obtain⟨v,vr,e,g1,g2⟩:=e
  exact⟨v,vr,e,h1 v g1,h2 vr g2⟩
theorem VRs.tp (H:∀x v,VR h R x v→VR h' R' x v) (l:List V):∀(vs:List Value),VRs h R l vs→VRs h' R' l vs:=by
 induction l with
 |nil=>exact fun ux e=>e
 |cons x r ih=>
  intro vs e
  obtain⟨v,vr,e,g1,g2⟩:=e
  exact⟨v,vr,e,H x v g1,ih vr g2⟩
theorem VR.step (hk:Kept R.bad h h') (ht:R'.tk=R.tk) (hρ:∀(r:Nat) (p:(Addr×Addr)×Addr),R.ρ[r]? =some p→R'.ρ[r]? =some p)
 (hb:∀b o,b∉R.bad→h.get? b=some o→b∉R'.bad):∀(x:V) (v:Value),VR h R x v→VR h' R' x v:=VR.tp ht hρ fun b o q e ux=>⟨hk b o q e,hb b o q e⟩
theorem VRs.step (hk:Kept R.bad h h') (ht:R'.tk=R.tk) (hρ:∀(r:Nat) (p:(Addr×Addr)×Addr),R.ρ[r]? =some p→R'.ρ[r]? =some p)
 (hb:∀b o,b∉R.bad→h.get? b=some o→b∉R'.bad):∀(l:List V) (vs:List Value),VRs h R l vs→VRs h' R' l vs:=VRs.tp (VR.step hk ht hρ hb)
end
theorem VRs.len {h R}:∀{l:List V} {vs:List Value},VRs h R l vs→vs.length=l.length:=by
 intro v0_
 induction v0_ with
 |nil=>
  intro vs e
  have e:=VRs.nil_eq e;rw[e];rfl
 |cons x r ih_=>
  intro vs q1_
  obtain⟨v,vr,e,_,h2⟩:=q1_
  rw[e];simp[ih_ h2]
theorem VRs.get {h R}:∀{l:List V} {vs:List Value} {i:Nat} {x:V},VRs h R l vs→l[i]? =some x→∃v,vs[i]? =some v∧VR h R x v:=by
 intro l
 induction l with
 |nil=>intro vs i x ux e;simp at e
 |cons y r ih=>
  intro vs i x w q
  obtain⟨v,vr,e,h1,h2⟩:=w
  cases i with
  |zero=>simp at q;subst q;exact⟨v,by rw[e];rfl,h1⟩
  |succ i=>rw[e];simp at q ⊢;exact ih h2 q
theorem VRs.app {h R}:∀{l m:List V} {vs us:List Value},VRs h R l vs→VRs h R m us→VRs h R (l++m) (vs++us):=by
 intro v0_
 induction v0_ with
 |nil=>
  intro m vs us e q
  have e:=VRs.nil_eq e;rw[e];exact q
 |cons x r ih_=>
  intro m vs us q3_ q
  obtain⟨v,vr,e,h1,h2⟩:=q3_
  exact⟨v,vr++us,by rw[e];rfl,h1,ih_ h2 q⟩
theorem VRs.nil {h R}:VRs h R [] []:=rfl
theorem VRs.one {h R x v} (a:VR h R x v):VRs h R [x] [v]:=⟨v,[],rfl,a,rfl⟩
theorem VRs.back {h R}:∀{l:List V} {vs:List Value} {i:Nat} {v:Value},VRs h R l vs→vs[i]? =some v→∃x,l[i]? =some x∧VR h R x v:=by
 intro l
 induction l with
 |nil=>intro vs i x e q;have e:=VRs.nil_eq e;rw[e]at q;simp at q
 |cons y r ih=>
  intro vs i x w q
  obtain⟨v,vr,e,h1,h2⟩:=w
  cases i with
  |zero=>rw[e]at q;simp at q;subst q;exact⟨y,rfl,h1⟩
  |succ i=>rw[e]at q;simp at q ⊢;exact ih h2 q
inductive PAt (h:Heap) (R:RC) (v:V) (ov:Option Value):Prop
 |mk (val:Value):ov=some val→VR h R v val→PAt h R v ov
inductive OAt (h:Heap) (R:RC) (x:Str) (l:List V) (ov:Option Value):Prop
 |mk (le:l.length≤sizeLine) (a:Addr) (vs:List Value):ov=some (.ref a)→(x,a)∈R.O→h.PlainList a vs.toArray→VRs h R l vs→OAt h R x l ov
noncomputable def SlotR (h:Heap) (R:RC) (x:Str) (sl:Slot) (ov:Option Value):Prop:=
 match sl with
 | .any=>True
 | .p v=>PAt h R v ov
 | .o l=>OAt h R x l ov
inductive SlAt (Γ:Gam) (R:RC) (h:Heap) (x:Str) (ov:Option Value):Prop
 |mk (sl:Slot):Γ.lookup x=some sl→SlotR h R x sl ov→SlAt Γ R h x ov
inductive LocAt (env:Env) (ns:Names) (Γ:Gam) (R:RC) (h:Heap):Prop
 |mk (m:Str→Option Value):h.Ns env.locals m→(∀x,ns.lookup x=some .local→SlAt Γ R h x (m x))→LocAt env ns Γ R h
inductive CelAt (env:Env) (Γ:Gam) (R:RC) (h:Heap) (x:Str):Prop
 |mk (c:Addr) (ov:Option Value) (sl:Slot):env.cells.lookup x=some c→h.IsCell c ov→Γ.lookup x=some sl→SlotR h R x sl ov→CelAt env Γ R h x
structure VarR (env:Env) (ns:Names) (Γ:Gam) (R:RC) (h:Heap):Prop where
 kind:env.scope.kind= .function
 names:env.scope.names=ns
 glob:env.globals=mainGlobals
 blt:env.builtins=builtinsNs
 loc:LocAt env ns Γ R h
 cel:∀x,ns.lookup x=some .cell→CelAt env Γ R h x
 inj:∀x y c,env.cells.lookup x=some c→env.cells.lookup y=some c→x=y
noncomputable def kvs (l:List (Str×Str)):List V:=l.map fun p=> .tup [.str p.1,.str p.2]
inductive InsAt (C:Addr) (h:Heap) (R:RC) (i:Addr×Addr) (a:Addr):Prop
 |mk (n:Nat) (hsh:Int) (t:Tok):i.1∉R.bad→i.2∉R.bad→h.get? i.1=some (instObj C i.2)→h.get? i.2=some (dictOf [⟨hsh,.str "_headers" t,.ref a⟩] n)→InsAt C h R i a
inductive HdrAt (C:Addr) (h:Heap) (R:RC) (i:Addr×Addr) (a:Addr) (l:List (Str×Str)):Prop
 |mk (le:l.length≤sizeLine) (I:InsAt C h R i a) (vs:List Value):h.PlainList a vs.toArray→VRs h R (kvs l) vs→HdrAt C h R i a l
noncomputable def TabInv (h:Heap) (X:List (Addr×(Int×Int×Str))):Prop:=∀x∈X,∃ps,h.get? x.1=some { cls:= .none,data:= .fields ps }∧
 (ps= #[]∨∃c' oc vs t,ps= #[rawInt x.2.1,rawInt x.2.2.1,.ref c']∧h.get? c'=some oc∧oc.cls= .type "code"∧oc.data= .fields vs∧vs[1]? =some (.str x.2.2.2 t))
theorem TabInv.at {h h':Heap} {X} (x:TabInv h X) (k:∀b o,h.get? b=some o→(o.cls= .none∨o.cls= .type "code")→(∃vs,o.data= .fields vs)→h'.get? b=some o):TabInv h' X:=by
 intro y hy
 obtain⟨ps,h1,h2⟩:=x y hy
 refine⟨ps,k _ _ h1 (.inl rfl) ⟨_,rfl⟩,h2.imp id fun q=>?_⟩
 obtain⟨c',oc,vs,t,e1,e2,e3,e4,e5⟩:=q
 exact⟨c',oc,vs,t,e1,k _ _ e2 (.inr e3) ⟨_,e4⟩,e3,e4,e5⟩
noncomputable def Turn (o:Obj):Prop:=(∃vs n,o.data= .seq vs n)∨(o.cls= .none∧∃vs,o.data= .fields vs)
theorem Turn.no {o:Obj} (h1:∀vs n,o.data≠.seq vs n) (h2:∀vs,o.data≠.fields vs):¬Turn o:=fun h=>by
 rcases h with⟨vs,n,e⟩|⟨_,vs,e⟩
 ·exact h1 _ _ e
 ·exact h2 _ e
theorem Turn.no2 {o:Obj} (h1:∀vs n,o.data≠.seq vs n) (h2:o.cls≠.none):¬Turn o:=fun h=>by
 rcases h with⟨vs,n,e⟩|⟨e,_⟩
 ·exact h1 _ _ e
 ·exact h2 e
structure HsR (C:Addr) (h:Heap) (R:RC) (hs:HS):Prop where
 len:R.ρ.length=hs.length
 at_:∀(r:Nat) i a l,R.ρ[r]? =some (i,a)→hs[r]? =some l→HdrAt C h R i a l
 nod:R.bad.Nodup
 own:∀p∈R.O,∃o,h.get? p.2=some o∧∃vs n,o.data= .seq vs n
 tabs:TabInv h R.tk.X
noncomputable def Own (env:Env) (ns:Names) (c:Addr):Prop:=c=env.locals∨∃x,ns.lookup x=some .cell∧env.cells.lookup x=some c
structure SI (C:Addr) (h₀:Heap) (env:Env) (ns:Names) (Γ:Gam) (R:RC) (hs:HS) (s:Shared):Prop where
 base:∀b o,h₀.get? b=some o→s.heap.get? b=some o
 nb:∀b o,h₀.get? b=some o→b∉R.bad
 var:VarR env ns Γ R s.heap
 hdr:HsR C s.heap R hs
 apart:∀p∈R.ρ,∀c,Own env ns c→c≠p.1.1∧c≠p.1.2
 fresh:∀c,Own env ns c→h₀.get? c=none
structure StepR (h:Heap) (R R':RC):Prop where
 tk:R'.tk=R.tk
 own:R'.O=R.O
 more:∃ext,R'.ρ=R.ρ++ext∧∀p∈ext,h.get? p.2=none∧h.get? p.1.1=none∧h.get? p.1.2=none
inductive WF (h0 h:Heap) (R:RC) (l:List V) (val:Value):Prop
 |mk (le:l.length≤sizeLine) (a:Addr) (vs:List Value):val= .ref a→h0.get? a=none→a∉R.bad→h.PlainList a vs.toArray→VRs h (R.with "" a) l vs→WF h0 h R l val
inductive WO (h:Heap) (R:RC) (l:List V) (val:Value):Prop
 |mk (le:l.length≤sizeLine) (x:Str) (a:Addr) (vs:List Value):val= .ref a→(x,a)∈R.O→h.PlainList a vs.toArray→VRs h R l vs→WO h R l val
inductive WI (h0 h:Heap) (R:RC) (l:List V) (val:Value):Prop
 |mk (le:l.length≤sizeLine) (I a:Addr) (vs:List Value):val= .ref I→h0.get? I=none→I∉R.bad→a∉R.bad→h.PlainList a vs.toArray→VRs h R l.reverse vs→
  h.get? I=some { cls:= .type "list_reverseiterator",data:= .fields #[.ref a,.int ((vs.length:Int)-1) 0] }→WI h0 h R l val
noncomputable def WR (h0 h:Heap) (R:RC) (w:W) (val:Value):Prop:=
 match w with
 | .p v=>VR h R v val
 | .f l=>WF h0 h R l val
 | .o l=>WO h R l val
 | .it l=>WI h0 h R l val
inductive RLst (h:Heap) (R:RC) (l:List V) (val:Value):Prop
 |mk (le:l.length≤sizeLine) (a:Addr) (vs:List Value):val= .ref a→a∉R.hl→h.PlainList a vs.toArray→VRs h R l vs→RLst h R l val
noncomputable def RR (h:Heap) (R:RC) (v:V) (val:Value):Prop:=
 match v with
 | .lst l=>RLst h R l val
 |v=>VR h R v val
inductive Go (s s':Shared):Prop
 |mk (h':Heap) (tk:Nat):s'={ s with heap:=h',toks:=tk }→Go s s'
structure Tr (C:Addr) (s:Shared) (R:RC) (s':Shared) (R':RC) (hs':HS):Prop where
 st:StepR s.heap R R'
 go:Go s s'
 kp:Kept R.hl s.heap s'.heap
 hd:HsR C s'.heap R' hs'
inductive PostW (C:Addr) (s:Shared) (R:RC) (w:W) (hs':HS) (val:Value) (s':Shared):Prop
 |mk (R':RC):Tr C s R s' R' hs'→WR s.heap s'.heap R' w val→PostW C s R w hs' val s'
structure PostO (s:Shared) (R:RC) (w:W) (val:Value) (s':Shared):Prop where
 go:Go s s'
 kp:Kept [] s.heap s'.heap
 wr:WR s.heap s'.heap R w val
noncomputable def NoE:Value→Shared→Prop:=fun ux ux=>False
theorem Go.refl (s:Shared):Go s s:=⟨s.heap,s.toks,rfl⟩
theorem Go.trans {s s' s'':Shared} (a:Go s s') (b:Go s' s''):Go s s'':=by
 obtain⟨h,t,rfl⟩:=a;obtain⟨h',t',rfl⟩:=b;exact⟨h',t',rfl⟩
theorem StepR.refl (h R):StepR h R R:=⟨rfl,rfl,[],by simp,by simp⟩
theorem StepR.hl {h R R'} (a:StepR h R R'):∀b∈R'.hl,b∈R.hl∨h.get? b=none:=by
 obtain⟨et,_,ext,e,hx⟩:=a
 intro b hb
 simp only[RC.hl,e,et,map_append,mem_append]at hb ⊢
 rcases hb with(hb|hb)|hb
 ·exact .inl (.inl hb)
 ·obtain⟨p,hp,rfl⟩:=mem_map.mp hb;exact .inr (hx p hp).1
 ·exact .inl (.inr hb)
theorem StepR.sub {h R R'} (a:StepR h R R'):∀b∈R.hl,b∈R'.hl:=by
 obtain⟨et,_,ext,e,hx⟩:=a
 intro b hb
 simp only[RC.hl,e,et,map_append,mem_append]at hb ⊢
 rcases hb with hb|hb
 ·exact .inl (.inl hb)
 ·exact .inr hb
theorem StepR.bad {h R R'} (a:StepR h R R'):∀b o,b∉R.bad→h.get? b=some o→b∉R'.bad:=by
 intro b o nb ho hb
 simp only[RC.bad,mem_append,not_or]at nb hb
 rw[a.2]at hb
 rcases hb with hb|hb
 ·exact nb.1 hb
 ·rcases a.hl b hb with q|q
  ·exact nb.2 q
  ·rw[ho]at q;cases q
theorem StepR.get {h R R'} (a:StepR h R R'):∀(r:Nat) (p:(Addr×Addr)×Addr),R.ρ[r]? =some p→R'.ρ[r]? =some p:=by
 obtain⟨_,_,ext,e,hx⟩:=a
 intro r p q
 have hlt:=(List.getElem?_eq_some_iff.mp q).1
 rw[e,List.getElem?_append_left hlt,q]
theorem StepR.trans {h h' R R' R''} (a:StepR h R R') (b:StepR h' R' R'') (hk:∀x,h'.get? x=none→h.get? x=none):StepR h R R'':=by
 obtain⟨e1,e2,ext,e3,hx⟩:=a
 obtain⟨f1,f2,ext',f3,hx'⟩:=b
 refine⟨f1.trans e1,f2.trans e2,ext++ext',by rw[f3,e3,append_assoc],fun p hp=>?_⟩
 rcases mem_append.mp hp with q|q
 ·exact hx p q
 ·exact⟨hk _ (hx' p q).1,hk _ (hx' p q).2.1,hk _ (hx' p q).2.2⟩
theorem Kept.none {B h h'} (k:Kept B h h') {x:Addr} (hx:x∉B) (e:h'.get? x=none):h.get? x=none:=by
 cases q:h.get? x with
 |none=>rfl
 |some o=>rw[k x o hx q]at e;cases e
theorem hl_bad {R:RC}:∀b∈R.hl,b∈R.bad:=fun b hb=>mem_append_right _ hb
theorem VR.next {h h' R R'} (k:Kept R.hl h h') (a:StepR h R R') {x v} (r:VR h R x v):VR h' R' x v:=
 VR.step (k.mono hl_bad) a.1 a.get a.bad x v r
theorem VRs.next {h h' R R'} (k:Kept R.hl h h') (a:StepR h R R') {x v} (r:VRs h R x v):VRs h' R' x v:=
 VRs.step (k.mono hl_bad) a.1 a.get a.bad x v r
theorem SlotR.next {h h' R R'} (k:Kept R.hl h h') (a:StepR h R R') (nod:R.bad.Nodup) {x sl ov} (r:SlotR h R x sl ov):SlotR h' R' x sl ov:=by
 cases sl with
 |any=>trivial
 |p v=>obtain⟨val,e,q⟩:=r;exact⟨val,e,q.next k a⟩
 |o l=>
  obtain⟨n,b,vs,e,hm,⟨m,ho⟩,q⟩:=r
  have hb:b∉R.hl:=fun hb=>by
   have:=List.nodup_append.mp nod
   exact this.2.2 b (mem_map.mpr ⟨_,hm,rfl⟩) b hb rfl
  exact⟨n,b,vs,e,by rw[a.2];exact hm,⟨m,k b _ hb ho⟩,q.next k a⟩
theorem VarR.next {env ns Γ} {h h':Heap} {R R'} (k:Kept R.hl h h') (a:StepR h R R') (nod:R.bad.Nodup)
 (hl:∀b∈R.hl,∃o,h.get? b=some o∧Turn o) (V:VarR env ns Γ R h):VarR env ns Γ R' h':=by
 have far:∀b o,h.get? b=some o→¬Turn o→h'.get? b=some o:=fun b o ho hn=>k b o (fun hb=>by
  obtain⟨o',ho',e⟩:=hl b hb
  rw[ho]at ho';cases ho';exact hn e) ho
 refine⟨V.kind,V.names,V.glob,V.blt,?_,?_,V.inj⟩
 ·obtain⟨m,⟨o,es,ep,ho,hd,r⟩,hx⟩:=V.loc
  refine⟨m,⟨o,es,ep,far _ o ho (Turn.no (by rw[hd];intros;simp) (by rw[hd];intros;simp)),hd,r⟩,fun x hxl=>?_⟩
  obtain⟨sl,e,q⟩:=hx x hxl
  exact⟨sl,e,q.next k a nod⟩
 ·intro x hx
  obtain⟨c,ov,sl,e1,⟨o,ho,hd⟩,e3,q⟩:=V.cel x hx
  exact⟨c,ov,sl,e1,⟨o,far _ o ho (Turn.no (by rw[hd];intros;simp) (by rw[hd];intros;simp)),hd⟩,e3,q.next k a nod⟩
theorem VarR.has {env ns Γ R} {h:Heap} (V:VarR env ns Γ R h) {c:Addr} (hc:Own env ns c):∃o,h.get? c=some o:=by
 rcases hc with rfl|⟨x,hx,hc⟩
 ·obtain⟨m,⟨o,es,ep,ho,_⟩,_⟩:=V.loc;exact⟨o,ho⟩
 ·obtain⟨c',ov,sl,e1,⟨o,ho,_⟩,_⟩:=V.cel x hx
  rw[hc]at e1;cases e1;exact⟨o,ho⟩
theorem HsR.seqs {C h R hs} (H:HsR C h R hs):∀b∈R.hl,∃o,h.get? b=some o∧Turn o:=by
 intro b hb
 rcases mem_append.mp hb with hb|hb
 ·obtain⟨p,hp,rfl⟩:=mem_map.mp hb
  obtain⟨r,hr⟩:=List.mem_iff_getElem?.mp hp
  have hlt:=(List.getElem?_eq_some_iff.mp hr).1
  have:∃l,hs[r]? =some l:=by rw[H.len]at hlt;exact⟨hs[r],List.getElem?_eq_some_iff.mpr ⟨hlt,rfl⟩⟩
  obtain⟨l,hl⟩:=this
  obtain⟨_,_,vs,⟨n,ho⟩,_⟩:=H.at_ r p.1 p.2 l hr hl
  exact⟨_,ho,.inl ⟨_,n,rfl⟩⟩
 ·obtain⟨x,hx,rfl⟩:=mem_map.mp hb
  obtain⟨ps,h1,_⟩:=H.tabs x hx
  exact⟨_,h1,.inr ⟨rfl,_,rfl⟩⟩
theorem SI.next {C h₀ env ns Γ R hs s R' hs' s'} (S:SI C h₀ env ns Γ R hs s) (k:Kept R.hl s.heap s'.heap) (a:StepR s.heap R R') (H:HsR C s'.heap R' hs'):SI C h₀ env ns Γ R' hs' s' where
 base:=fun b o e=>k b o (fun hb=>S.nb b o e (hl_bad b hb)) (S.base b o e)
 nb:=fun b o e=>a.bad b o (S.nb b o e) (S.base b o e)
 var:=S.var.next k a S.hdr.nod S.hdr.seqs
 hdr:=H
 fresh:=S.fresh
 apart:=fun p hp c hc=>by
  obtain⟨_,_,ext,e,hx⟩:=a
  rw[e]at hp
  rcases mem_append.mp hp with q|q
  ·exact S.apart p q c hc
  ·obtain⟨_,y2,y3⟩:=hx p q
   obtain⟨o,ho⟩:=S.var.has hc
   exact⟨fun e=>(by rw[←e,ho]at y2;cases y2),fun e=>(by rw[←e,ho]at y3;cases y3)⟩
theorem WR.next {h0 h h' R R' w val} (k:Kept R.hl h h') (a:StepR h R R') (nod:R.bad.Nodup) (r:WR h0 h R w val):WR h0 h' R' w val:=by
 cases w with
 |p v=>exact VR.next k a r
 |f l=>
  obtain⟨n,b,vs,e,h1,h2,⟨m,ho⟩,q⟩:=r
  refine⟨n,b,vs,e,h1,a.bad b _ h2 ho,⟨m,k b _ (fun hb=>h2 (hl_bad b hb)) ho⟩,?_⟩
  refine VRs.step (R:=R.with "" b) (R':=R'.with "" b) ?_ a.1 a.get ?_ l vs q
  ·exact k.mono fun x hx=>mem_append_right _ hx
  ·intro x o' hx ho' hx'
   simp only[RC.with,RC.bad,RC.hl,map_cons,cons_append,mem_cons,not_or]at hx hx'
   rcases hx' with q'|q'
   ·exact hx.1 q'
   ·exact a.bad x o' hx.2 ho' q'
 |o l=>
  obtain⟨n,x,b,vs,e,h1,⟨m,ho⟩,q⟩:=r
  have hb:b∉R.hl:=fun hb=>by
   have:=List.nodup_append.mp nod
   exact this.2.2 b (mem_map.mpr ⟨_,h1,rfl⟩) b hb rfl
  exact⟨n,x,b,vs,e,by rw[a.2];exact h1,⟨m,k b _ hb ho⟩,q.next k a⟩
 |it l=>
  obtain⟨n,I,b,vs,e,h1,hn,h2,⟨m,ho⟩,q,hI⟩:=r
  exact⟨n,I,b,vs,e,h1,a.bad I _ hn hI,a.bad b _ h2 ho,⟨m,k b _ (fun hb=>h2 (hl_bad b hb)) ho⟩,q.next k a,k I _ (fun hb=>hn (hl_bad I hb)) hI⟩
theorem Kept.seq {h h' h'' R R'} (k:Kept R.hl h h') (a:StepR h R R') (k':Kept R'.hl h' h''):Kept R.hl h h'':=by
 intro b o hb ho
 refine k' b o (fun q=>?_) (k b o hb ho)
 rcases a.hl b q with q|q
 ·exact hb q
 ·rw[ho]at q;cases q
theorem Tr.trans {C s R s' R' hs' s'' R'' hs''} (a:Tr C s R s' R' hs') (b:Tr C s' R' s'' R'' hs''):Tr C s R s'' R'' hs'' where
 st:=by
  obtain⟨e1,e2,ext,e3,hx⟩:=a.st
  obtain⟨f1,f2,ext',f3,hx'⟩:=b.st
  refine⟨f1.trans e1,f2.trans e2,ext++ext',by rw[f3,e3,append_assoc],fun p hp=>?_⟩
  rcases mem_append.mp hp with q|q
  ·exact hx p q
  ·have nb:∀x,s'.heap.get? x=none→x∉R.hl:=fun x e hb=>by
    obtain⟨o,ho,_⟩:=a.hd.seqs x (a.st.sub _ hb)
    rw[e]at ho;cases ho
   obtain⟨y1,y2,y3⟩:=hx' p q
   exact⟨Kept.none a.kp (nb _ y1) y1,Kept.none a.kp (nb _ y2) y2,Kept.none a.kp (nb _ y3) y3⟩
 go:=a.go.trans b.go
 kp:=a.kp.seq a.st b.kp
 hd:=b.hd
theorem HdrAt.keep {C h h' R i a l} (k:Kept [] h h') (x:HdrAt C h R i a l):HdrAt C h' R i a l:=by
 obtain⟨n,⟨ep,hsh,t,h1,h2,h3,h4⟩,vs,⟨m,ho⟩,hv⟩:=x
 exact⟨n,⟨ep,hsh,t,h1,h2,k _ _ (by simp) h3,k _ _ (by simp) h4⟩,vs,⟨m,k _ _ (by simp) ho⟩,VRs.step (k.mono (by simp)) rfl (fun ux ux e=>e) (fun ux ux e ux=>e) _ _ hv⟩
theorem HsR.keep {C h h' R hs} (k:Kept [] h h') (x:HsR C h R hs):HsR C h' R hs:=
 ⟨x.len,fun r i a l e1 e2=>(x.at_ r i a l e1 e2).keep k,x.nod,fun p hp=>let ⟨o,ho,r⟩:=x.own p hp;⟨o,k _ _ (by simp) ho,r⟩,x.tabs.at fun b o e ux ux=>k b o (by simp) e⟩
theorem Tr.refl {C s R hs} (H:HsR C s.heap R hs):Tr C s R s R hs:=⟨StepR.refl _ _,Go.refl _,Kept.refl _ _,H⟩
theorem Tr.own {C s R hs s'} (H:HsR C s.heap R hs) (g:Go s s') (k:Kept [] s.heap s'.heap):Tr C s R s' R hs:=⟨StepR.refl _ _,g,k.mono (by simp),H.keep k⟩
theorem WR.early {h0 h1 h R w val} (r:WR h1 h R w val) (hn:∀x,x∉R.bad→h1.get? x=none→h0.get? x=none):WR h0 h R w val:=by
 cases w with
 |p v=>exact r
 |f l=>obtain⟨n,b,vs,e,h1',h2,q,q2⟩:=r;exact⟨n,b,vs,e,hn _ h2 h1',h2,q,q2⟩
 |o l=>exact r
 |it l=>obtain⟨n,I,b,vs,e,h1',h2,q,q2,q3,q4⟩:=r;exact⟨n,I,b,vs,e,hn _ h2 h1',h2,q,q2,q3,q4⟩
theorem with_bad {R:RC} {x a b}:b∈(R.with x a).bad↔b=a∨b∈R.bad:=by
 simp[RC.with,RC.bad,RC.hl]
theorem VRs.less {h R x a} {l:List V} {vs} (q:VRs h (R.with x a) l vs):VRs h R l vs:=
 VRs.step (R:=R.with x a) (R':=R) (Kept.refl _ _) rfl (fun ux ux e=>e) (fun b ux nb ux hb=>nb (with_bad.mpr (.inr hb))) _ _ q
theorem VR.rr {h R v val} (r:VR h R v val):RR h R v val:=by
 cases v with
 |lst l=>obtain⟨n,a,vs,e,nb,q,q2⟩:=r;exact⟨n,a,vs,e,fun hb=>nb (hl_bad _ hb),q,q2⟩
 |_=>exact r
theorem own_hl {R:RC} (nod:R.bad.Nodup) {x a} (h:(x,a)∈R.O):a∉R.hl:=fun hb=>(List.nodup_append.mp nod).2.2 a (mem_map.mpr ⟨_,h,rfl⟩) a hb rfl
theorem WR.rd {h0 h R w val v} (nod:R.bad.Nodup) (r:WR h0 h R w val) (e:w.rd=some v):RR h R v val:=by
 cases w with
 |p x=>cases e;exact VR.rr r
 |f l=>cases e;obtain⟨n,b,vs,e,h1',h2,q,z⟩:=r;exact⟨n,b,vs,e,fun hb=>h2 (hl_bad _ hb),q,z.less⟩
 |o l=>cases e;obtain⟨n,x,b,vs,e,h1',q,z⟩:=r;exact⟨n,b,vs,e,own_hl nod h1',q,z⟩
 |it l=>cases e
theorem WR.esc {h0 h R w val v} (r:WR h0 h R w val) (e:w.esc=some v):VR h R v val:=by
 cases w with
 |p x=>cases e;exact r
 |f l=>cases e;obtain⟨n,b,vs,e,h1',h2,q,z⟩:=r;exact⟨n,b,vs,e,h2,q,z.less⟩
 |o l=>cases e
 |it l=>cases e
end Mine
end
section
open PySem PySem.W PyProof.Rows PySem.Calls
namespace Mine
structure AOK (k:Nat) (A:Around):Prop where
 hd:A.handled=none
 dp:A.depth+(k+2)<recursionLimit
 un:A.units+3*(k+1)+200<cLine
structure Base (h₀:Heap) (tk:TK) (R:RC) (s:Shared):Prop where
 base:∀b o,h₀.get? b=some o→s.heap.get? b=some o
 nb:∀b o,h₀.get? b=some o→b∉R.bad
 tk:R.tk=tk
structure Mod where
 prog:Program
 w:World
 C:Addr
 tk:TK
 h₀:Heap
 mg:Str→Option Value
 mb:Str→Option Value
noncomputable def Mod.M (m:Mod):Model:=model m.prog m.w
noncomputable def RRs (h:Heap) (R:RC):List V→List Value→Prop
 |[],vs=>vs=[]
 |x::r,vs=>∃v vr,vs=v::vr∧RR h R x v∧RRs h R r vr
noncomputable def WRs (h0 h:Heap) (R:RC):List W→List Value→Prop
 |[],vs=>vs=[]
 |x::r,vs=>∃v vr,vs=v::vr∧WR h0 h R x v∧WRs h0 h R r vr
section
variable (m:Mod) (k:Nat) (ns:Names) (Γ:Gam) (hs:HS)
noncomputable def Fr {α:Type} (t:Env→Sem α) (Q:Shared→RC→α→Shared→Prop):Prop:=
 ∀A env R s,AOK k A→R.tk=m.tk→SI m.C m.h₀ env ns Γ R hs s→wpAny m.M A (t env) (Q s R) NoE s
noncomputable def EvR (e:Expr) (r:W) (hs':HS):Prop:=Fr m k ns Γ hs (eval e) fun s R=>PostW m.C s R r hs'
inductive PostB (C:Addr) (s:Shared) (R:RC) (b:Bool) (hs':HS) (c:Bool) (s':Shared):Prop
 |mk (e:c=b) (R':RC):Tr C s R s' R' hs'→PostB C s R b hs' c s'
noncomputable def TsR (e:Expr) (b:Bool) (hs':HS):Prop:=Fr m k ns Γ hs (fun env=>isTrue e env (eval e env)) fun s R=>PostB m.C s R b hs'
noncomputable def AllR (op:BoolOp) (es:List Expr) (b:Bool) (hs':HS):Prop:=Fr m k ns Γ hs (allTrue op es) fun s R=>PostB m.C s R b hs'
inductive PostVs (C:Addr) (s:Shared) (R:RC) (vs:List V) (hs':HS) (vals:List Value) (s':Shared):Prop
 |mk (R':RC):Tr C s R s' R' hs'→VRs s'.heap R' vs vals→PostVs C s R vs hs' vals s'
inductive PostWs (C:Addr) (s:Shared) (R:RC) (ws:List W) (hs':HS) (vals:List Value) (s':Shared):Prop
 |mk (R':RC):Tr C s R s' R' hs'→WRs s.heap s'.heap R' ws vals→PostWs C s R ws hs' vals s'
noncomputable def plainL (es:List Expr):Bool:=es.all fun e=> !isSt e
noncomputable def ArR (es:List Expr) (vs:List V) (hs':HS):Prop:=plainL es=true∧∀pos,Fr m k ns Γ hs (fun env=>spliced (backTo pos (starEach es env))) fun s R=>PostVs m.C s R vs hs'
noncomputable def WsR (es:List Expr) (ws:List W) (hs':HS):Prop:=plainL es=true∧∀pos,Fr m k ns Γ hs (fun env=>spliced (backTo pos (starEach es env))) fun s R=>PostWs m.C s R ws hs'
noncomputable def FnOK (f:Value) (args:List V) (r:W) (hs':HS):Prop:=
 ∀A s R vals,AOK k A→Base m.h₀ m.tk R s→HsR m.C s.heap R hs→VRs s.heap R args vals→wpAny m.M A (call f vals) (PostW m.C s R r hs') NoE s
inductive FnR (x:Str) (args:List V) (r:W) (hs':HS):Prop
 |mk (a:Addr) (o:Obj) (fd:FuncData):m.mg x=some (.ref a)→m.h₀.get? a=some o→o.data= .func fd→FnOK m k hs (.ref a) args r hs'→FnR x args r hs'
end
theorem noE {α:Type} {M:Model} {A:Around} {t:Sem α} {Q Q':α→Shared→Prop} {E:Value→Shared→Prop} {s:Shared} (h:wpAny M A t Q NoE s) (hq:∀a s',Q a s'→Q' a s'):wpAny M A t Q' E s:=
 wpAny_mono h hq fun ux ux x=>x.elim
theorem SI.tr {C h₀ env ns Γ R hs s s' R' hs'} (S:SI C h₀ env ns Γ R hs s) (t:Tr C s R s' R' hs'):SI C h₀ env ns Γ R' hs' s':=S.next t.kp t.st t.hd
theorem SI.toBase {C h₀ env ns Γ hs s R tk} (S:SI C h₀ env ns Γ R hs s) (t:R.tk=tk):Base h₀ tk R s:=⟨S.base,S.nb,t⟩
theorem WRs.early {h0 h1 h R} (hn:∀x,x∉R.bad→h1.get? x=none→h0.get? x=none):∀{ws vs},WRs h1 h R ws vs→WRs h0 h R ws vs:=by
 intro v0_
 induction v0_ with
 |nil=>
  intro _ e
  exact e
 |cons _ _ ih_=>
  intro _ q1_
  obtain⟨v,vr,e,h1,h2⟩:=q1_
  exact⟨v,vr,e,h1.early hn,ih_ h2⟩
theorem Tr.fresh {C s R s' R' hs' s'' R'' hs''} (a:Tr C s R s' R' hs') (b:Tr C s' R' s'' R'' hs''):∀x,x∉R''.bad→s'.heap.get? x=none→s.heap.get? x=none:=
 fun x nb e=>Kept.none a.kp (fun hb=>nb (hl_bad _ (b.st.sub _ (a.st.sub _ hb)))) e
inductive RdAll:List W→List V→Prop where
 |nil:RdAll [] []
 |cons {w v ws vs}:w.rd=some v→RdAll ws vs→RdAll (w::ws) (v::vs)
theorem WRs.rd {h0 h R} (nod:R.bad.Nodup) {ws vs} (q:RdAll ws vs):∀{vals},WRs h0 h R ws vals→RRs h R vs vals:=by
 induction q with
 |nil=>exact fun e=>e
 |cons e _ ih=>exact fun⟨v,vr,e2,h1,h2⟩=>⟨v,vr,e2,h1.rd nod e,ih h2⟩
section
variable {m:Mod} {k:Nat} {ns:Names} {Γ:Gam} {hs hs1 hs2 hs3:HS}
theorem plain_cons {e:Expr} {r:List Expr} (h1:isSt e=false) (h2:plainL r=true):plainL (e::r)=true:=by
 unfold plainL at*;rw[List.all_cons,h1,h2];rfl
theorem star_false {e:Expr} (h:isSt e=false) {r env}:starEach (e::r) env=(false,eval e env)::starEach r env:=by
 cases e<;>first|rfl|cases h
theorem ws_nil:WsR m k ns Γ hs [] [] hs:=⟨rfl,fun ux ux ux R ux ux ux S=>args_nil ⟨R,Tr.refl S.hdr,rfl⟩⟩
theorem ws_cons {e r w ws} (h1:EvR m k ns Γ hs e w hs1) (h2:WsR m k ns Γ hs1 r ws hs2) (hst:isSt e=false):WsR m k ns Γ hs (e::r) (w::ws) hs2:=by
 refine⟨plain_cons hst h2.1,fun pos A env R s a t S=>?_⟩
 refine args_cons (noE (h1 A env R s a t S) fun v s1 ⟨R1,t1,r1⟩=>?_) (star_false hst)
 refine noE (h2.2 pos A env R1 s1 a (t1.st.1.trans t) (S.tr t1)) fun vs s2 ⟨R2,t2,r2⟩=>?_
 exact⟨R2,t1.trans t2,v,vs,rfl,r1.next t2.kp t2.st t1.hd.nod,r2.early (t1.fresh t2)⟩
theorem ar_nil:ArR m k ns Γ hs [] [] hs:=⟨rfl,fun ux ux ux R ux ux ux S=>args_nil ⟨R,Tr.refl S.hdr,rfl⟩⟩
theorem ar_cons {e r w v vs} (h1:EvR m k ns Γ hs e w hs1) (h2:ArR m k ns Γ hs1 r vs hs2) (hst:isSt e=false) (he:w.esc=some v):ArR m k ns Γ hs (e::r) (v::vs) hs2:=by
 refine⟨plain_cons hst h2.1,fun pos A env R s a t S=>?_⟩
 refine args_cons (noE (h1 A env R s a t S) fun v s1 ⟨R1,t1,r1⟩=>?_) (star_false hst)
 refine noE (h2.2 pos A env R1 s1 a (t1.st.1.trans t) (S.tr t1)) fun vs s2 ⟨R2,t2,r2⟩=>?_
 exact⟨R2,t1.trans t2,v,vs,rfl,(r1.esc he).next t2.kp t2.st,r2⟩
end
end Mine
end
namespace Mine
section
variable {m:Mod} {k:Nat} {A:Around} {s:Shared} {R:RC} {C:Addr}
theorem PostO.toks {r:W} {v:Value} (n:Nat) (h:WR s.heap s.heap R r v):PostO s R r v { s with toks:=n }:=
 ⟨⟨s.heap,n,rfl⟩,Kept.refl _ _,h⟩
theorem RR.int {h:Heap} {i:Int} {v:Value} (r:RR h R (.int i) v):∃t,v= .int i t:=r
theorem RR.str {h:Heap} {x:Str} {v:Value} (r:RR h R (.str x) v):x.length≤sizeLine∧∃t,v= .str x t:=r
theorem room_le {n:Nat} (h:room n=true):n≤sizeLine:=by
 unfold room at h;rw[decide_eq_true_eq]at h;rw[sizeLine_eq];exact h
theorem size_none (h:Heap):h.get? h.objs.size=none:=by
 cases e:h.get? h.objs.size with
 |none=>rfl
 |some o=>exact absurd (Heap.lt_size e) (Nat.lt_irrefl _)
theorem size_bad {h:Heap} {hs:HS} (H:HsR C h R hs):h.objs.size∉R.bad:=by
 intro hb
 rcases mem_append.mp hb with q|q
 ·obtain⟨p,hp,e⟩:=mem_map.mp q
  obtain⟨o,ho,_⟩:=H.own p hp
  rw[e,size_none]at ho;cases ho
 ·obtain⟨o,ho,_⟩:=H.seqs _ q
  rw[size_none]at ho;cases ho
theorem PostO.new {hs:HS} (H:HsR C s.heap R hs) {l:List V} {vs:List Value} (hl:l.length≤sizeLine) (hv:VRs s.heap R l vs) {tk:Nat} {n:Nat}:
 PostO s R (.f l) (.ref s.heap.objs.size) { s with heap:=s.heap.push { cls:= .type "list",data:= .seq vs.toArray n },toks:=tk }:=by
 refine⟨⟨_,_,rfl⟩,(Kept.refl _ _).push _,hl,_,vs,rfl,size_none _,size_bad H,⟨n,Heap.get?_push_size _ rfl⟩,?_⟩
 refine VRs.step (R:=R) (R':=R.with "" s.heap.objs.size) ((Kept.refl _ _).push _) rfl (fun ux ux e=>e) (fun b o nb ho hb=>?_) _ _ hv
 rcases with_bad.mp hb with q|q
 ·rw[q,size_none]at ho;cases ho
 ·exact nb q
theorem VRs.rep {h:Heap} {l:List V} {vs:List Value} (q:VRs h R l vs) {n:Int}:VRs h R (repl l n) (List.replicate n.toNat vs).flatten:=by
 unfold repl
 generalize n.toNat=m
 induction m with
 |zero=>exact VRs.nil
 |succ m ih=>simp only[replicate_succ,replicate_succ,List.flatten_cons,List.flatten_cons];exact q.app ih
theorem length_repl (l:List V) (n:Int):(repl l n).length=n.toNat*l.length:=by
 unfold repl
 induction n.toNat with
 |zero=>simp
 |succ m ih=>simp only[replicate_succ,List.flatten_cons,length_append,ih,Nat.succ_mul];exact Nat.add_comm l.length (m*l.length)
theorem add_lists_ok {l b:Addr} {vs ws:List Value} {Q:Value→Shared→Prop} {E:Value→Shared→Prop} (hl:s.heap.IsList l vs.toArray) (hb:s.heap.IsList b ws.toArray) (hsz:vs.length+ws.length≤sizeLine)
 (h:Q (.ref s.heap.objs.size) { s with heap:=s.heap.push { cls:= .type "list",data:= .seq (vs++ws).toArray } }):
 wpAny (m.M) A (binaryOp .Add (.ref l) (.ref b)) Q E s:=by
 refine hid fun G_ k_=>?_
 obtain⟨⟨cls,dd,data,sl⟩,ho,hc,n,hd⟩:=id hl
 obtain⟨⟨cls2,dd2,data2,sl2⟩,ho2,hc2,n2,hd2⟩:=id hb
 simp only at hc hd hc2 hd2
 subst hc hd hc2 hd2
 refine k_ ?_
 refine concat_meets ⟨_,ho,rfl⟩ ⟨_,ho2,rfl⟩ noFill_list_add seq_list_add PySem.F.slot_list_add PySem.F.entry_list_add (PySem.F.args_list_add_2 _ _) (list_addW l b vs.toArray ws.toArray n n2 dd dd2 sl sl2 (by simpa using hsz)) ⟨ho,ho2,?_⟩
 rw[show vs.toArray++ws.toArray=(vs++ws).toArray by simp]
 exact h
theorem mul_list_ok {l:Addr} {vs:List Value} {x:Int} {u:Tok} {Q:Value→Shared→Prop} {E:Value→Shared→Prop}
 (hl:s.heap.IsList l vs.toArray) (hlo: -(2^63:Int)≤x) (hhi:x<2^63) (hsz:vs.length*x.toNat≤2^24)
 (h:Q (.ref s.heap.objs.size) { s with heap:=s.heap.push { cls:= .type "list",data:= .seq (List.replicate x.toNat vs).flatten.toArray } }):
 wpAny (m.M) A (binaryOp .Mult (.ref l) (.int x u)) Q E s:=by
 refine hid fun G_ k_=>?_
 obtain⟨⟨cls,d,data,sl⟩,ho,hcl,k,hd⟩:=id hl
 simp only at hcl hd
 subst hcl hd
 have hsz':vs.toArray.size*x.toNat≤2^24:=by simpa using hsz
 refine k_ ?_
 refine wpAny_binaryOp_repeat_ref (T:="list") (U:="int") (by decide) ⟨_,ho,rfl⟩ (fun s'=>typeIs_int s' x u) noFill_list_mul F.fills_int_mul F.slot_int_rmul repeat_list F.slot_int_index.lookup
  (call_meets F.slot_int_rmul (typeIs_int s x u) F.entry_int_rmul (F.args_int_rmul_2 _ _) (lm_int_rmul_list_any x u l vs.toArray k d sl)
   ⟨ho,rfl,⟨_,ho,rfl⟩,call_meets F.slot_list_mul ⟨_,ho,rfl⟩ F.entry_list_mul (F.args_list_mul_2 _ _)
    (lm_list_mul_any l vs.toArray k d sl x u (by simp[Builtin.List.listFitsIndex];exact And.symm ⟨hhi,hlo⟩) (by grind) (by simp[Builtin.List.listTooLong,sizeLine];omega))
    ⟨ho,?_⟩⟩)
 have e:=listMul_foldl_if vs.toArray x.toNat
 rw[e]
 exact h
set_option tactic.hygienic true in
theorem str_mul_ok {x:Str} {n:Int} {t u:Tok} (h:n<2^20∧ -(2^20)<n∧x.length≤3):wpAny (m.M) A (binaryOp .Mult (.str x t) (.int n u)) (PostO s R (.p (.str (Txt.mul x n)))) NoE s:=by
 obtain⟨h1,h2,h3⟩:=h
 have hok:MulOk x n:=by
  refine⟨by simp;lia,fun hn ux hgt=>?_,fun hn ux=>?_⟩
  ·have:(3:Int)≤(2^63-1)/n:=Int.le_ediv_of_mul_le (by lia) (by lia)
   lia
  ·unfold tooLong
   rw[decide_eq_false_iff_not,sizeLine_eq]
   have:x.length*n.toNat≤3*2^20:=Nat.mul_le_mul h3 (by lia)
   lia
 refine SB.mul hok fun t' m=>PostO.toks _ ⟨?_,_,rfl⟩
 unfold Txt.mul
 split
 ·decide
 ·rename_i hn
  split
  ·rw[sizeLine_eq];lia
  ·rename_i hc
   exact fits_reps (hok.2.2 hn (by simpa using hc))
noncomputable def BinR (m:Mod) (op:Operator) (a b:V) (r:W):Prop:=
 ∀k A s R hs va vb,AOK k A→HsR m.C s.heap R hs→RR s.heap R a va→RR s.heap R b vb→wpAny m.M A (binaryOp op va vb) (PostO s R r) NoE s
theorem BinR.ints {op:Operator} {a b:Int} {r:W} (h:∀A s R t u,wpAny m.M A (binaryOp op (.int a t) (.int b u)) (PostO s R r) NoE s):BinR m op (.int a) (.int b) r:=
 fun _ A s R _ _ _ _ _ ⟨t,e⟩ ⟨u,e'⟩=>by rw[e,e'];exact h A s R t u
theorem add_r {a b}:BinR m .Add (.int a) (.int b) (.p (.int (a+b))):= .ints fun ux ux ux ux ux=>add_int (PostO.toks _ ⟨_,rfl⟩)
theorem sub_r {a b}:BinR m .Sub (.int a) (.int b) (.p (.int (a-b))):= .ints fun ux ux ux ux ux=>sub_int (PostO.toks _ ⟨_,rfl⟩)
theorem mul_r {a b} (hm:mulOk a b=true):BinR m .Mult (.int a) (.int b) (.p (.int (a*b))):= .ints fun ux ux ux ux ux=>mul_int (PostO.toks _ ⟨_,rfl⟩) (by unfold IntMulOk;unfold mulOk at hm;intro hc;rw[hc]at hm;cases hm)
theorem div_r {a b} (h1:b≠0) (h2:divisionGoesByPylong a b=false):BinR m .FloorDiv (.int a) (.int b) (.p (.int (a.fdiv b))):= .ints fun ux ux ux ux ux=>floordiv_int h1 (PostO.toks _ ⟨_,rfl⟩) (.inl h2)
theorem mod_r {a b} (h1:b≠0):BinR m .Mod (.int a) (.int b) (.p (.int (a.fmod b))):= .ints fun ux ux ux ux ux=>mod_int' h1 (PostO.toks _ ⟨_,rfl⟩)
theorem shl_r {a n:Int} (h1:0≤n) (h2:(Builtin.Int.intBits a:Int)+n≤2^27):BinR m .LShift (.int a) (.int n) (.p (.int (a*2^n.toNat))):= .ints fun ux ux ux ux ux=>lshift_int h1 h2 (PostO.toks _ ⟨_,rfl⟩)
theorem shr_r {a n:Int} (h1:0≤n):BinR m .RShift (.int a) (.int n) (.p (.int (a.fdiv (2^n.toNat)))):= .ints fun ux ux ux ux ux=>rshift_int h1 (PostO.toks _ ⟨_,rfl⟩)
theorem and_r {a b}:BinR m .BitAnd (.int a) (.int b) (.p (.int (Builtin.bitAnd a b))):= .ints fun ux ux ux ux ux=>and_int (PostO.toks _ ⟨_,rfl⟩)
theorem or_r {a b}:BinR m .BitOr (.int a) (.int b) (.p (.int (Builtin.bitOr a b))):= .ints fun ux ux ux ux ux=>or_int (PostO.toks _ ⟨_,rfl⟩)
theorem adds_r {a b:Str} (hr:room (a.length+b.length)=true):BinR m .Add (.str a) (.str b) (.p (.str (a++b))):=by
 rintro _ A s R _ _ _ _ _ ⟨la,t,rfl⟩ ⟨lb,u,rfl⟩
 have hr:=room_le hr
 exact SBL.add (fun t' n hl=>PostO.toks _ ⟨Nat.le_trans hl.2 hr,_,rfl⟩) hr
theorem muls_r {a:Str} {n:Int} (h:n<2^20∧ -(2^20)<n∧a.length≤3):BinR m .Mult (.str a) (.int n) (.p (.str (Txt.mul a n))):=by
 rintro _ A s R _ _ _ _ _ ⟨la,t,rfl⟩ ⟨u,rfl⟩
 exact str_mul_ok h
theorem addl_r {a b:List V} (hr:room (a.length+b.length)=true):BinR m .Add (.lst a) (.lst b) (.f (a++b)):=by
 rintro _ A s R _ _ _ _ H ⟨la,a1,vs,rfl,_,hl,hv⟩ ⟨lb,b1,us,rfl,_,hl',hv'⟩
 have hr:=room_le hr
 exact add_lists_ok hl.isList hl'.isList (by rw[hv.len,hv'.len];exact hr) (PostO.new H (by simpa using hr) (hv.app hv'))
theorem mull_r {a:List V} {n:Int} (h1:n<2^20) (h2: -(2^20)<n) (h3:a.length≤3):BinR m .Mult (.lst a) (.int n) (.f (repl a n)):=by
 rintro _ A s R _ _ _ _ H ⟨la,a1,vs,rfl,_,hl,hv⟩ ⟨u,rfl⟩
 have hn:n.toNat≤2^20:=by lia
 exact mul_list_ok hl.isList (by lia) (by lia) (by rw[hv.len];exact Nat.le_trans (Nat.mul_le_mul h3 hn) (by decide)) (PostO.new H (by rw[length_repl];refine Nat.le_trans (Nat.mul_le_mul hn h3) (by rw[sizeLine_eq];decide)) hv.rep)
theorem mapO_cons {α β:Type} {f:α→Option β} {a:α} {r:List α} {ds:List β} (e:mapO f (a::r)=some ds):∃b bs,f a=some b∧mapO f r=some bs∧ds=b::bs:=by
 refine hid fun G_ k_=>?_
 obtain⟨b,e1,e2⟩:=Option.bind_eq_some_iff.mp e
 obtain⟨bs,e3,e4⟩:=Option.map_eq_some_iff.mp e2
 refine k_ ?_
 exact⟨b,bs,e1,e3,e4.symm⟩
theorem readsL {g:V→Option PyData} (ih:∀{v:V} {d:PyData} {val:Value},g v=some d→VR h R v val→∃as,Reads h val d as) (l:List V):
 ∀{ds:List PyData} {vs:List Value},mapO g l=some ds→VRs h R l vs→∃as,ReadsAll h vs ds as:=by
 induction l with
 |nil=>intro ds vs e q;cases e;cases q;exact⟨_,.nil⟩
 |cons x r ihr=>
  intro ds vs e q
  refine hid fun G_ k_=>?_
  obtain⟨v,vr,rfl,h1,h2⟩:=q
  obtain⟨b,bs,e3,e4,rfl⟩:=mapO_cons e
  obtain⟨as,ha⟩:=ih e3 h1
  obtain⟨bs',hb⟩:=ihr e4 h2
  refine k_ ?_
  exact⟨_,.cons ha hb⟩
theorem readsS {h:Heap} {g:Option (V→Option PyData)} (ih:∀f,g=some f→∀{v:V} {d:PyData} {val:Value},f v=some d→RR h R v val→∃as,Reads h val d as) {v:V} {d:PyData} {val:Value} (e:toPS g v=some d) (r:RR h R v val):∃as,Reads h val d as:=by
 cases v with
 |none=>cases e;cases r;exact⟨_,.none⟩
 |bool b=>cases e;cases r;exact⟨_,.bool _⟩
 |int i=>cases e;obtain⟨t,rfl⟩:=r;exact⟨_,.int _ _⟩
 |str x=>
  have e:(if PyData.strOk x then some (.str x)else .none)=some d:=e
  obtain⟨_,t,rfl⟩:=r
  by_cases hx:PyData.strOk x=true
  ·rw[if_pos hx]at e;cases e;exact⟨_,.str _ _⟩
  ·rw[if_neg hx]at e;cases e
 |tup l=>
  refine hid fun G_ k_=>?_
  obtain⟨f,e0,e⟩:=Option.bind_eq_some_iff.mp e
  obtain⟨ds,e1,rfl⟩:=Option.map_eq_some_iff.mp e
  obtain⟨_,a,vs,rfl,_,⟨o,ho,hc,m,hd⟩,hv⟩:=r
  obtain⟨as,ha⟩:=readsL (R:=R) (fun e q=>ih f e0 e q.rr) l e1 hv
  refine k_ ?_
  exact⟨_,.tuple ho hc hd ha⟩
 |lst l=>
  refine hid fun G_ k_=>?_
  obtain⟨f,e0,e⟩:=Option.bind_eq_some_iff.mp e
  obtain⟨ds,e1,rfl⟩:=Option.map_eq_some_iff.mp e
  obtain⟨_,a,vs,rfl,_,⟨m,ho⟩,hv⟩:=r
  obtain⟨as,ha⟩:=readsL (R:=R) (fun e q=>ih f e0 e q.rr) l e1 hv
  refine k_ ?_
  exact⟨_,.list ho rfl rfl ha⟩
 |rng a b c=>cases e
 |toks=>cases e
 |hdr r=>cases e
theorem readsV {h:Heap} (n:Nat):∀{v:V} {d:PyData} {val:Value},toP n v=some d→RR h R v val→∃as,Reads h val d as:=by
 induction n with
 |zero=>exact fun e r=>readsS (g:= .none) (fun f q=>by cases q) e r
 |succ n ih=>exact fun e r=>readsS (g:=some (toP n)) (fun f q=>by cases q;exact ih) e r
theorem shapeL {n:Nat} {g:V→Option PyData} (ih:∀{v:V} {d:PyData},g v=some d→d.canLay0=true∧d.depth≤n) (l:List V):
 ∀{ds:List PyData},mapO g l=some ds→PyData.canLayAll0 ds=true∧PyData.depthAll ds≤n:=by
 induction l with
 |nil=>intro ds e;cases e;exact⟨rfl,Nat.zero_le _⟩
 |cons x r ihr=>
  intro ds e
  refine hid fun G_ k_=>?_
  obtain⟨b,bs,e3,e4,rfl⟩:=mapO_cons e
  have h1:=ih e3
  have h2:=ihr e4
  refine k_ ?_
  simp only[PyData.canLayAll0,PyData.depthAll,h1.1,h2.1,Bool.and_self,true_and]
  exact Nat.max_le.mpr ⟨h1.2,h2.2⟩
theorem shapeS {n:Nat} {g:Option (V→Option PyData)} (ih:∀f,g=some f→∃k,n=k+1∧∀{v:V} {d:PyData},f v=some d→d.canLay0=true∧d.depth≤k) {v:V} {d:PyData} (e:toPS g v=some d):d.canLay0=true∧d.depth≤n:=by
 cases v with
 |none=>cases e;exact⟨rfl,Nat.zero_le _⟩
 |bool b=>cases e;exact⟨rfl,Nat.zero_le _⟩
 |int i=>cases e;exact⟨rfl,Nat.zero_le _⟩
 |str x=>
  have e:(if PyData.strOk x then some (.str x)else .none)=some d:=e
  by_cases hx:PyData.strOk x=true
  ·rw[if_pos hx]at e;cases e;exact⟨by trivial,Nat.zero_le _⟩
  ·rw[if_neg hx]at e;cases e
 |tup l=>
  refine hid fun G_ k_=>?_
  obtain⟨f,e0,e⟩:=Option.bind_eq_some_iff.mp e
  obtain⟨ds,e1,rfl⟩:=Option.map_eq_some_iff.mp e
  obtain⟨k,rfl,hf⟩:=ih f e0
  have:=shapeL hf l e1
  refine k_ ?_
  simp only[PyData.canLay0,PyData.depth];exact⟨this.1,by lia⟩
 |lst l=>
  refine hid fun G_ k_=>?_
  obtain⟨f,e0,e⟩:=Option.bind_eq_some_iff.mp e
  obtain⟨ds,e1,rfl⟩:=Option.map_eq_some_iff.mp e
  obtain⟨k,rfl,hf⟩:=ih f e0
  have:=shapeL hf l e1
  refine k_ ?_
  simp only[PyData.canLay0,PyData.depth];exact⟨this.1,by lia⟩
 |rng a b c=>cases e
 |toks=>cases e
 |hdr r=>cases e
theorem shapeV (n:Nat):∀{v:V} {d:PyData},toP n v=some d→d.canLay0=true∧d.depth≤n:=by
 induction n with
 |zero=>exact fun e=>shapeS (g:= .none) (fun f q=>by cases q) e
 |succ n ih=>exact fun e=>shapeS (g:=some (toP n)) (fun f q=>by cases q;exact⟨n,rfl,ih⟩) e
theorem shaped8 {v:V} {d:PyData} (e:toP 8 v=some d):SeqAt.shaped d=true:=by
 have:=shapeV 8 e
 unfold SeqAt.shaped;rw[this.1,Bool.true_and];exact decide_eq_true (Nat.le_trans this.2 (by decide))
noncomputable def BoolGo (s:Shared) (c:Bool) (v:Value) (s':Shared):Prop:=v= .bool c∧Go s s'∧Kept [] s.heap s'.heap
theorem BoolGo.same {s:Shared} {c:Bool}:BoolGo s c (.bool c) s:=⟨rfl,Go.refl _,Kept.refl _ _⟩
noncomputable def CmpR (m:Mod) (op:CmpOp) (a b:V) (c:Bool):Prop:=
 ∀k A s R va vb,AOK k A→Base m.h₀ m.tk R s→RR s.heap R a va→RR s.heap R b vb→wpAny m.M A (compareOp op va vb) (BoolGo s c) NoE s
theorem CmpR.ints {op:CmpOp} {a b:Int} {c:Bool} (h:∀A s t u,wpAny m.M A (compareOp op (.int a t) (.int b u)) (BoolGo s c) NoE s):CmpR m op (.int a) (.int b) c:=
 fun _ A s R _ _ _ _ ⟨t,e⟩ ⟨u,e'⟩=>by rw[e,e'];exact h A s t u
theorem lt_r {a b}:CmpR m .Lt (.int a) (.int b) (decide (a<b)):= .ints fun ux ux ux ux=>lt_int .same
theorem le_r {a b}:CmpR m .LtE (.int a) (.int b) (decide (a≤b)):= .ints fun ux ux ux ux=>le_int .same
theorem gt_r {a b}:CmpR m .Gt (.int a) (.int b) (decide (b<a)):= .ints fun ux ux ux ux=>gt_int .same
theorem ge_r {a b}:CmpR m .GtE (.int a) (.int b) (decide (b≤a)):= .ints fun ux ux ux ux=>ge_int .same
theorem eqs_r {a b:V} {x y:PyData} (ea:toP 8 a=some x) (eb:toP 8 b=some y):CmpR m .Eq a b (PyData.eqv x y)∧CmpR m .NotEq a b (!(PyData.eqv x y)):=by
 have main:∀k A s R va vb,AOK k A→RR s.heap R a va→RR s.heap R b vb→wpAny m.M A (compareOp .Eq va vb) (BoolGo s (PyData.eqv x y)) NoE s∧wpAny m.M A (compareOp .NotEq va vb) (BoolGo s (!(PyData.eqv x y))) NoE s:=by
  intro k A s R va vb hA ra rb
  obtain⟨as,ha⟩:=readsV 8 ea ra
  obtain⟨bs,hb⟩:=readsV 8 eb rb
  have hu:A.units+64<cLine:=by have:=hA.un;lia
  exact⟨eq_dataH ha hb (shaped8 ea) (shaped8 eb) hu .same,ne_dataH ha hb (shaped8 ea) (shaped8 eb) hu .same⟩
 exact⟨fun k A s R va vb hA ux ra rb=>(main k A s R va vb hA ra rb).1,fun k A s R va vb hA ux ra rb=>(main k A s R va vb hA ra rb).2⟩
theorem eq_r {a b:V} {c} (e:V.beq a b=some c):CmpR m .Eq a b c∧CmpR m .NotEq a b (!c):=by
 unfold V.beq at e
 cases ea:toP 8 a with
 |none=>rw[ea]at e;cases e
 |some x=>cases eb:toP 8 b with
  |none=>rw[ea,eb]at e;cases e
  |some y=>rw[ea,eb]at e;cases e;exact eqs_r ea eb
theorem ins_r {a:V} {l:List V} {x:PyData} {ds:List PyData} (ea:toP 8 a=some x) (el:mapO (toP 8) l=some ds) {b:V} (hb:b= .lst l∨b= .tup l):
 CmpR m .In a b (ds.any fun y=>PyData.eqv y x)∧CmpR m .NotIn a b (!(ds.any fun y=>PyData.eqv y x)):=by
 have main:∀k A s R va vb,AOK k A→RR s.heap R a va→RR s.heap R b vb→wpAny m.M A (compareOp .In va vb) (BoolGo s (ds.any fun y=>PyData.eqv y x)) NoE s∧wpAny m.M A (compareOp .NotIn va vb) (BoolGo s (!(ds.any fun y=>PyData.eqv y x))) NoE s:=by
  intro k A s R va vb hA ra rb
  obtain⟨as,ha⟩:=readsV 8 ea ra
  have s1:=shapeV 8 ea
  have s2:=shapeL (fun e=>shapeV 8 e) l el
  have hu:A.units+1+Min.min (PyData.depthAll ds) x.depth<cLine:=by have:=hA.un;have:=Nat.min_le_right (PyData.depthAll ds) x.depth;lia
  rcases hb with rfl|rfl
  ·refine hid fun G_ k_=>?_
   obtain⟨_,b,vs,rfl,_,⟨n,ho⟩,hv⟩:=rb
   obtain⟨bs,hb⟩:=readsL (R:=R) (fun e q=>readsV 8 e q.rr) l el hv
   refine k_ ?_
   exact⟨SeqAt.in_list_reads (.list ho rfl rfl hb) ha s2.1 s1.1 hu .same,SeqAt.notIn_list_reads (.list ho rfl rfl hb) ha s2.1 s1.1 hu .same⟩
  ·refine hid fun G_ k_=>?_
   obtain⟨_,b,vs,rfl,_,⟨o,ho,hc,n,hd⟩,hv⟩:=rb
   obtain⟨bs,hb⟩:=readsL (R:=R) (fun e q=>readsV 8 e q.rr) l el hv
   refine k_ ?_
   exact⟨SeqAt.in_tuple_reads (.tuple ho hc hd hb) ha s2.1 s1.1 hu .same,SeqAt.notIn_tuple_reads (.tuple ho hc hd hb) ha s2.1 s1.1 hu .same⟩
 exact⟨fun k A s R va vb hA ux ra rb=>(main k A s R va vb hA ra rb).1,fun k A s R va vb hA ux ra rb=>(main k A s R va vb hA ra rb).2⟩
theorem in_r {a:V} {l:List V} {c} (e:inL a l=some c) {b:V} (hb:b= .lst l∨b= .tup l):CmpR m .In a b c∧CmpR m .NotIn a b (!c):=by
 unfold inL at e
 cases ea:toP 8 a with
 |none=>rw[ea]at e;cases e
 |some x=>cases eb:mapO (toP 8) l with
  |none=>rw[ea,eb]at e;cases e
  |some y=>rw[ea,eb]at e;cases e;exact ins_r ea eb hb
theorem is_bb {a b:Bool}:CmpR m .Is (.bool a) (.bool b) (a==b)∧CmpR m .IsNot (.bool a) (.bool b) (!(a==b)):=by
 have he:((Value.bool a==Value.bool b):Bool)=(a==b):=by cases a<;>cases b<;>rfl
 exact⟨fun ux ux ux ux ux ux ux ux ra rb=>by cases ra;cases rb;exact wpAny_is_plain rfl (by rw[he];exact .same),fun ux ux ux ux ux ux ux ux ra rb=>by cases ra;cases rb;exact wpAny_isNot_plain rfl (by rw[he];exact .same)⟩
theorem is_nn:CmpR m .Is .none .none true∧CmpR m .IsNot .none .none false:=
 ⟨fun ux ux ux ux ux ux ux ux ra rb=>by cases ra;cases rb;exact wpAny_is_plain rfl .same,fun ux ux ux ux ux ux ux ux ra rb=>by cases ra;cases rb;exact wpAny_isNot_plain rfl .same⟩
noncomputable def TokOK (m:Mod) (tok:Str→Option Int):Prop:=
 ∀(A:Around) (s:Shared) (x:Str) (t:Tok),(∀b o,m.h₀.get? b=some o→s.heap.get? b=some o)→
  (∀i,tok x=some i→wpAny m.M A (getItem (.ref m.tk.a) (.str x t)) (fun v s'=>(∃u,v= .int i u)∧Go s s'∧Kept [] s.heap s'.heap) NoE s)∧
  wpAny m.M A (compareOp .In (.str x t) (.ref m.tk.a)) (BoolGo s (tok x).isSome) NoE s
theorem in_tok {tok} (TO:TokOK m tok) {x:Str}:CmpR m .In (.str x) .toks (tok x).isSome:=by
 rintro k A s R va vb _ B ⟨_,t,rfl⟩ rb
 cases rb
 rw[B.tk]
 exact(TO A s x t B.base).2
end
section
variable {m:Mod} {k:Nat} {A:Around} {s:Shared} {R:RC} {C:Addr} {hs:HS}
set_option tactic.hygienic true in
theorem subscripted_any (slice:Expr) (o i:Value):∃ops,subscripted slice false o i=operate ops (getItem o i):=by
 cases slice with
 |Slice a b c p=>cases c<;>exact⟨_,rfl⟩
 |_=>exact⟨_,rfl⟩
theorem tail_go {value slice:Expr} {o i:Value} {T id:String} {Q E:Value→Shared→Prop} (hT:s.TypeIs o T)
 (hl:typeLookup (.type T) "__getitem__"=pure (some (.builtin id))) (hg:wpAny (m.M) A (getItem o i) Q E s):wpAny (m.M) A (subscriptTail value slice o i) Q E s:=by
 obtain⟨ops,h⟩:=subscripted_any slice o i
 exact tail_any hT hl hg h
theorem VRs.lt {h:Heap} {l:List V} {vs:List Value} (q:VRs h R l vs) {i:Nat} {x:V} (e:l[i]? =some x):i<vs.length:=by
 rw[q.len];exact(List.getElem?_eq_some_iff.mp e).1
noncomputable def SubR (m:Mod) (v i r:V):Prop:=
 ∀(A:Around) s R value slice vo vi,Base m.h₀ m.tk R s→RR s.heap R v vo→RR s.heap R i vi→wpAny m.M A (subscriptTail value slice vo vi) (PostO s R (.p r)) NoE s
theorem sub_l {l:List V} {i:Int} {r:V} (h0:0≤i) (e:l[i.toNat]? =some r):SubR m (.lst l) (.int i) r:=by
 rintro A s R _ _ _ _ _ ⟨n,a,vs,rfl,_,hl,hv⟩ ⟨t,rfl⟩
 rw[sizeLine_eq]at n
 obtain⟨x,hx,hr⟩:=hv.get e
 have:=hv.lt e
 rw[hv.len]at this
 exact tail_go hl.isList.typeIs slot_list_getitem.lookup (wpAny_getItem_list hl.isList h0 (by lia) (by simpa using hx) ⟨Go.refl _,Kept.refl _ _,hr⟩)
theorem sub_neg {l:List V} {i:Int} {r:V} (h0:i<0) (h1: -(l.length:Int)≤i) (e:l[(i+l.length).toNat]? =some r):SubR m (.lst l) (.int i) r:=by
 rintro A s R _ _ _ _ _ ⟨n,a,vs,rfl,_,hl,hv⟩ ⟨t,rfl⟩
 rw[sizeLine_eq]at n
 obtain⟨x,hx,hr⟩:=hv.get e
 have hlen:=hv.len
 exact tail_go hl.isList.typeIs slot_list_getitem.lookup (wpAny_getItem_list_neg hl.isList (Int.lt_of_add_one_le h0) (by simp only[size_toArray];exact le_of_eq_of_le (congrArg Neg.neg (congrArg Nat.cast hlen)) h1) (by lia) (by simp only[size_toArray,hlen];simpa using hx) ⟨Go.refl _,Kept.refl _ _,hr⟩)
theorem sub_s {x:Str} {i:Int} (h1:fitsSsize i=true) (h2:(Txt.charAt x i).isSome=true):SubR m (.str x) (.int i) (.str (Txt.item x i)):=by
 rintro A s R _ _ _ _ _ ⟨n,t,rfl⟩ ⟨u,rfl⟩
 exact tail_go (typeIs_str _ _ _) F.slot_str_getitem.lookup (SB.getItem h1 h2 (PostO.toks _ ⟨by show 1≤sizeLine;decide,_,rfl⟩))
theorem sub_tok {tok} (TO:TokOK m tok) (hd:∃o,m.h₀.get? m.tk.a=some o∧o.cls= .type "dict") {x:Str} {i:Int} (e:tok x=some i):SubR m .toks (.str x) (.int i):=by
 rintro A s R _ _ _ _ B ro ⟨_,t,rfl⟩
 cases ro
 rw[B.tk]
 obtain⟨o,ho,hc⟩:=hd
 exact tail_go (T:="dict") ⟨o,B.base _ _ ho,hc⟩ slot_dict_getitem.lookup (noE ((TO A s x t B.base).1 i e) fun v s' ⟨⟨u,hu⟩,g,kk⟩=>⟨g,kk,u,hu⟩)
theorem PostO.after {s s' s'':Shared} {r:W} {v:Value} (g:Go s s') (kp:Kept [] s.heap s'.heap) (p:PostO s' R r v s''):PostO s R r v s'':=
 ⟨g.trans p.go,kp.trans p.kp,p.wr.early fun ux ux e=>Kept.none kp (by simp) e⟩
theorem VRs.keep {h h':Heap} (kp:Kept [] h h') {l:List V} {vs:List Value} (q:VRs h R l vs):VRs h' R l vs:=
 VRs.step (kp.mono (by simp)) rfl (fun ux ux e=>e) (fun ux ux nb ux=>nb) _ _ q
theorem VR.keep {h h':Heap} (kp:Kept [] h h') {l:V} {vs:Value} (q:VR h R l vs):VR h' R l vs:=
 VR.step (kp.mono (by simp)) rfl (fun ux ux e=>e) (fun ux ux nb ux=>nb) _ _ q
theorem VRs.drop {h:Heap}:∀{l:List V} {vs:List Value} (n:Nat),VRs h R l vs→VRs h R (l.drop n) (vs.drop n):=by
 intro l
 induction l with
 |nil=>intro vs n q;have q:=VRs.nil_eq q;subst q;rw[List.drop_nil,List.drop_nil];rfl
 |cons x r ih=>
  intro vs n w
  cases n with
  |zero=>exact w
  |succ n=>obtain⟨v,vr,e,ux,h2⟩:=w;subst e;exact ih n h2
theorem VRs.take {h:Heap}:∀{l:List V} {vs:List Value} (n:Nat),VRs h R l vs→VRs h R (l.take n) (vs.take n):=by
 intro l
 induction l with
 |nil=>intro vs n q;have q:=VRs.nil_eq q;subst q;rw[List.take_nil,List.take_nil];rfl
 |cons x r ih=>
  intro vs n w
  cases n with
  |zero=>rfl
  |succ n=>obtain⟨v,vr,e,h1,h2⟩:=w;subst e;exact⟨v,vr.take n,rfl,h1,ih n h2⟩
theorem intsAre {h:Heap}:∀{ns:List Int} {vs:List Value},VRs h R (ns.map V.int) vs→IntsAre vs ns:=by
 intro v0_
 induction v0_ with
 |nil=>
  intro vs q
  have q:=VRs.nil_eq q;subst q;exact .nil
 |cons i r ih_=>
  intro vs q1_
  obtain⟨v,vr,e2,⟨t,ht⟩,h2⟩:=q1_
  subst e2 ht;exact .cons i t (ih_ h2)
theorem strsAre {h:Heap}:∀{ns:List Str} {vs:List Value},VRs h R (ns.map V.str) vs→StrsAre vs ns:=by
 intro v0_
 induction v0_ with
 |nil=>
  intro vs q
  have q:=VRs.nil_eq q;subst q;exact .nil
 |cons i r ih_=>
  intro vs q1_
  obtain⟨v,vr,e2,⟨_,t,ht⟩,h2⟩:=q1_
  subst e2 ht;exact .cons i t (ih_ h2)
noncomputable def partO (o:Option Int) (v:Value):Prop:=match o with
 | .none=>v= .none
 |some i=>∃t,v= .int i t
theorem partO.is {o:Option Int} {v:Value} (h:partO o v):IsPart v o:=by
 cases o with
 |none=>cases h;exact .none
 |some i=>obtain⟨t,rfl⟩:=h;exact .int i t
theorem partO.of {o:Option Int} {v:Value} (h:partO o v):∃l:Option (Int×Tok),partValue l=v∧l.map (·.1)=o:=by
 cases o with
 |none=>cases h;exact⟨none,rfl,rfl⟩
 |some i=>obtain⟨t,rfl⟩:=h;exact⟨some (i,t),rfl,rfl⟩
noncomputable def SlR (m:Mod) (v:V) (a b:Option Int) (r:W):Prop:=
 ∀(A:Around) s R hs value slice vo va vb,HsR m.C s.heap R hs→RR s.heap R v vo→partO a va→partO b vb→wpAny m.M A (subscriptTail value slice vo (.ref s.heap.objs.size)) (PostO s R r) NoE
  { s with heap:=s.heap.push { cls:= .type "slice",data:= .fields #[va,vb,.none] } }
theorem sl_s {x:Str} {a b:Option Int}:SlR m (.str x) a b (.p (.str (Txt.slice x a b))):=by
 rintro A s R hs _ _ _ va vb H ⟨n,t,rfl⟩ pa pb
 obtain⟨l,rfl,rfl⟩:=pa.of
 obtain⟨u,rfl,rfl⟩:=pb.of
 refine tail_go (typeIs_str _ _ _) F.slot_str_getitem.lookup ?_
 refine wpAny_getItem_str_slice (l:=l) (u:=u) (st:=none) ⟨_,Heap.get?_push_size _ rfl,rfl,rfl⟩ rfl ?_
 exact post_val_or_str ⟨Nat.le_trans (Txt.slice_le x _ _) n,fun t' n'=>⟨⟨_,_,rfl⟩,(Kept.refl _ _).push _,Nat.le_trans (Txt.slice_le x _ _) n,_,rfl⟩⟩
theorem sl_l {l:List V} {a b:Option Int}:SlR m (.lst l) a b (.f (sliceL l a b)):=by
 rintro A s R hs _ _ _ va vb H ⟨n,ad,vs,rfl,_,hl,hv⟩ pa pb
 have kp:Kept [] s.heap (s.heap.push { cls:= .type "slice",data:= .fields #[va,vb,.none] }):=(Kept.refl _ _).push _
 refine tail_go (T:="list") (hl.isList.push _).typeIs slot_list_getitem.lookup ?_
 refine wpAny_getItem_list_slice (s:={ s with heap:=s.heap.push { cls:= .type "slice",data:= .fields #[va,vb,.none] } }) (hl.isList.push _) (Heap.IsSliceOf.new ..) pa.is pb.is .none (by simp) ?_ (by simp only[size_toArray,hv.len];exact n)
 rw[slicePick_plain]
 simp only[size_toArray,hv.len]
 exact PostO.after ⟨_,_,rfl⟩ kp (PostO.new (s:={ s with heap:=s.heap.push { cls:= .type "slice",data:= .fields #[va,vb,.none] } }) (H.keep kp) (Nat.le_trans (List.length_take_le' _ _) (Nat.le_trans (by rw[List.length_drop];exact Nat.sub_le _ _) n)) (((hv.keep kp).drop _).take _))
theorem int_post {i:Int} {t n:Nat} {h':Heap} (kp:Kept [] s.heap h'):PostO s R (.p (.int i)) (.int i t) { s with heap:=h',toks:=n }:=⟨⟨_,_,rfl⟩,kp,_,rfl⟩
theorem maxI_of {ns:List Int} {M m:Int} (e:maxI ns=some m) (h1:M∈ns) (h2:∀a,a∈ns→a≤M):M=m:=by
 cases ns with
 |nil=>cases e
 |cons a r=>
  simp only[maxI,Option.some.injEq]at e
  subst e
  have key:∀(r:List Int) (a:Int),(∀x∈r,x≤r.foldl (fun m x=>if x>m then x else m) a)∧a≤r.foldl (fun m x=>if x>m then x else m) a∧(r.foldl (fun m x=>if x>m then x else m) a=a∨r.foldl (fun m x=>if x>m then x else m) a∈r):=by
   intro r
   induction r with
   |nil=>intro a;simp
   |cons y r ih=>
    intro a
    simp only[foldl_cons]
    obtain⟨i1,i2,i3⟩:=ih (if y>a then y else a)
    refine⟨fun x hx=>?_,?_,?_⟩
    ·rcases mem_cons.mp hx with rfl|hx
     ·refine Int.le_trans ?_ i2;split<;>lia
     ·exact i1 x hx
    ·refine Int.le_trans ?_ i2;split<;>lia
    ·rcases i3 with i3|i3
     ·rw[i3];split
      ·exact .inr (.head _)
      ·exact .inl rfl
     ·exact .inr (.tail _ i3)
  obtain⟨k1,k2,k3⟩:=key r a
  apply Int.le_antisymm
  ·rcases mem_cons.mp h1 with rfl|h
   ·exact k2
   ·exact k1 _ h
  ·refine h2 _ ?_
   rcases k3 with k3|k3
   ·rw[k3];exact .head _
   ·exact .tail _ k3
theorem minI_of {ns:List Int} {M m:Int} (e:minI ns=some m) (h1:M∈ns) (h2:∀a,a∈ns→M≤a):M=m:=by
 cases ns with
 |nil=>cases e
 |cons a r=>
  simp only[minI,Option.some.injEq]at e
  subst e
  have key:∀(r:List Int) (a:Int),(∀x∈r,r.foldl (fun m x=>if x<m then x else m) a≤x)∧r.foldl (fun m x=>if x<m then x else m) a≤a∧(r.foldl (fun m x=>if x<m then x else m) a=a∨r.foldl (fun m x=>if x<m then x else m) a∈r):=by
   intro r
   induction r with
   |nil=>intro a;simp
   |cons y r ih=>
    intro a
    simp only[foldl_cons]
    obtain⟨i1,i2,i3⟩:=ih (if y<a then y else a)
    refine⟨fun x hx=>?_,?_,?_⟩
    ·rcases mem_cons.mp hx with rfl|hx
     ·refine Int.le_trans i2 ?_;split<;>lia
     ·exact i1 x hx
    ·refine Int.le_trans i2 ?_;split<;>lia
    ·rcases i3 with i3|i3
     ·rw[i3];split
      ·exact .inr (.head _)
      ·exact .inl rfl
     ·exact .inr (.tail _ i3)
  obtain⟨k1,k2,k3⟩:=key r a
  apply Int.le_antisymm
  ·refine h2 _ ?_
   rcases k3 with k3|k3
   ·rw[k3];exact .head _
   ·exact .tail _ k3
  ·rcases mem_cons.mp h1 with rfl|h
   ·exact k2
   ·exact k1 _ h
theorem ints_items {l:List Int} {vs:List Value} {h:Heap} {a:Addr} (hl:h.IsList a vs.toArray) (hv:VRs h R (l.map V.int) vs):∃xs:Array (Int×Tok),h.IsList a (intItems xs)∧l=xs.toList.map (·.1):=by
 have hi:=intsAre hv
 obtain⟨xs,e⟩:=hi.allInts.items
 exact⟨xs,e▸hl,by rw[←hi.numsOf,←nums_intItems,←e]⟩
theorem max_ok {ns:List Int} {x:Int} {a:Addr} {vs:List Value} (hA:AOK k A) (e2:maxI ns=some x) (hl:s.heap.IsList a vs.toArray) (hv:VRs s.heap R (ns.map V.int) vs):
 wpAny m.M A (call (.builtin "max") [.ref a]) (PostO s R (.p (.int x))) NoE s:=by
 obtain⟨xs,hl,hns⟩:=ints_items hl hv
 have hsz:0<xs.size:=by
  have h3:0<ns.length:=by cases ns with|nil=>cases e2|cons=>simp
  rw[hns,length_map,Array.length_toList]at h3;exact h3
 refine max_intList hA.hd hl hsz fun v h' tk hv hk=>?_
 obtain⟨t,rfl⟩:=intItems_at hv
 obtain⟨h1,h2⟩:=argBest_gt (numAt xs) (xs.size-1)
 rw[maxI_of e2 (M:=numAt xs (argBest (fun i j=>decide (numAt xs i>numAt xs j)) (xs.size-1))) ?_ fun a ha=>?_]
 ·exact int_post (Kept.all hk)
 ·rw[hns,numAt_eq];exact getD_mem (by simp only[length_map,Array.length_toList];exact Nat.lt_of_le_pred hsz h1)
 ·rw[hns]at ha
  obtain⟨j,hj,rfl⟩:=mem_getD ha
  rw[length_map,Array.length_toList]at hj
  rw[←numAt_eq];exact h2 j ((Nat.le_sub_one_iff_lt hsz).mpr hj)
theorem min_ok {ns:List Int} {x:Int} {a:Addr} {vs:List Value} (hA:AOK k A) (e2:minI ns=some x) (hl:s.heap.IsList a vs.toArray) (hv:VRs s.heap R (ns.map V.int) vs):
 wpAny m.M A (call (.builtin "min") [.ref a]) (PostO s R (.p (.int x))) NoE s:=by
 obtain⟨xs,hl,hns⟩:=ints_items hl hv
 have hsz:0<xs.size:=by
  have h3:0<ns.length:=by cases ns with|nil=>cases e2|cons=>simp
  rw[hns,length_map,Array.length_toList]at h3;exact h3
 refine min_intList hA.hd hl hsz fun v h' tk hv hk=>?_
 obtain⟨t,rfl⟩:=intItems_at hv
 obtain⟨h1,h2⟩:=argBest_lt (numAt xs) (xs.size-1)
 rw[minI_of e2 (M:=numAt xs (argBest (fun i j=>decide (numAt xs i<numAt xs j)) (xs.size-1))) ?_ fun a ha=>?_]
 ·exact int_post (Kept.all hk)
 ·rw[hns,numAt_eq];exact getD_mem (by simp only[length_map,Array.length_toList];exact Nat.lt_of_le_pred hsz h1)
 ·rw[hns]at ha
  obtain⟨j,hj,rfl⟩:=mem_getD ha
  rw[length_map,Array.length_toList]at hj
  rw[←numAt_eq];exact h2 j ((Nat.le_sub_one_iff_lt hsz).mpr hj)
theorem sum_ok {ns:List Int} {a:Addr} {vs:List Value} (hA:AOK k A) (hl:s.heap.IsList a vs.toArray) (hv:VRs s.heap R (ns.map V.int) vs):
 wpAny m.M A (call (.builtin "sum") [.ref a]) (PostO s R (.p (.int ns.sum))) NoE s:=by
 obtain⟨xs,hl,hns⟩:=ints_items hl hv
 refine sum_intListG hA.hd hl fun h' tk t' hk=>?_
 rw[preSum_eq,List.take_of_length_le (by simp),←hns]
 exact int_post (Kept.all hk)
theorem small_of {i:Int} (h:small i=true): -(2^62)<i∧i<2^62:=by unfold small at h;simpa using h
theorem small_neg {a b:Int} (ha: -(2^62)≤a) (ha':a<2^62) (hb: -(2^62)≤b) (hb':b<2^62):Builtin.Range.small a b (-1)=true:=by
 unfold Builtin.Range.small
 have e:Builtin.Range.rangeSize a b (-1)=if b<a then a-b else 0:=by
  unfold Builtin.Range.rangeSize
  simp only[show¬(-1:Int)>0 by decide,if_false,Int.neg_neg,Int.ediv_one]
  split<;>simp
 rw[e]
 simp only[Builtin.Range.rangeFitsLong,Bool.and_eq_true,Bool.or_eq_true,decide_eq_true_eq,beq_iff_eq,show¬(-1:Int)>0 by decide,if_false]
 split<;>grind
theorem range_post {hs:HS} (H:HsR C s.heap R hs) {a b st:Int} {t u v:Tok} {n:Nat} (hsm:Builtin.Range.small a b st=true):
 PostO s R (.p (.rng a b st)) (.ref s.heap.objs.size) { s with heap:=s.heap.push { cls:= .type "range",data:= .fields #[.int a t,.int b u,.int st v] },toks:=n }:=
 ⟨⟨_,_,rfl⟩,(Kept.refl _ _).push _,_,_,_,_,rfl,size_bad H,IsRange.new ..,hsm⟩
noncomputable def BiR (m:Mod) (f:Str) (vs:List V) (r:W):Prop:=
 ∃fv,m.mg f=none∧m.mb f=some fv∧((∃id,fv= .builtin id)∨∃T,fv= .type T)∧∀k A s R hs vals,AOK k A→HsR m.C s.heap R hs→RRs s.heap R vs vals→wpAny m.M A (call fv vals) (PostO s R r) NoE s
noncomputable def BName (m:Mod) (f:Str) (fv:Value):Prop:=m.mg f=none∧m.mb f=some fv
section
variable {f:Str}
theorem BiR.f1 {id:String} (n:BName m f (.builtin id)) {v:V} {r:W} (h:∀k A s R hs val,AOK k A→HsR m.C s.heap R hs→RR s.heap R v val→wpAny m.M A (call (.builtin id) [val]) (PostO s R r) NoE s):BiR m f [v] r:=
 ⟨_,n.1,n.2,.inl ⟨_,rfl⟩,fun k A s R hs vals hA H ⟨v,vr,e,h1,e2⟩=>by rw[e,e2];exact h k A s R hs v hA H h1⟩
theorem len_l (n:BName m f (.builtin "len")) {l:List V}:BiR m f [.lst l] (.p (.int l.length)):= .f1 n fun k A s R hs val _ _ ⟨n,a,vs,e,_,hl,hv⟩=>by
 rw[e]
 rw[sizeLine_eq]at n
 have hn:=hv.len
 refine len_list hl.isList (by simp only[size_toArray];lia) ?_
 simp only[size_toArray,hn]
 exact int_post (Kept.refl _ _)
theorem len_s (n:BName m f (.builtin "len")) {x:Str}:BiR m f [.str x] (.p (.int x.length)):= .f1 n fun k A s R hs val _ _ ⟨n,t,e⟩=>by
 rw[e]
 rw[sizeLine_eq]at n
 exact len_str (by lia) (int_post (Kept.refl _ _))
theorem max_r (n:BName m f (.builtin "max")) {l:List Int} {x} (e:maxI l=some x):BiR m f [.lst (l.map V.int)] (.p (.int x)):= .f1 n fun k A s R hs val hA _ ⟨_,a,vs,e2,_,hl,hv⟩=>by
 rw[e2];exact max_ok hA e hl.isList hv
theorem min_r (n:BName m f (.builtin "min")) {l:List Int} {x} (e:minI l=some x):BiR m f [.lst (l.map V.int)] (.p (.int x)):= .f1 n fun k A s R hs val hA _ ⟨_,a,vs,e2,_,hl,hv⟩=>by
 rw[e2];exact min_ok hA e hl.isList hv
theorem sum_r (n:BName m f (.builtin "sum")) {l:List Int}:BiR m f [.lst (l.map V.int)] (.p (.int l.sum)):= .f1 n fun k A s R hs val hA _ ⟨_,a,vs,e2,_,hl,hv⟩=>by
 rw[e2];exact sum_ok hA hl.isList hv
theorem range1 (n:BName m f (.type "range")) {b:Int} (h1:small b=true):BiR m f [.int b] (.p (.rng 0 b 1)):=by
 refine⟨_,n.1,n.2,.inr ⟨_,rfl⟩,?_⟩
 rintro k A s R hs _ _ H ⟨v,vr,rfl,⟨t,rfl⟩,rfl⟩
 have h1:=small_of h1
 exact call_range_1 (range_post H (small_one (by decide) (by decide) (by lia) (by lia)))
theorem range3 (n:BName m f (.type "range")) {a b:Int} (h1:small a=true) (h2:small b=true):BiR m f [.int a,.int b,.int (-1)] (.p (.rng a b (-1))):=by
 refine⟨_,n.1,n.2,.inr ⟨_,rfl⟩,?_⟩
 rintro k A s R hs _ _ H ⟨v,vr,rfl,⟨t,rfl⟩,v2,vr2,rfl,⟨t2,rfl⟩,v3,vr3,rfl,⟨t3,rfl⟩,rfl⟩
 have h1:=small_of h1
 have h2:=small_of h2
 exact call_range_3 (by decide) (range_post H (small_neg (by lia) (by lia) (by lia) (by lia))) (.inl rfl)
theorem divmod_r (n:BName m f (.builtin "divmod")) {a b:Int} (h1:b≠0) (h2:divisionGoesByPylong a b=false):BiR m f [.int a,.int b] (.p (.tup [.int (a.fdiv b),.int (a.fmod b)])):=by
 refine⟨_,n.1,n.2,.inl ⟨_,rfl⟩,?_⟩
 rintro k A s R hs _ _ H ⟨v,vr,rfl,⟨t,rfl⟩,v2,vr2,rfl,⟨t2,rfl⟩,rfl⟩
 exact divmod_int h1 ⟨⟨_,_,rfl⟩,(Kept.refl _ _).push _,by simp[sizeLine_eq],_,[_,_],rfl,size_bad H,⟨_,Heap.get?_push_size _ rfl,rfl,_,rfl⟩,_,_,rfl,⟨_,rfl⟩,_,_,rfl,⟨_,rfl⟩,rfl⟩ (.inl h2)
end
theorem reversed_ok {l:List V} {vals:List Value} {hs:HS} (H:HsR C s.heap R hs) (ra:VRs s.heap R [.lst l] vals):wpAny (m.M) A (call (.type "reversed") vals) (PostO s R (.it l.reverse)) NoE s:=by
 obtain⟨v,vr,rfl,⟨n,a,vs,rfl,na,hl,hv⟩,rfl⟩:=ra
 refine call_reversed_list hl.isList ⟨⟨_,_,rfl⟩,(Kept.refl _ _).push _,by simpa using n,_,a,vs,rfl,size_none _,size_bad H,na,hl.at fun o e=>Heap.get?_push_of_some _ e,?_,?_⟩
 ·rw[List.reverse_reverse];exact hv.keep ((Kept.refl _ _).push _)
 ·simp only[size_toArray];exact Heap.get?_push_size _ rfl
end
section
variable {m:Mod} {k:Nat} {A:Around} {s:Shared} {R:RC} {C:Addr} {h₀:Heap} {hs hs1 hs2 hs3:HS} {E:Value→Shared→Prop}
theorem plain_all {es:List Expr} (h:plainL es=true):∀e∈es,isSt e=false:=fun e he=>by
 have:=all_eq_true.mp h e he
 simpa using this
theorem starEach_ok {env:Env}:∀{es:List Expr},plainL es=true→starEach es env=es.map fun e=>(false,eval e env):=by
 intro v0_
 induction v0_ with
 |nil=>
  intro _
  exact rfl
 |cons e r ih_=>
  intro h
  unfold plainL at h
  rw[List.all_cons,Bool.and_eq_true]at h
  rw[star_false (by simpa using h.1),ih_ h.2,map_cons]
theorem plain_back {env:Env} {es:List Expr} (h:plainL es=true) (pos:Pos):(backTo pos (starEach es env)).any (·.1)=false:=by
 rw[starEach_ok h]
 unfold backTo
 refine Iff.mpr (List.any_eq_false) ?_
 intro x hx
 simp only[map_map,mem_map]at hx
 obtain⟨e,_,rfl⟩:=hx
 simp
theorem evalArgs_nil {f:Value} {Q:Args→Shared→Prop} {M:Model} (h:wpAny M A (spliced []) (fun vs s'=>Q ⟨vs,[]⟩ s') E s):wpAny M A (evalArgs f true [] []) Q E s:=by
 unfold evalArgs
 show wpAny M A (spliced []>>=_) Q E s
 refine wpAny_bind (wpAny_mono h (fun vs s' h'=>?_) fun ux ux x=>x)
 refine wpAny_holding ?_
 exact wpAny_bind (wpAny_pure (wpAny_bind (wpAny_pure (wpAny_pure h'))))
theorem evalArgs_any {f:Value} {pos:Pos} {env:Env} {es:List Expr} (hst:plainL es=true) {Q:Args→Shared→Prop} {M:Model}
 (h:wpAny M A (spliced (backTo pos (starEach es env))) (fun vs s'=>Q ⟨vs,[]⟩ s') E s):wpAny M A (evalArgs f true (backTo pos (starEach es env)) []) Q E s:=by
 cases es with
 |nil=>exact evalArgs_nil h
 |cons e r=>
  rw[star_false (plain_all hst e (.head _))]at h ⊢
  exact evalArgs_plain h
theorem callB {pos:Pos} {id:String} {env:Env} {first:List Value} {es:List Expr} (hst:plainL es=true) {Q:Value→Shared→Prop}
 (h:wpAny m.M A (spliced (backTo pos (starEach es env))) (fun vs s₁=>wpAny m.M A (call (.builtin id) (first++vs)) Q E s₁) E s):
 wpAny m.M A (callWith pos (.builtin id) first (backTo pos (starEach es env)) []) Q E s:=
 callWith_builtin (plain_back hst pos) (evalArgs_any hst h)
theorem callT {pos:Pos} {T:String} {env:Env} {es:List Expr} (hst:plainL es=true) {Q:Value→Shared→Prop}
 (h:wpAny m.M A (spliced (backTo pos (starEach es env))) (fun vs s₁=>wpAny m.M A (call (.type T) vs) Q E s₁) E s):
 wpAny m.M A (callWith pos (.type T) [] (backTo pos (starEach es env)) []) Q E s:=
 PySem.callWith_type (plain_back hst pos) (evalArgs_any hst h)
theorem callF {pos:Pos} {a:Addr} {o:Obj} {fd:FuncData} {env:Env} {es:List Expr} (hst:plainL es=true) {Q:Value→Shared→Prop} (hd:o.data= .func fd) {first:List Value}
 (h:wpAny m.M A (spliced (backTo pos (starEach es env))) (fun vs s₁=>s₁.heap.get? a=some o∧wpAny m.M A (call (.ref a) (first++vs)) Q E s₁) E s):
 wpAny m.M A (callWith pos (.ref a) first (backTo pos (starEach es env)) []) Q E s:=
 callWith_function (o:=o) (fd:=fd) (evalArgs_any hst (wpAny_mono h (fun vs s₁ h₁=>⟨⟨h₁.1,hd⟩,h₁.2⟩) fun ux ux x=>x))
structure MeR (m:Mod) (x:Str) (o:V) (vs:List V) (r:W):Prop where
 go:∃T id,PlainAttrs T∧PySem.Slot T x id∧typeOf (.builtin id)=pure (.type "method_descriptor")∧
  (∀(s:Shared) R vo,RR s.heap R o vo→s.TypeIs vo T∧∀a,vo= .ref a→∃ob,s.heap.get? a=some ob∧ob.dict=none)∧
  (∀k A (s:Shared) R vo vals hs,AOK k A→HsR m.C s.heap R hs→RR s.heap R o vo→RRs s.heap R vs vals→wpAny m.M A (call (.builtin id) (vo::vals)) (PostO s R r) NoE s)
theorem str_type {x:Str}:∀(s:Shared) R vo,RR s.heap R (.str x) vo→s.TypeIs vo "str"∧∀a,vo= .ref a→∃ob,s.heap.get? a=some ob∧ob.dict=none:=by
 intro s R vo r
 obtain⟨_,t,rfl⟩:=r.str
 exact⟨typeIs_str _ _ _,fun ux e=>nomatch e⟩
theorem lst_type {l:List V}:∀(s:Shared) R vo,RR s.heap R (.lst l) vo→s.TypeIs vo "list"∧∀a,vo= .ref a→∃ob,s.heap.get? a=some ob∧ob.dict=none:=by
 intro s R vo r
 obtain⟨_,a,vs,rfl,_,⟨n,ho⟩,_⟩:=r
 exact⟨⟨_,ho,rfl⟩,fun ux e=>by cases e;exact⟨_,ho,rfl⟩⟩
theorem int_type {i:Int}:∀(s:Shared) R vo,RR s.heap R (.int i) vo→s.TypeIs vo "int"∧∀a,vo= .ref a→∃ob,s.heap.get? a=some ob∧ob.dict=none:=by
 intro s R vo r
 obtain⟨t,rfl⟩:=r.int
 exact⟨typeIs_int _ _ _,fun ux e=>nomatch e⟩
theorem strsNum {h:Heap}:∀(t:Nat) (l:List Str),(l.all fun p=>room p.length)=true→VRs h R (l.map .str) (strsFrom t l):=by
 intro v0_ v1_
 revert v0_
 induction v1_ with
 |nil=>
  intro t _
  exact rfl
 |cons x r ih_=>
  intro t h
  simp only[List.all_cons,Bool.and_eq_true]at h
  exact⟨_,_,rfl,⟨room_le h.1,_,rfl⟩,ih_ (t+1) h.2⟩
theorem strsValues {vs:List Value} {ss:List Str} (h:StrsAre vs ss):∃l:List (Str×Tok),vs=strValues l∧l.map (·.1)=ss:=by
 induction h with
 |nil=>exact⟨[],rfl,rfl⟩
 |cons y t _ ih=>obtain⟨l,rfl,rfl⟩:=ih;exact⟨(y,t)::l,rfl,rfl⟩
theorem split_r {x y:Str} (hy:(y.length==0)=false) (hn:room (Txt.split x y).length=true) (ha:((Txt.split x y).all fun p=>room p.length)=true):MeR m "split" (.str x) [.str y] (.f ((Txt.split x y).map .str)):=by
 refine⟨"str",_,F.plainAttrs_str,F.slot_str_split,F.type_str_split,str_type,?_⟩
 rintro k A s R _ _ hs _ H ⟨nx,t,rfl⟩ ⟨v,vr,rfl,⟨ny,u,rfl⟩,rfl⟩
 cases h1:(decide (x.length<y.length)||decide (strKind x<strKind y))
 ·cases hf:(occurrences x y 0 x.length (x.length+1)).isEmpty
  ·have e:Txt.split x y=partsBetween x (occurrences x y 0 x.length (x.length+1)) y.length:=(if_neg (ne_true_of_eq_false h1)).trans (if_neg (ne_true_of_eq_false hf))
   rw[e]at hn ha ⊢
   refine call_meets F.slot_str_split (typeIs_str _ _ _) F.entry_str_split (F.args_str_split_2 _ _) (meets_str_split_sep x y t u h1 hy hf nx (room_le hn)) ?_
   exact PostO.new H (by simpa using room_le hn) (strsNum _ _ ha)
  ·have e:Txt.split x y=[x]:=(if_neg (ne_true_of_eq_false h1)).trans (if_pos hf)
   rw[e]
   refine call_meets F.slot_str_split (typeIs_str _ _ _) F.entry_str_split (F.args_str_split_2 _ _) (meets_str_split_not_found x y t u h1 hy hf) ?_
   exact PostO.new H (vs:=[.str x t]) (by simp[sizeLine_eq]) (VRs.one (x:= .str x) ⟨nx,_,rfl⟩)
 ·have e:Txt.split x y=[x]:=if_pos h1
  rw[e]
  refine call_meets F.slot_str_split (typeIs_str _ _ _) F.entry_str_split (F.args_str_split_2 _ _) (meets_str_split_cannot_occur x y t u h1) ?_
  exact PostO.new H (vs:=[.str x t]) (by simp[sizeLine_eq]) (VRs.one (x:= .str x) ⟨nx,_,rfl⟩)
theorem lower_r {x:Str} (hf:tooLong (Txt.lower x).length=false):MeR m "lower" (.str x) [] (.p (.str (Txt.lower x))):=
 ⟨"str",_,F.plainAttrs_str,F.slot_str_lower,F.type_str_lower,str_type,fun k A s R vo vals hs _ _ ⟨_,t,e⟩ e2=>by
  cases e;cases e2
  exact call_gives F.slot_str_lower (typeIs_str _ _ _) F.entry_str_lower (F.args_str_lower_1 _) (gives_str_lower x t hf) ⟨fit_le hf,PostO.toks _ ⟨fit_le hf,_,rfl⟩⟩⟩
theorem join_r {x:Str} {ss:List Str} (hok:JoinOk x ss=true):MeR m "join" (.str x) [.lst (ss.map .str)] (.p (.str (Txt.join x ss))):=by
 refine⟨"str",_,F.plainAttrs_str,F.slot_str_join,F.type_str_join,str_type,?_⟩
 rintro k A s R _ _ hs _ H ⟨nx,t,rfl⟩ ⟨v,vr,rfl,⟨n,a,vs,rfl,_,hl,hv⟩,rfl⟩
 obtain⟨l,rfl,rfl⟩:=strsValues (strsAre hv)
 unfold JoinOk at hok
 rw[Bool.not_eq_true']at hok
 exact call_meets F.slot_str_join (typeIs_str _ _ _) F.entry_str_join (F.args_str_join_2 _ _) (meets_str_join_list x t a l hok) ⟨hl.isList,post_join l ⟨joinFit_length hok,fun t' m=>PostO.toks _ ⟨joinFit_length hok,_,rfl⟩⟩⟩
theorem count_r {l:List Int} {i:Int}:MeR m "count" (.lst (l.map .int)) [.int i] (.p (.int (l.count i))):=by
 refine⟨"list",_,PySem.F.plainAttrs_list,PySem.F.slot_list_count,PySem.F.type_list_count,lst_type,?_⟩
 rintro k A s R _ _ hs _ H ⟨n,a,vs,rfl,_,hl,hv⟩ ⟨v,vr,rfl,⟨u,rfl⟩,rfl⟩
 exact count_list_ints hl.isList (intsAre hv) (PostO.toks _ ⟨_,rfl⟩)
theorem bits_r {i:Int}:MeR m "bit_length" (.int i) [] (.p (.int (Builtin.Int.intBits i))):=
 ⟨"int",_,PySem.F.plainAttrs_int,slot_int_bit_length,type_int_bit_length,int_type,fun k A s R vo vals hs _ _ ⟨t,e⟩ e2=>by
  cases e;cases e2;exact call_int_bit_length (PostO.toks _ ⟨_,rfl⟩)⟩
theorem PostO.end {r:W} {v:Value} {s1 s2:Shared} {R1:RC} {hs1:HS} (t:Tr C s R s1 R1 hs1) (p:PostO s1 R1 r v s2):PostW C s R r hs1 v s2:=
 have t2:Tr C s1 R1 s2 R1 hs1:=Tr.own t.hd p.go p.kp
 ⟨R1,t.trans t2,p.wr.early (t.fresh t2)⟩
theorem PostW.end {r:W} {v:Value} {s1 s2:Shared} {R1:RC} {hs1 hs2:HS} (t:Tr C s R s1 R1 hs1) (p:PostW C s1 R1 r hs2 v s2):PostW C s R r hs2 v s2:=by
 obtain⟨R2,t2,q⟩:=p
 exact⟨R2,t.trans t2,q.early (t.fresh t2)⟩
theorem WR.ofSlot {h0 h:Heap} {x:Str} {sl:Slot} {wv:W} {ov:Option Value} (e:slotW sl=some wv) (r:SlotR h R x sl ov):∃v,ov=some v∧WR h0 h R wv v:=by
 cases sl with
 |any=>cases e
 |p v=>cases e;obtain⟨val,e,q⟩:=r;exact⟨val,e,q⟩
 |o l=>cases e;obtain⟨n,a,vs,e,h1,h2,h3⟩:=r;exact⟨_,e,n,x,a,vs,rfl,h1,h2,h3⟩
noncomputable def isDbg (x:Str):Bool:=x==("__debug__":Str)
section
variable {ns:Names} {Γ:Gam}
theorem SI.kind {env x} (S:SI C h₀ env ns Γ R hs s):env.kindOf x=ns.lookup x:=by unfold Env.kindOf;exact congrArg _ (S.var.names)
theorem ev_loc {x pos sl w} (hl:ns.lookup x=some .local) (hd:isDbg x=false) (e:Γ.lookup x=some sl) (ew:slotW sl=some w):EvR m k ns Γ hs (.Name x pos) w hs:=by
 intro A env R s hA t S
 refine hid fun G_ k_=>?_
 obtain⟨h,hm,hall⟩:=S.var.loc
 obtain⟨sl',e2,q⟩:=hall x hl
 rw[e]at e2;cases e2
 obtain⟨v,hv,q⟩:=WR.ofSlot (h0:=s.heap) ew q
 refine k_ ?_
 exact wpAny_Name (wpAny_loadName_local S.var.kind (S.kind.trans hl) hm hv ⟨R,Tr.refl S.hdr,q⟩) hd
theorem ev_cell {x pos sl w} (hl:ns.lookup x=some .cell) (hd:isDbg x=false) (e:Γ.lookup x=some sl) (ew:slotW sl=some w):EvR m k ns Γ hs (.Name x pos) w hs:=by
 intro A env R s hA t S
 refine hid fun G_ k_=>?_
 obtain⟨c,ov,sl',c1,c2,e2,q⟩:=S.var.cel x hl
 rw[e]at e2;cases e2
 obtain⟨v,hv,q2⟩:=WR.ofSlot (h0:=s.heap) ew q
 subst hv
 refine k_ ?_
 exact wpAny_Name (wpAny_loadName_cell S.var.kind (S.kind.trans hl) c1 c2 ⟨R,Tr.refl S.hdr,q2⟩) hd
end
structure Mod.Ok (m:Mod):Prop where
 g:m.h₀.Ns mainGlobals m.mg
 b:m.h₀.Ns builtinsNs m.mb
 limit:m.h₀.NoLimit
 tkd:∃o,m.h₀.get? m.tk.a=some o∧o.cls= .type "dict"
section
variable {ns:Names} {Γ:Gam} (O:m.Ok)
include O
theorem glob_go {x pos v env} (hl:ns.lookup x=some .globalImplicit) (hd:isDbg x=false) (S:SI m.C m.h₀ env ns Γ R hs s) (hv:m.mg x=some v∨(m.mg x=none∧m.mb x=some v)) {Q E:Value→Shared→Prop} (h:Q v s):wpAny m.M A (eval (.Name x pos) env) Q E s:=by
 refine Name_function_global S.var.kind (S.kind.trans hl) ?_ hd
 rcases hv with hv|⟨hv,hb⟩
 ·exact loadGlobal_global (S.var.glob▸O.g.keeps S.base) hv h
 ·exact loadGlobal_builtin (S.var.glob▸O.g.keeps S.base) hv (S.var.blt▸O.b.keeps S.base) hb h
theorem ev_glob {x pos v val} (hl:ns.lookup x=some .globalImplicit) (hd:isDbg x=false) (hv:m.mg x=some val) (h:∀R s,Base m.h₀ m.tk R s→VR s.heap R v val):EvR m k ns Γ hs (.Name x pos) (.p v) hs:=
 fun A env R s ux t S=>glob_go O hl hd S (.inl hv) ⟨R,Tr.refl S.hdr,h R s (S.toBase t)⟩
end
theorem attr_base {o:Expr} {name:Str} {env:Env} {whole:Sem Value} (h:NBare o):attributeBase o name env whole=whole:=congrFun (congrFun (congrFun h name) env) whole
theorem method_go {o:Expr} {name:Str} {apos pos:Pos} {args:List Expr} {env:Env} {Q E:Value→Shared→Prop} (hb:NBare o) (hst:plainL args=true) (hn:args.length≤3) (hline:(apos.endLine==pos.line)=true)
 (h:wpAny (m.M) A (eval o env) (fun ov s₁=>wpAny (m.M) A (getMethod ov name (do return(←importBound o env).getD true)) (fun p s₂=>wpAny (m.M) A (callWith pos p.1 p.2 (backTo pos (starEach args env)) []) Q E s₂) E s₁) E s):
 wpAny (m.M) A (eval (.Call (.Attribute o name apos) args [] pos) env) Q E s:=by
 (simp only[arm_eval_Call];rw[attr_base hb])
 refine wpAny_bind (wpAny_mono h (fun ov s₁ h₁=>?_) fun ux ux e=>e)
 refine wpAny_bind (wpAny_standAt ?_)
 have hform:methodCallForm (args.length+([]:List Keyword).length) (backTo pos (starEach args env)) (backToKw pos (keywordEach [] env))=true:=by
  unfold methodCallForm
  have h1:=plain_back (env:=env) hst pos
  rw[List.any_eq_false]at h1
  have h2:(backTo pos (starEach args env)).all (!·.1)=true:=by
   refine Iff.mpr (all_eq_true) ?_;intro x hx;simpa using h1 x hx
  rw[h2,show backToKw pos (keywordEach [] env)=[]from rfl]
  simp
  lia
 have hpos:methodCallPos true o env apos pos=pure pos:=by unfold methodCallPos;simp[hline]
 unfold methodCall
 refine(hform)▸ ?_
 refine wpAny_bind (wpAny_holding (wpAny_mono h₁ (fun p s₂ h₂=>?_) fun ux ux e=>e))
 exact wpAny_bind (wpAny_of_eq hpos h₂)
end
section
variable {m:Mod} {C:Addr} {h₀:Heap} {k:Nat} {A:Around} {s:Shared} {R:RC} {E:Value→Shared→Prop}
theorem lookup_set {x y:Str} {sl:Slot}:∀{Γ:Gam},(setG x sl Γ).lookup y=if y=x∧(Γ.lookup x).isSome then some sl else Γ.lookup y
 |[]=>by simp[setG]
 |(z,s0)::r=>by
  simp only[setG]
  by_cases hz:x==z
  ·have:=eq_of_beq hz;subst this
   rw[if_pos hz]
   simp only[lookup_cons,beq_self_eq_true]
   by_cases hy:y==x
   ·have:=eq_of_beq hy;subst this;simp
   ·have hy':(y==x)=false:=by simpa using hy
    have:¬y=x:=fun e=>by subst e;simp at hy
    simp[hy',this]
  ·have hz':(x==z)=false:=by simpa using hz
   rw[if_neg hz]
   simp only[lookup_cons,hz']
   by_cases hy:y==z
   ·have:=eq_of_beq hy;subst this
    have:¬y=x:=fun e=>by subst e;simp at hz
    simp[this]
   ·have hy':(y==z)=false:=by simpa using hy
    simp only[hy']
    exact lookup_set
theorem SlotR.keepN {h h':Heap} {x sl ov} (k:Kept [] h h') (r:SlotR h R x sl ov):SlotR h' R x sl ov:=by
 cases sl with
 |any=>trivial
 |p v=>obtain⟨val,e,q⟩:=r;exact⟨val,e,q.keep k⟩
 |o l=>obtain⟨n,b,vs,e,hm,⟨m,ho⟩,q⟩:=r;exact⟨n,b,vs,e,hm,⟨m,k b _ (by simp) ho⟩,q.keep k⟩
theorem VR.other {h h':Heap} {a:Addr} {o:Obj} (hs:Heap.ExtBut a h h') (ho:h.get? a=some o) (hn:∀vs n,o.data≠.seq vs n) (hf:Odd o→∀vs,o.data≠.fields vs):(∀v val,VR h R v val→VR h' R v val)∧(∀l vs,VRs h R l vs→VRs h' R l vs):=by
 have key:=VR.tp (R:=R) (R':=R) (h:=h) (h':=h') rfl (fun ux ux e=>e) fun b ob nb e st=>⟨hs b ob (fun q=>by
  subst q
  rw[ho]at e;cases e
  rcases st with⟨_,_,q⟩|⟨q1,_,q⟩
  ·exact hn _ _ q
  ·exact hf q1 _ q) e,nb⟩
 exact⟨key,VRs.tp key⟩
theorem SlotR.other {h h':Heap} {a:Addr} {o:Obj} (hs:Heap.ExtBut a h h') (ho:h.get? a=some o) (hn:∀vs n,o.data≠.seq vs n) (hf:Odd o→∀vs,o.data≠.fields vs) {x sl ov} (r:SlotR h R x sl ov):SlotR h' R x sl ov:=by
 have q:=VR.other (R:=R) hs ho hn hf
 cases sl with
 |any=>trivial
 |p v=>obtain⟨val,e,z⟩:=r;exact⟨val,e,q.1 _ _ z⟩
 |o l=>obtain⟨n,b,vs,e,hm,⟨m,h1⟩,z⟩:=r;exact⟨n,b,vs,e,hm,⟨m,hs b _ (fun e=>by subst e;rw[ho]at h1;cases h1;exact hn _ _ rfl) h1⟩,q.2 _ _ z⟩
theorem HsR.other {h h':Heap} {a:Addr} {o:Obj} (hs:Heap.ExtBut a h h') (ho:h.get? a=some o) (hn:∀vs n,o.data≠.seq vs n) (hf:Odd o→∀vs,o.data≠.fields vs)
 {hd:HS} (H:HsR C h R hd) (hnew:∀p∈R.ρ,a≠p.1.1∧a≠p.1.2):HsR C h' R hd:=by
 have q:=VR.other (R:=R) hs ho hn hf
 refine⟨H.len,fun r i b l e1 e2=>?_,H.nod,fun p hp=>?_,H.tabs.at fun b ob h1 h2 ⟨vs,h3⟩=>hs b ob (fun e=>by subst e;rw[ho]at h1;cases h1;exact hf (h2.elim (fun q=> .inr (.inr q)) fun q=> .inr (.inl q)) _ h3) h1⟩
 ·obtain⟨n,⟨ep,hsh,t,h1,h2,h3,h4⟩,vs,⟨m,h5⟩,hv⟩:=H.at_ r i b l e1 e2
  obtain⟨n1,n2⟩:=hnew (i,b) (mem_of_getElem? e1)
  exact⟨n,⟨ep,hsh,t,h1,h2,hs i.1 _ (Ne.symm n1) h3,hs i.2 _ (Ne.symm n2) h4⟩,vs,⟨m,hs b _ (fun e=>by subst e;rw[ho]at h5;cases h5;exact hn _ _ rfl) h5⟩,q.2 _ _ hv⟩
 ·refine hid fun G_ k_=>?_
  obtain⟨o',h1,vs,m,h2⟩:=H.own p hp
  refine k_ ?_
  exact⟨o',hs _ _ (fun e=>by subst e;rw[ho]at h1;cases h1;exact hn _ _ h2) h1,vs,m,h2⟩
theorem VarR.own_obj {env ns Γ} {h:Heap} (V:VarR env ns Γ R h) {c:Addr} (hc:Own env ns c):∃o,h.get? c=some o∧(∀vs n,o.data≠.seq vs n)∧∀vs,o.data≠.fields vs:=by
 rcases hc with rfl|⟨x,hx,hc⟩
 ·obtain⟨m,⟨o,es,ep,ho,hd,_⟩,_⟩:=V.loc;exact⟨o,ho,by rw[hd];intros;simp,by rw[hd];intros;simp⟩
 ·obtain⟨c',ov,sl,e1,⟨o,ho,hd⟩,_⟩:=V.cel x hx
  rw[hc]at e1;cases e1;exact⟨o,ho,by rw[hd];intros;simp,by rw[hd];intros;simp⟩
noncomputable def OwnOf (env:Env) (ns:Names) (x:Str) (c:Addr):Prop:=(ns.lookup x=some .local∧c=env.locals)∨(ns.lookup x=some .cell∧env.cells.lookup x=some c)
theorem OwnOf.own {env ns x c} (h:OwnOf env ns x c):Own env ns c:=by
 rcases h with h|h
 ·exact .inl h.2
 ·exact .inr ⟨x,h⟩
structure Stored (env:Env) (ns:Names) (x:Str) (s s':Shared):Prop where
 go:Go s s'
 same:∃c,OwnOf env ns x c∧Heap.SameBut c s.heap s'.heap
theorem setG_same {x:Str} {sl:Slot} {Γ:Gam} (h:(Γ.lookup x).isSome=true):(setG x sl Γ).lookup x=some sl:=by
 refine Eq.trans (lookup_set) ?_;simp[h]
theorem setG_other {x y:Str} {sl:Slot} {Γ:Gam} (h:y≠x):(setG x sl Γ).lookup y=Γ.lookup y:=by
 refine Eq.trans (lookup_set) ?_;simp[h]
set_option tactic.hygienic true in
theorem store_ok {env ns Γ hs} {x:Str} {sl:Slot} {val:Value} (hx:isVar ns x=true) (S:SI C h₀ env ns Γ R hs s) (hsl:SlotR s.heap R x sl (some val)) {Q:Unit→Shared→Prop}
 (h:∀s',SI C h₀ env ns (setG x sl Γ) R hs s'→Stored env ns x s s'→Q () s'):wpAny (m.M) A (storeName env x val) Q E s:=by
 have V:=S.var
 have hkind:env.kindOf x=ns.lookup x:=by unfold Env.kindOf;exact congrArg _ (V.names)
 have common:∀(c:Addr) (h':Heap) (n:Nat),Own env ns c→Heap.SameBut c s.heap h'→VarR env ns (setG x sl Γ) R h'→SI C h₀ env ns (setG x sl Γ) R hs { s with heap:=h',toks:=n }:=by
  intro c h' n hc hs' V'
  refine hid fun G_ k_=>?_
  obtain⟨o,ho,hn,hf⟩:=V.own_obj hc
  refine k_ ?_
  refine⟨fun b ob e=>(hs'.2 b (fun q=>?_)).trans (S.base b ob e),S.nb,V',S.hdr.other hs'.extBut ho hn (fun ux=>hf) fun p hp=>S.apart p hp c hc,S.apart,S.fresh⟩
  subst q;rw[S.fresh _ hc]at e;cases e
 rcases isVar_or hx with hl|hl
 ·obtain⟨m,hm,hall⟩:=V.loc
  obtain⟨oL,es,ep,hoL,hdL,rL⟩:=id hm
  refine wpAny_storeName_local (hkind.trans hl) hm (fun h' hn hs'=>?_) (by rw[V.kind];rfl)
  refine h _ (common env.locals h' _ (.inl rfl) hs' ?_) ⟨⟨_,_,rfl⟩,_,.inl ⟨hl,rfl⟩,hs'⟩
  have nseq:∀vs n,oL.data≠.seq vs n:=by rw[hdL];intros;simp
  have nfld:∀vs,oL.data≠.fields vs:=by rw[hdL];intros;simp
  refine⟨V.kind,V.names,V.glob,V.blt,⟨_,hn,fun y hy=>?_⟩,fun y hy=>?_,V.inj⟩
  ·obtain⟨sl0,e0,q0⟩:=hall y hy
   by_cases hyx:y=x
   ·subst hyx
    refine⟨sl,setG_same (by rw[e0];rfl),?_⟩
    rw[if_pos rfl]
    exact hsl.other hs'.extBut hoL nseq (fun ux=>nfld)
   ·refine⟨sl0,(setG_other hyx).trans e0,?_⟩
    rw[if_neg hyx]
    exact q0.other hs'.extBut hoL nseq (fun ux=>nfld)
  ·obtain⟨c,ov,sl0,e1,⟨oc,h1,h2⟩,e3,q0⟩:=V.cel y hy
   have hyx:y≠x:=fun e=>by subst e;rw[hl]at hy;cases hy
   have hcl:c≠env.locals:=fun e=>by subst e;rw[hoL]at h1;cases h1;rw[hdL]at h2;cases h2
   exact⟨c,ov,sl0,e1,⟨oc,(hs'.2 c hcl).trans h1,h2⟩,(setG_other hyx).trans e3,q0.other hs'.extBut hoL nseq (fun ux=>nfld)⟩
 ·obtain⟨c,ov,sl0,e1,hcell,e3,q0⟩:=V.cel x hl
  obtain⟨oc,h1,h2⟩:=id hcell
  refine wpAny_storeName_cell V.kind (hkind.trans hl) e1 hcell fun h' hc' hs'=>?_
  refine h _ (common c h' s.toks (.inr ⟨x,hl,e1⟩) hs' ?_) ⟨⟨_,_,rfl⟩,_,.inr ⟨hl,e1⟩,hs'⟩
  have nseq:∀vs n,oc.data≠.seq vs n:=by rw[h2];intros;simp
  have nfld:∀vs,oc.data≠.fields vs:=by rw[h2];intros;simp
  obtain⟨m,⟨oL,es,ep,hoL,hdL,rL⟩,hall⟩:=V.loc
  have hcl:env.locals≠c:=fun e=>by subst e;rw[hoL]at h1;cases h1;rw[hdL]at h2;cases h2
  refine⟨V.kind,V.names,V.glob,V.blt,⟨m,⟨oL,es,ep,(hs'.2 _ hcl).trans hoL,hdL,rL⟩,fun y hy=>?_⟩,fun y hy=>?_,V.inj⟩
  ·obtain⟨sl1,e4,q1⟩:=hall y hy
   have hyx:y≠x:=fun e=>by subst e;rw[hl]at hy;cases hy
   exact⟨sl1,(setG_other hyx).trans e4,q1.other hs'.extBut h1 nseq (fun ux=>nfld)⟩
  ·by_cases hyx:y=x
   ·subst hyx
    exact⟨c,some val,sl,e1,hc',setG_same (by rw[e3];rfl),hsl.other hs'.extBut h1 nseq (fun ux=>nfld)⟩
   ·refine hid fun G_ k_=>?_
    obtain⟨c',ov',sl1,e4,⟨oc',h4,h5⟩,e6,q1⟩:=V.cel y hy
    have hcc:c'≠c:=fun e=>hyx (V.inj y x c (e▸e4) e1)
    refine k_ ?_
    exact⟨c',ov',sl1,e4,⟨oc',(hs'.2 _ hcc).trans h4,h5⟩,(setG_other hyx).trans e6,q1.other hs'.extBut h1 nseq (fun ux=>nfld)⟩
theorem bindName_ok {env ns Γ hs} {x:Str} {sl:Slot} {val:Value} (hx:isVar ns x=true) (S:SI C h₀ env ns Γ R hs s) (hsl:SlotR s.heap R x sl (some val)) {Q:Unit→Shared→Prop}
 (h:∀s',SI C h₀ env ns (setG x sl Γ) R hs s'→Stored env ns x s s'→Q () s'):wpAny (m.M) A (bindName env x val) Q E s:=
 wpAny_bindName (store_ok hx S hsl h)
end
section
variable {m:Mod} {k:Nat} {A:Around} {s:Shared} {R:RC} {C:Addr} {h₀:Heap} {hs hs1 hs2 hs3:HS} {ns:Names} {Γ:Gam} {pos:Pos}
theorem pair_ok {a b wa wb} (ea:EvR m k ns Γ hs a wa hs1) (eb:EvR m k ns Γ hs1 b wb hs2) {env:Env} (hA:AOK k A) (t:R.tk=m.tk) (S:SI m.C m.h₀ env ns Γ R hs s)
 {Q:Value→Value→Shared→Prop} (h:∀va vb s2 R2,Tr m.C s R s2 R2 hs2→Base m.h₀ m.tk R2 s2→WR s.heap s2.heap R2 wa va→WR s.heap s2.heap R2 wb vb→Q va vb s2):
 wpAny m.M A (eval a env) (fun va s1=>wpAny m.M A (eval b env) (fun vb s2=>Q va vb s2) NoE s1) NoE s:=by
 refine noE (ea A env R s hA t S) fun va s1 hp1=>?_
 obtain⟨R1,t1,r1⟩:=hp1
 refine noE (eb A env R1 s1 hA (t1.st.1.trans t) (S.tr t1)) fun vb s2 hp2=>?_
 obtain⟨R2,t2,r2⟩:=hp2
 exact h va vb s2 R2 (t1.trans t2) ((S.tr (t1.trans t2)).toBase (t2.st.1.trans (t1.st.1.trans t))) (r1.next t2.kp t2.st t1.hd.nod) (r2.early (t1.fresh t2))
theorem not_marked {op:CmpOp} {r:Expr} (h:NSet r):behindInMarks op r=false:=congrArg (·.1) (congrFun h op)
theorem not_folded {r:Expr} (h:NSet r) (env:Env) (x:Value):foldedSetIterable r env x=pure x:=congrFun (congrFun (congrArg (·.2) (congrFun h .Eq)) env) x
theorem PostO.newT (H:HsR C s.heap R hs) {l:List V} {vs:List Value} (hl:l.length≤sizeLine) (hv:VRs s.heap R l vs) {tk:Nat} {n:Nat}:
 PostO s R (.p (.tup l)) (.ref s.heap.objs.size) { s with heap:=s.heap.push { cls:= .type "tuple",data:= .seq vs.toArray n },toks:=tk }:=
 ⟨⟨_,_,rfl⟩,(Kept.refl _ _).push _,hl,_,vs,rfl,size_bad H,⟨_,Heap.get?_push_size _ rfl,rfl,n,rfl⟩,hv.keep ((Kept.refl _ _).push _)⟩
theorem ev_int (i c):EvR m k ns Γ hs (.Constant (.int i) c pos) (.p (.int i)) hs:=fun ux ux R ux ux ux S=>wpAny_Constant_int ⟨R,Tr.own S.hdr ⟨_,_,rfl⟩ (Kept.refl _ _),_,rfl⟩
theorem ev_str {x c} (h:room x.length=true):EvR m k ns Γ hs (.Constant (.str x) c pos) (.p (.str x)) hs:=fun ux ux R ux ux ux S=>PySem.Calls.Constant_str ⟨R,Tr.own S.hdr ⟨_,_,rfl⟩ (Kept.refl _ _),room_le h,_,rfl⟩
theorem ev_bool (b c):EvR m k ns Γ hs (.Constant (.bool b) c pos) (.p (.bool b)) hs:=fun ux ux R ux ux ux S=>wpAny_Constant_bool ⟨R,Tr.refl S.hdr,rfl⟩
theorem ev_none (c):EvR m k ns Γ hs (.Constant .none c pos) (.p .none) hs:=fun ux ux R ux ux ux S=>wpAny_Constant_none ⟨R,Tr.refl S.hdr,rfl⟩
theorem ev_bin {l r op wa wb a b w} (h1:EvR m k ns Γ hs l wa hs1) (h2:EvR m k ns Γ hs1 r wb hs2) (ea:wa.rd=some a) (eb:wb.rd=some b) (h:BinR m op a b w):EvR m k ns Γ hs (.BinOp l op r pos) w hs2:=
 fun A env R s hA t S=>wpAny_BinOp (pair_ok h1 h2 hA t S fun x y s2 R2 t2 ux rx ry=>noE (h k A s2 R2 hs2 x y hA t2.hd (rx.rd t2.hd.nod ea) (ry.rd t2.hd.nod eb)) fun v s3 p=>p.end t2)
theorem ev_neg {x i} (h1:EvR m k ns Γ hs x (.p (.int i)) hs1):EvR m k ns Γ hs (.UnaryOp .USub x pos) (.p (.int (-i))) hs1:=
 fun A env R s hA t S=>wpAny_UnaryOp (noE (h1 A env R s hA t S) fun v s1 ⟨R1,t1,u,e⟩=>by
  rw[e];exact PyProof.Rows.neg_int ((PostO.toks _ ⟨_,rfl⟩:PostO s1 R1 (.p (.int (-i))) _ _).end t1))
theorem ev_inv {x i} (h1:EvR m k ns Γ hs x (.p (.int i)) hs1):EvR m k ns Γ hs (.UnaryOp .Invert x pos) (.p (.int (Builtin.bitNot i))) hs1:=
 fun A env R s hA t S=>wpAny_UnaryOp (noE (h1 A env R s hA t S) fun v s1 ⟨R1,t1,u,e⟩=>by
  rw[e];exact invert_int ((PostO.toks _ ⟨_,rfl⟩:PostO s1 R1 (.p (.int (Builtin.bitNot i))) _ _).end t1))
theorem ev_ite {c a b bb w} (h1:TsR m k ns Γ hs c bb hs1) (h2:EvR m k ns Γ hs1 (bif bb then a else b) w hs2):EvR m k ns Γ hs (.IfExp c a b pos) w hs2:=
 fun A env R s hA t S=>wpAny_IfExp (noE (h1 A env R s hA t S) fun c s1 ⟨hb,R1,t1⟩=>by
  subst hb
  cases c<;>exact noE (h2 A env R1 s1 hA (t1.st.1.trans t) (S.tr t1)) fun v s2 p=>p.end t1)
theorem ev_cmp {l r op wa wb a b c} (hset:NSet r) (h1:EvR m k ns Γ hs l wa hs1) (h2:EvR m k ns Γ hs1 r wb hs2) (ea:wa.rd=some a) (eb:wb.rd=some b) (h:CmpR m op a b c):EvR m k ns Γ hs (.Compare l [op] [r] pos) (.p (.bool c)) hs2:=
 fun A env R s hA t S=>wpAny_Compare1 (pair_ok h1 h2 hA t S fun x y s2 R2 t2 B rx ry=>noE (h k A s2 R2 x y hA B (rx.rd t2.hd.nod ea) (ry.rd t2.hd.nod eb)) fun v s3 ⟨hv,g,kk⟩=>PostO.end t2 ⟨g,kk,hv⟩) (not_marked hset)
theorem ev_list {es vs} (h:ArR m k ns Γ hs es vs hs1) (hr:room vs.length=true):EvR m k ns Γ hs (.List es pos) (.f vs) hs1:=
 fun A env R s hA t S=>wpAny_List (noE (h.2 _ A env R s hA t S) fun vals s1 ⟨R1,t1,r1⟩=>⟨by rw[r1.len];exact room_le hr,PostO.end t1 (PostO.new t1.hd (room_le hr) r1)⟩)
theorem ev_tup {es vs c} (h:ArR m k ns Γ hs es vs hs1) (hr:room vs.length=true):EvR m k ns Γ hs (.Tuple es c pos) (.p (.tup vs)) hs1:=
 fun A env R s hA t S=>wpAny_Tuple (noE (h.2 _ A env R s hA t S) fun vals s1 ⟨R1,t1,r1⟩=>⟨by rw[r1.len];exact room_le hr,PostO.end t1 (PostO.newT t1.hd (room_le hr) r1)⟩)
theorem ev_sub {v i wa wb a b r} (h1:EvR m k ns Γ hs v wa hs1) (h2:EvR m k ns Γ hs1 i wb hs2) (ea:wa.rd=some a) (eb:wb.rd=some b) (h:SubR m a b r):EvR m k ns Γ hs (.Subscript v i pos) (.p r) hs2:=
 fun A env R s hA t S=>Subscript_ (pair_ok h1 h2 hA t S fun x y s2 R2 t2 B rx ry=>noE (h A s2 R2 _ _ x y B (rx.rd t2.hd.nod ea) (ry.rd t2.hd.nod eb)) fun v s3 p=>p.end t2)
noncomputable def OpR (m:Mod) (k:Nat) (ns:Names) (Γ:Gam) (hs:HS) (o:Option Expr) (a:Option Int) (hs':HS):Prop:=Fr m k ns Γ hs (evalPart o) fun s R v s'=>∃R',Tr m.C s R s' R' hs'∧partO a v
theorem op_none:OpR m k ns Γ hs .none .none hs:=fun A env R s hA t S=>by rw[evalPart_none];exact wpAny_pure ⟨R,Tr.refl S.hdr,rfl⟩
theorem op_some {e i} (h:EvR m k ns Γ hs e (.p (.int i)) hs1):OpR m k ns Γ hs (some e) (some i) hs1:=fun A env R s hA t S=>by
 rw[evalPart_some];exact noE (h A env R s hA t S) fun v s1 ⟨R1,t1,r1⟩=>⟨R1,t1,r1⟩
theorem ev_slice {v lo hi q wv u a b r} (h1:EvR m k ns Γ hs v wv hs1) (h2:OpR m k ns Γ hs1 lo a hs2) (h3:OpR m k ns Γ hs2 hi b hs3) (ev:wv.rd=some u) (h:SlR m u a b r):EvR m k ns Γ hs (.Subscript v (.Slice lo hi .none q) pos) r hs3:=by
 intro A env R s hA t S
 refine Subscript_ (noE (h1 A env R s hA t S) fun vo s1 hp3=>?_)
 obtain⟨R1,t1,r1⟩:=hp3
 have tk1:=t1.st.1.trans t
 refine wpAny_Slice (noE (h2 A env R1 s1 hA tk1 (S.tr t1)) fun va s2 hp4=>?_)
 obtain⟨R2,t2,pa⟩:=hp4
 refine noE (h3 A env R2 s2 hA (t2.st.1.trans tk1) (S.tr (t1.trans t2))) fun vb s3 hp5=>?_
 obtain⟨R3,t3,pb⟩:=hp5
 rw[evalPart_none]
 have t13:=(t1.trans t2).trans t3
 exact wpAny_pure (noE (h A s3 R3 hs3 _ _ vo va vb t13.hd (((r1.next t2.kp t2.st t1.hd.nod).next t3.kp t3.st t2.hd.nod).rd t13.hd.nod ev) pa pb) fun v s4 p=>p.end t13)
section
variable (O:m.Ok)
include O
theorem ev_bi {f q args ws vs w} (hl:ns.lookup f=some .globalImplicit) (hd:isDbg f=false) (h1:WsR m k ns Γ hs args ws hs1) (hr:RdAll ws vs) (h:BiR m f vs w):EvR m k ns Γ hs (.Call (.Name f q) args [] pos) w hs1:=by
 intro A env R s hA t S
 refine hid fun G_ k_=>?_
 obtain⟨fv,e1,e2,hk,h⟩:=h
 refine k_ ?_
 refine wpAny_Call_NameR (glob_go O hl hd S (.inr ⟨e1,e2⟩) ?_)
 have main:wpAny m.M A (spliced (backTo pos (starEach args env))) (fun vals s1=>wpAny m.M A (call fv vals) (PostW m.C s R w hs1) NoE s1) NoE s:=
  noE (h1.2 pos A env R s hA t S) fun vals s1 ⟨R1,t1,r1⟩=>noE (h k A s1 R1 hs1 vals hA t1.hd (r1.rd t1.hd.nod hr)) fun v s2 p=>p.end t1
 rcases hk with⟨id,rfl⟩|⟨T',rfl⟩
 ·exact callB h1.1 main
 ·exact callT h1.1 main
theorem ev_rev {q args l} (hl:ns.lookup ("reversed":Str)=some .globalImplicit) (n:BName m "reversed" (.type "reversed")) (h1:ArR m k ns Γ hs args [.lst l] hs1):EvR m k ns Γ hs (.Call (.Name "reversed" q) args [] pos) (.it l.reverse) hs1:=
 fun A env R s hA t S=>wpAny_Call_NameR (glob_go O hl (by decide +kernel) S (.inr n) (callT h1.1 (noE (h1.2 pos A env R s hA t S) fun vals s1 ⟨R1,t1,r1⟩=>noE (reversed_ok t1.hd r1) fun v s2 p=>p.end t1)))
theorem ev_fn {f q args vs w} (hl:ns.lookup f=some .globalImplicit) (hd:isDbg f=false) (h1:ArR m k ns Γ hs args vs hs1) (h:FnR m k hs1 f vs w hs2):EvR m k ns Γ hs (.Call (.Name f q) args [] pos) w hs2:=by
 intro A env R s hA t S
 obtain⟨a,o,fd,e1,e2,e3,h⟩:=h
 refine wpAny_Call_NameR (glob_go O hl hd S (.inl e1) (callF (o:=o) (first:=[]) h1.1 e3 (noE (h1.2 pos A env R s hA t S) fun vals s1 hp6=>?_)))
 obtain⟨R1,t1,r1⟩:=hp6
 have B1:=(S.tr t1).toBase (t1.st.1.trans t)
 exact⟨B1.base _ _ e2,noE (h A s1 R1 vals hA B1 t1.hd r1) fun v s2 p=>p.end t1⟩
noncomputable def NewR (m:Mod):Prop:=m.mg "Headers"=some (.ref m.C)∧∀k A s R hs pos env,AOK (k+1) A→Base m.h₀ m.tk R s→HsR m.C s.heap R hs→
 wpAny m.M A (callWith pos (.ref m.C) [] (backTo pos (starEach [] env)) []) (PostW m.C s R (.p (.hdr hs.length)) (hs++[[]])) NoE s
theorem ev_new {q} (N:NewR m) (hl:ns.lookup ("Headers":Str)=some .globalImplicit):EvR m (k+1) ns Γ hs (.Call (.Name "Headers" q) [] [] pos) (.p (.hdr hs.length)) (hs++[[]]):=
 fun A env R s hA t S=>wpAny_Call_NameR (glob_go O hl (by decide +kernel) S (.inl N.1) (noE (N.2 k A s R hs pos env hA (S.toBase t) S.hdr) fun ux ux p=>p))
end
theorem ev_me {o x ap args wo ws ov vs w} (hline:(ap.endLine==pos.line)=true) (hb:NBare o) (hn:args.length≤3) (h1:EvR m k ns Γ hs o wo hs1) (h2:WsR m k ns Γ hs1 args ws hs2) (eo:wo.rd=some ov) (er:RdAll ws vs) (h:MeR m x ov vs w):
 EvR m k ns Γ hs (.Call (.Attribute o x ap) args [] pos) w hs2:=by
 intro A env R s hA t S
 refine hid fun G_ k_=>?_
 obtain⟨T',id,pa,slot,hty,hT,hcall⟩:=h
 refine k_ ?_
 refine method_go hb h2.1 hn hline (noE (h1 A env R s hA t S) fun v s1 hp7=>?_)
 refine hid fun G_ k_=>?_
 obtain⟨R1,t1,r1⟩:=hp7
 obtain⟨z1,z2⟩:=hT s1 R1 v (r1.rd t1.hd.nod eo)
 refine k_ ?_
 refine getMethod_builtin z1 pa slot hty z2 (callB h2.1 (noE (h2.2 pos A env R1 s1 hA (t1.st.1.trans t) (S.tr t1)) fun vals s2 hp8=>?_))
 obtain⟨R2,t2,r2⟩:=hp8
 exact noE (hcall k A s2 R2 v vals _ hA t2.hd ((r1.next t2.kp t2.st t1.hd.nod).rd t2.hd.nod eo) (r2.rd t2.hd.nod er)) fun v s3 p=>p.end (t1.trans t2)
noncomputable def HmR (m:Mod) (k:Nat) (x:Str) (r:Nat) (vs:List V) (hs:HS) (w:W) (hs':HS):Prop:=
 ∃a o fd,m.h₀.get? a=some o∧o.data= .func fd∧
  (∀A s R hs0 (i:Addr×Addr) (b:Addr) pl (Q:Value×List Value→Shared→Prop) E,Base m.h₀ m.tk R s→HsR m.C s.heap R hs0→R.ρ[r]? =some (i,b)→Q (.ref a,[.ref i.1]) s→wpAny m.M A (getMethod (.ref i.1) x pl) Q E s)∧
  ∀A s R (i:Addr×Addr) (b:Addr) vals,AOK k A→Base m.h₀ m.tk R s→HsR m.C s.heap R hs→R.ρ[r]? =some (i,b)→RRs s.heap R vs vals→wpAny m.M A (call (.ref a) (.ref i.1::vals)) (PostW m.C s R w hs') NoE s
theorem ev_hm {o x ap args ws r vs w} (hline:(ap.endLine==pos.line)=true) (hb:NBare o) (hn:args.length≤3) (h1:EvR m k ns Γ hs o (.p (.hdr r)) hs1) (h2:WsR m k ns Γ hs1 args ws hs2) (er:RdAll ws vs) (h:HmR m k x r vs hs2 w hs3):
 EvR m k ns Γ hs (.Call (.Attribute o x ap) args [] pos) w hs3:=by
 intro A env R s hA t S
 refine hid fun G_ k_=>?_
 obtain⟨a,ob,fd,e1,e2,hget,hcall⟩:=h
 refine k_ ?_
 refine method_go hb h2.1 hn hline (noE (h1 A env R s hA t S) fun v s1 hp9=>?_)
 obtain⟨R1,t1,i,b,hρ,e⟩:=hp9
 subst e
 have tk1:=t1.st.1.trans t
 refine hget A s1 R1 hs1 i b _ _ _ ((S.tr t1).toBase tk1) t1.hd hρ (callF (o:=ob) (first:=[.ref i.1]) h2.1 e2 (noE (h2.2 pos A env R1 s1 hA tk1 (S.tr t1)) fun vals s2 hp10=>?_))
 obtain⟨R2,t2,r2⟩:=hp10
 have B2:=(S.tr (t1.trans t2)).toBase (t2.st.1.trans tk1)
 exact⟨B2.base _ _ e1,noE (hcall A s2 R2 i b vals hA B2 t2.hd (t2.st.get _ _ hρ) (r2.rd t2.hd.nod er)) fun v s3 p=>p.end (t1.trans t2)⟩
theorem PostB.end {b c:Bool} {s1 s2:Shared} {R1:RC} (t:Tr C s R s1 R1 hs1) (p:PostB C s1 R1 b hs2 c s2):PostB C s R b hs2 c s2:=by
 obtain⟨rfl,R2,t2⟩:=p;exact⟨rfl,R2,t.trans t2⟩
theorem all_nil {op}:AllR m k ns Γ hs op [] (op== .And) hs:=fun A env R s hA t S=>wpAny_pure ⟨rfl,R,Tr.refl S.hdr⟩
theorem all_cons {op x r b c} (h1:TsR m k ns Γ hs x b hs1) (h2:if b=(op== .And)then AllR m k ns Γ hs1 op r c hs2 else c=b∧hs2=hs1):AllR m k ns Γ hs op (x::r) c hs2:=fun A env R s hA t S=>by
 rw[arm_allTrue_cons]
 refine wpAny_bind (noE (h1 A env R s hA t S) fun c' s1 hp11=>?_)
 obtain⟨hc,R1,t1⟩:=hp11
 subst hc
 cases op<;>cases c'
 ·obtain⟨rfl,rfl⟩:=h2;exact wpAny_pure ⟨rfl,R1,t1⟩
 ·exact noE (h2 A env R1 s1 hA (t1.st.1.trans t) (S.tr t1)) fun ux ux p=>p.end t1
 ·exact noE (h2 A env R1 s1 hA (t1.st.1.trans t) (S.tr t1)) fun ux ux p=>p.end t1
 ·obtain⟨rfl,rfl⟩:=h2;exact wpAny_pure ⟨rfl,R1,t1⟩
theorem ts_not {x b} (h:TsR m k ns Γ hs x b hs1):TsR m k ns Γ hs (.UnaryOp .Not x pos) (!b) hs1:=
 fun A env R s hA t S=>wpAny_isTrue_Not (noE (h A env R s hA t S) fun c s1 ⟨hc,R1,t1⟩=>⟨by rw[hc],R1,t1⟩)
theorem ts_bool {op es b} (h:AllR m k ns Γ hs op es b hs1):TsR m k ns Γ hs (.BoolOp op es pos) b hs1:=fun A env R s hA t S=>wpAny_isTrue_BoolOp (h A env R s hA t S)
theorem ts_cmp {l r op wa wb a b c} (hset:NSet r) (h1:EvR m k ns Γ hs l wa hs1) (h2:EvR m k ns Γ hs1 r wb hs2) (ea:wa.rd=some a) (eb:wb.rd=some b) (h:CmpR m op a b c):TsR m k ns Γ hs (.Compare l [op] [r] pos) c hs2:=
 fun A env R s hA t S=>wpAny_isTrue_Compare1 (pair_ok h1 h2 hA t S fun x y s2 R2 t2 B rx ry=>noE (h k A s2 R2 x y hA B (rx.rd t2.hd.nod ea) (ry.rd t2.hd.nod eb)) fun v s3 ⟨hv,g,kk⟩=>by
  subst hv;exact wpAny_truthy_bool ⟨rfl,R2,t2.trans (Tr.own t2.hd g kk)⟩) (not_marked hset)
noncomputable abbrev NTest (e:Expr):Prop:=isTrue e=fun env whole=>(do let v←whole;standAt e.pos;holding [v] (truthy v))
theorem ts_val {e w} (hv:NTest e) (h1:EvR m k ns Γ hs e w hs1) {b:Bool} (hw:w= .p (.bool b)∨∃i,w= .p (.int i)∧b=decide (i≠0)):TsR m k ns Γ hs e b hs1:=
 fun A env R s hA t S=>wpAny_isTrue_value (noE (h1 A env R s hA t S) fun val s1 ⟨R1,t1,r1⟩=>by
  rcases hw with rfl|⟨i,rfl,rfl⟩
  ·cases r1;exact wpAny_truthy_bool ⟨rfl,R1,t1⟩
  ·obtain⟨u,rfl⟩:=r1
   refine PyProof.Rows.truthy_int ⟨?_,R1,t1⟩
   simp[bne_iff_ne]
   rfl) (congrFun (congrFun hv env) _)
end
noncomputable def isO:W→Bool
 | .o _=>true
 |_=>false
section
variable {m:Mod} {C:Addr} {h₀:Heap} {k:Nat} {A:Around} {s:Shared} {R:RC} {E:Value→Shared→Prop}
noncomputable def plainIter (n:String):Bool:=n != "range"&&n != "code"&& !(["enumerate","zip","dict_itemiterator","dict_reverseitemiterator","odict_iterator","itertools.zip_longest","itertools.pairwise"].contains n)
inductive ItR (m:Mod) (A:Around) (h0:Heap) (own:Bool) (h:Heap) (R:RC) (its:List V) (it:Value):Prop
 |mk (I:Addr) (fp:List Addr) (P:Nat→Value→Prop) (St:Nat→Heap→Prop):it= .ref I→Walks m.prog m.w A I fp [I] its.length P St→St 0 h→(∀i v,P i v→∃x,its[i]? =some x∧VR h R x v)→h0.get? I=none→(∀i h,St i h→∃o n vs,h.get? I=some o∧o.cls= .type n∧o.data= .fields vs∧plainIter n=true)→
  (∀b∈fp,b≠I→b∉R.hl∧(∃o vs n,h.get? b=some o∧o.data= .seq vs n)∧(own=false→b∉R.bad))→ItR m A h0 own h R its it
theorem VR.push {h:Heap} {o:Obj} {x v} (r:VR h R x v):VR (h.push o) R x v:=VR.step ((Kept.refl _ h).push o) rfl (fun ux ux e=>e) (fun ux ux e ux=>e) _ _ r
structure PostI (m:Mod) (A:Around) (h0:Heap) (own:Bool) (s:Shared) (R:RC) (its:List V) (it:Value) (s':Shared):Prop where
 go:Go s s'
 kp:Kept [] s.heap s'.heap
 it:ItR m A h0 own s'.heap R its it
set_option tactic.hygienic true in
theorem rngL_len {a b st:Int} {its:List V} (e:rngL a b st=some its):its.length=(Builtin.Range.rangeSize a b st).toNat∧(st=1∨st= -1)∧∀(i:Nat),i<its.length→its[i]? =some (.int (a+i*st)):=by
 unfold rngL at e
 split at e
 ·rename_i h;subst h
  cases e
  refine⟨?_,.inl rfl,fun i hi=>?_⟩
  ·rw[length_map,length_range,rangeSize_one]
   split<;>lia
  ·rw[length_map,length_range]at hi
   simp[hi]
 split at e
 ·rename_i h;subst h
  cases e
  refine⟨?_,.inr rfl,fun i hi=>?_⟩
  ·rw[length_map,length_range]
   unfold Builtin.Range.rangeSize
   simp only[show¬(-1:Int)>0 by decide,if_false,Int.neg_neg,Int.ediv_one]
   split<;>lia
  ·rw[length_map,length_range]at hi
   rw[getElem?_map,List.getElem?_range hi]
   simp only[Option.map_some,Option.some.injEq,V.int.injEq]
   lia
 ·cases e
theorem walks_lt {I:Addr} {fp wr:List Addr} {n:Nat} {P:Nat→Value→Prop} {St:Nat→Heap→Prop} (W0:Walks m.prog m.w A I fp wr n P St):Walks m.prog m.w A I fp wr n (fun i v=>P i v∧i<n) St:=
 ⟨W0.sub,W0.frame,fun i s Q E hi st hQ=>W0.item i s Q E hi st fun v h' tk ht=>hQ v h' tk ⟨ht,hi⟩,W0.done,W0.self⟩
theorem iter_list (hA:AOK k A) (H:HsR C s.heap R hs) {h0:Heap} (kk:∀x,x∉R.bad→s.heap.get? x=none→h0.get? x=none) {own:Bool} {l:List V} {a:Addr} {vs:List Value} (hl:s.heap.PlainList a vs.toArray)
 (na:a∉R.hl) (nb:own=false→a∉R.bad) (hv:VRs s.heap R l vs):wpAny (m.M) A (pyIter (.ref a)) (PostI m A h0 own s R l) NoE s:=by
 refine wpAny_pyIter_list hl.isList ⟨⟨_,_,rfl⟩,(Kept.refl _ _).push _,?_⟩
 have hne:a≠s.heap.objs.size:=by obtain⟨n0,ho⟩:=hl;exact Nat.ne_of_lt (Heap.lt_size ho)
 have W:=Walks.list (prog:=m.prog) (w:=m.w) hA.hd s.heap.objs.size a hne vs.toArray
 rw[show vs.toArray.size=l.length by rw[size_toArray,hv.len]]at W
 refine⟨_,_,_,_,rfl,W,⟨⟨_,Heap.get?_push_size _ rfl,rfl,rfl⟩,hl.isList.push _⟩,fun i v hi=>?_,kk _ (size_bad H) (size_none _),fun i h hst=>⟨_,_,_,hst.1.choose_spec.1,hst.1.choose_spec.2.1,hst.1.choose_spec.2.2,by decide⟩,fun b hb hbI=>?_⟩
 ·obtain⟨x,h1,h2⟩:=hv.back (by simpa using hi)
  exact⟨x,h1,h2.push⟩
 ·simp only[mem_cons,not_mem_nil,or_false]at hb
  rcases hb with rfl|rfl
  ·exact absurd rfl hbI
  ·obtain⟨n0,ho⟩:=hl
   exact⟨na,⟨_,_,n0,Heap.get?_push_of_some _ ho,rfl⟩,nb⟩
inductive ItsR:W→List V→Prop where
 |l {l}:ItsR (.p (.lst l)) l
 |t {l}:ItsR (.p (.tup l)) l
 |r {a b st l}:rngL a b st=some l→ItsR (.p (.rng a b st)) l
 |s {x}:ItsR (.p (.str x)) (chars x)
 |f {l}:ItsR (.f l) l
 |o {l}:ItsR (.o l) l
 |i {l}:ItsR (.it l) l
theorem iter_ok {w0:W} {its:List V} {val:Value} {hs:HS} (e:ItsR w0 its) (hA:AOK k A) (H:HsR C s.heap R hs) {h0:Heap} (kk:∀x,x∉R.bad→s.heap.get? x=none→h0.get? x=none)
 (r:WR h0 s.heap R w0 val):wpAny (m.M) A (pyIter val) (PostI m A h0 (isO w0) s R its) NoE s:=by
 cases e with
 |l=>
  obtain⟨n,a,vs,rfl,na,hl,hv⟩:=r
  exact iter_list hA H kk hl (fun hb=>na (hl_bad _ hb)) (fun ux=>na) hv
 |t=>
  obtain⟨n,a,vs,rfl,na,hl,hv⟩:=r
  refine wpAny_pyIter_tuple hl ⟨⟨_,_,rfl⟩,(Kept.refl _ _).push _,?_⟩
  obtain⟨o,ho,hc,n0,hd⟩:=id hl
  have hne:a≠s.heap.objs.size:=Nat.ne_of_lt (Heap.lt_size ho)
  have W:=Walks.tuple (prog:=m.prog) (w:=m.w) hA.hd s.heap.objs.size a hne vs.toArray
  rw[show vs.toArray.size=its.length by rw[size_toArray,hv.len]]at W
  refine⟨_,_,_,_,rfl,W,⟨⟨_,Heap.get?_push_size _ rfl,rfl,rfl⟩,hl.push _⟩,fun i v hi=>?_,kk _ (size_bad H) (size_none _),fun i h hst=>⟨_,_,_,hst.1.choose_spec.1,hst.1.choose_spec.2.1,hst.1.choose_spec.2.2,by decide⟩,fun b hb hbI=>?_⟩
  ·obtain⟨x,h1,h2⟩:=hv.back (by simpa using hi)
   exact⟨x,h1,h2.push⟩
  ·simp only[mem_cons,not_mem_nil,or_false]at hb
   rcases hb with rfl|rfl
   ·exact absurd rfl hbI
   ·exact⟨fun hb=>na (hl_bad _ hb),⟨_,_,n0,Heap.get?_push_of_some _ ho,hd⟩,fun ux=>na⟩
 | @r a b st _ e=>
  obtain⟨x,t,u,z,rfl,nx,hr,hsm⟩:=r
  obtain⟨e1,e2,e3⟩:=rngL_len e
  refine wpAny_pyIter_range hr hsm ⟨⟨_,_,rfl⟩,(Kept.refl _ _).push _,?_⟩
  have W0:=Walks.range (prog:=m.prog) (w:=m.w) hA.hd s.heap.objs.size a st its.length
  have W:Walks m.prog m.w A s.heap.objs.size [s.heap.objs.size] [s.heap.objs.size] its.length (fun i v=>(∃t,v= .int (a+i*st) t)∧i<its.length) (fun i h=>IsRangeIter h s.heap.objs.size (a+(i:Nat)*st) ((its.length:Int)-(i:Nat)) st):=
   ⟨W0.sub,W0.frame,fun i s Q E hi st hQ=>W0.item i s Q E hi st fun v h' tk ht=>hQ v h' tk ⟨ht,hi⟩,W0.done,W0.self⟩
  refine⟨_,_,_,_,rfl,W,?_,fun i v ⟨⟨t,hi⟩,hlt⟩=>?_,kk _ (size_bad H) (size_none _),fun i h hst=>⟨_,_,_,hst,rfl,rfl,by decide⟩,fun b hb hbI=>?_⟩
  ·have:(its.length:Int)=Builtin.Range.rangeSize a b st:=by
    rw[e1,Int.toNat_of_nonneg]
    unfold Builtin.Range.rangeSize
    rcases e2 with rfl|rfl
    ·simp only[show(1:Int)>0 by decide,if_true,Int.ediv_one];split<;>lia
    ·simp only[show¬(-1:Int)>0 by decide,if_false,Int.neg_neg,Int.ediv_one];split<;>lia
   show IsRangeIter _ _ _ _ _
   unfold IsRangeIter
   refine Eq.trans (Heap.get?_push_size _ rfl) ?_
   simp[this,rawInt]
  ·subst hi
   exact⟨_,e3 i hlt,_,rfl⟩
  ·simp at hb;exact absurd hb hbI
 | @s x=>
  obtain⟨n,t,rfl⟩:=r
  have hl:x.cps.size=(chars x).length:=by simp[chars]
  have main:∀(o:Obj) (St:Nat→Heap→Prop),(∀i h,St i h→∃o n vs,h.get? s.heap.objs.size=some o∧o.cls= .type n∧o.data= .fields vs∧plainIter n=true)→Walks m.prog m.w A s.heap.objs.size [s.heap.objs.size] [s.heap.objs.size] x.cps.size (SignAt x) St→St 0 (s.heap.push o)→
   PostI m A h0 (isO (.p (.str x))) s R (chars x) (.ref s.heap.objs.size) { s with heap:=s.heap.push o }:=by
   intro o St hf W st
   rw[hl]at W
   refine⟨⟨_,_,rfl⟩,(Kept.refl _ _).push _,_,_,_,_,rfl,W,st,fun i v hi=>?_,kk _ (size_bad H) (size_none _),hf,fun b hb hbI=>?_⟩
   ·obtain⟨c,u,hc,rfl⟩:=hi
    refine⟨.str ⟨#[c]⟩,?_,(by show(1:Nat)≤_;rw[sizeLine_eq];decide),u,rfl⟩
    simp[chars,hc]
   ·simp at hb;exact absurd hb hbI
  cases ha:x.cps.all (· <128)
  ·exact wpAny_pyIter_wide ha (main _ _ (fun i h hst=>⟨_,_,_,hst.choose_spec.1,hst.choose_spec.2.1,hst.choose_spec.2.2,by decide⟩) (Walks.strWide hA.hd _ x t) ⟨_,Heap.get?_push_size _ rfl,rfl,rfl⟩)
  ·exact wpAny_pyIter_ascii ha (main _ _ (fun i h hst=>⟨_,_,_,hst.choose_spec.1,hst.choose_spec.2.1,hst.choose_spec.2.2,by decide⟩) (Walks.strAscii hA.hd _ x t) ⟨_,Heap.get?_push_size _ rfl,rfl,rfl⟩)
 |f=>
  obtain⟨n,a,vs,rfl,h1,h2,hl,hv⟩:=r
  refine iter_list (R:=R) hA H kk hl (fun hb=>h2 (hl_bad _ hb)) (fun ux=>h2) ?_
  exact VRs.step (R:=R.with "" a) (R':=R) (Kept.refl _ _) rfl (fun ux ux e=>e) (fun b o nb ux hb=>nb (by show b∈a::R.bad;exact mem_cons_of_mem _ hb)) _ _ hv
 |o=>
  obtain⟨n,x,a,vs,rfl,h1,hl,hv⟩:=r
  refine iter_list hA H kk hl (fun hb=>?_) (fun h=>by cases h) hv
  have:=List.nodup_append.mp H.nod
  exact this.2.2 a (mem_map.mpr ⟨_,h1,rfl⟩) a hb rfl
 |i=>
  obtain⟨n,I,a,vs,rfl,h1,h2,h3,hl,hv,hI⟩:=r
  refine PySem.wpAny_pyIter_revIter (i:=(vs.length:Int)-1) (l:=a) ⟨_,hI,rfl,rfl⟩ ⟨Go.refl _,Kept.refl _ _,?_⟩
  have hne:a≠I:=by
   intro hq;obtain⟨n0,ho⟩:=hl;rw[hq,hI]at ho
   have:=congrArg (fun o:Option Obj=>o.map (·.data)) ho
   simp at this
  have W:=Walks.listRev (prog:=m.prog) (w:=m.w) hA.hd I a hne vs.toArray
  have hlen:=hv.len
  rw[List.length_reverse]at hlen
  rw[show vs.toArray.size=its.length by rw[size_toArray,hlen]]at W
  rw[hlen]at hI
  refine⟨_,_,_,_,rfl,walks_lt W,⟨Nat.zero_le _,⟨_,hI,rfl,by simp[rawInt]⟩,hl.isList⟩,fun i v ⟨hi,hlt'⟩=>?_,h1,fun i h hst=>⟨_,_,_,hst.2.1.choose_spec.1,hst.2.1.choose_spec.2.1,hst.2.1.choose_spec.2.2,by decide⟩,fun b hb hbI=>?_⟩
  ·obtain⟨x,h5,h6⟩:=hv.back (by simpa using hi)
   refine⟨x,?_,h6⟩
   obtain⟨hlt,hx⟩:=List.getElem?_eq_some_iff.mp h5
   rw[List.length_reverse]at hlt
   rw[List.getElem_reverse]at hx
   refine Iff.mpr (List.getElem?_eq_some_iff) ?_
   refine⟨hlt',?_⟩
   rw[←hx]
   congr 1
   grind
  ·simp only[mem_cons,not_mem_nil,or_false]at hb
   rcases hb with rfl|rfl
   ·exact absurd rfl hbI
   ·obtain⟨n0,ho⟩:=hl
    exact⟨fun hb=>h3 (hl_bad _ hb),⟨_,_,n0,ho,rfl⟩,fun ux=>h3⟩
end
section
variable {m:Mod} {C:Addr} {h₀:Heap} {k:Nat} {A:Around} {s:Shared} {R:RC} {E:Value→Shared→Prop}
structure StoredL (env:Env) (ns:Names) (xs:List Str) (s s':Shared):Prop where
 go:Go s s'
 kp:∀b o,(∀x∈xs,¬OwnOf env ns x b)→s.heap.get? b=some o→s'.heap.get? b=some o
theorem Stored.toL {env ns x} {s s':Shared} (h:Stored env ns x s s') {xs:List Str} (hx:x∈xs):StoredL env ns xs s s':=by
 obtain⟨c,hc,hs⟩:=h.same
 exact⟨h.go,fun b o hb e=>(hs.2 b (fun q=>hb x hx (q▸hc))).trans e⟩
theorem StoredL.trans {env ns xs} {s s' s'':Shared} (a:StoredL env ns xs s s') (b:StoredL env ns xs s' s''):StoredL env ns xs s s'':=
 ⟨a.go.trans b.go,fun x o hx e=>b.kp x o hx (a.kp x o hx e)⟩
theorem StoredL.of_kept {env ns xs} {s s':Shared} (g:Go s s') (k:Kept [] s.heap s'.heap):StoredL env ns xs s s':=⟨g,fun b o ux e=>k b o (by simp) e⟩
theorem Stored.vrs {env ns x Γ hs} {s s':Shared} (S:SI C h₀ env ns Γ R hs s) (h:Stored env ns x s s'):(∀v val,VR s.heap R v val→VR s'.heap R v val)∧∀l vs,VRs s.heap R l vs→VRs s'.heap R l vs:=by
 refine hid fun G_ k_=>?_
 obtain⟨c,hc,hs⟩:=h.same
 obtain⟨o,ho,hn,hf⟩:=S.var.own_obj hc.own
 refine k_ ?_
 exact VR.other hs.extBut ho hn (fun ux=>hf)
noncomputable def tNames:Expr→List Str
 | .Name x _=>[x]
 | .Tuple ts _ _=>dirNames ts
 |_=>[]
inductive BindsR:List Expr→List V→Gam→Gam→Prop where
 |nil {Γ}:BindsR [] [] Γ Γ
 |cons {x p r v vs Γ Γ1}:BindsR r vs (setG x (.p v) Γ) Γ1→BindsR (.Name x p::r) (v::vs) Γ Γ1
inductive BindR:Expr→V→Gam→Gam→Prop where
 |name {x p v Γ}:BindR (.Name x p) v Γ (setG x (.p v) Γ)
 |tup {ts c p l Γ Γ1}:BindsR ts l Γ Γ1→BindR (.Tuple ts c p) (.tup l) Γ Γ1
theorem bindNs_ok {env ns hs ts l Γ Γ1} (e:BindsR ts l Γ Γ1):∀{vals:List Value} {s:Shared},(∀x∈dirNames ts,isVar ns x=true)→SI C h₀ env ns Γ R hs s→VRs s.heap R l vals→
 ∀xs,(∀x∈dirNames ts,x∈xs)→wpAny m.M A (assignInOrder ((assignEach ts env).map (·.2)) vals) (fun ux s'=>SI C h₀ env ns Γ1 R hs s'∧StoredL env ns xs s s') NoE s:=by
 induction e with
 |nil=>exact fun ux S hv ux ux=>by cases hv;exact wpAny_pure ⟨S,Go.refl _,fun ux ux ux e=>e⟩
 | @cons x p r v vs Γ Γ1 _ ih=>
  rintro _ s hx S ⟨val,vr,rfl,hr,hrs⟩ xs hxs
  refine assignInOrder_cons (wpAny_assign_Name (noE (Q:=fun ux s'=>SI C h₀ env ns (setG x (.p v) Γ) R hs s'∧Stored env ns x s s') ?_ fun _ s1 ⟨S1,st⟩=>?_))
  ·exact store_ok (hx x (.head _)) S (sl:= .p v) ⟨val,rfl,hr⟩ fun s' S' st=>⟨S',st⟩
  ·exact noE (ih (fun y hy=>hx y (.tail _ hy)) S1 ((st.vrs S).2 _ _ hrs) xs fun y hy=>hxs y (.tail _ hy)) fun _ s2 ⟨S2,st2⟩=>⟨S2,(st.toL (hxs x (.head _))).trans st2⟩
theorem bindNs_len {ts l Γ Γ1} (e:BindsR ts l Γ Γ1) (env:Env):(assignEach ts env).length=l.length∧(assignEach ts env).findIdx? (·.1)=none:=by
 induction e with
 |nil=>exact⟨rfl,rfl⟩
 | @cons x p r v vs Γ Γ1 _ ih=>
  refine⟨?_,?_⟩
  ·exact congrArg (· +1) ih.1
  ·show List.findIdx? _ ((false,_)::assignEach r env)=none
   rw[List.findIdx?_cons,ih.2];rfl
theorem bindT_ok {env ns Γ Γ1 hs} {t:Expr} {v:V} {val:Value} (e:BindR t v Γ Γ1) (hx:∀x∈tNames t,isVar ns x=true) (hA:AOK k A) (S:SI C h₀ env ns Γ R hs s) (hv:VR s.heap R v val):
 wpAny m.M A (assign t env val) (fun ux s'=>SI C h₀ env ns Γ1 R hs s'∧StoredL env ns (tNames t) s s') NoE s:=by
 cases e with
 | @name x p=>exact wpAny_assign_Name (store_ok (hx x (.head _)) S (sl:= .p v) ⟨val,rfl,hv⟩ fun s' S' st=>⟨S',st.toL (.head _)⟩)
 | @tup ts _ _ l _ _ e=>
  obtain⟨n,a,vs,rfl,na,hl,hvs⟩:=hv
  obtain⟨h1,h2⟩:=bindNs_len e env
  refine PySem.wpAny_assign_Tuple hA.hd hl (by simp only[h1,size_toArray,hvs.len]) h2 fun h' hk=>?_
  have k0:Kept [] s.heap h':=fun b o ux e=>hk b o (Nat.ne_of_lt (Heap.lt_size e)) e
  refine noE (bindNs_ok e hx (S.tr (Tr.own S.hdr ⟨_,_,rfl⟩ k0)) (hvs.keep k0) _ fun x hx=>hx) fun ux s2 hp1=>?_
  obtain⟨S2,st2⟩:=hp1
  exact⟨S2,(StoredL.of_kept ⟨_,_,rfl⟩ k0).trans st2⟩
theorem letGo_ok {t:Expr} {I:Addr} {v:Value} {o:Obj} {n:String} {vs:Array Value} {Q:Unit→Shared→Prop} (ho:s.heap.get? I=some o) (hc:o.cls= .type n) (hd:o.data= .fields vs) (hn:plainIter n=true)
 (h:Q () s):wpAny (m.M) A (letOwnedTupleGo t (.ref I) v) Q E s:=by
 have core:wpAny (m.M) A (do
  let (.ref r,.ref a):=(Value.ref I,v)|return
  let o←load r
  match o.cls,o.data with
  | .type n,.fields vs=>
   if["enumerate","zip","dict_itemiterator","dict_reverseitemiterator","odict_iterator","itertools.zip_longest","itertools.pairwise"].contains n&&vs[0]? ==some (rawInt a)then
    rule "for.unpacks-the-owned-tuple"
    updateField r 0 .none
  |_,_=>pure ()) Q E s:=by
  cases v<;>try exact wpAny_pure h
  refine wpAny_bind (wpAny_load ho ?_)
  rw[hc,hd]
  dsimp only
  have:(["enumerate","zip","dict_itemiterator","dict_reverseitemiterator","odict_iterator","itertools.zip_longest","itertools.pairwise"].contains n)=false:=by
   unfold plainIter at hn
   rw[Bool.and_eq_true]at hn
   simpa using hn.2
  rw[this]
  exact wpAny_pure h
 cases t<;>first|exact core|exact wpAny_pure h
end
noncomputable def clF (f:Str→Option Addr):Names→List (Str×Addr)→List (Str×Addr)
 |[],acc=>acc
 |(n,k)::r,acc=>clF f r (if k== .free then(match f n with|some c=>(n,c)::acc| .none=>acc)else acc)
theorem clF_cons {f:Str→Option Addr} {n:Str} {k:NameKind} {r:Names} {acc:List (Str×Addr)}:clF f ((n,k)::r) acc=clF f r (if k== .free then(match f n with|some c=>(n,c)::acc| .none=>acc)else acc):=rfl
theorem closure_go {env:Env} (g:Str×NameKind→List (Str×Addr)→Sem (ForInStep (List (Str×Addr)))) (hg:∀n k acc,g (n,k) acc=if k== .free then(do let c←cellOf env n;pure (.yield ((n,c)::acc)))else pure (.yield acc)):
 ∀(names:Names) (acc:List (Str×Addr)),(∀x∈names,x.2= .free→(env.cells.lookup x.1).isSome=true)→(forIn names acc g:Sem (List (Str×Addr)))=pure (clF (fun x=>env.cells.lookup x) names acc):=by
 intro v0_
 induction v0_ with
 |nil=>
  intro acc _
  simp only[List.forIn_nil];rfl
 |cons p_ r ih_=>
  obtain⟨n,k⟩:=p_
  intro acc h
  rw[List.forIn_cons,hg]
  rw[clF_cons]
  by_cases hk:(k==NameKind.free)=true
  ·rw[if_pos hk,if_pos hk]
   have h1:=h (n,k) mem_cons_self (by simpa using hk)
   obtain⟨c,hc⟩:=Option.isSome_iff_exists.mp h1
   dsimp only at hc
   unfold cellOf
   rw[hc]
   exact ih_ _ fun x hx=>h x (mem_cons_of_mem _ hx)
  ·rw[if_neg hk,if_neg hk]
   exact ih_ _ fun x hx=>h x (mem_cons_of_mem _ hx)
theorem closure_ok {env:Env} {scope:Scope} (h:∀x∈scope.names,x.2= .free→(env.cells.lookup x.1).isSome=true):closureFor scope env=pure (clF (fun x=>env.cells.lookup x) scope.names []):=by
 unfold closureFor
 exact congrArg (· >>=fun r=>(pure r:Sem _)) (closure_go _ (fun n k acc=>by cases hk:k==NameKind.free<;>simp[hk]) scope.names [] h)
set_option tactic.hygienic true in
theorem clF_mem {f:Str→Option Addr}:∀{names:Names} {acc:List (Str×Addr)} {p},p∈clF f names acc→p∈acc∨(f p.1=some p.2∧(p.1,NameKind.free)∈names):=by
 intro v0_
 induction v0_ with
 |nil=>
  intro acc p h
  exact .inl h
 |cons p_ r ih_=>
  obtain⟨n,k⟩:=p_
  intro acc p h
  rw[clF_cons]at h
  rcases ih_ h with q|q
  ·split at q
   ·rename_i hk
    have hk:=eq_of_beq hk
    subst hk
    split at q
    ·rename_i c hc
     rcases mem_cons.mp q with rfl|q
     ·exact .inr ⟨hc,mem_cons_self⟩
     ·exact .inl q
    ·exact .inl q
   ·exact .inl q
  ·exact .inr ⟨q.1,mem_cons_of_mem _ q.2⟩
theorem clF_sub {f:Str→Option Addr}:∀{names:Names} {acc:List (Str×Addr)} {p},p∈acc→p∈clF f names acc:=by
 intro v0_
 induction v0_ with
 |nil=>
  intro acc p h
  exact h
 |cons p_ r ih_=>
  obtain⟨n,k⟩:=p_
  intro acc p h
  rw[clF_cons]
  refine ih_ ?_
  split
  ·split
   ·exact mem_cons_of_mem _ h
   ·exact h
  ·exact h
theorem clF_has {f:Str→Option Addr}:∀{names:Names} {acc:List (Str×Addr)} {x c},(x,NameKind.free)∈names→f x=some c→(x,c)∈clF f names acc:=by
 intro l_
 induction l_ with
 |nil=>intro acc x c h;cases h
 |cons p_ r ih=>
  intro acc x c h e
  obtain⟨n,k⟩:=p_
  rw[clF_cons]
  rcases mem_cons.mp h with q|q
  ·cases q
   rw[if_pos (show(NameKind.free==NameKind.free)=true from rfl),e]
   exact clF_sub mem_cons_self
  ·exact ih q e
theorem lookup_of_mem {x:Str}:∀{l:List (Str×Addr)} {c},(x,c)∈l→∃c',l.lookup x=some c':=by
 intro l_
 induction l_ with
 |nil=>intro c h;cases h
 |cons p_ r ih=>
  intro c h
  obtain⟨y,d⟩:=p_
  rw[lookup_cons]
  by_cases hy:x==y
  ·rw[hy];exact⟨_,rfl⟩
  ·rw[show(x==y)=false by simpa using hy]
   rcases mem_cons.mp h with q|q
   ·cases q;simp at hy
   ·exact ih q
theorem clF_lookup {f:Str→Option Addr} {names:Names} {x c} (h:(x,NameKind.free)∈names) (e:f x=some c):(clF f names []).lookup x=some c:=by
 obtain⟨c',hc⟩:=lookup_of_mem (clF_has (acc:=[]) h e)
 rcases clF_mem (mem_of_lookup hc)with q|q
 ·cases q
 ·(refine Eq.trans (hc) ?_;refine Eq.trans (Eq.symm (q.1)) ?_);exact e
theorem cellsFrom_app:∀(names:Names) (n:Nat) (acc:List (Str×Addr)),cellsFrom n names acc=cellsFrom n names []++acc:=by
 intro v0_
 induction v0_ with
 |nil=>
  intro n acc
  exact rfl
 |cons p_ r ih_=>
  obtain⟨x,k⟩:=p_
  intro n acc
  unfold cellsFrom
  split
  ·rw[ih_ (n+1) ((x,n)::acc),ih_ (n+1) [(x,n)]];simp
  ·exact ih_ n acc
set_option tactic.hygienic true in
theorem cellsFrom_mem:∀{names:Names} {n:Nat} {acc:List (Str×Addr)} {p},p∈cellsFrom n names acc→p∈acc∨(p.1,NameKind.cell)∈names:=by
 intro v0_
 induction v0_ with
 |nil=>
  intro n acc p h
  exact .inl h
 |cons p_ r ih_=>
  obtain⟨x,k⟩:=p_
  intro n acc p h
  unfold cellsFrom at h
  split at h
  ·rename_i hk
   have hk:=eq_of_beq hk
   subst hk
   rcases ih_ h with q|q
   ·rcases mem_cons.mp q with rfl|q
    ·exact .inr mem_cons_self
    ·exact .inl q
   ·exact .inr (mem_cons_of_mem _ q)
  ·rcases ih_ h with q|q
   ·exact .inl q
   ·exact .inr (mem_cons_of_mem _ q)
theorem cellsFrom_has:∀{names:Names} {n:Nat} {acc:List (Str×Addr)} {x},(x,NameKind.cell)∈names→∃c,(x,c)∈cellsFrom n names acc:=by
 intro l_
 induction l_ with
 |nil=>intro n acc x h;cases h
 |cons p_ r ih=>
  intro n acc x h
  obtain⟨y,k⟩:=p_
  unfold cellsFrom
  rcases mem_cons.mp h with q|q
  ·cases q
   rw[if_pos (show(NameKind.cell==NameKind.cell)=true from rfl),cellsFrom_app]
   exact⟨n,mem_append_right _ mem_cons_self⟩
  ·split
   ·exact ih q
   ·exact ih q
section
variable {M:Model} {A:Around} {E:Value→Shared→Prop} {s:Shared}
theorem compEnv_go {scope:Scope} {globals:Addr} {cl:List (Str×Addr)} {qual:Str} {env:Env} {Q:Env→Shared→Prop}
 (hQ:Q { scope,locals:=s.heap.objs.size,globals,cells:=cellsFrom (s.heap.objs.size+1) scope.names []++cl,qual,func:=none,code:=env.code,frame:=env.frame,builtins:=env.builtins }
  { s with heap:=pushCells (s.heap.push { cls:= .type "dict",data:= .dict #[] }) scope.names }):
 wpAny M A (newFunctionEnv scope globals cl [] qual none .none (some env)) Q E s:=by
 simp only[newFunctionEnv,Option.isSome_some,if_true]
 refine wpAny_bind (wpAny_alloc ?_)
 refine wpAny_bind (wpAny_layCells _ (fun name kind cells=>by cases kind==NameKind.cell<;>rfl) _ _ _ _ ?_)
 rw[show({ s with heap:=s.heap.push { cls:= .type "dict",data:= .dict #[] } }:Shared).heap.objs.size=s.heap.objs.size+1 from Heap.size_push ..,cellsFrom_app]
 exact wpAny_bind (wpAny_pure (wpAny_pure hQ))
end
noncomputable def Wk (Γ Γ':Gam):Prop:=∀x sl,Γ'.lookup x=some sl→∃sl0,Γ.lookup x=some sl0∧(sl0= .any∨sl0=sl)
theorem Wk.refl (Γ):Wk Γ Γ:=fun ux sl e=>⟨sl,e,.inr rfl⟩
theorem Wk.set {Γ Γ':Gam} {x:Str} {sl:Slot} (h:Wk Γ Γ') (hx:Γ.lookup x=some .any):Wk Γ (setG x sl Γ'):=by
 intro y sl' e
 by_cases hy:y=x
 ·subst hy;exact⟨_,hx,.inl rfl⟩
 ·rw[setG_other hy]at e;exact h y sl' e
theorem Wk.binds {Γ Γ1 Γ2:Gam} {ts:List Expr} {l:List V} (e:BindsR ts l Γ1 Γ2) (hx:∀x∈dirNames ts,Γ.lookup x=some .any) (h:Wk Γ Γ1):Wk Γ Γ2:=by
 induction e with
 |nil=>exact h
 |cons _ ih=>exact ih (fun y hy=>hx y (.tail _ hy)) (h.set (hx _ (.head _)))
theorem Wk.bind {Γ Γ2:Gam} {t:Expr} {v:V} (e:BindR t v Γ Γ2) (hx:∀x∈tNames t,Γ.lookup x=some .any):Wk Γ Γ2:=by
 cases e with
 |name=>exact(Wk.refl Γ).set (hx _ (.head _))
 |tup e=>exact(Wk.refl Γ).binds e hx
theorem nod_eq:∀{l:List (Str×Addr)} {p q:Str×Addr},(l.map (·.2)).Nodup→p∈l→q∈l→p.2=q.2→p=q:=by
 intro l_
 induction l_ with
 |nil=>intro p q h hp;cases hp
 |cons x r ih=>
  intro p q h hp hq e
  rw[map_cons,List.nodup_cons]at h
  rcases mem_cons.mp hp with h1|h1<;>rcases mem_cons.mp hq with h2|h2
  ·rw[h1,h2]
  ·exact absurd (mem_map.mpr ⟨q,h2,by rw[←h1,e]⟩) h.1
  ·exact absurd (mem_map.mpr ⟨p,h1,by(rw[←h2];exact(e))⟩) h.1
  ·exact ih h.2 h1 h2 e
section
variable {m:Mod} {C:Addr} {h₀:Heap} {k:Nat} {A:Around} {s:Shared} {R:RC} {E:Value→Shared→Prop}
theorem VarR.weak {env ns Γ Γ'} {h:Heap} (V:VarR env ns Γ' R h) (hw:Wk Γ Γ'):VarR env ns Γ R h where
 kind:=V.kind
 names:=V.names
 glob:=V.glob
 blt:=V.blt
 loc:=by
  obtain⟨n0,hm,hall⟩:=V.loc
  refine⟨n0,hm,fun x hx=>?_⟩
  obtain⟨sl,e,q⟩:=hall x hx
  obtain⟨sl0,e0,h0|h0⟩:=hw x sl e
  ·exact⟨sl0,e0,by subst h0;trivial⟩
  ·exact⟨sl0,e0,by subst h0;exact q⟩
 cel:=by
  intro x hx
  obtain⟨c,ov,sl,e1,e2,e,q⟩:=V.cel x hx
  obtain⟨sl0,e0,h0|h0⟩:=hw x sl e
  ·exact⟨c,ov,sl0,e1,e2,e0,by subst h0;trivial⟩
  ·exact⟨c,ov,sl0,e1,e2,e0,by subst h0;exact q⟩
 inj:=V.inj
theorem SI.weak {env ns Γ Γ' hs} (S:SI C h₀ env ns Γ' R hs s) (hw:Wk Γ Γ'):SI C h₀ env ns Γ R hs s:=
 ⟨S.base,S.nb,S.var.weak hw,S.hdr,S.apart,S.fresh⟩
theorem SI.iter {env ns Γ hs} (S:SI C h₀ env ns Γ R hs s) {I:Addr} {o:Obj} {n:String} {vs:Array Value} {h':Heap} {tks:Nat} (ho:s.heap.get? I=some o) (hc:o.cls= .type n) (hd:o.data= .fields vs) (hn:plainIter n=true)
 (hI:h₀.get? I=none) (hk:Heap.ExtBut I s.heap h'):SI C h₀ env ns Γ R hs { s with heap:=h',toks:=tks }∧(∀v val,VR s.heap R v val→VR h' R v val)∧∀l vs,VRs s.heap R l vs→VRs h' R l vs:=by
 have hseq:∀vs n,o.data≠.seq vs n:=by rw[hd];intros;simp
 have hrng:Odd o→∀vs,o.data≠.fields vs:=by
  intro e;unfold Odd at e;rw[hc]at e
  rcases e with e|e|e<;>cases e<;>(unfold plainIter at hn;simp at hn)
 have V:=S.var
 refine⟨⟨fun b ob e=>hk b _ (fun q=>by subst q;rw[hI]at e;cases e) (S.base b ob e),S.nb,⟨V.kind,V.names,V.glob,V.blt,?_,?_,V.inj⟩,S.hdr.other hk ho hseq hrng fun p hp=>?_,S.apart,S.fresh⟩,VR.other hk ho hseq hrng⟩
 ·refine hid fun G_ k_=>?_
  obtain⟨n0,⟨oL,es,ep,hoL,hdL,r⟩,hall⟩:=V.loc
  refine k_ ?_
  refine⟨n0,⟨oL,es,ep,hk _ _ (fun q=>?_) hoL,hdL,r⟩,fun x hx=>?_⟩
  ·rw[q,ho]at hoL;cases hoL;rw[hd]at hdL;cases hdL
  ·obtain⟨sl,e,q⟩:=hall x hx
   exact⟨sl,e,q.other hk ho hseq hrng⟩
 ·intro x hx
  refine hid fun G_ k_=>?_
  obtain⟨c,ov,sl,e1,⟨oc,h1,h2⟩,e3,q⟩:=V.cel x hx
  refine k_ ?_
  refine⟨c,ov,sl,e1,⟨oc,hk _ _ (fun q=>?_) h1,h2⟩,e3,q.other hk ho hseq hrng⟩
  rw[q,ho]at h1;cases h1;rw[hd]at h2;cases h2
 ·obtain⟨r,hr⟩:=List.mem_iff_getElem?.mp hp
  have hlt:=(List.getElem?_eq_some_iff.mp hr).1
  have:∃l,hs[r]? =some l:=by rw[S.hdr.len]at hlt;exact⟨hs[r],List.getElem?_eq_some_iff.mpr ⟨hlt,rfl⟩⟩
  obtain⟨l,hl⟩:=this
  obtain⟨_,⟨ep,hsh,t,h1,h2,h3,h4⟩,_⟩:=S.hdr.at_ r p.1 p.2 l hr hl
  refine⟨fun q=>?_,fun q=>?_⟩
  ·rw[←q,ho]at h3;cases h3;cases hc
  ·rw[←q,ho]at h4;cases h4;cases hd
theorem SI.turn {env ns Γ hs} (S:SI C h₀ env ns Γ R hs s) {x:Str} {a:Addr} {h':Heap} {tks:Nat} (hm:(x,a)∈R.O) (hx:Γ.lookup x=none) (hk:Heap.ExtBut a s.heap h') (hn:∃o,h'.get? a=some o∧∃vs n,o.data= .seq vs n):
 SI C h₀ env ns Γ R hs { s with heap:=h',toks:=tks }∧(∀v val,VR s.heap R v val→VR h' R v val)∧∀l vs,VRs s.heap R l vs→VRs h' R l vs:=by
 refine hid fun G_ k_=>?_
 obtain⟨oa,hoa,vsa,na,hda⟩:=S.hdr.own _ hm
 have hab:a∈R.bad:=mem_append_left _ (mem_map.mpr ⟨_,hm,rfl⟩)
 have k0:Kept R.bad s.heap h':=fun b o hb e=>hk b o (fun q=>hb (q▸hab)) e
 have vr:(∀v val,VR s.heap R v val→VR h' R v val):=fun v val r=>VR.step k0 rfl (fun ux ux e=>e) (fun ux ux e ux=>e) _ _ r
 have vrs:(∀v val,VRs s.heap R v val→VRs h' R v val):=fun v val r=>VRs.step k0 rfl (fun ux ux e=>e) (fun ux ux e ux=>e) _ _ r
 have nod:=List.nodup_append.mp S.hdr.nod
 have slot:∀y sl ov,Γ.lookup y=some sl→SlotR s.heap R y sl ov→SlotR h' R y sl ov:=by
  intro y sl ov hy q
  cases sl with
  |any=>trivial
  |p v=>obtain⟨val,e,z⟩:=q;exact⟨val,e,vr _ _ z⟩
  |o l=>
   refine hid fun G_ k_=>?_
   obtain⟨n,b,vs,e,hb,⟨n0,ho⟩,z⟩:=q
   refine k_ ?_
   refine⟨n,b,vs,e,hb,⟨n0,hk b _ (fun q=>?_) ho⟩,vrs _ _ z⟩
   subst q
   have:y=x:=by
    exact congrArg Prod.fst (nod_eq nod.1 hb hm rfl)
   subst this;rw[hx]at hy;cases hy
 have V:=S.var
 refine k_ ?_
 refine⟨⟨fun b ob e=>hk b _ (fun q=>S.nb b ob e (q▸hab)) (S.base b ob e),S.nb,⟨V.kind,V.names,V.glob,V.blt,?_,?_,V.inj⟩,⟨S.hdr.len,?_,S.hdr.nod,?_,S.hdr.tabs.at fun b ob h1 _ ⟨us,h3⟩=>hk b ob (fun e=>by rw[e,hoa]at h1;cases h1;rw[hda]at h3;cases h3) h1⟩,S.apart,S.fresh⟩,vr,vrs⟩
 ·refine hid fun G_ k_=>?_
  obtain⟨n0,⟨oL,es,ep,hoL,hdL,r⟩,hall⟩:=V.loc
  refine k_ ?_
  refine⟨n0,⟨oL,es,ep,hk _ _ (fun q=>?_) hoL,hdL,r⟩,fun x hx=>?_⟩
  ·rw[q,hoa]at hoL;cases hoL;rw[hda]at hdL;cases hdL
  ·obtain⟨sl,e,q⟩:=hall x hx
   exact⟨sl,e,slot _ _ _ e q⟩
 ·intro x hx
  refine hid fun G_ k_=>?_
  obtain⟨c,ov,sl,e1,⟨oc,h1,h2⟩,e3,q⟩:=V.cel x hx
  refine k_ ?_
  refine⟨c,ov,sl,e1,⟨oc,hk _ _ (fun q=>?_) h1,h2⟩,e3,slot _ _ _ e3 q⟩
  rw[q,hoa]at h1;cases h1;rw[hda]at h2;cases h2
 ·intro r i b l e1 e2
  refine hid fun G_ k_=>?_
  obtain⟨n,⟨ep,hsh,t,h1,h2,h3,h4⟩,vs,⟨n0,h5⟩,hv⟩:=S.hdr.at_ r i b l e1 e2
  have hbl:b∈R.hl:=mem_append_left _ (mem_map.mpr ⟨_,mem_of_getElem? e1,rfl⟩)
  refine k_ ?_
  refine⟨n,⟨ep,hsh,t,h1,h2,k0 _ _ h1 h3,k0 _ _ h2 h4⟩,vs,⟨n0,hk _ _ (fun q=>?_) h5⟩,vrs _ _ hv⟩
  exact nod.2.2 a (mem_map.mpr ⟨_,hm,rfl⟩) b hbl q.symm
 ·intro p hp
  by_cases hq:p.2=a
  ·rw[hq];exact hn
  ·obtain⟨o,ho,r⟩:=S.hdr.own p hp
   exact⟨o,hk _ _ hq ho,r⟩
noncomputable def IfsR (m:Mod) (k:Nat) (ns:Names) (Γ:Gam) (hs:HS) (ifs:List Expr) (b:Bool) (hs':HS):Prop:=
 Fr m k ns Γ hs (fun env=>forIn ifs true fun c r=>if r=true then do let ok←isTrue c env (eval c env);pure (ForInStep.yield ok)else pure (ForInStep.yield r)) fun s R=>PostB m.C s R b hs'
theorem ifs_nil {ns Γ hs}:IfsR m k ns Γ hs [] true hs:=fun A env R s ux ux S=>by dsimp only;simp only[List.forIn_nil];exact wpAny_pure ⟨rfl,R,Tr.refl S.hdr⟩
theorem ifs_one {ns Γ hs c b hs1} (h:TsR m k ns Γ hs c b hs1):IfsR m k ns Γ hs [c] b hs1:=fun A env R s hA t S=>by
 dsimp only
 rw[List.forIn_cons,if_pos rfl]
 refine wpAny_bind (wpAny_bind (noE (h A env R s hA t S) fun b1 s1 p=>wpAny_pure ?_))
 dsimp only
 simp only[List.forIn_nil];exact wpAny_pure p
end
section
variable {h h':Heap} {R R':RC} {B:Addr→Prop} (hk:∀b o,b∉R.bad→¬B b→h.get? b=some o→h'.get? b=some o)
 (hB:∀b o,B b→h.get? b=some o→(∀vs n,o.data≠.seq vs n)∧(Odd o→∀vs,o.data≠.fields vs))
 (ht:R'.tk=R.tk) (hρ:∀(r:Nat) (p:(Addr×Addr)×Addr),R.ρ[r]? =some p→R'.ρ[r]? =some p)
 (hb:∀b o,b∉R.bad→h.get? b=some o→b∉R'.bad)
include hk hB ht hρ hb
theorem VR.stepB:∀(x:V) (v:Value),VR h R x v→VR h' R' x v:=VR.tp ht hρ fun b o nb e st=>⟨hk b o nb (fun q=>by
 rcases st with⟨_,_,p⟩|⟨p1,_,p⟩
 ·exact(hB b o q e).1 _ _ p
 ·exact(hB b o q e).2 p1 _ p) e,hb b o nb e⟩
theorem VRs.stepB:∀(l:List V) (vs:List Value),VRs h R l vs→VRs h' R' l vs:=VRs.tp (VR.stepB hk hB ht hρ hb)
end
structure CStep (Z:Addr→Prop) (s:Shared) (R:RC) (s':Shared) (R':RC):Prop where
 st:StepR s.heap R R'
 go:Go s s'
 kp:∀b o,b∉R.hl→¬Z b→s.heap.get? b=some o→s'.heap.get? b=some o
 ex:∀b,s'.heap.get? b=none→s.heap.get? b=none
theorem CStep.refl {Z s R}:CStep Z s R s R:=⟨StepR.refl _ _,Go.refl _,fun ux ux ux ux e=>e,fun ux e=>e⟩
theorem Tr.ex {C s R s' R' hs'} (t:Tr C s R s' R' hs'):∀b,s'.heap.get? b=none→s.heap.get? b=none:=fun b e=>by
 refine Kept.none t.kp (fun hb=>?_) e
 obtain⟨o,ho,_⟩:=t.hd.seqs b (t.st.sub _ hb)
 rw[e]at ho;cases ho
theorem CStep.ofTr {C Z s R s' R' hs'} (t:Tr C s R s' R' hs'):CStep Z s R s' R':=⟨t.st,t.go,fun b o h ux e=>t.kp b o h e,t.ex⟩
theorem CStep.mono {Z Z':Addr→Prop} {s R s' R'} (t:CStep Z s R s' R') (h:∀b,Z b→Z' b):CStep Z' s R s' R':=⟨t.st,t.go,fun b o h1 h2 e=>t.kp b o h1 (fun q=>h2 (h b q)) e,t.ex⟩
theorem CStep.trans {Z s R s' R' s'' R''} (a:CStep Z s R s' R') (b:CStep Z s' R' s'' R''):CStep Z s R s'' R'' where
 st:=a.st.trans b.st a.ex
 go:=a.go.trans b.go
 kp:=fun x o h1 h2 e=>b.kp x o (fun q=>by
  rcases a.st.hl x q with q|q
  ·exact h1 q
  ·rw[e]at q;cases q) h2 (a.kp x o h1 h2 e)
 ex:=fun x e=>a.ex x (b.ex x e)
section
variable {m:Mod} {C:Addr} {h₀:Heap} {k:Nat} {A:Around} {s:Shared} {R:RC} {E:Value→Shared→Prop}
inductive Acc (D:Addr) (L:List V) (s:Shared) (R:RC):Prop
 |mk (m:(("":Str),D)∈R.O) (vs:List Value):s.heap.PlainList D vs.toArray→VRs s.heap R L vs→Acc D L s R
noncomputable def TZ (env:Env) (ns:Names) (xs:List Str) (b:Addr):Prop:=∃x∈xs,OwnOf env ns x b
theorem SI.tz {env ns Γ hs} (S:SI C h₀ env ns Γ R hs s) {xs:List Str}:∀b o,TZ env ns xs b→s.heap.get? b=some o→(∀vs n,o.data≠.seq vs n)∧(Odd o→∀vs,o.data≠.fields vs):=by
 intro b o q ho
 obtain⟨x,hx,hc⟩:=q
 refine hid fun G_ k_=>?_
 obtain⟨o',ho',h1,h2⟩:=S.var.own_obj hc.own
 rw[ho]at ho';cases ho'
 refine k_ ?_
 exact⟨h1,fun ux=>h2⟩
theorem Acc.bad {D L} (a:Acc D L s R):D∈R.bad:=mem_append_left _ (mem_map.mpr ⟨_,a.1,rfl⟩)
theorem Acc.tr {D L s' R' hs'} (a:Acc D L s R) (nod:R.bad.Nodup) (t:Tr C s R s' R' hs'):Acc D L s' R':=by
 obtain⟨h1,vs,⟨n0,h2⟩,h3⟩:=a
 refine⟨by rw[t.st.2];exact h1,vs,⟨n0,t.kp D _ (fun hb=>?_) h2⟩,h3.next t.kp t.st⟩
 exact(List.nodup_append.mp nod).2.2 D (mem_map.mpr ⟨_,h1,rfl⟩) D hb rfl
theorem Acc.stored {env ns Γ hs xs} {D:Addr} {L:List V} {s':Shared} (a:Acc D L s R) (S:SI C h₀ env ns Γ R hs s) (t:StoredL env ns xs s s'):Acc D L s' R:=by
 refine hid fun G_ k_=>?_
 obtain⟨h1,vs,⟨n0,h2⟩,h3⟩:=a
 refine k_ ?_
 refine⟨h1,vs,⟨n0,t.kp D _ (fun x hx hc=>?_) h2⟩,?_⟩
 ·exact(S.tz D _ ⟨x,hx,hc⟩ h2).1 _ _ rfl
 ·exact VRs.stepB (B:=TZ env ns xs) (fun b o ux hb e=>t.kp b o (fun x hx hc=>hb ⟨x,hx,hc⟩) e) S.tz rfl (fun ux ux e=>e) (fun ux ux e ux=>e) _ _ h3
theorem StoredL.cstep {env ns xs Γ' hs} {s':Shared} {Z:Addr→Prop} (t:StoredL env ns xs s s') (S':SI C h₀ env ns Γ' R hs s') (hZ:∀b,TZ env ns xs b→Z b):CStep Z s R s' R where
 st:=StepR.refl _ _
 go:=t.go
 kp:=fun b o ux hb e=>t.kp b o (fun x hx hc=>hb (hZ b ⟨x,hx,hc⟩)) e
 ex:=fun b e=>by
  by_cases h:TZ env ns xs b
  ·obtain⟨x,hx,hc⟩:=h
   obtain⟨o,ho,_⟩:=S'.var.own_obj hc.own
   rw[e]at ho;cases ho
  ·cases q:s.heap.get? b with
   |none=>rfl
   |some o=>rw[t.kp b o (fun x hx hc=>h ⟨x,hx,hc⟩) q]at e;cases e
inductive ItD (m:Mod) (A:Around) (h₀:Heap) (D:Addr) (h:Heap) (R:RC) (its:List V) (it:Value):Prop
 |mk (I:Addr) (fp:List Addr) (P:Nat→Value→Prop) (St:Nat→Heap→Prop):it= .ref I→Walks m.prog m.w A I fp [I] its.length P St→St 0 h→(∀i v,P i v→∃x,its[i]? =some x∧VR h R x v)→(∀i h,St i h→∃o n vs,h.get? I=some o∧o.cls= .type n∧o.data= .fields vs∧plainIter n=true)→
  h₀.get? I=none→(∀b∈fp,b≠I→b∉R.hl∧b≠D∧∃o vs n,h.get? b=some o∧o.data= .seq vs n)→ItD m A h₀ D h R its it
inductive TurnP (C:Addr) (h₀:Heap) (Z:Addr→Prop) (env:Env) (ns:Names) (Γ:Gam) (D:Addr) (s:Shared) (R:RC) (hs':HS) (L:List V) (s':Shared):Prop
 |mk (R':RC):CStep Z s R s' R'→SI C h₀ env ns Γ R' hs' s'→Acc D L s' R'→TurnP C h₀ Z env ns Γ D s R hs' L s'
structure LoopP (C:Addr) (h₀:Heap) (Z:Addr→Prop) (I:Addr) (env:Env) (ns:Names) (Γ:Gam) (D:Addr) (s:Shared) (R:RC) (hs':HS) (L:List V) (s':Shared) (R':RC):Prop where
 st:StepR s.heap R R'
 go:Go s s'
 kp:∀b o,b∉R.hl→¬Z b→b≠I→s.heap.get? b=some o→s'.heap.get? b=some o
 ex:∀b,b≠I→s'.heap.get? b=none→s.heap.get? b=none
 si:SI C h₀ env ns Γ R' hs' s'
 acc:Acc D L s' R'
theorem LoopP.cstep {Z:Addr→Prop} {I:Addr} {env:Env} {ns:Names} {Γ:Gam} {D:Addr} {hs':HS} {L:List V} {s0 s':Shared} {R0 R':RC} (a:CStep Z s0 R0 s R) (b:LoopP C h₀ Z I env ns Γ D s R hs' L s' R') (hI:s0.heap.get? I=none):CStep Z s0 R0 s' R' where
 st:=a.st.trans b.st a.ex
 go:=a.go.trans b.go
 kp:=fun x o h1 h2 e=>b.kp x o (fun q=>by
  rcases a.st.hl x q with q|q
  ·exact h1 q
  ·rw[e]at q;cases q) h2 (fun q=>by rw[q,hI]at e;cases e) (a.kp x o h1 h2 e)
 ex:=fun x e=>by
  by_cases hx:x=I
  ·rw[hx];exact hI
  ·exact a.ex x (b.ex x hx e)
noncomputable def KontP (m:Mod) (A:Around) (elt:Expr) (gens:List Comprehension) (sc:Scope) (pos:Pos) (d:Nat) (D:Addr) (env:Env) (Q:Shared→Prop) (s:Shared):Prop:=
 match gens[d+1]? with
 |some g'=>g'.is_async=0∧(∀x,foldedSetIterable g'.iter env x=pure x)∧wpAny (m.M) A (eval g'.iter env) (fun x s1=>wpAny (m.M) A (pyIter x) (fun it s2=>
  codeAny (m.M) A (.compStart (.ListComp elt gens sc pos) (d+1) it (.ref D) env) (fun r s3=>r= .ok .next∧Q s3) s2) NoE s1) NoE s
 | .none=>wpAny (m.M) A (eval elt env) (fun y s1=>wpAny (m.M) A (call (.builtin "list.append") [.ref D,y]) (fun ux s2=>Q s2) NoE s1) NoE s
inductive MapR (P0:V→HS→List V→HS→Prop):List V→HS→List V→HS→Prop where
 |nil {hs}:MapR P0 [] hs [] hs
 |cons {v r hs a hs1 b hs2}:P0 v hs a hs1→MapR P0 r hs1 b hs2→MapR P0 (v::r) hs (a++b) hs2
theorem MapR.inv {P0:V→HS→List V→HS→Prop} {v r hs l hs2} (h:MapR P0 (v::r) hs l hs2):∃a hs1 b,P0 v hs a hs1∧MapR P0 r hs1 b hs2∧l=a++b:=by
 cases h with|cons h1 h2=>exact⟨_,_,_,h1,h2,rfl⟩
inductive LI (C:Addr) (h₀:Heap) (P0:V→HS→List V→HS→Prop) (xs:List Str) (env:Env) (ns:Names) (Γ:Gam) (D I:Addr) (fp:List Addr) (P:Nat→Value→Prop) (St:Nat→Heap→Prop) (its:List V) (s:Shared) (R:RC) (hs':HS) (LL:List V) (n:Nat) (s1:Shared):Prop
 |mk (i:Nat) (R1:RC) (hs1:HS) (l1 L1:List V):i+n=its.length→MapR P0 (its.drop i) hs1 l1 hs'→L1++l1=LL→CStep (fun b=>(b=D∨TZ env ns xs b)∨b=I) s R s1 R1→SI C h₀ env ns Γ R1 hs1 s1→Acc D L1 s1 R1→St i s1.heap→
  (∀i v,P i v→∃x,its[i]? =some x∧VR s1.heap R1 x v)→(∀b∈fp,b≠I→b∉R1.hl∧b≠D∧∃o vs n,s1.heap.get? b=some o∧o.data= .seq vs n)→LI C h₀ P0 xs env ns Γ D I fp P St its s R hs' LL n s1
theorem Acc.at {D I:Addr} {L:List V} {s:Shared} {R:RC} {h':Heap} {k:Nat} (A1:Acc D L s R) (hID:I≠D) (hk':Heap.ExtBut I s.heap h') (vrs:∀l vs,VRs s.heap R l vs→VRs h' R l vs):Acc D L { s with heap:=h',toks:=k } R:=by
 refine hid fun G_ k_=>?_
 obtain⟨h1,vs',⟨n0,h2⟩,h3⟩:=A1
 refine k_ ?_
 exact⟨h1,vs',⟨n0,hk' D _ (Ne.symm hID) h2⟩,vrs _ _ h3⟩
theorem CStep.iter {Z:Addr→Prop} {I:Addr} {s:Shared} {R:RC} {h':Heap} {k:Nat} {o2:Obj} (ho:h'.get? I=some o2) (hk':Heap.ExtBut I s.heap h'):CStep (fun b=>Z b∨b=I) s R { s with heap:=h',toks:=k } R:=by
 refine⟨StepR.refl _ _,⟨_,_,rfl⟩,fun b o ux hb e=>hk' b o (fun q=>hb (.inr q)) e,fun b e=>?_⟩
 by_cases hb:b=I
 ·subst hb;rw[ho]at e;cases e
 ·cases q:s.heap.get? b with
  |none=>rfl
  |some o'=>rw[hk' b o' hb q]at e;cases e
set_option tactic.hygienic true in
theorem loop_ok {elt:Expr} {gens:List Comprehension} {sc:Scope} {pos:Pos} {d:Nat} {g:Comprehension} {env:Env} {ns:Names} {Γ:Gam} {D:Addr} {xs:List Str} (hg:gens[d]? =some g) (has:g.is_async=0)
 {P0:V→HS→List V→HS→Prop}
 (turn:∀v hs a hs1 val L (s:Shared) R,P0 v hs a hs1→SI C h₀ env ns Γ R hs s→VR s.heap R v val→R.tk=m.tk→Acc D L s R→(L++a).length≤sizeLine→
  wpAny (m.M) A (assign g.target env val) (fun ux s1=>wpAny (m.M) A (forIn g.ifs true fun c r=>if r=true then do let ok←isTrue c env (eval c env);pure (ForInStep.yield ok)else pure (ForInStep.yield r))
   (fun ok s2=>if ok=true then KontP m A elt gens sc pos d D env (TurnP C h₀ (fun b=>b=D∨TZ env ns xs b) env ns Γ D s R hs1 (L++a)) s2 else TurnP C h₀ (fun b=>b=D∨TZ env ns xs b) env ns Γ D s R hs1 (L++a) s2) NoE s1) NoE s)
 {its:List V} {hs hs':HS} {l L:List V} {it:Value} (e:MapR P0 its hs l hs') (S:SI C h₀ env ns Γ R hs s) (t:R.tk=m.tk) (AC:Acc D L s R) (hz:(L++l).length≤sizeLine)
 (IT:ItD m A h₀ D s.heap R its it):
 ∃I,it= .ref I∧(∀(Q:Value→Shared→Prop) (E:Value→Shared→Prop),Q it s→wpAny (m.M) A (pyIter it) Q E s)∧codeAny (m.M) A (.compLoop (.ListComp elt gens sc pos) d it (.ref D) env) (fun r s'=>r= .ok .next∧∃R',LoopP C h₀ (fun b=>b=D∨TZ env ns xs b) I env ns Γ D s R hs' (L++l) s' R') s:=by
 obtain⟨I,fp,P,St,rfl,W,hst,hel,hcl,hI,hfp⟩:=IT
 refine⟨I,rfl,fun ux ux h=>W.self 0 _ _ _ hst h,?_⟩
 generalize hLL:L++l=LL
 suffices H:∀Q:Shared→Prop,(∀s' R',LoopP C h₀ (fun b=>b=D∨TZ env ns xs b) I env ns Γ D s R hs' LL s' R'→Q s')→codeAny (m.M) A (.compLoop (.ListComp elt gens sc pos) d (.ref I) (.ref D) env) (fun r s'=>r= .ok .next∧Q s') s from H _ fun s' R' h=>⟨R',h⟩
 intro Q hQ
 obtain⟨J,hJ⟩:∃J,J=LI C h₀ P0 xs env ns Γ D I fp P St its s R hs' LL:=⟨_,rfl⟩
 refine codeAny_loop rfl J (fun n s1 hinv=>?_) its.length (hJ▸⟨0,R,hs,l,L,Nat.zero_add _,e,hLL,CStep.refl,S,AC,hst,hel,hfp⟩)
 rw[hLL]at hz
 clear e hLL S AC hst hel hfp
 rw[hJ]at hinv
 obtain⟨i,R1,hs1,l1,L1,hi,e1,eL,cs,S1,A1,hst1,hel1,hfp1⟩:=hinv
 have t1:=cs.st.1.trans t
 clear t
 show wpAny _ A ((compTurn (.ListComp elt gens sc pos) d (.ref I) (.ref D) env).onRaise (fun x=>do noteFrame x env;theTreesLotGoes x)) _ _ s1
 refine wpAny_noted ?_
 unfold compTurn
 dsimp only
 rw[hg]
 dsimp only
 have hasb:(g.is_async != 0)=false:=by rw[has];rfl
 simp only[hasb,Bool.false_eq_true,if_false]
 refine wpAny_bind (wpAny_standAt (wpAny_bind ?_))
 refine hid fun G_ k_=>?_
 obtain⟨o,nn,vs,ho,hc,hd,hn⟩:=hcl i _ hst1
 have hID:I≠D:=by
  intro q
  obtain⟨_,vs',⟨n0,h2⟩,_⟩:=A1
  rw[←q,ho]at h2;cases h2;cases hd
 refine k_ ?_
 cases n with
 |succ n=>
  refine W.item i s1 _ _ (hi▸Nat.lt_add_of_pos_right (Nat.succ_pos n)) hst1 fun v h' tks hP hst2 hk=>?_
  dsimp only
  refine hid fun G_ k_=>?_
  obtain⟨x,hx,hv⟩:=hel1 i v hP
  have hk':Heap.ExtBut I s1.heap h':=fun b o hb e=>hk b o (by simpa using hb) e
  have q_:=S1.iter (tks:=tks) ho hc hd hn hI hk';have S2:=q_.1;have vr:=q_.2.1;have vrs:=q_.2.2
  have hdrop:its.drop i=x::its.drop (i+1):=by
   have q_:=List.getElem?_eq_some_iff.mp hx;have h1:=q_.1;have h2:=q_.2
   rw[←h2];exact List.drop_eq_getElem_cons h1
  rw[hdrop]at e1
  obtain⟨a,hs2,b,e2,e3,e4⟩:=e1.inv
  subst e4
  obtain⟨o2,n2,vs2,ho2,hc2,hd2,hn2⟩:=hcl _ _ hst2
  refine k_ ?_
  refine wpAny_bind (letGo_ok (s:={ s1 with heap:=h',toks:=tks }) ho2 hc2 hd2 hn2 ?_)
  have A2:Acc D L1 { s1 with heap:=h',toks:=tks } R1:=A1.at hID hk' vrs
  have c1:=cs.trans (CStep.iter (k:=tks) ho2 hk')
  have hz2:(L1++a).length≤sizeLine:=by
   refine Nat.le_trans ?_ hz
   rw[←eL,←append_assoc,length_append (as:=L1++a)];exact Nat.le_add_right _ _
  have main:=turn x hs1 a hs2 v L1 { s1 with heap:=h',toks:=tks } R1 e2 S2 (vr _ _ hv) t1 A2 hz2
  have fin:∀s',TurnP C h₀ (fun b=>b=D∨TZ env ns xs b) env ns Γ D { s1 with heap:=h',toks:=tks } R1 hs2 (L1++a) s'→J n s':=by
   rw[hJ]
   intro s' q
   obtain⟨R2,c2,S3,A3⟩:=q
   refine⟨i+1,R2,hs2,b,L1++a,by simp only[←hi,Nat.add_right_comm,Nat.add_assoc],e3,by rw[←eL,append_assoc],c1.trans (c2.mono fun b hb=> .inl hb),S3,A3,?_,?_,?_⟩
   ·refine W.frame _ _ _ hst2 fun b hb o' e'=>?_
    by_cases hbI:b=I
    ·subst hbI
     refine c2.kp b o' (fun hb=>?_) ?_ e'
     ·obtain⟨o3,ho3,h3⟩:=S2.hdr.seqs b hb
      rw[ho2]at ho3;cases ho3;exact Turn.no2 (by rw[hd2];intros;simp) (by rw[hc2];simp) h3
     ·rintro(q|q)
      ·exact hID q
      ·obtain⟨x',hx',hc'⟩:=q
       obtain⟨o3,ho3,h3,h4⟩:=S2.var.own_obj hc'.own
       rw[ho2]at ho3;cases ho3;exact h4 _ hd2
    ·obtain⟨h5,h6,o3,vs3,n3,h7,h8⟩:=hfp1 b hb hbI
     have h7':=hk' b _ hbI h7
     refine c2.kp b o' h5 ?_ e'
     rintro(q|q)
     ·exact h6 q
     ·exact(S2.tz b _ q h7').1 _ _ h8
   ·intro j u hu
    obtain⟨y,hy,hr⟩:=hel1 j u hu
    refine⟨y,hy,VR.stepB (B:=TZ env ns xs) (fun b o hb hB e=>c2.kp b o (fun q=>hb (hl_bad _ q)) (fun q=>?_) e) S2.tz c2.st.1 c2.st.get c2.st.bad _ _ (vr _ _ hr)⟩
    rcases q with q|q
    ·exact hb (q▸A2.bad)
    ·exact hB q
   ·intro b hb hbI
    refine hid fun G_ k_=>?_
    obtain⟨h5,h6,o3,vs3,n3,h7,h8⟩:=hfp1 b hb hbI
    have h7':=hk' b _ hbI h7
    have h9:s'.heap.get? b=some o3:=c2.kp b _ h5 (by
     rintro(q|q)
     ·exact h6 q
     ·exact(S2.tz b _ q h7').1 _ _ h8) h7'
    refine k_ ?_
    refine⟨fun q=>?_,h6,o3,vs3,n3,h9,h8⟩
    rcases c2.st.hl b q with q|q
    ·exact h5 q
    ·rw[h7']at q;cases q
  clear e2 e3 c1 hz2 A2 hdrop hx hv hP S2 vr vrs turn hel1 hfp1 S1 A1 hst1 hst2 ho2 hc2 hd2 hn2 ho hc hd hn hk hk' cs hcl W hJ hQ
  generalize TurnP C h₀ (fun b=>b=D∨TZ env ns xs b) env ns Γ D { s1 with heap:=h',toks:=tks } R1 hs2 (L1++a)=T at fin main
  refine wpAny_bind (wpAny_mono main (fun ux s3 h3=>wpAny_bind (wpAny_mono h3 (fun ok s4 h4=>?_) fun ux ux x=>x.elim)) fun ux ux x=>x.elim)
  have fin:∀s',T s'→∃m,m<n+1∧J m s':=fun s' h=>⟨n,Nat.lt_succ_self n,fin s' h⟩
  cases ok with
  |false=>exact wpAny_pure ⟨rfl,fin _ h4⟩
  |true=>
   simp only[if_true]at h4 ⊢
   unfold KontP at h4
   split at h4
   ·rename_i g' hg'
    have hs0:=h4.1;have hfs:=h4.2.1;have h5:=h4.2.2
    have hasb':(g'.is_async != 0)=false:=by rw[hs0];rfl
    simp only[hg',hasb',Bool.false_eq_true,if_false]
    refine wpAny_bind (wpAny_mono h5 (fun x s5 h6=>wpAny_bind (wpAny_standAt (wpAny_bind (wpAny_of_eq (hfs x) (wpAny_bind (wpAny_holding (wpAny_mono h6 (fun it s6 h7=>?_) fun ux ux x=>x.elim))))))) fun ux ux x=>x.elim)
    refine wpAny_bind (wpAny_runOwn (codeAny_mono h7 fun r s7 h8=>?_))
    cases h8.1
    exact wpAny_pure ⟨rfl,fin _ h8.2⟩
   ·rename_i hg'
    simp only[hg']
    refine wpAny_bind (wpAny_bind (wpAny_mono h4 (fun y s5 h5=>wpAny_bind (wpAny_mono h5 (fun ux s6 h6=>wpAny_pure (wpAny_pure ⟨rfl,fin _ h6⟩)) fun ux ux x=>x.elim)) fun ux ux x=>x.elim))
 |zero=>
  refine hid fun G_ k_=>?_
  have hi:i=its.length:=hi
  subst hi
  rw[List.drop_length]at e1
  cases e1
  refine k_ ?_
  refine W.done s1 _ _ hst1 fun h' tks hk=>?_
  have hk':Heap.ExtBut I s1.heap h':=fun b o hb e=>hk b o (by simpa using hb) e
  have q_:=S1.iter (tks:=tks) ho hc hd hn hI hk';have S2:=q_.1;have vr:=q_.2.1;have vrs:=q_.2.2
  have A2:Acc D L1 { s1 with heap:=h',toks:=tks } R1:=A1.at hID hk' vrs
  refine wpAny_pure ⟨rfl,hQ _ R1 ⟨cs.st,cs.go.trans ⟨_,_,rfl⟩,fun b o h1 h2 h3 e=>?_,fun b h1 e=>?_,S2,by rw[←eL,append_nil];exact A2⟩⟩
  ·refine hk' b o h3 (cs.kp b o h1 (fun q=>?_) e)
   rcases q with q|q
   ·exact h2 q
   ·exact h3 q
  ·refine cs.ex b ?_
   cases q:s1.heap.get? b with
   |none=>rfl
   |some o'=>rw[hk' b o' h1 q]at e;cases e
end
section
variable {m:Mod} {C:Addr} {h₀:Heap} {k:Nat} {A:Around} {s:Shared} {R:RC} {E:Value→Shared→Prop}
theorem compStart_any {elt:Expr} {gens:List Comprehension} {sc:Scope} {pos:Pos} {d:Nat} {g:Comprehension} {it acc:Value} {env:Env} {Q:Result→Shared→Prop} (hg:gens[d]? =some g) (has:g.is_async=0)
 (h0:codeAny (m.M) A (.compLoop (.ListComp elt gens sc pos) d it acc env) Q s)
 (h:∀(Q:Value→Shared→Prop) (E:Value→Shared→Prop),Q it s→wpAny (m.M) A (pyIter it) Q E s):
 codeAny (m.M) A (.compStart (.ListComp elt gens sc pos) d it acc env) Q s:=by
 refine codeAny_of_tree ?_
 show wpAny _ _ ((compStart (.ListComp elt gens sc pos) d it acc env).onRaise (fun x=>do noteFrame x env;standAt theWindowsPlace)) _ _ s
 refine wpAny_notedAt ?_
 unfold compStart
 have hasb:(g.is_async != 0)=false:=by rw[has];rfl
 have hcl:(clausesOf (.ListComp elt gens sc pos))[d]? =some g:=hg
 refine(hcl)▸ ?_
 simp only[Option.elim,hasb,Bool.false_eq_true,if_false]
 refine wpAny_bind (wpAny_askSetting (wpAny_ite ?_))
 split
 ·first
   |exact wpAny_bind (wpAny_pure (wpAny_pure (And.intro rfl h0)))
   |exact wpAny_pure (And.intro rfl h0)
 ·refine wpAny_bind (wpAny_rule (wpAny_bind (wpAny_standAt (wpAny_bind (h _ _ (wpAny_pure ⟨rfl,h0⟩))))))
theorem KontP.mono {elt:Expr} {gens:List Comprehension} {sc:Scope} {pos:Pos} {d:Nat} {D:Addr} {env:Env} {Q Q':Shared→Prop} (h:KontP m A elt gens sc pos d D env Q s) (hq:∀s',Q s'→Q' s'):KontP m A elt gens sc pos d D env Q' s:=by
 unfold KontP at h ⊢
 split at h
 ·obtain⟨h1,h2,h3⟩:=h
  exact⟨h1,h2,noE h3 fun x s1 h4=>noE h4 fun it s2 h5=>codeAny_mono h5 fun r s3 ⟨h6,h7⟩=>⟨h6,hq _ h7⟩⟩
 ·exact noE h fun y s1 h4=>noE h4 fun ux s2 h5=>hq _ h5
theorem TurnP.trans {Z:Addr→Prop} {env:Env} {ns:Names} {Γ Γ':Gam} {D:Addr} {hs':HS} {L:List V} {s0 s':Shared} {R0:RC} (a:CStep Z s0 R0 s R) (b:TurnP C h₀ Z env ns Γ' D s R hs' L s') (hw:Wk Γ Γ'):TurnP C h₀ Z env ns Γ D s0 R0 hs' L s':=by
 obtain⟨R',c,S,h⟩:=b
 exact⟨R',a.trans c,S.weak hw,h⟩
set_option tactic.hygienic true in
theorem setG_none {x y:Str} {sl:Slot} {Γ:Gam} (h:Γ.lookup y=none):(setG x sl Γ).lookup y=none:=by
 refine Eq.trans (lookup_set) ?_
 split
 ·rename_i h1;obtain⟨rfl,h1⟩:=h1;rw[h]at h1;cases h1
 ·exact h
theorem bindNs_none {y:Str} {ts l Γ Γ1} (e:BindsR ts l Γ Γ1) (h:Γ.lookup y=none):Γ1.lookup y=none:=by
 induction e with
 |nil=>exact h
 |cons _ ih=>exact ih (setG_none h)
theorem bindT_none {y:Str} {t v Γ Γ1} (e:BindR t v Γ Γ1) (h:Γ.lookup y=none):Γ1.lookup y=none:=by
 cases e with
 |name=>exact setG_none h
 |tup e=>exact bindNs_none e h
noncomputable def TgtOK (ns:Names) (xs:List Str) (t:Expr):Prop:=∀x∈tNames t,isVar ns x=true∧x∈xs
noncomputable def TurnR (m:Mod) (k:Nat) (ns:Names) (t:Expr) (ifs:List Expr) (K:Gam→HS→List V→HS→Prop) (Γ:Gam) (v:V) (hs:HS) (a:List V) (hs1:HS):Prop:=
 ∃Γ1 b hs2,BindR t v Γ Γ1∧IfsR m k ns Γ1 hs ifs b hs2∧if b=true then K Γ1 hs2 a hs1 else a=[]∧hs1=hs2
noncomputable def anyT (Γ:Gam) (t:Expr):Prop:=∀x∈tNames t,Γ.lookup x=some .any
noncomputable def GenR (m:Mod) (k:Nat) (ns:Names) (elt:Expr):List Comprehension→Gam→HS→List V→HS→Prop
 |[],Γ,hs,l,hs'=>∃w v,EvR m k ns Γ hs elt w hs'∧w.esc=some v∧l=[v]
 |g::gs,Γ,hs,l,hs'=>NSet g.iter∧g.is_async=0∧anyT Γ g.target∧∃w hs1 its,EvR m k ns Γ hs g.iter w hs1∧isO w=false∧ItsR w its∧
  MapR (TurnR m k ns g.target g.ifs (GenR m k ns elt gs) Γ) its hs1 l hs'
theorem turn_ok {elt:Expr} {gens:List Comprehension} {sc:Scope} {pos:Pos} {d:Nat} {t:Expr} {ifs:List Expr} {env:Env} {ns:Names} {Γ:Gam} {D:Addr} {xs:List Str} {K:Gam→HS→List V→HS→Prop}
 (hA:AOK k A) (hx:TgtOK ns xs t) (hany:anyT Γ t) (hn:Γ.lookup ("":Str)=none)
 (kont:∀Γ1 hs a hs1 L (s:Shared) R,Γ1.lookup ("":Str)=none→K Γ1 hs a hs1→SI m.C m.h₀ env ns Γ1 R hs s→R.tk=m.tk→Acc D L s R→(L++a).length≤sizeLine→
  KontP m A elt gens sc pos d D env (TurnP m.C m.h₀ (fun b=>b=D∨TZ env ns xs b) env ns Γ1 D s R hs1 (L++a)) s):
 ∀v hs a hs1 val L (s:Shared) R,TurnR m k ns t ifs K Γ v hs a hs1→SI m.C m.h₀ env ns Γ R hs s→VR s.heap R v val→R.tk=m.tk→Acc D L s R→(L++a).length≤sizeLine→
  wpAny m.M A (assign t env val) (fun ux s1=>wpAny m.M A (forIn ifs true fun c r=>if r=true then do let ok←isTrue c env (eval c env);pure (ForInStep.yield ok)else pure (ForInStep.yield r))
   (fun ok s2=>if ok=true then KontP m A elt gens sc pos d D env (TurnP m.C m.h₀ (fun b=>b=D∨TZ env ns xs b) env ns Γ D s R hs1 (L++a)) s2 else TurnP m.C m.h₀ (fun b=>b=D∨TZ env ns xs b) env ns Γ D s R hs1 (L++a) s2) NoE s1) NoE s:=by
 intro v hs a hs1 val L s R q S hv t0 AC hz
 obtain⟨Γ1,b,hs2,e1,e2,e⟩:=q
 refine noE (bindT_ok e1 (fun x h=>(hx x h).1) hA S hv) fun ux s1 hp1=>?_
 obtain⟨S1,st1⟩:=hp1
 have c1:CStep (fun b=>b=D∨TZ env ns xs b) s R s1 R:=st1.cstep S1 fun b ⟨x,h1,h2⟩=> .inr ⟨x,(hx x h1).2,h2⟩
 have A1:Acc D L s1 R:=AC.stored S st1
 refine noE (e2 A env R s1 hA t0 S1) fun ok s2 hp2=>?_
 obtain⟨hok,R2,t2⟩:=hp2
 subst hok
 cases ok
 ·obtain⟨rfl,rfl⟩:=e
  rw[if_neg (by decide),append_nil]
  exact⟨R2,c1.trans (CStep.ofTr t2),(S1.tr t2).weak (Wk.bind e1 hany),A1.tr S1.hdr.nod t2⟩
 ·rw[if_pos rfl]
  exact(kont Γ1 hs2 a hs1 L s2 R2 (bindT_none e1 hn) e (S1.tr t2) (t2.st.1.trans t0) (A1.tr S1.hdr.nod t2) hz).mono fun s3 h3=>h3.trans (c1.trans (CStep.ofTr t2)) (Wk.bind e1 hany)
theorem ItR.toD {h0 h:Heap} {its:List V} {it:Value} {D:Addr} (x:ItR m A h0 false h R its it) (hI:∀b,h0.get? b=none→h₀.get? b=none) (hD:D∈R.bad):ItD m A h₀ D h R its it:=by
 obtain⟨I,fp,P,St,h1,h2,h3,h4,h5,h6,h7⟩:=x
 exact⟨I,fp,P,St,h1,h2,h3,h4,h6,hI _ h5,fun b hb hbI=>⟨(h7 b hb hbI).1,fun q=>(h7 b hb hbI).2.2 rfl (q▸hD),(h7 b hb hbI).2.1⟩⟩
theorem append_ok {env:Env} {ns:Names} {Γ:Gam} {D:Addr} {hs:HS} {L:List V} {v:V} {val:Value} {Z:Addr→Prop} (S:SI C h₀ env ns Γ R hs s) (AC:Acc D L s R) (hv:VR s.heap R v val) (hz:(L++[v]).length≤sizeLine) (hn:Γ.lookup ("":Str)=none)
 (hZ:Z D):wpAny (m.M) A (call (.builtin "list.append") [.ref D,val]) (fun ux s'=>TurnP C h₀ Z env ns Γ D s R hs (L++[v]) s') NoE s:=by
 obtain⟨h1,vs,h2,h3⟩:=AC
 have hlen:=h3.len
 rw[length_append]at hz
 refine wpAny_list_append_plain h2 (fun h' h4 hs'=>?_) (by rw[size_toArray,hlen];exact Nat.le_trans (Nat.le_add_right _ _) hz)
 have hseq:∃o,h'.get? D=some o∧∃vs n,o.data= .seq vs n:=by obtain⟨n0,ho⟩:=h4;exact⟨_,ho,_,n0,rfl⟩
 obtain⟨S2,vr,vrs⟩:=S.turn (tks:=s.toks) h1 hn hs'.extBut hseq
 refine⟨R,⟨StepR.refl _ _,⟨_,_,rfl⟩,fun b o ux hb e=>hs'.extBut b o (fun q=>hb (q▸hZ)) e,fun b e=>?_⟩,S2,h1,vs++[val],?_,(vrs _ _ h3).app (VRs.one (vr _ _ hv))⟩
 ·by_cases hb:b=D
  ·subst hb;obtain⟨o,ho,_⟩:=hseq;rw[e]at ho;cases ho
  ·exact(hs'.2 b hb).symm.trans e
 ·refine Eq.mpr (congrArg _ (show(vs++[val]).toArray=vs.toArray.push val by simp)) ?_;exact h4
theorem kont_ok {elt:Expr} {gens:List Comprehension} {sc:Scope} {pos:Pos} {env:Env} {ns:Names} {D:Addr} {xs:List Str} (hA:AOK k A) (hfs:∀it x,NSet it→foldedSetIterable it env x=pure x):
 ∀(gs:List Comprehension) (d:Nat),gens.drop (d+1)=gs→(∀g∈gs,TgtOK ns xs g.target)→
 ∀Γ hs a hs1 L (s:Shared) R,Γ.lookup ("":Str)=none→GenR m k ns elt gs Γ hs a hs1→SI m.C m.h₀ env ns Γ R hs s→R.tk=m.tk→Acc D L s R→(L++a).length≤sizeLine→
  KontP m A elt gens sc pos d D env (TurnP m.C m.h₀ (fun b=>b=D∨TZ env ns xs b) env ns Γ D s R hs1 (L++a)) s:=by
 intro gs
 induction gs with
 |nil=>
  intro d hd hx Γ hs a hs1 L s R hn q S t0 AC hz
  obtain⟨wv,v,e1,ev,ea⟩:=q
  subst ea
  have hnone:gens[d+1]? =none:=by
   refine Iff.mpr (List.getElem?_eq_none_iff) ?_
   have:=congrArg List.length hd
   simp at this;exact List.drop_eq_nil_iff.mp hd
  unfold KontP
  refine(hnone)▸ ?_
  refine noE (e1 A env R s hA t0 S) fun y s1 hp3=>?_
  obtain⟨R1,t1,r1⟩:=hp3
  exact noE (append_ok (Z:=fun b=>b=D∨TZ env ns xs b) (S.tr t1) (AC.tr S.hdr.nod t1) (r1.esc ev) hz hn (.inl rfl)) fun ux s2 h2=>h2.trans (CStep.ofTr t1) (Wk.refl _)
 |cons g gs ih=>
  intro d hd hx Γ hs a hs1 L s R hn q S t0 AC hz
  obtain⟨h1,h2,h3,wv,hs2,its,e1,e2,e3,e4⟩:=q
  obtain⟨t,it,ifs,as⟩:=g
  have h2:as=0:=h2
  subst h2
  have hsome:gens[d+1]? =some ⟨t,it,ifs,0⟩:=by
   have:=congrArg (fun l=>l[0]?) hd
   simpa using this
  have hd2:gens.drop (d+1+1)=gs:=by
   have:=congrArg (List.drop 1) hd
   simpa[List.drop_drop,Nat.add_comm]using this
  unfold KontP
  refine(hsome)▸ ?_
  refine⟨rfl,fun x=>hfs it x h1,?_⟩
  refine noE (e1 A env R s hA t0 S) fun x s1 hp4=>?_
  obtain⟨R1,t1,r1⟩:=hp4
  refine noE (iter_ok e3 hA t1.hd (fun b hb hn=>Kept.none t1.kp (fun q=>hb (hl_bad _ (t1.st.sub _ q))) hn) r1) fun itv s2 hp5=>?_
  obtain⟨g2,k2,IT⟩:=hp5
  have t12:=t1.trans (Tr.own t1.hd g2 k2)
  have A2:=AC.tr S.hdr.nod t12
  rw[e2]at IT
  have ITD:=IT.toD (h₀:=m.h₀) (fun b hb=>by
   cases q:m.h₀.get? b with
   |none=>rfl
   |some o=>rw[S.base b o q]at hb;cases hb) A2.bad
  obtain⟨I',_,_,_,hI1,_,_,_,hI2,_⟩:=id IT
  have turn:=turn_ok (gens:=gens) (sc:=sc) (pos:=pos) (d:=d+1) (elt:=elt) (D:=D) (ifs:=ifs) (env:=env) hA (hx _ mem_cons_self) h3 hn (ih (d+1) hd2 fun g hg=>hx g (mem_cons_of_mem _ hg))
  obtain⟨I,hI,self,loop⟩:=loop_ok (g:=⟨t,it,ifs,0⟩) hsome rfl turn e4 (S.tr t12) (t12.st.1.trans t0) A2 hz ITD
  refine compStart_any hsome rfl (codeAny_mono loop fun r s3 ⟨h5,R3,h6⟩=>⟨h5,R3,?_,h6.si,h6.acc⟩) self
  subst hI
  cases hI1
  exact h6.cstep (CStep.ofTr t12) hI2
end
set_option tactic.hygienic true in
theorem relab_lookup {ns:Names} {x:Str}:∀{sc:Names},(relab ns sc).lookup x=(sc.lookup x).map fun k=>if(k== .free&&ns.lookup x==some .cell)then .cell else k:=by
 intro v0_
 induction v0_ with
 |nil=>
  exact rfl
 |cons p_ r ih_=>
  obtain⟨n,k⟩:=p_
  unfold relab
  refine Eq.trans (congrArg _ (map_cons)) ?_
  have ih:(relab ns r).lookup x=_:=ih_
  by_cases hx:x==n
  ·have:=eq_of_beq hx;subst this
   dsimp only
   split
   ·rename_i h;simp only[lookup_cons,beq_self_eq_true,Option.map_some];rw[if_pos h]
   ·rename_i h;simp only[lookup_cons,beq_self_eq_true,Option.map_some];rw[if_neg h]
  ·have hx':(x==n)=false:=by simpa using hx
   dsimp only
   split<;>(simp only[lookup_cons,hx'];exact ih)
set_option tactic.hygienic true in
theorem ownNames_lookup {x:Str}:∀{sc:Names},(ownNames sc).lookup x=if(x,NameKind.local)∈sc∨(x,NameKind.cell)∈sc then some .any else none:=by
 intro v0_
 induction v0_ with
 |nil=>
  rfl
 |cons p_ r ih_=>
  obtain⟨n,k⟩:=p_
  have ih:(ownNames r).lookup x=_:=ih_
  unfold ownNames at ih ⊢
  rw[List.filter_cons]
  split
  ·rename_i hk
   rw[map_cons,lookup_cons]
   by_cases hx:x==n
   ·have:=eq_of_beq hx;subst this
    simp only[beq_self_eq_true]
    rw[if_pos]
    dsimp only at hk
    rcases Bool.or_eq_true _ _▸hk with h|h
    ·rw[eq_of_beq h];exact .inl mem_cons_self
    ·rw[eq_of_beq h];exact .inr mem_cons_self
   ·have hx':(x==n)=false:=by simpa using hx
    have hne:x≠n:=by simpa using hx
    simp only[hx',ih]
    simp[hne]
  ·rename_i hk
   rw[ih]
   have h1:k≠.local:=by rintro rfl;exact hk rfl
   have h2:k≠.cell:=by rintro rfl;exact hk rfl
   simp[Ne.symm h1,Ne.symm h2]
structure ScOk (ns:Names) (sc:Scope):Prop where
 kind:sc.kind= .function
 loc:∀x,(x,NameKind.local)∈sc.names→sc.names.lookup x=some .local
 cell:∀x,(x,NameKind.cell)∈sc.names→sc.names.lookup x=some .cell
 free:∀x,(x,NameKind.free)∈sc.names→ns.lookup x=some .cell∧sc.names.lookup x=some .free
theorem scOk_ok {ns:Names} {sc:Scope} (h:scOk ns sc=true):ScOk ns sc:=by
 unfold scOk at h
 simp only[Bool.and_eq_true,Bool.not_eq_true',beq_iff_eq,all_eq_true]at h
 obtain⟨⟨⟨h1,h2⟩,h3⟩,h4⟩:=h
 refine⟨h1,fun x hx=>?_,fun x hx=>?_,fun x hx=>?_⟩
 ·have:=h4 _ hx;simpa using this
 ·have:=h4 _ hx;simpa using this
 ·have:=h4 _ hx;simpa using this
section
variable {m:Mod} {C:Addr} {h₀:Heap} {k:Nat} {A:Around} {s:Shared} {R:RC} {E:Value→Shared→Prop}
noncomputable def compCells (sc:Scope) (env:Env) (n:Nat):List (Str×Addr):=cellsFrom (n+1) sc.names []++clF (fun x=>env.cells.lookup x) sc.names []
noncomputable def compHeap (sc:Scope) (h:Heap):Heap:=pushCells (h.push { cls:= .type "dict",data:= .dict #[] }) sc.names
theorem compHeap_kept (sc:Scope) (h:Heap):Kept [] h (compHeap sc h):=fun b o ux e=>pushCells_keeps _ _ b o (Heap.get?_push_of_some _ e)
theorem relabel_names {env:Env} {ns:Names} (hk:env.scope.kind= .function) (hn:env.scope.names=ns) (sc:Scope):(relabel sc env).names=relab ns sc.names:=by
 unfold relabel relab
 simp only[hk,beq_self_eq_true,Bool.and_true,Env.kindOf,hn]
theorem compCells_ok (sc:Scope) (h:Heap):CellsOk (compHeap sc h) (h.objs.size+1) (cellsFrom (h.objs.size+1) sc.names []):=by
 have ok:=cellsFrom_ok sc.names (h.push { cls:= .type "dict",data:= .dict #[] }) (h.objs.size+1) [] ⟨fun ux ux hm=>(nomatch hm),List.Pairwise.nil⟩ (by rw[Heap.size_push];exact Nat.le_refl _)
 rw[Heap.size_push]at ok
 exact ok
theorem none_ge {h:Heap} {b:Addr} (hb:h.objs.size≤b):h.get? b=none:=by
 cases e:h.get? b with
 |none=>rfl
 |some o=>exact absurd (Heap.lt_size e) (Nat.not_lt.mpr hb)
theorem own_cell {sc:Scope} {env:Env} {h:Heap} {x:Str} (hx:(x,NameKind.cell)∈sc.names):∃c,(compCells sc env h.objs.size).lookup x=some c∧(x,c)∈cellsFrom (h.objs.size+1) sc.names []∧(compHeap sc h).IsCell c none∧h.get? c=none:=by
 obtain⟨c0,hc0⟩:=cellsFrom_has (n:=h.objs.size+1) (acc:=[]) hx
 obtain⟨c,hc⟩:=lookup_of_mem hc0
 have hm:=mem_of_lookup hc
 obtain⟨h1,h2⟩:=(compCells_ok sc h).empty _ _ hm
 refine⟨c,?_,hm,h1,none_ge (Nat.le_of_succ_le h2)⟩
 unfold compCells
 rw[List.lookup_append,hc];rfl
theorem free_cell {sc:Scope} {env:Env} {h:Heap} {ns:Names} (O:ScOk ns sc) {x:Str} {c:Addr} (hx:(x,NameKind.free)∈sc.names) (hc:env.cells.lookup x=some c):(compCells sc env h.objs.size).lookup x=some c:=by
 unfold compCells
 refine Eq.trans (List.lookup_append) ?_
 have:(cellsFrom (h.objs.size+1) sc.names []).lookup x=none:=by
  cases e:(cellsFrom (h.objs.size+1) sc.names []).lookup x with
  |none=>rfl
  |some d=>
   rcases cellsFrom_mem (mem_of_lookup e)with q|q
   ·cases q
   ·have h1:=O.cell x q
    have h2:=(O.free x hx).2
    rw[h1]at h2;cases h2
 simp only[this,Option.none_or]
 exact clF_lookup hx hc
theorem compCells_mem {sc:Scope} {env:Env} {n:Nat} {x:Str} {c:Addr} (h:(compCells sc env n).lookup x=some c):((x,c)∈cellsFrom (n+1) sc.names [])∨(env.cells.lookup x=some c∧(x,NameKind.free)∈sc.names):=by
 have:=mem_of_lookup h
 unfold compCells at this
 rcases mem_append.mp this with q|q
 ·exact .inl q
 ·rcases clF_mem q with q|q
  ·cases q
  ·exact .inr q
set_option tactic.hygienic true in
theorem comp_var {env ns Γ} {h:Heap} {sc:Scope} (V:VarR env ns Γ R h) (O:ScOk ns sc):
 VarR (compEnvC sc (compCells sc env h.objs.size) h.objs.size env) (relab ns sc.names) (ownNames sc.names++Γ) R (compHeap sc h) where
 kind:=by show(relabel sc env).kind=_;exact O.kind
 names:=relabel_names V.kind V.names sc
 glob:=V.glob
 blt:=V.blt
 loc:=by
  refine⟨fun ux=>none,(Heap.Ns.new h (.type "dict")).keeps (pushCells_keeps _ _),fun x hx=>?_⟩
  rw[relab_lookup]at hx
  obtain⟨k0,h1,h2⟩:=Option.map_eq_some_iff.mp hx
  split at h2
  ·cases h2
  subst h2
  refine⟨.any,?_,trivial⟩
  (refine Eq.trans (List.lookup_append) ?_;rw[ownNames_lookup,if_pos (.inl (mem_of_lookup h1))])
  rfl
 cel:=by
  intro x hx
  rw[relab_lookup]at hx
  obtain⟨k0,h1,h2⟩:=Option.map_eq_some_iff.mp hx
  split at h2
  ·rename_i hf
   simp only[Bool.and_eq_true,beq_iff_eq]at hf
   obtain⟨rfl,hns⟩:=hf
   obtain⟨c,ov,sl,e1,⟨o,e2,hd⟩,e3,q⟩:=V.cel x hns
   refine⟨c,ov,sl,free_cell O (mem_of_lookup h1) e1,⟨o,compHeap_kept sc h _ _ (by simp) e2,hd⟩,?_,q.keepN (compHeap_kept sc h)⟩
   rw[List.lookup_append,ownNames_lookup,if_neg,Option.none_or,e3]
   rintro(q|q)
   ·have:=O.loc x q;rw[h1]at this;cases this
   ·have:=O.cell x q;rw[h1]at this;cases this
  ·subst h2
   obtain⟨c,h3,h4,h5,_⟩:=own_cell (env:=env) (h:=h) (mem_of_lookup h1)
   refine⟨c,none,.any,h3,h5,?_,trivial⟩
   (refine Eq.trans (List.lookup_append) ?_;rw[ownNames_lookup,if_pos (.inr (mem_of_lookup h1))])
   rfl
 inj:=by
  intro x y c hx hy
  have lo:∀z,(z,c)∈cellsFrom (h.objs.size+1) sc.names []→h.get? c=none:=fun z hz=>none_ge (by have:=((compCells_ok sc h).empty _ _ hz).2;exact Nat.le_of_succ_le this)
  have ex:∀z,env.cells.lookup z=some c∧(z,NameKind.free)∈sc.names→∃o,h.get? c=some o:=by
   intro z q
   obtain⟨h1,h2⟩:=q
   obtain⟨c',ov,sl,e1,⟨o,e2,hd⟩,_⟩:=V.cel z (O.free z h2).1
   rw[h1]at e1;cases e1;exact⟨o,e2⟩
  rcases compCells_mem hx with h1|h1<;>rcases compCells_mem hy with h2|h2
  ·exact name_of_addr (compCells_ok sc h).apart h1 h2
  ·obtain⟨o,ho⟩:=ex y h2;rw[lo x h1]at ho;cases ho
  ·obtain⟨o,ho⟩:=ex x h1;rw[lo y h2]at ho;cases ho
  ·exact V.inj x y c h1.1 h2.1
end
section
variable {m:Mod} {C:Addr} {h₀:Heap} {k:Nat} {A:Around} {s:Shared} {R:RC} {E:Value→Shared→Prop}
theorem grow {h h':Heap} {D:Addr} (k0:Kept [] h h') (hD:h.get? D=none):(∀v val,VR h R v val→VR h' (R.with "" D) v val)∧∀l vs,VRs h R l vs→VRs h' (R.with "" D) l vs:=by
 have hb:∀b o,b∉R.bad→h.get? b=some o→b∉(R.with "" D).bad:=by
  intro b o nb ho hb
  rcases mem_cons.mp (show b∈D::R.bad from hb)with q|q
  ·rw[q,hD]at ho;cases ho
  ·exact nb q
 exact⟨fun v val r=>VR.step (R:=R) (R':=R.with "" D) (k0.mono (by simp)) rfl (fun ux ux e=>e) hb _ _ r,fun v val r=>VRs.step (R:=R) (R':=R.with "" D) (k0.mono (by simp)) rfl (fun ux ux e=>e) hb _ _ r⟩
theorem VarR.grow {env ns Γ} {h h':Heap} {D:Addr} (V:VarR env ns Γ R h) (k0:Kept [] h h') (hD:h.get? D=none):VarR env ns Γ (R.with "" D) h':=by
 have g:=Mine.grow (R:=R) k0 hD
 have slot:∀x sl ov,SlotR h R x sl ov→SlotR h' (R.with "" D) x sl ov:=by
  intro x sl ov q
  cases sl with
  |any=>trivial
  |p v=>obtain⟨val,e,z⟩:=q;exact⟨val,e,g.1 _ _ z⟩
  |o l=>obtain⟨n,b,vs,e,hm,⟨n0,ho⟩,z⟩:=q;exact⟨n,b,vs,e,mem_cons_of_mem _ hm,⟨n0,k0 _ _ (by simp) ho⟩,g.2 _ _ z⟩
 refine⟨V.kind,V.names,V.glob,V.blt,?_,?_,V.inj⟩
 ·refine hid fun G_ k_=>?_
  obtain⟨n0,⟨o,es,ep,ho,r⟩,hall⟩:=V.loc
  refine k_ ?_
  exact⟨n0,⟨o,es,ep,k0 _ _ (by simp) ho,r⟩,fun x hx=>let ⟨sl,e,q⟩:=hall x hx;⟨sl,e,slot _ _ _ q⟩⟩
 ·intro x hx
  obtain⟨c,ov,sl,e1,⟨o,ho,hd⟩,e,q⟩:=V.cel x hx
  exact⟨c,ov,sl,e1,⟨o,k0 _ _ (by simp) ho,hd⟩,e,slot _ _ _ q⟩
theorem HsR.grow {h h':Heap} {D:Addr} {hs:HS} (H:HsR C h R hs) (k0:Kept [] h h') (hD:h.get? D=none) (hnb:D∉R.bad) (hn:∃o,h'.get? D=some o∧∃vs n,o.data= .seq vs n):HsR C h' (R.with "" D) hs:=by
 have g:=Mine.grow (R:=R) k0 hD
 have nb:∀b o,b∉R.bad→h.get? b=some o→b∉(R.with "" D).bad:=by
  intro b o nb ho hb
  rcases mem_cons.mp (show b∈D::R.bad from hb)with q|q
  ·rw[q,hD]at ho;cases ho
  ·exact nb q
 refine⟨H.len,fun r i a l e1 e2=>?_,?_,fun p hp=>?_,H.tabs.at fun b o e ux ux=>k0 b o (by simp) e⟩
 ·refine hid fun G_ k_=>?_
  obtain⟨n,⟨ep,hsh,t,h1,h2,h3,h4⟩,vs,⟨n0,ho⟩,hv⟩:=H.at_ r i a l e1 e2
  refine k_ ?_
  exact⟨n,⟨ep,hsh,t,nb _ _ h1 h3,nb _ _ h2 h4,k0 _ _ (by simp) h3,k0 _ _ (by simp) h4⟩,vs,⟨n0,k0 _ _ (by simp) ho⟩,g.2 _ _ hv⟩
 ·exact List.nodup_cons.mpr ⟨hnb,H.nod⟩
 ·rcases mem_cons.mp hp with rfl|hp
  ·exact hn
  ·obtain⟨o,ho,r⟩:=H.own p hp;exact⟨o,k0 _ _ (by simp) ho,r⟩
set_option tactic.hygienic true in
theorem own_cases {env ns Γ} {h:Heap} {sc:Scope} (V:VarR env ns Γ R h) (O:ScOk ns sc) {c:Addr} (hc:Own (compEnvC sc (compCells sc env h.objs.size) h.objs.size env) (relab ns sc.names) c):h.get? c=none∨Own env ns c:=by
 rcases hc with rfl|⟨x,hx,hc⟩
 ·exact .inl (none_ge (Nat.le_refl _))
 ·rw[relab_lookup]at hx
  obtain⟨k0,h1,h2⟩:=Option.map_eq_some_iff.mp hx
  split at h2
  ·rename_i hf
   refine hid fun G_ k_=>?_
   simp only[Bool.and_eq_true,beq_iff_eq]at hf
   obtain⟨rfl,hns⟩:=hf
   obtain⟨c',ov,sl,e1,_⟩:=V.cel x hns
   have:=free_cell (h:=h) O (mem_of_lookup h1) e1
   have hc':(compCells sc env h.objs.size).lookup x=some c:=hc
   rw[this]at hc';cases hc'
   refine k_ ?_
   exact .inr (.inr ⟨x,hns,e1⟩)
  ·refine hid fun G_ k_=>?_
   subst h2
   obtain⟨c',h3,_,_,h6⟩:=own_cell (env:=env) (h:=h) (mem_of_lookup h1)
   have hc':(compCells sc env h.objs.size).lookup x=some c:=hc
   rw[h3]at hc';cases hc'
   refine k_ ?_
   exact .inl h6
theorem target_new {env:Env} {ns:Names} {h:Heap} {sc:Scope} {x:Str} (hx:sc.names.lookup x=some .local∨sc.names.lookup x=some .cell) {c:Addr}
 (hc:OwnOf (compEnvC sc (compCells sc env h.objs.size) h.objs.size env) (relab ns sc.names) x c):h.get? c=none:=by
 rcases hc with⟨_,rfl⟩|⟨h1,h2⟩
 ·exact none_ge (Nat.le_refl _)
 ·rw[relab_lookup]at h1
  rcases hx with hx|hx
  ·rw[hx]at h1;cases h1
  ·obtain⟨c',h3,_,_,h6⟩:=own_cell (env:=env) (h:=h) (mem_of_lookup hx)
   have hc':(compCells sc env h.objs.size).lookup x=some c:=h2
   rw[h3]at hc';cases hc'
   exact h6
noncomputable def isV (o:Option NameKind):Prop:=o=some .local∨o=some .cell
theorem tgt_of {ns:Names} {sc:Scope} {xs:List Str} {t:Expr} (h:∀x∈tNames t,isV (sc.names.lookup x)) (hxs:∀x∈tNames t,x∈xs):TgtOK (relab ns sc.names) xs t:=by
 refine fun x hx=>⟨?_,hxs x hx⟩
 unfold isVar
 rw[relab_lookup]
 rcases h x hx with h|h<;>rw[h]<;>rfl
end
section
variable {m:Mod} {C:Addr} {h₀:Heap} {k:Nat} {A:Around} {s:Shared} {R:RC} {E:Value→Shared→Prop}
structure CompEnd (C:Addr) (s:Shared) (R:RC) (hs':HS) (l:List V) (acc:Value) (cl:Addr) (s':Shared) (R':RC):Prop where
 tr:Tr C s R s' R' hs'
 wr:WR s.heap s'.heap R' (.f l) acc
 ns:∃n0,s'.heap.Ns cl n0
 new:s.heap.get? cl=none
 apart:∀p∈R'.ρ,cl≠p.1.1∧cl≠p.1.2
theorem HsR.less {h:Heap} {R R':RC} {hs:HS} (H:HsR C h R hs) (e1:R'.ρ=R.ρ) (e2:R'.tk=R.tk) (hb:∀b∈R'.bad,b∈R.bad) (nod:R'.bad.Nodup) (ho:∀p∈R'.O,p∈R.O):HsR C h R' hs:=by
 refine⟨by rw[e1];exact H.len,fun r i a l h1 h2=>?_,nod,fun p hp=>H.own p (ho p hp),by rw[e2];exact H.tabs⟩
 obtain⟨n,⟨ep,hsh,t,h3,h4,h5,h6⟩,vs,hl,hv⟩:=H.at_ r i a l (by rw[←e1];exact h1) h2
 exact⟨n,⟨ep,hsh,t,fun q=>h3 (hb _ q),fun q=>h4 (hb _ q),h5,h6⟩,vs,hl,VRs.step (R:=R) (R':=R') (Kept.refl _ _) e2 (fun ux ux e=>by rw[e1];exact e) (fun b o q ux q'=>q (hb _ q')) _ _ hv⟩
theorem comp_core {ns:Names} {Γ:Gam} {hs hs':HS} {elt:Expr} {gens:List Comprehension} {sc:Scope} {pos:Pos} {l:List V} {env:Env}
 (hA:AOK k A) (t0:R.tk=m.tk) (S:SI m.C m.h₀ env ns Γ R hs s)
 {t it:Expr} {ifs:List Expr} {gs:List Comprehension} (hgens:gens=⟨t,it,ifs,0⟩::gs) (htgt:∀g∈gens,∀x∈tNames g.target,isV (sc.names.lookup x)) (hsc:ScOk ns sc) (hany:anyT (ownNames sc.names++Γ) t)
 (hnone:(ownNames sc.names++Γ).lookup ("":Str)=none) {wv:W} {hs1:HS} (hit:wpAny (m.M) A (eval it env) (PostW m.C s R wv hs1) NoE s) {its:List V} (ei:ItsR wv its) (em:MapR (TurnR m k (relab ns sc.names) t ifs (GenR m k (relab ns sc.names) elt gs) (ownNames sc.names++Γ)) its hs1 l hs')
 (hz:l.length≤sizeLine) {Q:Value→Addr→Result→Shared→Prop} (hQ:∀acc cl s' R',CompEnd m.C s R hs' l acc cl s' R'→Q acc cl (.ok .next) s'):
 wpAny (m.M) A (eval it env) (fun x s₁=>wpAny (m.M) A (pyIter x) (fun itv s₂=>wpAny (m.M) A (newList []) (fun acc s₃=>
  wpAny (m.M) A (newFunctionEnv sc env.globals (clF (fun x=>env.cells.lookup x) sc.names []) [] env.qual none .none (some env)) (fun cenv s₄=>
   codeAny (m.M) A (.compStart (.ListComp elt gens sc pos) 0 itv acc { cenv with scope:=relabel sc env }) (Q acc cenv.locals) s₄) NoE s₃) NoE s₂) NoE s₁) NoE s:=by
 refine noE hit fun x s1 hp1=>?_
 obtain⟨R1,t1,r1⟩:=hp1
 refine noE (iter_ok ei hA t1.hd (fun b hb hn=>Kept.none t1.kp (fun q=>hb (hl_bad _ (t1.st.sub _ q))) hn) r1) fun itv s2 hp2=>?_
 obtain⟨g2,k2,IT⟩:=hp2
 have t2:Tr m.C s1 R1 s2 R1 hs1:=Tr.own t1.hd g2 k2
 have t12:=t1.trans t2
 have S2:=S.tr t12
 refine wpAny_newObj_type ?_
 refine compEnv_go ?_
 let D:=s2.heap.objs.size
 let h3:=s2.heap.push { cls:= .type "list",dict:=none,data:= .seq ([]:List Value).toArray }
 have hDn:s2.heap.get? D=none:=none_ge (Nat.le_refl _)
 have hDb:D∉R1.bad:=size_bad t2.hd
 have k23:Kept [] s2.heap h3:=(Kept.refl _ _).push _
 have k24:Kept [] s2.heap (compHeap sc h3):=k23.trans (compHeap_kept sc h3)
 have hD4:(compHeap sc h3).PlainList D #[]:=⟨_,compHeap_kept sc h3 _ _ (by simp) (Heap.get?_push_size _ rfl)⟩
 have V3:VarR env ns Γ (R1.with "" D) h3:=S2.var.grow k23 hDn
 have gr:=grow (R:=R1) k24 hDn
 let cenv:=compEnvC sc (compCells sc env h3.objs.size) h3.objs.size env
 have V4:VarR cenv (relab ns sc.names) (ownNames sc.names++Γ) (R1.with "" D) (compHeap sc h3):=comp_var V3 hsc
 let s4:Shared:={ s2 with heap:=compHeap sc h3 }
 have up:∀b,s2.heap.get? b=none∨∃o,s2.heap.get? b=some o:=fun b=>by cases s2.heap.get? b with|none=>exact .inl rfl|some o=>exact .inr ⟨o,rfl⟩
 have n3:∀b,h3.get? b=none→s2.heap.get? b=none:=fun b e=>Kept.none k23 (by simp) e
 have base0:∀b,s2.heap.get? b=none→m.h₀.get? b=none:=fun b e=>by
  cases q:m.h₀.get? b with
  |none=>rfl
  |some o=>rw[S2.base b o q]at e;cases e
 have hdrs:∀p∈R1.ρ,(∃o,s2.heap.get? p.1.1=some o)∧∃o,s2.heap.get? p.1.2=some o:=by
  intro p hp
  obtain⟨r,hr⟩:=List.mem_iff_getElem?.mp hp
  have hlt:=(List.getElem?_eq_some_iff.mp hr).1
  have:∃l,hs1[r]? =some l:=by rw[S2.hdr.len]at hlt;exact⟨hs1[r],List.getElem?_eq_some_iff.mpr ⟨hlt,rfl⟩⟩
  refine hid fun G_ k_=>?_
  obtain⟨l,hl⟩:=this
  obtain⟨_,⟨ep,hsh,t,h1,h2,h3,h4⟩,_⟩:=S2.hdr.at_ r p.1 p.2 l hr hl
  refine k_ ?_
  exact⟨⟨_,h3⟩,_,h4⟩
 have S4:SI m.C m.h₀ cenv (relab ns sc.names) (ownNames sc.names++Γ) (R1.with "" D) hs1 s4:=by
  refine⟨fun b o e=>k24 b o (by simp) (S2.base b o e),fun b o e hb=>?_,V4,S2.hdr.grow k24 hDn hDb ⟨_,hD4.choose_spec,_,_,rfl⟩,fun p hp c hc=>?_,fun c hc=>?_⟩
  ·rcases mem_cons.mp (show b∈D::R1.bad from hb)with q|q
   ·subst q;have:=S2.base _ _ e;rw[hDn]at this;cases this
   ·exact S2.nb b o e q
  ·rcases own_cases V3 hsc hc with q|q
   ·have:=n3 _ q
    obtain⟨⟨o1,h1⟩,o2,h2⟩:=hdrs p hp
    exact⟨fun e=>(by rw[e,h1]at this;cases this),fun e=>(by rw[e,h2]at this;cases this)⟩
   ·exact S2.apart p hp c q
  ·rcases own_cases V3 hsc hc with q|q
   ·exact base0 _ (n3 _ q)
   ·exact S2.fresh c q
 have A4:Acc D [] s4 (R1.with "" D):=⟨mem_cons_self,[],hD4,VRs.nil⟩
 obtain⟨I,fp,P,St,hI0,W,hst,hel,hIn,hcl,hfp⟩:=id IT
 subst hI0
 have ITD:ItD m A m.h₀ D s4.heap (R1.with "" D) its (.ref I):=by
  refine⟨I,fp,P,St,rfl,W,W.frame _ _ _ hst fun b ux o e=>k24 b o (by simp) e,fun i v hi=>let ⟨x,h1,h2⟩:=hel i v hi;⟨x,h1,gr.1 _ _ h2⟩,hcl,?_,fun b hb hbI=>?_⟩
  ·cases q:m.h₀.get? I with
   |none=>rfl
   |some o=>rw[S.base I o q]at hIn;cases hIn
  ·refine hid fun G_ k_=>?_
   obtain⟨h1,⟨o,vs,n,h2,h3'⟩,_⟩:=hfp b hb hbI
   refine k_ ?_
   exact⟨h1,fun q=>(by rw[q,hDn]at h2;cases h2),o,vs,n,k24 b o (by simp) h2,h3'⟩
 let xs:=gens.flatMap fun g=>tNames g.target
 have tg:∀g∈gens,(∀x∈tNames g.target,sc.names.lookup x=some .local∨sc.names.lookup x=some .cell)∧TgtOK (relab ns sc.names) xs g.target:=fun g hg=>⟨htgt g hg,tgt_of (htgt g hg) fun x hx=>List.mem_flatMap.mpr ⟨g,hg,hx⟩⟩
 have hfs:∀it x,NSet it→foldedSetIterable it cenv x=pure x:=by
  exact fun it x h=>not_folded h cenv x
 have turn:=turn_ok (m:=m) (A:=A) (gens:=gens) (sc:=sc) (pos:=pos) (d:=0) (elt:=elt) (D:=D) (ifs:=ifs) (env:=cenv) hA (tg ⟨t,it,ifs,0⟩ (by rw[hgens];exact mem_cons_self)).2 hany hnone
  (kont_ok hA hfs gs 0 (by rw[hgens];rfl) (fun g hg=>(tg g (by rw[hgens];exact mem_cons_of_mem _ hg)).2))
 have hg0:gens[0]? =some ⟨t,it,ifs,0⟩:=by rw[hgens];rfl
 refine hid fun G_ k_=>?_
 obtain⟨I',hI',self,loop⟩:=loop_ok (A:=A) (elt:=elt) (sc:=sc) (pos:=pos) (g:=⟨t,it,ifs,0⟩) hg0 rfl turn em S4 (t12.st.1.trans t0) A4 (by simpa using hz) ITD
 cases hI'
 refine k_ ?_
 refine compStart_any hg0 rfl (codeAny_mono loop fun r s5 hp3=>?_) self
 obtain⟨h5,R5,h6⟩:=hp3
 subst h5
 obtain⟨ext,hρ5,hext⟩:=h6.st.3
 have hO5:R5.O=((("":Str),D)::R1.O:List (Str×Addr)):=h6.st.2
 let R':RC:={ R5 with O:=R1.O }
 have hbad5:R5.bad=D::R'.bad:=by
  show R5.O.map (·.2)++R5.hl=D::(R1.O.map (·.2)++R5.hl)
  rw[hO5];rfl
 have hnod:=h6.si.hdr.nod
 rw[hbad5]at hnod
 have hwith:R'.with "" D=R5:=by
  show({ R5 with O:=(("":Str),D)::R1.O }:RC)=R5
  rw[←hO5]
 have n4:∀b,s4.heap.get? b=none→s2.heap.get? b=none:=fun b e=>Kept.none k24 (by simp) e
 have zz:∀b o,s2.heap.get? b=some o→¬(b=D∨TZ cenv (relab ns sc.names) xs b):=by
  rintro b o e (q|⟨x,hx,hc⟩)
  ·rw[q,hDn]at e;cases e
  ·obtain⟨g,hg,hxg⟩:=List.mem_flatMap.mp hx
   have:=n3 _ (target_new (h:=h3) ((tg g hg).1 x hxg) hc)
   rw[e]at this;cases this
 refine hQ _ _ _ R' ⟨?_,?_,?_,?_,?_⟩
 ·refine⟨?_,(t12.go.trans ⟨_,_,rfl⟩).trans h6.go,fun b o hb e=>?_,?_⟩
  ·have st':StepR s4.heap R1 R':=⟨h6.st.1,rfl,ext,hρ5,hext⟩
   exact t12.st.trans st' fun b e=>t12.ex b (n4 b e)
  ·have e2:=t12.kp b o hb e
   refine h6.kp b o (fun q=>?_) (zz b o e2) (fun q=>?_) (k24 b o (by simp) e2)
   ·rcases t12.st.hl b q with q|q
    ·exact hb q
    ·rw[e]at q;cases q
   ·rw[q,hIn]at e;cases e
  ·exact h6.si.hdr.less rfl rfl (fun b hb=>by rw[hbad5];exact mem_cons_of_mem _ hb) (List.nodup_cons.mp hnod).2 fun p hp=>by rw[hO5];exact mem_cons_of_mem _ hp
 ·obtain⟨h7,vs,h8,h9⟩:=h6.acc
  refine⟨hz,D,vs,rfl,t12.ex D hDn,(List.nodup_cons.mp hnod).1,h8,?_⟩
  rw[hwith]
  simpa using h9
 ·obtain⟨n0,hm,_⟩:=h6.si.var.loc
  exact⟨n0,hm⟩
 ·exact t12.ex _ (n3 _ (none_ge (Nat.le_refl _)))
 ·intro p hp
  exact h6.si.apart p hp _ (.inl rfl)
theorem Tr.drop {s s':Shared} {R':RC} {hs':HS} (t:Tr C s R s' R' hs') {cl:Addr} {n0:Str→Option Value} (hm:s'.heap.Ns cl n0) (hn:s.heap.get? cl=none) (hap:∀p∈R'.ρ,cl≠p.1.1∧cl≠p.1.2) {h':Heap} (hs:Heap.SameBut cl s'.heap h'):Tr C s R { s' with heap:=h' } R' hs':=by
 refine hid fun G_ k_=>?_
 obtain⟨o,es,ep,ho,hd,_⟩:=hm
 refine k_ ?_
 refine⟨t.st,t.go.trans ⟨_,_,rfl⟩,fun b o' hb e=>?_,t.hd.other hs.extBut ho (by rw[hd];intros;simp) (fun ux=>by rw[hd];intros;simp) hap⟩
 exact hs.extBut b o' (fun q=>by rw[q,hn]at e;cases e) (t.kp b o' hb e)
theorem CompEnd.drop {hs':HS} {l:List V} {acc:Value} {cl:Addr} {s':Shared} {R':RC} (c:CompEnd C s R hs' l acc cl s' R') {h':Heap} (hs:Heap.SameBut cl s'.heap h'):PostW C s R (.f l) hs' acc { s' with heap:=h' }:=by
 obtain⟨n0,hm⟩:=c.ns
 refine⟨R',c.tr.drop hm c.new c.apart hs,?_⟩
 refine hid fun G_ k_=>?_
 obtain⟨o,es,ep,ho,hd,_⟩:=hm
 have vr:=VR.other (R:=R') hs.extBut ho (by rw[hd];intros;simp) (fun ux=>by rw[hd];intros;simp)
 obtain⟨n,b,vs,e,h1,h2,⟨mm,h3⟩,q⟩:=c.wr
 have vr':=VR.other (R:=R'.with "" b) hs.extBut ho (by rw[hd];intros;simp) (fun ux=>by rw[hd];intros;simp)
 refine k_ ?_
 exact⟨n,b,vs,e,h1,h2,⟨mm,hs.extBut b _ (fun q=>by rw[q,ho]at h3;cases h3;cases hd) h3⟩,vr'.2 _ _ q⟩
structure CompR (m:Mod) (k:Nat) (ns:Names) (Γ:Gam) (hs:HS) (elt:Expr) (gens:List Comprehension) (sc:Scope) (l:List V) (hs':HS):Prop where
 O:ScOk ns sc
 tgt:∀g∈gens,∀x∈tNames g.target,isV (sc.names.lookup x)
 none:(ownNames sc.names++Γ).lookup ("":Str)=none
 go:∃t it ifs gs wv hs1 its,gens=⟨t,it,ifs,0⟩::gs∧anyT (ownNames sc.names++Γ) t∧NSet it∧EvR m k ns Γ hs it wv hs1∧ItsR wv its∧
  MapR (TurnR m k (relab ns sc.names) t ifs (GenR m k (relab ns sc.names) elt gs) (ownNames sc.names++Γ)) its hs1 l hs'
 len:room l.length=true
theorem comp_closure {env:Env} {ns:Names} {Γ:Gam} {h:Heap} {sc:Scope} (V:VarR env ns Γ R h) (O:ScOk ns sc):closureFor sc env=pure (clF (fun x=>env.cells.lookup x) sc.names []):=
 closure_ok fun x hx hf=>by
  obtain⟨n,k0⟩:=x
  cases hf
  obtain⟨c,_,_,e1,_⟩:=V.cel n (O.free n hx).1
  simp[e1]
theorem comp_use {ns:Names} {Γ:Gam} {hs hs':HS} {elt:Expr} {gens:List Comprehension} {sc:Scope} {pos:Pos} {l:List V} (c:CompR m k ns Γ hs elt gens sc l hs')
 {env:Env} (hA:AOK k A) (t0:R.tk=m.tk) (S:SI m.C m.h₀ env ns Γ R hs s) {use:Option (Value→Sem Unit)} {P:Value→Shared→Prop}
 (hu:∀acc cl s' R',CompEnd m.C s R hs' l acc cl s' R'→compPost m.M A NoE use P acc cl (.ok .next) s'):
 wpAny m.M A (comprehension (.ListComp elt gens sc pos) sc env (firstIterPos gens pos) (newList []) (firstAsync gens) (firstIter gens env) use) P NoE s:=by
 refine hid fun G_ k_=>?_
 obtain⟨O,htgt,hnone,⟨t,it,ifs,gs,wv,hs1,its,hgens,hany,hset,ew,ei,em⟩,hz⟩:=c
 subst hgens
 refine k_ ?_
 refine wpAny_comprehension_free (use:=use) (Q:=P) rfl (fun x=>?_) (comp_closure S.var O) O.kind (fun x hx hl=>?_) ?_
 ·exact not_folded hset _ _
 ·obtain⟨n,k0⟩:=x;cases hl;exact O.loc n hx
 ·exact comp_core (Q:=fun acc cl=>compPost m.M A NoE use P acc cl) hA t0 S rfl htgt O hany hnone (ew A env R s hA t0 S) ei em (room_le hz) hu
theorem ev_comp {ns:Names} {Γ:Gam} {hs hs':HS} {elt:Expr} {gens:List Comprehension} {sc:Scope} {pos:Pos} {l:List V} (c:CompR m k ns Γ hs elt gens sc l hs'):EvR m k ns Γ hs (.ListComp elt gens sc pos) (.f l) hs':=fun A env R s hA t0 S=>by
 rw[eval_ListComp]
 exact comp_use c hA t0 S fun acc cl s' R' ce=>by
  obtain⟨n0,hm⟩:=ce.ns
  exact⟨n0,hm,fun h' hs=>ce.drop hs⟩
end
noncomputable def RC.act (R:RC) (b:Addr):Prop:=∃x,x≠("":Str)∧(x,b)∈R.O
structure StepS (env:Env) (ns:Names) (s:Shared) (R:RC) (s':Shared) (R':RC):Prop where
 tk:R'.tk=R.tk
 ρ:∃ext,R'.ρ=R.ρ++ext∧∀p∈ext,s.heap.get? p.2=none∧s.heap.get? p.1.1=none∧s.heap.get? p.1.2=none
 go:Go s s'
 new:∀p∈R'.O,p∈R.O∨(p.1≠("":Str)∧s.heap.get? p.2=none)
 old:∀p∈R.O,p.1=("":Str)→p∈R'.O
 kp:∀b o,b∉R.hl→¬R.act b→¬Own env ns b→s.heap.get? b=some o→s'.heap.get? b=some o
 ex:∀b,s'.heap.get? b=none→s.heap.get? b=none
theorem StepS.refl {env ns s R}:StepS env ns s R s R:=⟨rfl,⟨[],by simp,by simp⟩,Go.refl _,fun ux h=> .inl h,fun ux h ux=>h,fun ux ux ux ux ux e=>e,fun ux e=>e⟩
theorem StepS.hl {env ns s R s' R'} (a:StepS env ns s R s' R'):∀b∈R'.hl,b∈R.hl∨s.heap.get? b=none:=by
 obtain⟨ext,e,hx⟩:=a.ρ
 intro b hb
 simp only[RC.hl,e,a.tk,map_append,mem_append]at hb ⊢
 rcases hb with(hb|hb)|hb
 ·exact .inl (.inl hb)
 ·obtain⟨p,hp,rfl⟩:=mem_map.mp hb;exact .inr (hx p hp).1
 ·exact .inl (.inr hb)
theorem StepS.act {env ns s R s' R'} (a:StepS env ns s R s' R'):∀b,R'.act b→R.act b∨s.heap.get? b=none:=by
 rintro b ⟨x,hx,hm⟩
 rcases a.new _ hm with q|q
 ·exact .inl ⟨x,hx,q⟩
 ·exact .inr q.2
theorem StepS.trans {env ns s R s' R' s'' R''} (a:StepS env ns s R s' R') (b:StepS env ns s' R' s'' R''):StepS env ns s R s'' R'' where
 tk:=b.tk.trans a.tk
 ρ:=by
  obtain⟨ext,e,hx⟩:=a.ρ
  obtain⟨ext',e',hx'⟩:=b.ρ
  refine⟨ext++ext',by rw[e',e,append_assoc],fun p hp=>?_⟩
  rcases mem_append.mp hp with q|q
  ·exact hx p q
  ·obtain⟨h1,h2,h3⟩:=hx' p q;exact⟨a.ex _ h1,a.ex _ h2,a.ex _ h3⟩
 go:=a.go.trans b.go
 new:=fun p hp=>by
  rcases b.new p hp with q|q
  ·exact a.new p q
  ·exact .inr ⟨q.1,a.ex _ q.2⟩
 old:=fun p hp e=>b.old p (a.old p hp e) e
 kp:=fun x o h1 h2 h3 e=>by
  refine b.kp x o (fun q=>?_) (fun q=>?_) h3 (a.kp x o h1 h2 h3 e)
  ·rcases a.hl x q with q|q
   ·exact h1 q
   ·rw[e]at q;cases q
  ·rcases a.act x q with q|q
   ·exact h2 q
   ·rw[e]at q;cases q
 ex:=fun x e=>a.ex x (b.ex x e)
theorem StepS.ofTr {C env ns s R s' R' hs'} (t:Tr C s R s' R' hs'):StepS env ns s R s' R':=
 ⟨t.st.1,t.st.3,t.go,fun p hp=> .inl (by rw[←t.st.2];exact hp),fun p hp ux=>by rw[t.st.2];exact hp,fun b o h ux ux e=>t.kp b o h e,t.ex⟩
section
variable {m:Mod} {C:Addr} {h₀:Heap} {k:Nat} {A:Around} {s:Shared} {R:RC} {E:Value→Shared→Prop}
theorem StepS.stored {env ns Γ hs x} {s s':Shared} (t:Stored env ns x s s') (S':SI C h₀ env ns Γ R hs s'):StepS env ns s R s' R where
 tk:=rfl
 ρ:=⟨[],by simp,by simp⟩
 go:=t.go
 new:=fun ux h=> .inl h
 old:=fun ux h ux=>h
 kp:=fun b o ux ux h e=>by
  obtain⟨c,hc,hs⟩:=t.same
  exact hs.extBut b o (fun q=>h (q▸hc.own)) e
 ex:=fun b e=>by
  obtain⟨c,hc,hs⟩:=t.same
  by_cases hb:b=c
  ·subst hb;obtain⟨o,ho,_⟩:=S'.var.own_obj hc.own;rw[e]at ho;cases ho
  ·exact(hs.2 b hb).symm.trans e
theorem StepS.storedL {env ns Γ hs xs} {s s':Shared} (t:StoredL env ns xs s s') (S':SI C h₀ env ns Γ R hs s'):StepS env ns s R s' R where
 tk:=rfl
 ρ:=⟨[],by simp,by simp⟩
 go:=t.go
 new:=fun ux h=> .inl h
 old:=fun ux h ux=>h
 kp:=fun b o ux ux h e=>t.kp b o (fun x ux hc=>h hc.own) e
 ex:=fun b e=>by
  by_cases h:Own env ns b
  ·obtain⟨o,ho,_⟩:=S'.var.own_obj h;rw[e]at ho;cases ho
  ·cases q:s.heap.get? b with
   |none=>rfl
   |some o=>rw[t.kp b o (fun x ux hc=>h hc.own) q]at e;cases e
theorem kvs_adopt {h:Heap} {R R':RC} (hb:∀b∈R'.bad,b∈R.bad∨∃its,h.PlainList b its):∀{l:List (Str×Str)} {vs:List Value},VRs h R (kvs l) vs→VRs h R' (kvs l) vs:=by
 intro v0_
 induction v0_ with
 |nil=>
  intro _ e
  exact e
 |cons p r ih_=>
  intro vs q1_
  obtain⟨v,vr,e,⟨n,a,us,e1,na,ht,hu⟩,h2⟩:=q1_
  refine⟨v,vr,e,⟨n,a,us,e1,fun q=>?_,ht,?_⟩,ih_ h2⟩
  ·rcases hb a q with q|⟨its,n0,q⟩
   ·exact na q
   ·obtain⟨o,ho,hc,_⟩:=ht;rw[q]at ho;cases ho;exact absurd hc (by simp)
  ·obtain⟨v1,r1,e2,h3,v2,r2,e4,h5,h6⟩:=hu
   exact⟨v1,r1,e2,h3,v2,r2,e4,h5,h6⟩
theorem HsR.adopt {h:Heap} {hs:HS} (H:HsR C h R hs) {x:Str} {a:Addr} {its:Array Value} (hl:h.PlainList a its) (na:a∉R.bad):HsR C h (R.with x a) hs:=by
 have sub:∀b∈(R.with x a).bad,b∈R.bad∨∃its,h.PlainList b its:=by
  intro b hb
  rcases mem_cons.mp (show b∈a::R.bad from hb)with q|q
  ·exact .inr ⟨its,q▸hl⟩
  ·exact .inl q
 refine⟨H.len,fun r i b l e1 e2=>?_,List.nodup_cons.mpr ⟨na,H.nod⟩,fun p hp=>?_,H.tabs⟩
 ·obtain⟨n,⟨ep,hsh,t,h1,h2,h3,h4⟩,vs,hb,hv⟩:=H.at_ r i b l e1 e2
  refine⟨n,⟨ep,hsh,t,fun q=>?_,fun q=>?_,h3,h4⟩,vs,hb,kvs_adopt sub hv⟩
  ·rcases sub _ q with q|⟨_,n0,q⟩
   ·exact h1 q
   ·rw[h3]at q
    have:=congrArg (fun o:Option Obj=>o.map (·.cls)) q
    simp[instObj]at this
  ·rcases sub _ q with q|⟨_,n0,q⟩
   ·exact h2 q
   ·rw[h4]at q
    have:=congrArg (fun o:Option Obj=>o.map (·.data)) q
    simp[dictOf]at this
 ·rcases mem_cons.mp hp with rfl|hp
  ·obtain⟨n0,ho⟩:=hl;exact⟨_,ho,_,n0,rfl⟩
  ·exact H.own p hp
theorem SI.adopt {env ns Γ hs hs'} {s s1:Shared} {R R1:RC} (S:SI C h₀ env ns Γ R hs s) (t:Tr C s R s1 R1 hs') {x:Str} {a:Addr} {its:Array Value} (hn:s.heap.get? a=none) (hl:s1.heap.PlainList a its) (na:a∉R1.bad):
 SI C h₀ env ns Γ (R1.with x a) hs' s1:=by
 have S1:=S.tr t
 have hb:∀b o,b∉R.bad→s.heap.get? b=some o→b∉(R1.with x a).bad:=by
  intro b o nb ho hb
  rcases mem_cons.mp (show b∈a::R1.bad from hb)with q|q
  ·rw[q,hn]at ho;cases ho
  ·exact t.st.bad b o nb ho q
 have vr:∀v val,VR s.heap R v val→VR s1.heap (R1.with x a) v val:=fun v val r=>VR.step (R:=R) (R':=R1.with x a) (t.kp.mono hl_bad) t.st.1 t.st.get hb _ _ r
 have vrs:∀v val,VRs s.heap R v val→VRs s1.heap (R1.with x a) v val:=fun v val r=>VRs.step (R:=R) (R':=R1.with x a) (t.kp.mono hl_bad) t.st.1 t.st.get hb _ _ r
 have nod:=List.nodup_append.mp S.hdr.nod
 have slot:∀y sl ov,SlotR s.heap R y sl ov→SlotR s1.heap (R1.with x a) y sl ov:=by
  intro y sl ov q
  cases sl with
  |any=>trivial
  |p v=>obtain⟨val,e,z⟩:=q;exact⟨val,e,vr _ _ z⟩
  |o l=>
   obtain⟨n,b,vs,e,hm,⟨n0,ho⟩,z⟩:=q
   refine⟨n,b,vs,e,mem_cons_of_mem _ (by rw[t.st.2];exact hm),⟨n0,t.kp b _ (fun q=>?_) ho⟩,vrs _ _ z⟩
   exact nod.2.2 b (mem_map.mpr ⟨_,hm,rfl⟩) b q rfl
 have far:∀b o,s.heap.get? b=some o→¬Turn o→s1.heap.get? b=some o:=fun b o ho hn=>t.kp b o (fun hb=>by
  obtain⟨o',ho',e⟩:=S.hdr.seqs b hb
  rw[ho]at ho';cases ho';exact hn e) ho
 have V:=S.var
 refine⟨S1.base,fun b o e=>hb b o (S.nb b o e) (S.base b o e),⟨V.kind,V.names,V.glob,V.blt,?_,?_,V.inj⟩,t.hd.adopt hl na,S1.apart,S1.fresh⟩
 ·obtain⟨n0,⟨o,es,ep,ho,hd,r⟩,hx⟩:=V.loc
  exact⟨n0,⟨o,es,ep,far _ o ho (Turn.no (by rw[hd];intros;simp) (by rw[hd];intros;simp)),hd,r⟩,fun y hy=>let ⟨sl,e,q⟩:=hx y hy;⟨sl,e,slot _ _ _ q⟩⟩
 ·intro y hy
  obtain⟨c,ov,sl,e1,⟨o,ho,hd⟩,e3,q⟩:=V.cel y hy
  exact⟨c,ov,sl,e1,⟨o,far _ o ho (Turn.no (by rw[hd];intros;simp) (by rw[hd];intros;simp)),hd⟩,e3,slot _ _ _ q⟩
theorem StepS.adopt {env ns hs'} {s s1:Shared} {R R1:RC} (t:Tr C s R s1 R1 hs') {x:Str} {a:Addr} (hx:x≠"") (hn:s.heap.get? a=none):StepS env ns s R s1 (R1.with x a) where
 tk:=t.st.1
 ρ:=t.st.3
 go:=t.go
 new:=fun p hp=>by
  rcases mem_cons.mp hp with rfl|hp
  ·exact .inr ⟨hx,hn⟩
  ·exact .inl (by rw[←t.st.2];exact hp)
 old:=fun p hp ux=>mem_cons_of_mem _ (by rw[t.st.2];exact hp)
 kp:=fun b o h ux ux e=>t.kp b o h e
 ex:=t.ex
inductive ToSlot:W→Slot→Prop where
 |p {v}:ToSlot (.p v) (.p v)
 |f {l}:ToSlot (.f l) (.p (.lst l))
 |o {l}:ToSlot (.f l) (.o l)
theorem slot_of {env ns Γ hs hs'} {s s1:Shared} {R R1:RC} {x:Str} {wv:W} {sl:Slot} {val:Value} (e:ToSlot wv sl) (hx:x≠"") (S:SI C h₀ env ns Γ R hs s) (t:Tr C s R s1 R1 hs') (r:WR s.heap s1.heap R1 wv val):
 ∃R2,StepS env ns s R s1 R2∧SI C h₀ env ns Γ R2 hs' s1∧SlotR s1.heap R2 x sl (some val)∧R2.ρ=R1.ρ:=by
 cases e with
 |p=>exact⟨R1,StepS.ofTr t,S.tr t,⟨val,rfl,r⟩,rfl⟩
 |f=>
  obtain⟨n,a,vs,e,h1,h2,h3,h4⟩:=r
  exact⟨R1,StepS.ofTr t,S.tr t,⟨_,rfl,n,a,vs,e,h2,h3,h4.less⟩,rfl⟩
 |o=>
  obtain⟨n,a,vs,rfl,h1,h2,h3,h4⟩:=r
  exact⟨R1.with x a,StepS.adopt t hx h1,S.adopt t h1 h3 h2,⟨n,a,vs,rfl,mem_cons_self,h3,VRs.step (R:=R1.with "" a) (R':=R1.with x a) (Kept.refl _ _) rfl (fun ux ux e=>e) (fun b o nb ux hb=>nb hb) _ _ h4⟩,rfl⟩
end
section
variable {m:Mod} {C:Addr} {h₀:Heap} {k:Nat} {A:Around} {s:Shared} {R:RC} {E:Value→Shared→Prop}
theorem setItem_plain {l:Addr} {items:Array Value} {k:Int} {t:Tok} {v:Value} {Q:Unit→Shared→Prop} {E:Value→Shared→Prop} (hl:s.heap.PlainList l items)
 (h0:0≤k) (hfit:k<2^63) (hn:k<items.size)
 (hQ:∀h',h'.PlainList l (items.setIfInBounds k.toNat v)→Heap.SameBut l s.heap h'→Q () { s with heap:=h' }):
 wpAny (m.M) A (setItem (.ref l) (.int k t) v) Q E s:=by
 obtain⟨n,ho⟩:=id hl
 have hl':=hl.isList
 unfold setItem
 try with_reducible refine wpAny_holding ?_
 first|refine wpAny_bind (wpAny_pure ?_)|skip
 refine wpAny_bind (wpAny_sequenceKey hl'.typeIs (by decide) ?_)
 refine wpAny_bind (wpAny_callSpecial?_slot (name:=Str.ofString "__setitem__") hl'.typeIs slot_list_setitem
  (wpAny_call_entry slot_list_setitem hl'.typeIs entry_list_setitem ?_ (args_list_setitem _ _ _)))
 show wpAny _ _ (Builtin.List.listSubscript? (.int k t)>>=_) _ _ s
 refine wpAny_bind (wpAny_listSubscript_int (fitsIndex_of h0 hfit) ?_)
 clear hfit
 obtain⟨j,rfl⟩:=Int.eq_ofNat_of_zero_le h0
 have hj:j<items.size:=Int.ofNat_lt.mp hn
 have hx':items[j]? =some items[j]:=Array.getElem?_eq_getElem hj
 show wpAny _ _ ((seqItemAt l j>>=fun r=>pure (r.map (j,·)))>>=_) _ _ s
 refine wpAny_bind (wpAny_bind (wpAny_seqItemAt ho rfl (wpAny_pure ?_)))
 rw[hx']
 show wpAny _ _ (setSeqItemAt l j v>>=_) _ _ s
 have hfin:(s.heap.update l (Obj.mapSeq (·.setIfInBounds j v))).PlainList l (items.setIfInBounds j v):=by
  have e:∃n',Obj.mapSeq (·.setIfInBounds j v) { cls:= .type "list",data:= .seq items n }={ cls:= .type "list",data:= .seq (items.setIfInBounds j v) n' }:=by
   simp[Obj.mapSeq]
  obtain⟨n',e⟩:=e
  exact⟨n',by rw[Heap.get?_update_self _ ho (by rw[e];rfl),e]⟩
 refine wpAny_bind (wpAny_setSeqItemAt ho rfl ?_)
 first
  |exact wpAny_bind (wpAny_pure (wpAny_pure ⟨.none,rfl,wpAny_pure (hQ _ hfin (Heap.SameBut.update ..))⟩))
  |exact wpAny_pure ⟨.none,rfl,wpAny_pure (hQ _ hfin (Heap.SameBut.update ..))⟩
theorem reverse_plain {l:Addr} {items:Array Value} {Q:Value→Shared→Prop} {E:Value→Shared→Prop} (hl:s.heap.PlainList l items) (hsz:items.size≤sizeLine)
 (hQ:∀h',h'.PlainList l items.toList.reverse.toArray→Heap.SameBut l s.heap h'→Q .none { s with heap:=h' }):wpAny (m.M) A (call (.builtin "list.reverse") [.ref l]) Q E s:=by
 obtain⟨n,ho⟩:=id hl
 refine call_meets PySem.F.slot_list_reverse ⟨_,ho,rfl⟩ PySem.F.entry_list_reverse (PySem.F.args_list_reverse_1 _) (AutoSeq1.list_reverse_list_0 l items n hsz) ⟨ho,?_⟩
 exact hQ _ ⟨n,by rw[Heap.get?_update_self _ ho (by rw[mapSeq_reverse];rfl),mapSeq_reverse]⟩ (Heap.SameBut.update ..)
set_option tactic.hygienic true in
structure TurnL (C:Addr) (h₀:Heap) (env:Env) (ns:Names) (s:Shared) (R:RC) (x:Str) (a:Addr) (s2:Shared) (R2:RC) (hs2:HS) (l':List V) (vs':List Value) (h':Heap):Prop where
 si:∀Γ' tks,VarR env ns Γ' R2 h'→SI C h₀ env ns Γ' R2 hs2 { s2 with heap:=h',toks:=tks }
 vrs:VRs h' R2 l' vs'
 slot:∀y sl ov,y≠x→SlotR s.heap R y sl ov→SlotR h' R2 y sl ov
 own:(x,a)∈R2.O
 far:∀b o,s.heap.get? b=some o→¬Turn o→h'.get? b=some o
theorem SI.turnL {env ns Γ hs} (S:SI C h₀ env ns Γ R hs s) {x:Str} {a:Addr} {vs:Array Value} (hm:(x,a)∈R.O) (hpl:s.heap.PlainList a vs) {s2:Shared} {R2:RC} {hs2:HS} {l':List V} {vs':List Value} {h':Heap} (t:Tr C s R s2 R2 hs2) (hk:Heap.ExtBut a s2.heap h') (hpl':h'.PlainList a vs'.toArray) (hv':VRs s2.heap R2 l' vs'):
 TurnL C h₀ env ns s R x a s2 R2 hs2 l' vs' h':=by
 have nod:=List.nodup_append.mp S.hdr.nod
 have hm2:(x,a)∈R2.O:=by rw[t.st.2];exact hm
 have hab:a∈R2.bad:=mem_append_left _ (mem_map.mpr ⟨_,hm2,rfl⟩)
 have k0:Kept R2.bad s2.heap h':=fun b o hb e=>hk b o (fun q=>hb (q▸hab)) e
 have vr:(∀v val,VR s2.heap R2 v val→VR h' R2 v val):=VR.step k0 rfl (fun ux ux e=>e) (fun ux ux e ux=>e)
 have vrs:(∀v val,VRs s2.heap R2 v val→VRs h' R2 v val):=VRs.tp vr
 have S2:=S.tr t
 have nod2:=List.nodup_append.mp t.hd.nod
 refine⟨fun Γ' tks V'=>⟨fun b ob e=>hk b _ (fun q=>S2.nb b ob e (q▸hab)) (S2.base b ob e),S2.nb,V',⟨t.hd.len,?_,t.hd.nod,?_,t.hd.tabs.at fun b ob h1 ux ⟨us,h3⟩=>hk b ob (fun e=>by obtain⟨oa,hoa,va,na,hda⟩:=t.hd.own _ hm2;rw[e,hoa]at h1;cases h1;rw[hda]at h3;cases h3) h1⟩,S2.apart,S2.fresh⟩,vrs _ _ hv',?_,hm2,fun b o ho hn=>?_⟩
 ·intro r i b l e1 e2
  refine hid fun G_ k_=>?_
  obtain⟨n,⟨ep,hsh,t',h1,h2,h3,h4⟩,vs,⟨n0,h5⟩,hv⟩:=t.hd.at_ r i b l e1 e2
  have hbl:b∈R2.hl:=mem_append_left _ (mem_map.mpr ⟨_,mem_of_getElem? e1,rfl⟩)
  refine k_ ?_
  refine⟨n,⟨ep,hsh,t',h1,h2,k0 _ _ h1 h3,k0 _ _ h2 h4⟩,vs,⟨n0,hk _ _ (fun q=>?_) h5⟩,vrs _ _ hv⟩
  exact nod2.2.2 a (mem_map.mpr ⟨_,hm2,rfl⟩) b hbl q.symm
 ·intro p hp
  by_cases hq:p.2=a
  ·rw[hq];obtain⟨n0,h⟩:=hpl';exact⟨_,h,_,n0,rfl⟩
  ·obtain⟨o,ho,r⟩:=t.hd.own p hp
   exact⟨o,hk _ _ hq ho,r⟩
 ·intro y sl ov hy q
  cases sl with
  |any=>trivial
  |p v=>obtain⟨val,e,z⟩:=q;exact⟨val,e,vr _ _ (z.next t.kp t.st)⟩
  |o l=>
   obtain⟨n,b,vs,e,hb,⟨n0,ho⟩,z⟩:=q
   refine⟨n,b,vs,e,by rw[t.st.2];exact hb,⟨n0,hk b _ (fun q=>?_) (t.kp b _ (fun q=>?_) ho)⟩,vrs _ _ (z.next t.kp t.st)⟩
   ·subst q
    exact hy (congrArg Prod.fst (nod_eq nod.1 hb hm rfl))
   ·exact nod.2.2 b (mem_map.mpr ⟨_,hb,rfl⟩) b q rfl
 ·refine hk b o (fun q=>?_) (t.kp b o (fun hb=>?_) ho)
  ·obtain⟨n0,hpl⟩:=hpl;rw[q,hpl]at ho;cases ho;exact hn (.inl ⟨_,_,rfl⟩)
  ·obtain⟨o',ho',e⟩:=S.hdr.seqs b hb
   rw[ho]at ho';cases ho';exact hn e
theorem Turn.dict {o:Obj} {es:Array DictEntry} {n:Nat} (h:o.data= .dict es n):¬Turn o:=Turn.no (by rw[h];intros;exact nofun) (by rw[h];intros;exact nofun)
theorem Turn.cell {o:Obj} {v:Option Value} (h:o.data= .cell v):¬Turn o:=Turn.no (by rw[h];intros;exact nofun) (by rw[h];intros;exact nofun)
structure OwnP (m:Mod) (env:Env) (ns:Names) (R:RC) (s:Shared) (x:Str) (l:List V) (T:Prop) (a:Addr) (vs:List Value):Prop where
 mem:(x,a)∈R.O
 pl:s.heap.PlainList a vs.toArray
 vrs:VRs s.heap R l vs
 len:l.length≤sizeLine
 cell:ns.lookup x=some .cell→∃c,env.cells.lookup x=some c∧s.heap.IsCell c (some (.ref a))
 name:∀(A:Around) (Q:Value→Shared→Prop) (E:Value→Shared→Prop),Q (.ref a) s→wpAny (m.M) A (loadName env x) Q E s
 turn:T
set_option tactic.hygienic true in
theorem VarR.own {env:Env} {ns:Names} {Γ:Gam} (VV:VarR env ns Γ R s.heap) {x:Str} {l:List V} (hx:isVar ns x=true) (hg:Γ.lookup x=some (.o l)):
 ∃a vs,OwnP m env ns R s x l (∀R2 h' sl',(∀b o,s.heap.get? b=some o→¬Turn o→h'.get? b=some o)→(∀y sl ov,y≠x→SlotR s.heap R y sl ov→SlotR h' R2 y sl ov)→SlotR h' R2 x sl' (some (.ref a))→VarR env ns (setG x sl' Γ) R2 h') a vs:=by
 have hkind:env.kindOf x=ns.lookup x:=by unfold Env.kindOf;exact congrArg _ (VV.names)
 have hs:(Γ.lookup x).isSome=true:=by rw[hg];rfl
 rcases isVar_or hx with hl|hl
 ·refine hid fun G_ k_=>?_
  obtain⟨n0,⟨oL,es,ep,hoL,hdL,rL⟩,hall⟩:=VV.loc
  obtain⟨sl,e2,q⟩:=hall x hl
  rw[hg]at e2;cases e2
  obtain⟨hz,a,vs,hv,hm,hpl,hvs⟩:=q
  refine k_ ?_
  refine⟨a,vs,hm,hpl,hvs,hz,fun hcl=>(by rw[hl]at hcl;cases hcl),fun A Q E h=>wpAny_loadName_local VV.kind (hkind.trans hl) ⟨oL,es,ep,hoL,hdL,rL⟩ hv h,fun R2 h' sl' far old new=>?_⟩
  refine⟨VV.kind,VV.names,VV.glob,VV.blt,⟨n0,⟨oL,es,ep,far _ _ hoL (Turn.dict hdL),hdL,rL⟩,fun y hy=>?_⟩,fun y hy=>?_,VV.inj⟩
  ·by_cases hyx:y=x
   ·subst hyx
    exact⟨sl',setG_same hs,hv▸new⟩
   ·obtain⟨sl,e,q⟩:=hall y hy
    exact⟨sl,(setG_other hyx).trans e,old _ _ _ hyx q⟩
  ·obtain⟨c,ov,sl,e1,⟨o,ho,hd⟩,e,q⟩:=VV.cel y hy
   have hyx:y≠x:=fun e=>by subst e;rw[hl]at hy;cases hy
   exact⟨c,ov,sl,e1,⟨o,far _ _ ho (Turn.cell hd),hd⟩,(setG_other hyx).trans e,old _ _ _ hyx q⟩
 ·refine hid fun G_ k_=>?_
  obtain⟨c,ov,sl,e1,⟨o,ho,hd⟩,e2,q⟩:=VV.cel x hl
  rw[hg]at e2;cases e2
  obtain⟨hz,a,vs,hv,hm,hpl,hvs⟩:=q
  subst hv
  refine k_ ?_
  refine⟨a,vs,hm,hpl,hvs,hz,fun ux=>⟨c,e1,⟨o,ho,hd⟩⟩,fun A Q E h=>wpAny_loadName_cell VV.kind (hkind.trans hl) e1 ⟨o,ho,hd⟩ h,fun R2 h' sl' far old new=>?_⟩
  refine hid fun G_ k_=>?_
  obtain⟨n0,⟨oL,es,ep,hoL,hdL,rL⟩,hall⟩:=VV.loc
  refine k_ ?_
  refine⟨VV.kind,VV.names,VV.glob,VV.blt,⟨n0,⟨oL,es,ep,far _ _ hoL (Turn.dict hdL),hdL,rL⟩,fun y hy=>?_⟩,fun y hy=>?_,VV.inj⟩
  ·obtain⟨sl,e,q⟩:=hall y hy
   have hyx:y≠x:=fun e=>by subst e;rw[hl]at hy;cases hy
   exact⟨sl,(setG_other hyx).trans e,old _ _ _ hyx q⟩
  ·by_cases hyx:y=x
   ·subst hyx
    exact⟨c,some (.ref a),sl',e1,⟨o,far _ _ ho (Turn.cell hd),hd⟩,setG_same hs,new⟩
   ·refine hid fun G_ k_=>?_
    obtain⟨c',ov',sl,e1',⟨o',ho',hd'⟩,e,q⟩:=VV.cel y hy
    refine k_ ?_
    exact⟨c',ov',sl,e1',⟨o',far _ _ ho' (Turn.cell hd'),hd'⟩,(setG_other hyx).trans e,old _ _ _ hyx q⟩
theorem SI.mut2 {env ns Γ hs} (S:SI C h₀ env ns Γ R hs s) {x:Str} {l:List V} (hx:isVar ns x=true) (hg:Γ.lookup x=some (.o l)):
 ∃a vs,OwnP m env ns R s x l (∀s2 R2 hs2 l' vs' h' tks,Tr C s R s2 R2 hs2→Heap.ExtBut a s2.heap h'→h'.PlainList a vs'.toArray→VRs s2.heap R2 l' vs'→l'.length≤sizeLine→
  SI C h₀ env ns (setG x (.o l') Γ) R2 hs2 { s2 with heap:=h',toks:=tks }∧VRs h' R2 l' vs') a vs:=by
 refine hid fun G_ k_=>?_
 obtain⟨a,vs,hm,hpl,hvs,hz,hc,hn,hV⟩:=S.var.own (m:=m) hx hg
 refine k_ ?_
 refine⟨a,vs,hm,hpl,hvs,hz,hc,hn,fun s2 R2 hs2 l' vs' h' tks t hk hpl' hv' hz'=>?_⟩
 have T:=S.turnL hm hpl t hk hpl' hv'
 exact⟨T.si _ tks (hV R2 h' (.o l') T.far T.slot ⟨hz',a,vs',rfl,T.own,hpl',T.vrs⟩),T.vrs⟩
theorem SI.mut {env ns Γ hs} (S:SI C h₀ env ns Γ R hs s) {x:Str} {l:List V} (hx:isVar ns x=true) (hg:Γ.lookup x=some (.o l)):
 ∃a vs,(x,a)∈R.O∧s.heap.PlainList a vs.toArray∧VRs s.heap R l vs∧l.length≤sizeLine∧(∀(A:Around) (Q:Value→Shared→Prop) (E:Value→Shared→Prop),Q (.ref a) s→wpAny (m.M) A (loadName env x) Q E s)∧
  ∀s2 R2 hs2 l' vs' h' tks,Tr C s R s2 R2 hs2→Heap.ExtBut a s2.heap h'→h'.PlainList a vs'.toArray→VRs s2.heap R2 l' vs'→l'.length≤sizeLine→
   SI C h₀ env ns (setG x (.o l') Γ) R2 hs2 { s2 with heap:=h',toks:=tks }∧VRs h' R2 l' vs':=by
 refine hid fun G_ k_=>?_
 obtain⟨a,vs,h1,h2,h3,h4,_,h5,h6⟩:=S.mut2 (m:=m) hx hg
 refine k_ ?_
 exact⟨a,vs,h1,h2,h3,h4,h5,h6⟩
end
inductive Fl where
 |nx|br|co
 |rt (w:W)
noncomputable def freeze:Slot→Slot
 | .o l=> .p (.lst l)
 |s=>s
theorem frz1_cons {x y:Str} {s:Slot} {r:Gam}:frz1 x ((y,s)::r)=if x==y then(y,match s with| .o l=> .p (.lst l)|s=>s)::r else(y,s)::frz1 x r:=rfl
theorem frz1_lookup {x y:Str}:∀{Γ:Gam},(frz1 x Γ).lookup y=if y=x then(Γ.lookup y).map freeze else Γ.lookup y:=by
 intro v0_
 induction v0_ with
 |nil=>
  simp[show frz1 x []=[]from rfl]
 |cons p_ r ih_=>
  obtain⟨z,s0⟩:=p_
  rw[frz1_cons]
  by_cases hz:x==z
  ·have:=eq_of_beq hz;subst this
   rw[if_pos hz]
   simp only[lookup_cons]
   by_cases hy:y=x
   ·subst hy;simp only[beq_self_eq_true,if_true,Option.map_some];cases s0<;>rfl
   ·have hy':(y==x)=false:=by simpa using hy
    simp[hy',hy]
  ·refine Eq.trans (congrArg _ (if_neg hz)) ?_
   simp only[lookup_cons]
   by_cases hy:y==z
   ·have:=eq_of_beq hy;subst this
    have:¬y=x:=fun e=>by subst e;simp at hz
    simp[this]
   ·have hy':(y==z)=false:=by simpa using hy
    simp only[hy']
    exact ih_
theorem freeze_freeze:∀s,freeze (freeze s)=freeze s
 | .any=>rfl
 | .p _=>rfl
 | .o _=>rfl
theorem frz_lookup {y:Str}:∀{xs:List Str} {Γ:Gam},(frz xs Γ).lookup y=if y∈xs then(Γ.lookup y).map freeze else Γ.lookup y:=by
 intro v0_
 induction v0_ with
 |nil=>
  intro Γ
  rfl
 |cons x r ih_=>
  intro Γ
  show List.lookup _ (frz _ (frz1 _ _))=_
  rw[ih_,frz1_lookup]
  by_cases h1:y∈r<;>by_cases h2:y=x
  ·subst h2
   rw[if_pos h1,if_pos rfl,if_pos (mem_cons_self),Option.map_map]
   congr 1
   funext s;exact freeze_freeze s
  ·rw[if_pos h1,if_neg h2,if_pos (mem_cons_of_mem _ h1)]
  ·rw[if_neg h1,if_pos h2,if_pos (by rw[h2];exact mem_cons_self)]
  ·rw[if_neg h1,if_neg h2,if_neg]
   intro h;rcases mem_cons.mp h with h|h
   ·exact h2 h
   ·exact h1 h
noncomputable def RC.frz (R:RC) (xs:List Str):RC:={ R with O:=R.O.filter fun p=>p.1==("":Str)|| !xs.contains p.1 }
section
variable {m:Mod} {C:Addr} {h₀:Heap} {k:Nat} {A:Around} {s:Shared} {R:RC} {E:Value→Shared→Prop}
theorem SI.frz {env ns Γ hs} (S:SI C h₀ env ns Γ R hs s) (hn:Γ.lookup ("":Str)=none) (xs:List Str):SI C h₀ env ns (frz xs Γ) (R.frz xs) hs s∧StepS env ns s R s (R.frz xs)∧(Mine.frz xs Γ).lookup ("":Str)=none:=by
 have hO:∀p∈(R.frz xs).O,p∈R.O:=fun p hp=>(mem_filter.mp hp).1
 have hsub:((R.frz xs).bad).Sublist R.bad:=List.Sublist.append (List.Sublist.map _ List.filter_sublist) (List.Sublist.refl _)
 have hbad:∀b∈(R.frz xs).bad,b∈R.bad:=fun b hb=>hsub.subset hb
 have nod:=List.nodup_append.mp S.hdr.nod
 have vr:∀v val,VR s.heap R v val→VR s.heap (R.frz xs) v val:=fun v val r=>VR.step (R:=R) (R':=R.frz xs) (Kept.refl _ _) rfl (fun ux ux e=>e) (fun b o q ux q'=>q (hbad _ q')) _ _ r
 have vrs:∀v val,VRs s.heap R v val→VRs s.heap (R.frz xs) v val:=fun v val r=>VRs.step (R:=R) (R':=R.frz xs) (Kept.refl _ _) rfl (fun ux ux e=>e) (fun b o q ux q'=>q (hbad _ q')) _ _ r
 have slot:∀y sl ov,Γ.lookup y=some sl→SlotR s.heap R y sl ov→∃sl',(Mine.frz xs Γ).lookup y=some sl'∧SlotR s.heap (R.frz xs) y sl' ov:=by
  intro y sl ov hy q
  have hne:y≠("":Str):=fun e=>by rw[e,hn]at hy;cases hy
  rw[frz_lookup,hy]
  by_cases hm:y∈xs
  ·rw[if_pos hm]
   refine⟨_,rfl,?_⟩
   cases sl with
   |any=>trivial
   |p v=>obtain⟨val,e,z⟩:=q;exact⟨val,e,vr _ _ z⟩
   |o l=>
    obtain⟨n,b,vs,e,hb,hl,z⟩:=q
    refine⟨_,e,n,b,vs,rfl,fun hb'=>?_,hl,vrs _ _ z⟩
    rcases mem_append.mp hb' with q|q
    ·obtain⟨p,hp,e'⟩:=mem_map.mp q
     have h1:=mem_filter.mp hp
     have:=nod_eq nod.1 h1.1 hb e'
     rw[this]at h1
     have h2:=h1.2
     simp[hne,hm]at h2
    ·exact nod.2.2 b (mem_map.mpr ⟨_,hb,rfl⟩) b q rfl
  ·rw[if_neg hm]
   refine⟨_,rfl,?_⟩
   cases sl with
   |any=>trivial
   |p v=>obtain⟨val,e,z⟩:=q;exact⟨val,e,vr _ _ z⟩
   |o l=>
    obtain⟨n,b,vs,e,hb,hl,z⟩:=q
    refine⟨n,b,vs,e,mem_filter.mpr ⟨hb,?_⟩,hl,vrs _ _ z⟩
    simp[hm]
 have V:=S.var
 refine⟨⟨S.base,fun b o e q=>S.nb b o e (hbad _ q),⟨V.kind,V.names,V.glob,V.blt,?_,?_,V.inj⟩,S.hdr.less rfl rfl hbad (hsub.nodup S.hdr.nod) hO,S.apart,S.fresh⟩,
  ⟨rfl,⟨[],by simp[RC.frz],by simp⟩,Go.refl _,fun p hp=> .inl (hO p hp),fun p hp e=>mem_filter.mpr ⟨hp,by simp[e]⟩,fun ux ux ux ux ux e=>e,fun ux e=>e⟩,?_⟩
 ·obtain⟨n0,hm,hall⟩:=V.loc
  exact⟨n0,hm,fun y hy=>by obtain⟨sl,e,q⟩:=hall y hy;obtain⟨a,b,c⟩:=slot y sl _ e q;exact⟨a,b,c⟩⟩
 ·intro y hy
  obtain⟨c,ov,sl,e1,e2,e,q⟩:=V.cel y hy
  obtain⟨sl',e',q'⟩:=slot y sl _ e q
  exact⟨c,ov,sl',e1,e2,e',q'⟩
 ·rw[frz_lookup,hn];simp
noncomputable def RetR (h0 h:Heap) (R:RC) (w:W) (val:Value):Prop:=
 match w with
 | .p v=>VR h R v val
 | .f l=>l.length≤sizeLine∧∃a vs,val= .ref a∧((h0.get? a=none∧a∉R.bad)∨R.act a)∧h.PlainList a vs.toArray∧VRs h (R.with "" a) l vs
 |_=>False
noncomputable def FlR (h0 h:Heap) (R:RC):Fl→Flow→Prop
 | .nx,f=>f= .next
 | .br,f=>f= .brk
 | .co,f=>f= .cont
 | .rt w,f=>∃v,f= .ret v∧RetR h0 h R w v
theorem FlR.early {h0 h1 h:Heap} {R fl f} (hn:∀b,h1.get? b=none→h0.get? b=none) (q:FlR h1 h R fl f):FlR h0 h R fl f:=by
 cases fl with
 |nx=>exact q
 |br=>exact q
 |co=>exact q
 |rt w=>
  obtain⟨v,e,r⟩:=q
  refine⟨v,e,?_⟩
  cases w with
  |p v=>exact r
  |f l=>
   obtain⟨n,a,vs,e,h,r⟩:=r
   refine⟨n,a,vs,e,?_,r⟩
   rcases h with h|h
   ·exact .inl ⟨hn _ h.1,h.2⟩
   ·exact .inr h
  |o l=>exact r
  |it l=>exact r
structure PostS' (C:Addr) (h₀:Heap) (env:Env) (ns:Names) (s:Shared) (R:RC) (Γ':Gam) (hs':HS) (s':Shared) (R':RC):Prop where
 st:StepS env ns s R s' R'
 si:SI C h₀ env ns Γ' R' hs' s'
 nn:Γ'.lookup ("":Str)=none
inductive PostS (C:Addr) (h₀:Heap) (env:Env) (ns:Names) (s:Shared) (R:RC) (fl:Fl) (Γ':Gam) (hs':HS) (f:Flow) (s':Shared):Prop
 |mk (R':RC):PostS' C h₀ env ns s R Γ' hs' s' R'→FlR s.heap s'.heap R' fl f→PostS C h₀ env ns s R fl Γ' hs' f s'
theorem PostS.end {env:Env} {ns:Names} {s1 s2:Shared} {R1:RC} {fl:Fl} {Γ':Gam} {hs':HS} {f:Flow} (a:StepS env ns s R s1 R1) (b:PostS C h₀ env ns s1 R1 fl Γ' hs' f s2):PostS C h₀ env ns s R fl Γ' hs' f s2:=by
 obtain⟨R2,⟨h1,h2,h3⟩,h4⟩:=b
 exact⟨R2,⟨a.trans h1,h2,h3⟩,h4.early a.ex⟩
section
variable (m:Mod) (k:Nat) (ns:Names) (Γ:Gam) (hs:HS)
noncomputable def FrS (t:Env→Sem Flow) (fl:Fl) (Γ':Gam) (hs':HS):Prop:=
 Γ.lookup ("":Str)=none→∀A env R s,AOK k A→R.tk=m.tk→SI m.C m.h₀ env ns Γ R hs s→wpAny m.M A (t env) (PostS m.C m.h₀ env ns s R fl Γ' hs') NoE s
noncomputable def StR (st:Stmt) (fl:Fl) (Γ':Gam) (hs':HS):Prop:=FrS m k ns Γ hs (exec st) fl Γ' hs'
noncomputable def XR (b:List Stmt) (fl:Fl) (Γ':Gam) (hs':HS):Prop:=FrS m k ns Γ hs (execs b) fl Γ' hs'
end
section
variable {ns:Names} {Γ Γ1 Γ':Gam} {hs hs1 hs':HS}
theorem st_frz {st fl} (xs:List Str) (h:StR m k ns (Mine.frz xs Γ) hs st fl Γ' hs'):StR m k ns Γ hs st fl Γ' hs':=fun hn A env R s hA t S=>by
 obtain⟨S1,st1,hn1⟩:=S.frz hn xs
 exact noE (h hn1 A env _ s hA (st1.tk.trans t) S1) fun ux ux p=>p.end st1
theorem x_nil:XR m k ns Γ hs [] .nx Γ hs:=fun hn ux ux R ux ux ux S=>wpAny_execs_nil ⟨R,⟨StepS.refl,S,hn⟩,rfl⟩
theorem x_cons {st r fl} (h1:StR m k ns Γ hs st .nx Γ1 hs1) (h2:XR m k ns Γ1 hs1 r fl Γ' hs'):XR m k ns Γ hs (st::r) fl Γ' hs':=fun hn A env R s hA t S=>
 wpAny_execs_cons (noE (h1 hn A env R s hA t S) fun f s1 ⟨R1,⟨st1,S1,n1⟩,h4⟩=>by
  cases h4
  exact noE (h2 n1 A env R1 s1 hA (st1.tk.trans t) S1) fun f s2 p=>p.end st1)
theorem x_stop {st r fl} (h1:StR m k ns Γ hs st fl Γ' hs') (hf:fl≠.nx):XR m k ns Γ hs (st::r) fl Γ' hs':=fun hn A env R s hA t S=>
 wpAny_execs_cons (noE (h1 hn A env R s hA t S) fun f s1 ⟨R1,h,h4⟩=>by
  cases fl with
  |nx=>exact absurd rfl hf
  |br=>cases h4;exact⟨R1,h,rfl⟩
  |co=>cases h4;exact⟨R1,h,rfl⟩
  |rt w=>obtain⟨v,rfl,h5⟩:=h4;exact⟨R1,h,v,rfl,h5⟩)
end
end
section
variable {m:Mod} {C:Addr} {h₀:Heap} {k:Nat} {A:Around} {s:Shared} {R:RC} {E:Value→Shared→Prop}
set_option tactic.hygienic true in
theorem var_ne {env ns Γ} {h:Heap} (V:VarR env ns Γ R h) (hn:Γ.lookup ("":Str)=none) {x:Str} (hx:isVar ns x=true):x≠("":Str):=by
 rintro rfl
 rcases isVar_or hx with hl|hl
 ·obtain⟨n0,_,hall⟩:=V.loc
  obtain⟨sl,e,_⟩:=hall _ hl
  rw[hn]at e;cases e
 ·obtain⟨c,ov,sl,_,_,e,_⟩:=V.cel _ hl
  rw[hn]at e;cases e
theorem SI.dropd {env ns Γ hs} (S:SI C h₀ env ns Γ R hs s) {cl:Addr} {n0:Str→Option Value} {h':Heap} (hm:s.heap.Ns cl n0) (hown:¬Own env ns cl) (hap:∀p∈R.ρ,cl≠p.1.1∧cl≠p.1.2) (hb:h₀.get? cl=none) (hsb:Heap.SameBut cl s.heap h'):
 SI C h₀ env ns Γ R hs { s with heap:=h' }:=by
 refine hid fun G_ k_=>?_
 obtain⟨o,es,ep,ho,hd,_⟩:=hm
 refine k_ ?_
 have hseq:∀vs n,o.data≠.seq vs n:=by rw[hd];intros;simp
 have hfld:Odd o→∀vs,o.data≠.fields vs:=fun ux=>by rw[hd];intros;simp
 have V:=S.var
 refine⟨fun b ob e=>hsb.extBut b ob (fun q=>by rw[q,hb]at e;cases e) (S.base b ob e),S.nb,⟨V.kind,V.names,V.glob,V.blt,?_,?_,V.inj⟩,S.hdr.other hsb.extBut ho hseq hfld hap,S.apart,S.fresh⟩
 ·refine hid fun G_ k_=>?_
  obtain⟨n0,⟨oL,es,ep,hoL,hdL,r⟩,hall⟩:=V.loc
  refine k_ ?_
  exact⟨n0,⟨oL,es,ep,hsb.extBut _ _ (fun q=>hown (.inl q.symm)) hoL,hdL,r⟩,fun x hx=>let ⟨sl,e,q⟩:=hall x hx;⟨sl,e,q.other hsb.extBut ho hseq hfld⟩⟩
 ·intro x hx
  refine hid fun G_ k_=>?_
  obtain⟨c,ov,sl,e1,⟨oc,h1,h2⟩,e3,q⟩:=V.cel x hx
  refine k_ ?_
  exact⟨c,ov,sl,e1,⟨oc,hsb.extBut _ _ (fun q=>hown (q▸.inr ⟨x,hx,e1⟩)) h1,h2⟩,e3,q.other hsb.extBut ho hseq hfld⟩
noncomputable abbrev NComp (e:Expr):Prop:=(fun(x:Str) (p:Pos) (line:Nat) (env:Env)=>(swapsWith e (some (.Name x p)) line env:Sem Bool))=fun _ _ _ _=>pure false
theorem swaps_no {value:Expr} (h:NComp value) (x:Str) (p:Pos) (line:Nat) (env:Env):swapsWith value (some (.Name x p)) line env=pure false:=congrFun (congrFun (congrFun (congrFun h x) p) line) env
section
variable {ns:Names} {Γ Γ':Gam} {hs hs1 hs':HS} {pos px:Pos} {x:Str} {sl:Slot}
theorem st_asn {e wv} (hc:NComp e) (h:EvR m k ns Γ hs e wv hs1) (hx:isVar ns x=true) (es:ToSlot wv sl):StR m k ns Γ hs (.Assign [.Name x px] e pos) .nx (setG x sl Γ) hs1:=fun hn A env R s hA t0 S=>by
 refine wpAny_Assign_Name (noE (h A env R s hA t0 S) fun v s1 hp1=>?_) (swaps_no hc x px pos.line env)
 refine hid fun G_ k_=>?_
 obtain⟨R1,t1,r1⟩:=hp1
 obtain⟨R2,h1,h2,h3,_⟩:=slot_of es (var_ne S.var hn hx) S t1 r1
 refine k_ ?_
 exact store_ok hx h2 h3 fun s2 S2 st=>⟨R2,⟨h1.trans (StepS.stored st S2),S2,setG_none hn⟩,rfl⟩
theorem StepS.dropd {env s R s1 R1 cl h'} (a:StepS env ns s R s1 R1) (hn:s.heap.get? cl=none) (hs:Heap.SameBut cl s1.heap h'):StepS env ns s R { s1 with heap:=h' } R1:=
 ⟨a.tk,a.ρ,a.go.trans ⟨_,_,rfl⟩,a.new,a.old,fun b o h4 h5 h6 e=>hs.extBut b o (fun q=>by rw[q,hn]at e;cases e) (a.kp b o h4 h5 h6 e),fun b e=>by
  by_cases hb:b=cl
  ·rw[hb];exact hn
  ·exact a.ex b ((hs.2 b hb).symm.trans e)⟩
theorem swaps_or {elt gens sc p} (x:Str) (px:Pos) (line:Nat) (env:Env):swapsWith (.ListComp elt gens sc p) (some (.Name x px)) line env=pure true∨swapsWith (.ListComp elt gens sc p) (some (.Name x px)) line env=pure false:=by
 have:∃b,swapsWith (.ListComp elt gens sc p) (some (.Name x px)) line env=pure b:=⟨_,rfl⟩
 obtain⟨b,h⟩:=this
 cases b
 ·exact .inr h
 ·exact .inl h
theorem st_asnc {elt gens sc p l} (h:CompR m k ns Γ hs elt gens sc l hs1) (hx:isVar ns x=true) (es:ToSlot (.f l) sl):StR m k ns Γ hs (.Assign [.Name x px] (.ListComp elt gens sc p) pos) .nx (setG x sl Γ) hs1:=fun hn A env R s hA t0 S=>by
 have hne:=var_ne S.var hn hx
 rcases swaps_or (elt:=elt) (gens:=gens) (sc:=sc) (p:=p) x px pos.line env with hb|hb
 ·rw[exec_Assign_Name_used _ _ _ _ hb]
  refine wpAny_bind (wpAny_standAt (wpAny_bind ?_))
  show wpAny _ A (do let _←comprehension (.ListComp elt gens sc p) sc env (firstIterPos gens p) (newList []) (firstAsync gens) (firstIter gens env) (some (assign (.Name x px) env))) _ _ s
  refine wpAny_bind (noE (comp_use h hA t0 S (P:=fun ux s'=>PostS m.C m.h₀ env ns s R .nx (setG x sl Γ) hs1 .next s') fun acc cl s1 R1 ce=>?_) fun ux s1 h1=>wpAny_pure (wpAny_pure h1))
  refine hid fun G_ k_=>?_
  obtain⟨R2,h1,h2,h3,hρ⟩:=slot_of es hne S ce.tr ce.wr
  refine k_ ?_
  refine wpAny_assign_Name (store_ok hx h2 h3 fun s2 S2 st=>?_)
  refine hid fun G_ k_=>?_
  obtain⟨n0,hm⟩:=ce.ns
  have hown:¬Own env ns cl:=fun q=>by
   obtain⟨o,ho⟩:=S.var.has q;rw[ce.new]at ho;cases ho
  obtain⟨c,hc,hsb⟩:=st.same
  have hm2:s2.heap.Ns cl n0:=hm.sameBut hsb (fun q=>hown (q▸hc.own))
  refine k_ ?_
  refine⟨n0,hm2,fun h' hs'=>⟨R2,⟨(h1.trans (StepS.stored st S2)).dropd ce.new hs',S2.dropd hm2 hown (fun p hp=>ce.apart p (by rw[←hρ];exact hp)) ?_ hs',setG_none hn⟩,rfl⟩⟩
  cases q:m.h₀.get? cl with
  |none=>rfl
  |some o=>have:=S.base cl o q;rw[ce.new]at this;cases this
 ·refine wpAny_Assign_Name (noE (ev_comp h A env R s hA t0 S) fun v s1 hp2=>?_) hb
  refine hid fun G_ k_=>?_
  obtain⟨R1,t1,r1⟩:=hp2
  obtain⟨R2,h1,h2,h3,_⟩:=slot_of es hne S t1 r1
  refine k_ ?_
  exact store_ok hx h2 h3 fun s2 S2 st=>⟨R2,⟨h1.trans (StepS.stored st S2),S2,setG_none hn⟩,rfl⟩
inductive RtW:W→Prop where
 |p {v}:RtW (.p v)
 |f {l}:RtW (.f l)
theorem st_ret {e wv} (h:EvR m k ns Γ hs e wv hs1) (hw:RtW wv):StR m k ns Γ hs (.Return (some e) pos) (.rt wv) Γ hs1:=fun hn A env R s hA t0 S=>by
 refine wpAny_Return_some (noE (h A env R s hA t0 S) fun v s1 ⟨R1,t1,r1⟩=>⟨R1,⟨StepS.ofTr t1,S.tr t1,hn⟩,v,rfl,?_⟩)
 cases hw with
 |p=>exact r1
 |f=>
  obtain⟨n,a,vs,e,h1,h2,h3,h4⟩:=r1
  exact⟨n,a,vs,e,.inl ⟨h1,h2⟩,h3,h4⟩
theorem st_if {t b o c fl} (h1:TsR m k ns Γ hs t c hs1) (h2:XR m k ns Γ hs1 (bif c then b else o) fl Γ' hs'):StR m k ns Γ hs (.If t b o pos) fl Γ' hs':=fun hn A env R s hA t0 S=>
 wpAny_If (noE (h1 A env R s hA t0 S) fun c' s1 ⟨hc,R1,t1⟩=>by
  subst hc
  cases c'<;>exact noE (h2 hn A env R1 s1 hA (t1.st.1.trans t0) (S.tr t1)) fun f s2 p=>p.end (StepS.ofTr t1))
end
end
section
variable {m:Mod} {C:Addr} {h₀:Heap} {k:Nat} {A:Around} {s:Shared} {R:RC} {E:Value→Shared→Prop}
theorem act_bad {b:Addr} (h:R.act b):b∈R.bad:=by
 obtain⟨x,_,h⟩:=h
 exact mem_append_left _ (mem_map.mpr ⟨_,h,rfl⟩)
theorem SI.ownB {env ns Γ hs} (S:SI C h₀ env ns Γ R hs s):∀b o,Own env ns b→s.heap.get? b=some o→(∀vs n,o.data≠.seq vs n)∧(Odd o→∀vs,o.data≠.fields vs):=by
 intro b o hc ho
 refine hid fun G_ k_=>?_
 obtain⟨o',ho',h1,h2⟩:=S.var.own_obj hc
 rw[ho]at ho';cases ho'
 refine k_ ?_
 exact⟨h1,fun ux=>h2⟩
theorem StepS.nb {env ns s' R'} (a:StepS env ns s R s' R'):∀b o,b∉R.bad→s.heap.get? b=some o→b∉R'.bad:=by
 intro b o nb ho hb
 rcases mem_append.mp hb with q|q
 ·obtain⟨p,hp,e⟩:=mem_map.mp q
  rcases a.new p hp with h|h
  ·exact nb (mem_append_left _ (mem_map.mpr ⟨p,h,e⟩))
  ·rw[e,ho]at h;cases h.2
 ·rcases a.hl b q with h|h
  ·exact nb (hl_bad _ h)
  ·rw[ho]at h;cases h
theorem StepS.get {env ns s' R'} (a:StepS env ns s R s' R'):∀(r:Nat) (p:(Addr×Addr)×Addr),R.ρ[r]? =some p→R'.ρ[r]? =some p:=by
 refine hid fun G_ k_=>?_
 obtain⟨ext,e,hx⟩:=a.ρ
 refine k_ ?_
 intro r p q
 have hlt:=(List.getElem?_eq_some_iff.mp q).1
 rw[e,List.getElem?_append_left hlt,q]
theorem StepS.vr {env ns Γ hs s' R'} (a:StepS env ns s R s' R') (S:SI C h₀ env ns Γ R hs s):(∀x v,VR s.heap R x v→VR s'.heap R' x v)∧∀l vs,VRs s.heap R l vs→VRs s'.heap R' l vs:=by
 have hk:∀b o,b∉R.bad→¬Own env ns b→s.heap.get? b=some o→s'.heap.get? b=some o:=fun b o h1 h2 e=>a.kp b o (fun q=>h1 (hl_bad _ q)) (fun q=>h1 (act_bad q)) h2 e
 exact⟨fun x v r=>VR.stepB hk S.ownB a.tk a.get a.nb x v r,fun x v r=>VRs.stepB hk S.ownB a.tk a.get a.nb x v r⟩
theorem StepS.iter {env ns s1 R1} (a:StepS env ns s R s1 R1) {I:Addr} {h':Heap} {tks:Nat} (hI:s.heap.get? I=none) (hk:Heap.ExtBut I s1.heap h'):StepS env ns s R { s1 with heap:=h',toks:=tks } R1 where
 tk:=a.tk
 ρ:=a.ρ
 go:=a.go.trans ⟨_,_,rfl⟩
 new:=a.new
 old:=a.old
 kp:=fun b o h1 h2 h3 e=>hk b o (fun q=>by rw[q,hI]at e;cases e) (a.kp b o h1 h2 h3 e)
 ex:=fun b e=>by
  by_cases hb:b=I
  ·rw[hb];exact hI
  ·refine a.ex b ?_
   cases q:s1.heap.get? b with
   |none=>rfl
   |some o=>rw[hk b o hb q]at e;cases e
inductive WhR (T:Gam→HS→Bool→HS→Prop) (B:Gam→HS→Fl→Gam→HS→Prop):Nat→Gam→HS→Fl→Gam→HS→Prop where
 |done {n Γ hs hs1}:T Γ hs false hs1→WhR T B n Γ hs .nx Γ hs1
 |go {n Γ hs hs1 f Γ1 hs2 fl Γ' hs'}:T Γ hs true hs1→B Γ hs1 f Γ1 hs2→(f= .nx∨f= .co)→WhR T B n Γ1 hs2 fl Γ' hs'→WhR T B (n+1) Γ hs fl Γ' hs'
 |br {n Γ hs hs1 Γ1 hs2}:T Γ hs true hs1→B Γ hs1 .br Γ1 hs2→WhR T B n Γ hs .nx Γ1 hs2
 |rt {n Γ hs hs1 w Γ1 hs2}:T Γ hs true hs1→B Γ hs1 (.rt w) Γ1 hs2→WhR T B n Γ hs (.rt w) Γ1 hs2
inductive ForR (B:V→Gam→HS→Fl→Gam→HS→Prop):List V→Gam→HS→Fl→Gam→HS→Prop where
 |nil {Γ hs}:ForR B [] Γ hs .nx Γ hs
 |go {v r Γ hs f Γ1 hs1 fl Γ' hs'}:B v Γ hs f Γ1 hs1→(f= .nx∨f= .co)→ForR B r Γ1 hs1 fl Γ' hs'→ForR B (v::r) Γ hs fl Γ' hs'
 |br {v r Γ hs Γ1 hs1}:B v Γ hs .br Γ1 hs1→ForR B (v::r) Γ hs .nx Γ1 hs1
 |rt {v r Γ hs w Γ1 hs1}:B v Γ hs (.rt w) Γ1 hs1→ForR B (v::r) Γ hs (.rt w) Γ1 hs1
noncomputable def TurnS (m:Mod) (k:Nat) (ns:Names) (t:Expr) (b:List Stmt) (v:V) (Γ:Gam) (hs:HS) (f:Fl) (Γ1:Gam) (hs1:HS):Prop:=∃Γ0,BindR t v Γ Γ0∧XR m k ns Γ0 hs b f Γ1 hs1
theorem ForR.inv {B:V→Gam→HS→Fl→Gam→HS→Prop} {v r Γ hs fl Γ' hs'} (h:ForR B (v::r) Γ hs fl Γ' hs'):∃f Γ1 hs1,B v Γ hs f Γ1 hs1∧match f with
 | .br=>fl= .nx∧Γ'=Γ1∧hs'=hs1
 | .rt w=>fl= .rt w∧Γ'=Γ1∧hs'=hs1
 |_=>ForR B r Γ1 hs1 fl Γ' hs':=by
 cases h with
 |go h1 hf h2=>rcases hf with rfl|rfl<;>exact⟨_,_,_,h1,h2⟩
 |br h1=>exact⟨_,_,_,h1,rfl,rfl,rfl⟩
 |rt h1=>exact⟨_,_,_,h1,rfl,rfl,rfl⟩
structure ForI (m:Mod) (env:Env) (ns:Names) (s:Shared) (R:RC) (B:V→Gam→HS→Fl→Gam→HS→Prop) (its:List V) (I:Addr) (fp:List Addr) (P:Nat→Value→Prop) (St:Nat→Heap→Prop) (fl:Fl) (Γ':Gam) (hs':HS) (i:Nat) (s1:Shared) (Γ1:Gam) (R1:RC) (hs1:HS):Prop where
 le:i≤its.length
 rest:ForR B (its.drop i) Γ1 hs1 fl Γ' hs'
 st:StepS env ns s R s1 R1
 si:SI m.C m.h₀ env ns Γ1 R1 hs1 s1
 nn:Γ1.lookup ("":Str)=none
 at_:St i s1.heap
 el:∀i v,P i v→∃x,its[i]? =some x∧VR s1.heap R1 x v
 far:∀b∈fp,b≠I→b∉R1.bad∧∃o vs n,s1.heap.get? b=some o∧o.data= .seq vs n
section
variable {ns:Names} {Γ Γ':Gam} {hs hs1 hs':HS} {pos:Pos}
theorem FlR.on {h0 h:Heap} {f:Fl} {fw:Flow} (q:FlR h0 h R f fw) (hf:f= .nx∨f= .co):fw= .next∨fw= .cont:=by
 rcases hf with rfl|rfl
 ·exact .inl q
 ·exact .inr q
noncomputable def WhT (m:Mod) (k:Nat) (ns:Names) (t:Expr) (Γ:Gam) (hs:HS) (c:Bool) (hs1:HS):Prop:=TsR m k ns Γ hs t c hs1
noncomputable def WhX (m:Mod) (k:Nat) (ns:Names) (b:List Stmt) (Γ:Gam) (hs:HS) (f:Fl) (Γ1:Gam) (hs1:HS):Prop:=XR m k ns Γ hs b f Γ1 hs1
inductive WhI (m:Mod) (k:Nat) (ns:Names) (t:Expr) (b:List Stmt) (env:Env) (s:Shared) (R:RC) (fl:Fl) (Γ':Gam) (hs':HS) (n:Nat) (s1:Shared):Prop
 |mk (Γ1:Gam) (hs1:HS) (R1:RC):WhR (WhT m k ns t) (WhX m k ns b) n Γ1 hs1 fl Γ' hs'→StepS env ns s R s1 R1→SI m.C m.h₀ env ns Γ1 R1 hs1 s1→Γ1.lookup ("":Str)=none→WhI m k ns t b env s R fl Γ' hs' n s1
theorem st_while {t b fl n} (e:WhR (WhT m k ns t) (WhX m k ns b) n Γ hs fl Γ' hs'):StR m k ns Γ hs (.While t b [] pos) fl Γ' hs':=fun hn A env R s hA t0 S=>by
 suffices H:∀Q:Flow→Shared→Prop,(∀f s',PostS m.C m.h₀ env ns s R fl Γ' hs' f s'→Q f s')→wpAny m.M A (exec (.While t b [] pos) env) Q NoE s from H _ fun ux ux h=>h
 intro Q hQ
 refine wpAny_While (codeAny_mono (R:=fun r s'=>∃f,r= .ok f∧Q f s') ?_ fun r s' h=>by obtain⟨f,rfl,h⟩:=h;exact h)
 obtain⟨J,hJ⟩:∃J,J=WhI m k ns t b env s R fl Γ' hs':=⟨_,rfl⟩
 refine codeAny_whileLoop J (fun n s1 hI=>?_) n (hJ▸⟨Γ,hs,R,e,StepS.refl,S,hn⟩)
 rw[hJ]at hI
 obtain⟨Γ1,hs1,R1,e1,st,S1,hn1⟩:=hI
 have tk1:=st.tk.trans t0
 clear S t0 e hn
 cases e1 with
 |done h=>
  refine noE (h A env R1 s1 hA tk1 S1) fun c s2 hp1=>?_
  obtain⟨hc,R2,t2⟩:=hp1
  subst hc
  exact wpAny_execs_nil ⟨_,rfl,hQ _ _ ⟨R2,⟨st.trans (StepS.ofTr t2),S1.tr t2,hn1⟩,rfl⟩⟩
 | @go n _ _ _ _ Γ2 hs3 _ _ _ h hb hf hr=>
  refine noE (h A env R1 s1 hA tk1 S1) fun c s2 hp2=>?_
  obtain⟨hc,R2,t2⟩:=hp2
  subst hc
  refine noE (hb hn1 A env R2 s2 hA (t2.st.1.trans tk1) (S1.tr t2)) fun f s3 hp3=>?_
  obtain⟨R3,⟨h1,h2,h3⟩,h4⟩:=hp3
  have fin:∃n',n'<n+1∧J n' s3:=⟨n,Nat.lt_succ_self _,hJ▸⟨Γ2,hs3,R3,hr,(st.trans (StepS.ofTr t2)).trans h1,h2,h3⟩⟩
  rcases h4.on hf with rfl|rfl<;>exact fin
 |br h hb=>
  refine noE (h A env R1 s1 hA tk1 S1) fun c s2 hp4=>?_
  refine hid fun G_ k_=>?_
  obtain⟨hc,R2,t2⟩:=hp4
  subst hc
  refine k_ ?_
  refine noE (hb hn1 A env R2 s2 hA (t2.st.1.trans tk1) (S1.tr t2)) fun f s3 hp5=>?_
  obtain⟨R3,⟨h1,h2,h3⟩,h4⟩:=hp5
  cases h4
  exact⟨_,rfl,hQ _ _ ⟨R3,⟨(st.trans (StepS.ofTr t2)).trans h1,h2,h3⟩,rfl⟩⟩
 |rt h hb=>
  refine noE (h A env R1 s1 hA tk1 S1) fun c s2 hp6=>?_
  obtain⟨hc,R2,t2⟩:=hp6
  subst hc
  refine noE (hb hn1 A env R2 s2 hA (t2.st.1.trans tk1) (S1.tr t2)) fun f s3 p=>?_
  refine hid fun G_ k_=>?_
  obtain⟨R3,h1,v,rfl,h2⟩:=p.end (st.trans (StepS.ofTr t2))
  refine k_ ?_
  exact⟨_,rfl,hQ _ _ ⟨R3,h1,v,rfl,h2⟩⟩
variable {env:Env} {B:V→Gam→HS→Fl→Gam→HS→Prop} {its:List V} {I:Addr} {fp:List Addr} {P:Nat→Value→Prop} {St:Nat→Heap→Prop} {fl:Fl} {i:Nat} {s1 s5:Shared} {Γ1:Gam} {R1 R5:RC}
theorem ForI.taken (F:ForI m env ns s R B its I fp P St fl Γ' hs' i s1 Γ1 R1 hs1) (hIn:s.heap.get? I=none) (hI0:m.h₀.get? I=none) (hcl:∀i h,St i h→∃o n vs,h.get? I=some o∧o.cls= .type n∧o.data= .fields vs∧plainIter n=true)
 {h':Heap} {tks:Nat} (hk:Heap.ExtBut I s1.heap h'):
 StepS env ns s R { s1 with heap:=h',toks:=tks } R1∧SI m.C m.h₀ env ns Γ1 R1 hs1 { s1 with heap:=h',toks:=tks }∧(∀i v,P i v→∃x,its[i]? =some x∧VR h' R1 x v)∧∀b∈fp,b≠I→b∉R1.bad∧∃o vs n,h'.get? b=some o∧o.data= .seq vs n:=by
 refine hid fun G_ k_=>?_
 obtain⟨o,nn,vs,hoI,hc,hd,hpl⟩:=hcl i _ F.at_
 obtain⟨S4,vr,vrs⟩:=F.si.iter (tks:=tks) hoI hc hd hpl hI0 hk
 refine k_ ?_
 exact⟨F.st.iter hIn hk,S4,fun j u hu=>let ⟨y,hy,hr⟩:=F.el j u hu;⟨y,hy,vr _ _ hr⟩,fun b hb hbI=>let ⟨h5,o3,vs3,n3,h7,h8⟩:=F.far b hb hbI;⟨h5,o3,vs3,n3,hk b _ hbI h7,h8⟩⟩
theorem for_keep {s4:Shared} {R4:RC} {Γ4:Gam} (W:Walks m.prog m.w A I fp [I] its.length P St) (hcl:∀i h,St i h→∃o n vs,h.get? I=some o∧o.cls= .type n∧o.data= .fields vs∧plainIter n=true)
 (S4:SI m.C m.h₀ env ns Γ4 R4 hs1 s4) (hst:St i s4.heap) (hel:∀i v,P i v→∃x,its[i]? =some x∧VR s4.heap R4 x v) (hfp:∀b∈fp,b≠I→b∉R4.bad∧∃o vs n,s4.heap.get? b=some o∧o.data= .seq vs n) (c2:StepS env ns s4 R4 s5 R5):
 St i s5.heap∧(∀i v,P i v→∃x,its[i]? =some x∧VR s5.heap R5 x v)∧∀b∈fp,b≠I→b∉R5.bad∧∃o vs n,s5.heap.get? b=some o∧o.data= .seq vs n:=by
 refine hid fun G_ k_=>?_
 obtain⟨o2,n2,vs2,ho2,hc2,hd2,hn2⟩:=hcl _ _ hst
 have far:∀b∈fp,b≠I→∀o,s4.heap.get? b=some o→s5.heap.get? b=some o:=fun b hb hbI o e=>by
  refine hid fun G_ k_=>?_
  obtain⟨h5,o3,vs3,n3,h7,h8⟩:=hfp b hb hbI
  refine k_ ?_
  refine c2.kp b o (fun q=>h5 (hl_bad _ q)) (fun q=>h5 (act_bad q)) (fun q=>?_) e
  exact(S4.ownB b _ q h7).1 _ _ h8
 refine k_ ?_
 refine⟨W.frame _ _ _ hst fun b hb o' e'=>?_,fun j u hu=>?_,fun b hb hbI=>?_⟩
 ·by_cases hbI:b=I
  ·subst hbI
   refine c2.kp b o' (fun hb=>?_) (fun hb=>?_) (fun hb=>?_) e'
   ·refine hid fun G_ k_=>?_
    obtain⟨o3,ho3,h3⟩:=S4.hdr.seqs b hb
    refine k_ ?_
    rw[ho2]at ho3;cases ho3;exact Turn.no2 (by rw[hd2];intros;simp) (by rw[hc2];simp) h3
   ·obtain⟨y,_,hy⟩:=hb
    obtain⟨o3,ho3,vs3,n3,h3⟩:=S4.hdr.own _ hy
    rw[ho2]at ho3;cases ho3;rw[hd2]at h3;cases h3
   ·refine hid fun G_ k_=>?_
    obtain⟨o3,ho3,h3,h4⟩:=S4.var.own_obj hb
    refine k_ ?_
    rw[ho2]at ho3;cases ho3;exact h4 _ hd2
  ·exact far b hb hbI o' e'
 ·refine hid fun G_ k_=>?_
  obtain⟨y,hy,hr⟩:=hel j u hu
  refine k_ ?_
  exact⟨y,hy,(c2.vr S4).1 _ _ hr⟩
 ·refine hid fun G_ k_=>?_
  obtain⟨h5,o3,vs3,n3,h7,h8⟩:=hfp b hb hbI
  refine k_ ?_
  exact⟨c2.nb b _ h5 h7,o3,vs3,n3,far b hb hbI _ h7,h8⟩
theorem st_for {t it b wv} (hset:NSet it) (htv:∀x∈tNames t,isVar ns x=true) (h:EvR m k ns Γ hs it wv hs1) (ho:isO wv=false) (ei:ItsR wv its)
 (e:ForR (TurnS m k ns t b) its Γ hs1 fl Γ' hs'):StR m k ns Γ hs (.For t it b [] pos) fl Γ' hs':=fun hn A env R s hA t0 S=>by
 suffices H:∀Q:Flow→Shared→Prop,(∀f s',PostS m.C m.h₀ env ns s R fl Γ' hs' f s'→Q f s')→wpAny m.M A (exec (.For t it b [] pos) env) Q NoE s from H _ fun ux ux h=>h
 intro Q hQ
 refine wpAny_For ?_ (fun x=>not_folded hset env x)
 refine noE (h A env R s hA t0 S) fun x s1 hp7=>?_
 obtain⟨R1,t1,r1⟩:=hp7
 refine noE (iter_ok ei hA t1.hd (fun b hb hn=>Kept.none t1.kp (fun q=>hb (hl_bad _ (t1.st.sub _ q))) hn) r1) fun itv s2 hp8=>?_
 obtain⟨g2,k2,IT⟩:=hp8
 have t12:=t1.trans (Tr.own t1.hd g2 k2)
 rw[ho]at IT
 obtain⟨I,fp,P,St,rfl,W,hst,hel,hIn,hcl,hfp⟩:=IT
 have hI0:m.h₀.get? I=none:=by
  cases q:m.h₀.get? I with
  |none=>rfl
  |some o=>rw[S.base I o q]at hIn;cases hIn
 obtain⟨J,hJ⟩:∃J:Nat→Shared→Prop,J=fun n s1=>∃i Γ1 R1 hs1,i+n=its.length∧ForI m env ns s R (TurnS m k ns t b) its I fp P St fl Γ' hs' i s1 Γ1 R1 hs1:=⟨_,rfl⟩
 have h0:J its.length s2:=hJ▸⟨0,Γ,R1,hs1,Nat.zero_add _,Nat.zero_le _,e,StepS.ofTr t12,S.tr t12,hn,hst,hel,fun b hb hbI=>⟨(hfp b hb hbI).2.2 rfl,(hfp b hb hbI).2.1⟩⟩
 clear t12 g2 k2 t1 r1 hst hel hfp S hn e
 refine codeAny_mono (R:=fun r s'=>∃f,r= .ok f∧Q f s') ?_ fun r s' h=>by obtain⟨f,rfl,h⟩:=h;exact h
 refine codeAny_forLoop_any J (fun n s1 hinv=>?_) its.length h0
 clear h0
 rw[hJ]at hinv
 obtain⟨i,Γ1,R3,hs3,hi,F⟩:=hinv
 cases n with
 |succ n=>
  have hlt:i<its.length:=hi▸Nat.lt_add_of_pos_right (Nat.succ_pos n)
  refine W.item i s1 _ _ hlt F.at_ fun v h' tks hP hst4 hk=>?_
  refine hid fun G_ k_=>?_
  obtain⟨st4,S4,hel4,hfp4⟩:=F.taken (tks:=tks) hIn hI0 hcl fun b o hb e=>hk b o (by simpa using hb) e
  obtain⟨x,hx,hv⟩:=hel4 i v hP
  obtain⟨o2,n2,vs2,ho2,hc2,hd2,hn2⟩:=hcl _ _ hst4
  refine k_ ?_
  refine letGo_ok (s:={ s1 with heap:=h',toks:=tks }) ho2 hc2 hd2 hn2 ?_
  refine hid fun G_ k_=>?_
  have hdrop:its.drop i=x::its.drop (i+1):=by
   obtain⟨h1,h2⟩:=List.getElem?_eq_some_iff.mp hx
   rw[←h2];exact List.drop_eq_getElem_cons h1
  have e1:=F.rest
  rw[hdrop]at e1
  obtain⟨f,Γ3,hs5,⟨Γ2,eb,ex⟩,e2⟩:=e1.inv
  refine k_ ?_
  refine noE (bindT_ok eb htv hA S4 hv) fun ux s5 hp9=>?_
  obtain⟨S5,sl5⟩:=hp9
  have c5:=StepS.storedL sl5 S5
  refine noE (ex (bindT_none eb F.nn) A env R3 s5 hA (F.st.tk.trans t0) S5) fun fw s6 p=>?_
  cases f with
  |br=>
   refine hid fun G_ k_=>?_
   obtain⟨rfl,rfl,rfl⟩:=e2
   obtain⟨R6,h1,h2⟩:=p.end (st4.trans c5)
   cases h2
   refine k_ ?_
   exact⟨_,rfl,hQ _ _ ⟨R6,h1,rfl⟩⟩
  |rt w=>
   refine hid fun G_ k_=>?_
   obtain⟨rfl,rfl,rfl⟩:=e2
   obtain⟨R6,h1,v',rfl,h2⟩:=p.end (st4.trans c5)
   refine k_ ?_
   exact⟨_,rfl,hQ _ _ ⟨R6,h1,v',rfl,h2⟩⟩
  |nx=>
   refine hid fun G_ k_=>?_
   obtain⟨R6,⟨h1,h2,h3⟩,h4⟩:=p
   cases h4
   obtain⟨k1,k2,k3⟩:=for_keep W hcl S4 hst4 hel4 hfp4 (c5.trans h1)
   refine k_ ?_
   exact⟨n,Nat.lt_succ_self n,hJ▸⟨i+1,Γ3,R6,hs5,by rw[←hi,Nat.add_right_comm,Nat.add_assoc],hlt,e2,st4.trans (c5.trans h1),h2,h3,k1,k2,k3⟩⟩
  |co=>
   refine hid fun G_ k_=>?_
   obtain⟨R6,⟨h1,h2,h3⟩,h4⟩:=p
   cases h4
   obtain⟨k1,k2,k3⟩:=for_keep W hcl S4 hst4 hel4 hfp4 (c5.trans h1)
   refine k_ ?_
   exact⟨n,Nat.lt_succ_self n,hJ▸⟨i+1,Γ3,R6,hs5,by rw[←hi,Nat.add_right_comm,Nat.add_assoc],hlt,e2,st4.trans (c5.trans h1),h2,h3,k1,k2,k3⟩⟩
 |zero=>
  refine hid fun G_ k_=>?_
  have hi:i=its.length:=hi
  subst hi
  have e1:=F.rest
  rw[List.drop_length]at e1
  cases e1
  refine k_ ?_
  refine W.done s1 _ _ F.at_ fun h' tks hk=>?_
  obtain⟨st4,S4,_,_⟩:=F.taken (tks:=tks) hIn hI0 hcl fun b o hb e=>hk b o (by simpa using hb) e
  exact wpAny_execs_nil ⟨_,rfl,hQ _ _ ⟨R3,⟨st4,S4,F.nn⟩,rfl⟩⟩
end
end
theorem VRs.set {h:Heap} {R:RC}:∀{l:List V} {vs:List Value} {x:V} {v:Value} {i:Nat},VRs h R l vs→VR h R x v→VRs h R (l.set i x) (vs.set i v):=by
 intro l
 induction l with
 |nil=>intro vs x v i e ux;have e:=VRs.nil_eq e;subst e;exact VRs.nil
 |cons y r ih=>
  intro vs x v i w hx
  obtain⟨u,us,e,h1,h2⟩:=w
  subst e
  cases i with
  |zero=>exact⟨v,us,rfl,hx,h2⟩
  |succ i=>exact⟨u,us.set i v,rfl,h1,ih h2 hx⟩
theorem VRs.rev {h:Heap} {R:RC}:∀{l:List V} {vs:List Value},VRs h R l vs→VRs h R l.reverse vs.reverse:=by
 intro v0_
 induction v0_ with
 |nil=>
  intro vs e
  have e:=VRs.nil_eq e;subst e;exact VRs.nil
 |cons y r ih_=>
  intro vs q1_
  obtain⟨u,us,e,h1,h2⟩:=q1_
  subst e;simp only[List.reverse_cons,List.reverse_cons];exact(ih_ h2).app (VRs.one h1)
theorem setG_comm {x y:Str} {a b:Slot} (h:x≠y):∀{Γ:Gam},setG x a (setG y b Γ)=setG y b (setG x a Γ):=by
 intro v0_
 induction v0_ with
 |nil=>
  exact rfl
 |cons p_ r ih_=>
  obtain⟨z,s⟩:=p_
  by_cases hy:y==z
  ·have:=eq_of_beq hy;subst this
   have hx:(x==y)=false:=by simpa using h
   simp[setG,hx]
  ·have hy':(y==z)=false:=by simpa using hy
   by_cases hx:x==z
   ·have:=eq_of_beq hx;subst this
    simp[setG,hy']
   ·have hx':(x==z)=false:=by simpa using hx
    simp only[setG,hx',hy',Bool.false_eq_true,if_false]
    rw[ih_]
section
variable {m:Mod} {C:Addr} {h₀:Heap} {k:Nat} {A:Around} {s:Shared} {R:RC}
structure OwL (ns:Names) (Γ:Gam) (x:Str) (l:List V):Prop where
 dbg:isDbg x=false
 var:isVar ns x=true
 at_:Γ.lookup x=some (.o l)
theorem StepS.muted {env ns} {s:Shared} {x:Str} {a:Addr} {h':Heap} {tks:Nat} (hx:x≠"") (hm:(x,a)∈R.O) (hk:Heap.SameBut a s.heap h') (hn:∃o,h'.get? a=some o):StepS env ns s R { s with heap:=h',toks:=tks } R where
 tk:=rfl
 ρ:=⟨[],by simp,by simp⟩
 go:=⟨_,_,rfl⟩
 new:=fun ux h=> .inl h
 old:=fun ux h ux=>h
 kp:=fun b o ux h ux e=>hk.extBut b o (fun q=>h ⟨x,hx,q▸hm⟩) e
 ex:=fun b e=>by
  by_cases hb:b=a
  ·subst hb;obtain⟨o,ho⟩:=hn;rw[e]at ho;cases ho
  ·exact(hk.2 b hb).symm.trans e
theorem item_rd {ns:Names} {Γ:Gam} {hs:HS} {x:Str} {l:List V} (hl:OwL ns Γ x l) {env:Env} (S:SI C h₀ env ns Γ R hs s) (hn:Γ.lookup ("":Str)=none):∃a vs,(x,a)∈R.O∧s.heap.PlainList a vs.toArray∧VRs s.heap R l vs∧l.length≤sizeLine∧a∉R.hl∧
 (∀(A:Around) (px:Pos) (Q:Value→Shared→Prop) (E:Value→Shared→Prop),Q (.ref a) s→wpAny (m.M) A (eval (.Name x px) env) Q E s)∧
 ∀s2 R2 hs2 l' vs' h',Tr C s R s2 R2 hs2→Heap.SameBut a s2.heap h'→h'.PlainList a vs'.toArray→VRs s2.heap R2 l' vs'→l'.length≤sizeLine→
  SI C h₀ env ns (setG x (.o l') Γ) R2 hs2 { s2 with heap:=h' }∧StepS env ns s2 R2 { s2 with heap:=h' } R2:=by
 refine hid fun G_ k_=>?_
 obtain⟨hd,hx,hg⟩:=hl
 have hne:=var_ne S.var hn hx
 obtain⟨a,vs,hm,hpl,hvs,hz,hld,hmut⟩:=S.mut (m:=m) hx hg
 refine k_ ?_
 refine⟨a,vs,hm,hpl,hvs,hz,fun q=>(List.nodup_append.mp S.hdr.nod).2.2 a (mem_map.mpr ⟨_,hm,rfl⟩) a q rfl,fun A px Q E h=>wpAny_Name (hld A Q E h) hd,fun s2 R2 hs2 l' vs' h' t2 hs' hp hv hz'=>?_⟩
 obtain⟨h1,_⟩:=hmut s2 R2 hs2 l' vs' h' s2.toks t2 hs'.extBut hp hv hz'
 exact⟨h1,StepS.muted (tks:=s2.toks) hne (by rw[t2.st.2];exact hm) hs' (by obtain⟨n0,h⟩:=hp;exact⟨_,h⟩)⟩
section
variable {ns:Names} {Γ Γ':Gam} {hs hs1 hs2 hs3:HS} {pos px sp p1 p2 p3 p4 p5 p6:Pos} {x y:Str} {sl:Slot} {l:List V} {i:Int} {v u r:V}
theorem sw_tup {e:Expr} {o:List Expr} {i:Nat} {p:Pos} {l:Nat} {env:Env}:swapsWith e (some (.Tuple o i p)) l env=pure false:=by
 unfold swapsWith
 dsimp only
 split
 ·rfl
 ·rfl
noncomputable abbrev NSl (ie:Expr):Prop:=augStore ie=fun ov iv new=>(do holding [new,ov,iv] (setItem ov iv new);release [new,ov,iv] [];pure .next)
noncomputable def InR (m:Mod) (op:Operator) (a b r:V):Prop:=∀(A:Around) s R va vb,RR s.heap R a va→RR s.heap R b vb→wpAny m.M A (inplaceOp op va vb) (PostO s R (.p r)) NoE s
theorem InR.ints {op:Operator} {a b:Int} {r:V} (h:∀(A:Around) s R t u,wpAny m.M A (inplaceOp op (.int a t) (.int b u)) (PostO s R (.p r)) NoE s):InR m op (.int a) (.int b) r:=
 fun A s R _ _ ⟨t,e⟩ ⟨u,e'⟩=>by rw[e,e'];exact h A s R t u
theorem iadd_r {a b}:InR m .Add (.int a) (.int b) (.int (a+b)):= .ints fun ux ux ux ux ux=>P.iadd_int (PostO.toks _ ⟨_,rfl⟩)
theorem isub_r {a b}:InR m .Sub (.int a) (.int b) (.int (a-b)):= .ints fun ux ux ux ux ux=>P.isub_int (PostO.toks _ ⟨_,rfl⟩)
theorem ishl_r {a n:Int} (h1:0≤n) (h2:(Builtin.Int.intBits a:Int)+n≤2^27):InR m .LShift (.int a) (.int n) (.int (a*2^n.toNat)):= .ints fun ux ux ux ux ux=>ilshift_int h1 h2 (PostO.toks _ ⟨_,rfl⟩)
theorem ishr_r {a n:Int} (h1:0≤n):InR m .RShift (.int a) (.int n) (.int (a.fdiv (2^n.toNat))):= .ints fun ux ux ux ux ux=>irshift_int h1 (PostO.toks _ ⟨_,rfl⟩)
theorem iadds_r {a b:Str} (hr:room (a.length+b.length)=true):InR m .Add (.str a) (.str b) (.str (a++b)):=by
 rintro A s R _ _ ⟨la,t,rfl⟩ ⟨lb,u,rfl⟩
 have hr:=room_le hr
 exact SBL.iadd (fun t' n hl=>PostO.toks _ ⟨Nat.le_trans hl.2 hr,_,rfl⟩) hr
set_option tactic.hygienic true in
theorem name_val {env:Env} (hx:isVar ns x=true) (S:SI m.C m.h₀ env ns Γ R hs s) (hg:Γ.lookup x=some (.p v)):∃val,VR s.heap R v val∧∀(A:Around) (Q:Value→Shared→Prop) (E:Value→Shared→Prop),Q val s→wpAny m.M A (loadName env x) Q E s:=by
 have V:=S.var
 rcases isVar_or hx with hl|hl
 ·refine hid fun G_ k_=>?_
  obtain⟨h,hm,hall⟩:=V.loc
  obtain⟨sl,e2,q⟩:=hall x hl
  rw[hg]at e2;cases e2
  obtain⟨val,h1,h2⟩:=q
  refine k_ ?_
  exact⟨val,h2,fun A Q E h=>wpAny_loadName_local V.kind (S.kind.trans hl) hm h1 h⟩
 ·refine hid fun G_ k_=>?_
  obtain⟨c,ov,sl,c1,c2,e2,q⟩:=V.cel x hl
  rw[hg]at e2;cases e2
  obtain⟨val,h1,h2⟩:=q
  subst h1
  refine k_ ?_
  exact⟨val,h2,fun A Q E h=>wpAny_loadName_cell V.kind (S.kind.trans hl) c1 c2 h⟩
theorem st_aug {op:Operator} {e:Expr} (hx:isVar ns x=true) (hg:Γ.lookup x=some (.p v)) (h1:EvR m k ns Γ hs e (.p u) hs1) (h:InR m op v u r):StR m k ns Γ hs (.AugAssign (.Name x px) op e pos) .nx (setG x (.p r) Γ) hs1:=fun hn A env R s hA t0 S=>by
 obtain⟨val,hv,hld⟩:=name_val hx S hg
 refine wpAny_AugAssign_Name (hld A _ _ (noE (h1 A env R s hA t0 S) fun vu s1 hp3=>?_))
 obtain⟨R1,t1,r1⟩:=hp3
 refine noE (h A s1 R1 val vu (hv.next t1.kp t1.st).rr (VR.rr r1)) fun vr s2 hp4=>?_
 obtain⟨g,k2,hr⟩:=hp4
 have t12:=t1.trans (Tr.own t1.hd g k2)
 exact store_ok hx (S.tr t12) (sl:= .p r) ⟨vr,rfl,hr⟩ fun s3 S3 st=>⟨R1,⟨(StepS.ofTr t12).trans (StepS.stored st S3),S3,setG_none hn⟩,rfl⟩
theorem st_augs {ie e:Expr} {op:Operator} (hl:OwL ns Γ x l) (h1:EvR m k ns Γ hs ie (.p (.int i)) hs1) (h0:0≤i) (hv:l[i.toNat]? =some v) (h2:EvR m k ns Γ hs1 e (.p u) hs2) (h:InR m op v u r) (hsl:NSl ie):
 StR m k ns Γ hs (.AugAssign (.Subscript (.Name x px) ie sp) op e pos) .nx (setG x (.o (l.set i.toNat r)) Γ) hs2:=fun hn A env R s hA t0 S=>by
 refine hid fun G_ k_=>?_
 obtain⟨a,vs,hm,hpl,hvs,hz,hah,hname,hmut⟩:=item_rd (m:=m) hl S hn
 have hlen:=hvs.len
 have hlt:=(List.getElem?_eq_some_iff.mp hv).1
 rw[sizeLine_eq]at hz
 refine k_ ?_
 refine wpAny_AugAssign_SubscriptAny (hname A px _ _ (noE (h1 A env R s hA t0 S) fun vi s1 hp5=>?_)) fun ov iv new=>congrFun (congrFun (congrFun hsl ov) iv) new
 refine hid fun G_ k_=>?_
 obtain⟨R1,t1,t,e1⟩:=hp5
 subst e1
 have hpl1:s1.heap.PlainList a vs.toArray:=hpl.at fun o e=>t1.kp a o hah e
 obtain⟨old,ho,hr⟩:=(hvs.next t1.kp t1.st).get hv
 refine k_ ?_
 refine wpAny_getItem_list hpl1.isList h0 (by lia) (by simpa using ho) ?_
 refine noE (h2 A env R1 s1 hA (t1.st.1.trans t0) (S.tr t1)) fun vu s2 hp6=>?_
 obtain⟨R2,t2,r2⟩:=hp6
 refine noE (h A s2 R2 old vu (hr.next t2.kp t2.st).rr (VR.rr r2)) fun new s3 hp7=>?_
 obtain⟨g,k3,hnew⟩:=hp7
 have t13:=(t1.trans t2).trans (Tr.own t2.hd g k3)
 refine setItem_plain (hpl.at fun o e=>t13.kp a o hah e) h0 (by lia) (by simp only[size_toArray];lia) fun h' hp hs'=>?_
 rw[show∀z:Int,vs.toArray.setIfInBounds z.toNat new=(vs.set z.toNat new).toArray by simp]at hp
 obtain⟨z1,z2⟩:=hmut s3 R2 _ _ _ h' t13 hs' hp ((hvs.next t13.kp t13.st).set hnew) (by rw[length_set,sizeLine_eq];exact hz)
 exact⟨R2,⟨(StepS.ofTr t13).trans z2,z1,setG_none hn⟩,rfl⟩
theorem st_app {args:List Expr} (hl:OwL ns Γ x l) (hline:(p2.endLine==p3.line)=true) (hlen:args.length≤3) (h1:ArR m k ns Γ hs args [v] hs1) (hr:room (l.length+1)=true):
 StR m k ns Γ hs (.Expr (.Call (.Attribute (.Name x p1) "append" p2) args [] p3) pos) .nx (setG x (.o (l++[v])) Γ) hs1:=fun hn A env R s hA t0 S=>by
 refine hid fun G_ k_=>?_
 obtain⟨a,vs,hm,hpl,hvs,hz,hah,hname,hmut⟩:=item_rd (m:=m) hl S hn
 refine k_ ?_
 refine wpAny_Expr_any ?_ (by unfold interactive;rw[S.var.kind];rfl) rfl
 refine method_go rfl h1.1 hlen hline (hname A p1 _ _ ?_)
 refine getMethod_builtin hpl.isList.typeIs PySem.F.plainAttrs_list slot_list_append PySem.F.type_list_append (fun b e=>by cases e;obtain⟨n0,ho⟩:=hpl;exact⟨_,ho,rfl⟩) ?_
 refine callB h1.1 (noE (h1.2 p3 A env R s hA t0 S) fun vals s1 hp8=>?_)
 refine hid fun G_ k_=>?_
 obtain⟨R1,t1,val,vr,e,hv,e2⟩:=hp8
 subst e e2
 have hlen':=hvs.len
 refine k_ ?_
 refine wpAny_list_append_plain (hpl.at fun o e=>t1.kp a o hah e) (fun h' hp hs'=>?_) (by rw[size_toArray,hlen'];exact hz)
 have hr:=room_le hr
 obtain⟨z1,z2⟩:=hmut s1 R1 _ (l++[v]) (vs++[val]) h' t1 hs' (by rw[show(vs++[val]).toArray=vs.toArray.push val by simp];exact hp) ((hvs.next t1.kp t1.st).app (VRs.one hv)) (by simpa using hr)
 exact⟨R1,⟨(StepS.ofTr t1).trans z2,z1,setG_none hn⟩,rfl⟩
theorem st_rev (hl:OwL ns Γ x l) (hline:(p2.endLine==p3.line)=true):StR m k ns Γ hs (.Expr (.Call (.Attribute (.Name x p1) "reverse" p2) [] [] p3) pos) .nx (setG x (.o l.reverse) Γ) hs:=fun hn A env R s hA t0 S=>by
 refine hid fun G_ k_=>?_
 obtain⟨a,vs,hm,hpl,hvs,hz,hah,hname,hmut⟩:=item_rd (m:=m) hl S hn
 refine k_ ?_
 refine wpAny_Expr_any ?_ (by unfold interactive;rw[S.var.kind];rfl) rfl
 refine method_go rfl rfl (by simp) hline (hname A p1 _ _ ?_)
 refine getMethod_builtin hpl.isList.typeIs PySem.F.plainAttrs_list PySem.F.slot_list_reverse PySem.F.type_list_reverse (fun b e=>by cases e;obtain⟨n0,ho⟩:=hpl;exact⟨_,ho,rfl⟩) ?_
 refine callB rfl (args_nil ?_)
 have hlen':=hvs.len
 refine reverse_plain hpl (by rw[size_toArray,hlen'];exact hz) fun h' hp hs'=>?_
 obtain⟨h1,h2⟩:=hmut s R hs l.reverse vs.reverse h' (Tr.refl S.hdr) hs' (by simpa using hp) hvs.rev (by simpa using hz)
 exact⟨R,⟨h2,h1,setG_none hn⟩,rfl⟩
theorem st_call {f:Expr} {args:List Expr} (h1:EvR m k ns Γ hs (.Call f args [] p1) (.p .none) hs1):StR m k ns Γ hs (.Expr (.Call f args [] p1) pos) .nx Γ hs1:=fun hn A env R s hA t0 S=>
 wpAny_Expr_any (noE (h1 A env R s hA t0 S) fun v s1 ⟨R1,t1,r1⟩=>⟨R1,⟨StepS.ofTr t1,S.tr t1,hn⟩,rfl⟩) (by unfold interactive;rw[S.var.kind];rfl) rfl
noncomputable abbrev NTup (value:Expr):Prop:=(fun(ts:List Expr) (tc:Nat) (tp:Pos) (env:Env)=>swappedStores [.Tuple ts tc tp] value env)=fun _ _ _ _=>pure none
theorem tup_none {ts:List Expr} {tc:Nat} {tp:Pos} {value:Expr} {env:Env} (h:NTup value):swappedStores [.Tuple ts tc tp] value env=pure none:=congrFun (congrFun (congrFun (congrFun h ts) tc) tp) env
theorem st_tup' {ts:List Expr} {tc:Nat} {tp:Pos} {e:Expr} {l:List V} (h1:EvR m k ns Γ hs e (.p (.tup l)) hs1) (hts:∀x∈dirNames ts,isVar ns x=true) (hb:BindsR ts l Γ Γ') {A env R s} (hn:Γ.lookup ("":Str)=none) (hA:AOK k A) (t0:R.tk=m.tk) (S:SI m.C m.h₀ env ns Γ R hs s)
 (hsw:swappedStores [.Tuple ts tc tp] e env=pure none):wpAny m.M A (exec (.Assign [.Tuple ts tc tp] e pos) env) (PostS m.C m.h₀ env ns s R .nx Γ' hs1) NoE s:=by
 refine wpAny_Assign_stores ?_ (show swapsWith e (some (.Tuple ts tc tp)) pos.line env=_ from sw_tup) hsw
 refine noE (h1 A env R s hA t0 S) fun val s1 hp9=>?_
 obtain⟨R1,t1,r1⟩:=hp9
 show wpAny _ A (assign (.Tuple ts tc tp) env val) _ _ s1
 refine noE (bindT_ok (BindR.tup (c:=tc) (p:=tp) hb) hts hA (S.tr t1) r1) fun ux s2 hp10=>?_
 obtain⟨S2,st⟩:=hp10
 exact⟨R1,⟨(StepS.ofTr t1).trans (StepS.storedL st S2),S2,bindNs_none hb hn⟩,rfl⟩
theorem st_tup {ts:List Expr} {tc:Nat} {tp:Pos} {e:Expr} {l:List V} (he:NTup e) (h1:EvR m k ns Γ hs e (.p (.tup l)) hs1) (hts:∀x∈dirNames ts,isVar ns x=true) (hb:BindsR ts l Γ Γ'):StR m k ns Γ hs (.Assign [.Tuple ts tc tp] e pos) .nx Γ' hs1:=
 fun hn ux ux ux ux hA t0 S=>st_tup' h1 hts hb hn hA t0 S (tup_none he)
theorem swap_gen {x y:Str}:∀(o1 o2:Option Str) (c1 c2 f g:Bool) (u:Sem (Option (List Str))),g=false→(o1=none∨o1=some x)→(o2=none∨o2=some y)→
 let l:=List.filterMap id [o1,o2]
 let r:Sem (Option (List Str)):=if c1=true then pure none else if c2=true then pure none else if(l.length != 2||l.eraseDups.length != l.length)=true then pure none else if f=true then pure none else if g=true then u else pure (some l)
 r=pure none∨r=pure (some [x,y]):=by
 intro o1 o2 c1 c2 f g u hg h1 h2
 subst hg
 cases c1
 ·cases c2
  ·rcases h1 with rfl|rfl
   ·rcases h2 with rfl|rfl
    ·exact .inl rfl
    ·exact .inl rfl
   ·rcases h2 with rfl|rfl
    ·exact .inl rfl
    ·dsimp only
     repeat' split
     all_goals first|exact .inl rfl|exact .inr rfl
  ·exact .inl rfl
 ·exact .inl rfl
theorem opt_if {c:Prop} [Decidable c] {x:Str}:(if c then some x else none)=none∨(if c then some x else none)=some x:=by
 split
 ·exact .inr rfl
 ·exact .inl rfl
theorem swap_two {x y:Str} {a b:Expr} {p1 p2 p3 p4:Pos} {k1 k2:Nat} {env:Env} (hxy:x≠y) (hc:([a,b].all (constantsAlone 8))=false):
 swappedStores [.Tuple [.Name x p1,.Name y p2] k1 p3] (.Tuple [a,b] k2 p4) env=pure none∨swappedStores [.Tuple [.Name x p1,.Name y p2] k1 p3] (.Tuple [a,b] k2 p4) env=pure (some [x,y]):=by
 have H:=swap_gen (if(env.kindOf x==some .local&&p1.line==p1.line)=true then some x else none) (if(env.kindOf y==some .local&&p2.line==p1.line)=true then some y else none) (!(2==2||2==3)||2 != 2||env.blockKind != .function) ([a,b].any isStarred) ([a,b].all (foldedForSure 8)) ([a,b].all (constantsAlone 8)) (unsupported "assign.tuple-of-constant-expressions:order-of-the-stores") hc opt_if opt_if
 exact H
theorem st_pair {a b:Expr} {k1 k2:Nat} (h1:EvR m k ns Γ hs (.Tuple [a,b] k2 p4) (.p (.tup [u,v])) hs1) (hx:isVar ns x=true) (hy:isVar ns y=true) (hxy:x≠y) (hc:([a,b].all (constantsAlone 8))=false):
 StR m k ns Γ hs (.Assign [.Tuple [.Name x p1,.Name y p2] k1 p3] (.Tuple [a,b] k2 p4) pos) .nx (setG y (.p v) (setG x (.p u) Γ)) hs1:=fun hn A env R s hA t0 S=>by
 rcases swap_two (p1:=p1) (p2:=p2) (p3:=p3) (p4:=p4) (k1:=k1) (k2:=k2) (env:=env) hxy hc with hsw|hsw
 ·exact st_tup' h1 (by intro z hz;rcases mem_cons.mp (show z∈_::_ from hz)with rfl|hz;assumption;cases mem_singleton.mp (show z∈[_]from hz);assumption) (.cons (.cons .nil)) hn hA t0 S hsw
 simp only[exec_Assign_arm]
 refine wpAny_bind (wpAny_standAt ?_)
 rw[show swapsWithSole [.Tuple [.Name x p1,.Name y p2] k1 p3] (.Tuple [a,b] k2 p4) pos.line env=pure false from rfl,hsw]
 refine wpAny_bind (wpAny_pure ?_)
 simp only[Bool.false_eq_true,if_false]
 refine wpAny_bind (noE (h1 A env R s hA t0 S) fun val s1 hp14=>?_)
 refine hid fun G_ k_=>?_
 obtain⟨R1,t1,_,ad,us,e,na,hT,u1,r1',e1,hv1,u2,r2',e2,hv2,e3⟩:=hp14
 subst e e1 e2 e3
 refine k_ ?_
 refine wpAny_bind (wpAny_pure ?_)
 unfold assignStores
 dsimp only
 refine wpAny_bind (wpAny_rule (wpAny_bind ?_))
 have hlen:[x,y].length=([u1,u2]:List Value).toArray.size:=by simp
 rw[hlen]
 refine PySem.wpAny_unpackItems_tuple hA.hd hT fun h' hk=>?_
 have t2:Tr m.C s1 R1 { s1 with heap:=h' } R1 hs1:=Tr.own t1.hd ⟨_,_,rfl⟩ fun b o ux e=>hk b o (Nat.ne_of_lt (Heap.lt_size e)) e
 have S2:=S.tr (t1.trans t2)
 refine wpAny_bind ?_
 show wpAny _ A (assignInOrder [bindName env y,bindName env x] [u2,u1]) _ _ _
 refine assignInOrder_cons (bindName_ok hy S2 (sl:= .p v) ⟨u2,rfl,hv2.next t2.kp t2.st⟩ fun s3 S3 st3=>?_)
 refine assignInOrder_cons (bindName_ok hx S3 (sl:= .p u) ⟨u1,rfl,(st3.vrs S2).1 _ _ (hv1.next t2.kp t2.st)⟩ fun s4 S4 st4=>?_)
 refine assignInOrder_nil (wpAny_pure ?_)
 rw[setG_comm hxy]at S4
 exact⟨R1,⟨((StepS.ofTr (t1.trans t2)).trans (StepS.stored st3 S3)).trans (StepS.stored st4 S4),S4,setG_none (setG_none hn)⟩,rfl⟩
end
end
section
variable {m:Mod} {C:Addr} {h₀:Heap} {tk:TK} {k:Nat} {A:Around} {s:Shared} {R:RC} {E:Value→Shared→Prop}
theorem VR.pure {h:Heap} {R R':RC} (ht:R.tk=R'.tk) (hb:∀b∈R.bad,b∈R'.bad) (n:Nat) (x:V):∀(v:Value),pv n x=true→VR h R' x v→VR h R x v:=by
 refine V.rec (motive_1:=fun x=>∀n v,pv n x=true→VR h R' x v→VR h R x v) (motive_2:=fun l=>∀n vs,l.all (pv n)=true→VRs h R' l vs→VRs h R l vs) (fun ux ux ux e=>e) (fun ux ux ux ux e=>e) (fun ux ux ux ux e=>e) (fun ux ux ux ux e=>e) ?_ ?_ ?_ ?_ ?_ (fun ux ux ux e=>e) ?_ x n
 ·intro l ih n v p e
  obtain⟨n0,a,vs,e,na,ht',hs⟩:=e
  cases n with
  |zero=>exact nomatch (show false=true from p)
  |succ n=>exact⟨n0,a,vs,e,fun q=>na (hb _ q),ht',ih n vs p hs⟩
 ·intro l ih n v p e
  obtain⟨n0,a,vs,e,na,ht',hs⟩:=e
  cases n with
  |zero=>exact nomatch (show false=true from p)
  |succ n=>exact⟨n0,a,vs,e,fun q=>na (hb _ q),ht',ih n vs p hs⟩
 ·intro a b st n v _ e
  obtain⟨x,t,u,z,e,na,hr,hs⟩:=e
  exact⟨x,t,u,z,e,fun q=>na (hb _ q),hr,hs⟩
 ·intro n v _ e
  show v= .ref R.tk.a
  rw[ht];exact e
 ·intro r n v p _
  cases n<;>exact nomatch (show false=true from p)
 ·intro x r h1 h2 n vs p e
  obtain⟨v,vr,e,g1,g2⟩:=e
  rw[List.all_cons,Bool.and_eq_true]at p
  exact⟨v,vr,e,h1 n v p.1 g1,h2 n vr p.2 g2⟩
theorem VRs.pure {h:Heap} {R R':RC} (ht:R.tk=R'.tk) (hb:∀b∈R.bad,b∈R'.bad) (n:Nat) (l:List V):∀(vs:List Value),l.all (pv n)=true→VRs h R' l vs→VRs h R l vs:=by
 induction l with
 |nil=>exact fun ux ux e=>e
 |cons x r ih=>
  intro vs p e
  obtain⟨v,vr,e,g1,g2⟩:=e
  rw[List.all_cons,Bool.and_eq_true]at p
  exact⟨v,vr,e,VR.pure ht hb n x v p.1 g1,ih vr p.2 g2⟩
noncomputable def RC.sealed (R:RC):RC:={ R with O:=R.O.map fun p=>("",p.2) }
theorem sealed_bad:R.sealed.bad=R.bad:=by
 simp[RC.sealed,RC.bad,RC.hl,map_map,Function.comp_def]
theorem sealed_act {b:Addr}:¬R.sealed.act b:=by
 rintro⟨x,hx,hm⟩
 simp only[RC.sealed,mem_map]at hm
 obtain⟨p,_,e⟩:=hm
 exact hx (Prod.mk.inj e).1.symm
theorem VRs.sealed {h:Heap} {x v} (r:VRs h R x v):VRs h R.sealed x v:=
 VRs.step (R:=R) (R':=R.sealed) (Kept.refl _ _) rfl (fun ux ux e=>e) (fun b o q ux q'=>q (sealed_bad (R:=R)▸q')) _ _ r
theorem HsR.sealed {h:Heap} {hs:HS} (H:HsR C h R hs):HsR C h R.sealed hs:=by
 refine⟨H.len,fun r i a l e1 e2=>?_,by rw[sealed_bad];exact H.nod,fun p hp=>?_,H.tabs⟩
 ·obtain⟨n,⟨ep,hsh,t,h1,h2,h3,h4⟩,vs,hl,hv⟩:=H.at_ r i a l e1 e2
  exact⟨n,⟨ep,hsh,t,by rw[sealed_bad];exact h1,by rw[sealed_bad];exact h2,h3,h4⟩,vs,hl,hv.sealed⟩
 ·simp only[RC.sealed,mem_map]at hp
  obtain⟨q,hq,rfl⟩:=hp
  exact H.own q hq
theorem lookup_setG' {x y:Str} {sl:Slot}:∀{Γ:Gam},(setG x sl Γ).lookup y=if y=x then(Γ.lookup y).map (fun ux=>sl)else Γ.lookup y
 |[]=>by simp[setG]
 |(z,s0)::r=>by
  simp only[setG]
  by_cases hz:x==z
  ·have:=eq_of_beq hz;subst this
   rw[if_pos hz]
   simp only[lookup_cons]
   by_cases hy:y=x
   ·subst hy;simp
   ·have hy':(y==x)=false:=by simpa using hy
    simp[hy',hy]
  ·refine Eq.trans (congrArg _ (if_neg hz)) ?_
   simp only[lookup_cons]
   by_cases hy:y==z
   ·have:=eq_of_beq hy;subst this
    have:¬y=x:=fun e=>by subst e;simp at hz
    simp[this]
   ·have hy':(y==z)=false:=by simpa using hy
    simp only[hy']
    exact lookup_setG'
inductive BindP:List Str→List V→Gam→Gam→Prop where
 |nil {Γ}:BindP [] [] Γ Γ
 |cons {x r v vs Γ Γ1}:BindP r vs (setG x (.p v) Γ) Γ1→BindP (x::r) (v::vs) Γ Γ1
theorem bindPs_len {ps vs Γ Γ'} (e:BindP ps vs Γ Γ'):ps.length=vs.length:=by
 induction e with
 |nil=>rfl
 |cons _ ih=>(simp only[length_cons,length_cons];exact congrArg _ (ih))
theorem bindPs_none {ps vs Γ Γ'} (e:BindP ps vs Γ Γ') (h:Γ.lookup ("":Str)=none):Γ'.lookup ("":Str)=none:=by
 induction e with
 |nil=>exact h
 |cons _ ih=>exact ih (by rw[lookup_setG',h];simp)
theorem bindPs_ok {h:Heap} {K:Str→Option NameKind} {y:Str} {ps vs Γ Γ'} (e:BindP ps vs Γ Γ'):∀{vals:List Value} {f cm:Str→Option Value},VRs h R vs vals→
 (K y=some .local→(∃sl,Γ.lookup y=some sl∧SlotR h R y sl (f y))→∃sl,Γ'.lookup y=some sl∧SlotR h R y sl (bindL K (ps.zip vals) f y))∧
 (K y=some .cell→(∃sl,Γ.lookup y=some sl∧SlotR h R y sl (cm y))→∃sl,Γ'.lookup y=some sl∧SlotR h R y sl (bindC K (ps.zip vals) cm y)):=by
 induction e with
 |nil=>exact fun q=>by cases q;exact⟨fun ux h=>h,fun ux h=>h⟩
 | @cons p r x vs Γ Γ1 _ ih=>
  rintro _ f cm ⟨v,vr,rfl,h1,h2⟩
  simp only[List.zip_cons_cons]
  simp only[bindL,bindC]
  obtain⟨i1,i2⟩:=ih (f:=if K p=some .local then fun z=>if z=p then some v else f z else f) (cm:=if K p=some .local then cm else fun z=>if z=p then some v else cm z) h2
  have z1:(setG p (.p x) Γ).lookup y=if y=p then(Γ.lookup y).map (fun ux=> .p x)else Γ.lookup y:=lookup_setG'
  refine⟨fun hk ⟨sl,e1,e2⟩=>i1 hk ?_,fun hk ⟨sl,e1,e2⟩=>i2 hk ?_⟩
  ·by_cases hy:y=p
   ·subst hy
    exact⟨.p x,by rw[z1,e1];simp,by rw[if_pos hk];exact⟨v,by simp,h1⟩⟩
   ·refine⟨sl,by rw[z1,if_neg hy];exact e1,?_⟩
    split
    ·simpa[hy]using e2
    ·exact e2
  ·by_cases hy:y=p
   ·subst hy
    exact⟨.p x,by rw[z1,e1];simp,by rw[if_neg (by rw[hk];simp)];exact⟨v,by simp,h1⟩⟩
   ·refine⟨sl,by rw[z1,if_neg hy];exact e1,?_⟩
    split
    ·exact e2
    ·simpa[hy]using e2
theorem ownNames_own {y:Str}:∀{sc:List (Str×NameKind)},(sc.lookup y=some .local∨sc.lookup y=some .cell)→(ownNames sc).lookup y=some .any:=by
 intro v0_
 induction v0_ with
 |nil=>
  intro h
  simp at h
 |cons p_ r ih_=>
  obtain⟨z,kd⟩:=p_
  intro h
  unfold ownNames
  by_cases hz:y==z
  ·have:=eq_of_beq hz;subst this
   simp only[lookup_cons,beq_self_eq_true,Option.some.injEq]at h
   rw[List.filter_cons]
   rcases h with h|h<;>subst h<;>simp[lookup_cons]
  ·have hz':(y==z)=false:=by simpa using hz
   simp only[lookup_cons,hz']at h
   have ih:=ih_ h
   unfold ownNames at ih
   rw[List.filter_cons]
   split
   ·rw[map_cons,lookup_cons,hz'];exact ih
   ·exact ih
theorem ownNames_none {y:Str}:∀{sc:List (Str×NameKind)},sc.lookup y=none→(ownNames sc).lookup y=none:=by
 intro v0_
 induction v0_ with
 |nil=>
  intro h
  exact rfl
 |cons p_ r ih_=>
  obtain⟨z,kd⟩:=p_
  intro h
  unfold ownNames
  by_cases hz:y==z
  ·have:=eq_of_beq hz;subst this
   simp[lookup_cons]at h
  ·have hz':(y==z)=false:=by simpa using hz
   simp only[lookup_cons,hz']at h
   have ih:=ih_ h
   unfold ownNames at ih
   rw[List.filter_cons]
   split
   ·rw[map_cons,lookup_cons,hz'];exact ih
   ·exact ih
theorem cellsFrom_acc {y:Str}:∀{names:List (Str×NameKind)} {n:Nat} {acc:List (Str×Addr)},(acc.lookup y).isSome=true→((cellsFrom n names acc).lookup y).isSome=true:=by
 intro v0_
 induction v0_ with
 |nil=>
  intro _ _ h
  exact h
 |cons p_ r ih_=>
  obtain⟨z,kd⟩:=p_
  intro n acc h
  unfold cellsFrom
  split
  ·refine ih_ ?_
   simp only[lookup_cons]
   split
   ·rfl
   ·exact h
  ·exact ih_ h
theorem cellsFrom_some {y:Str}:∀{names:List (Str×NameKind)} {n:Nat} {acc:List (Str×Addr)},names.lookup y=some .cell→((cellsFrom n names acc).lookup y).isSome=true:=by
 intro v0_
 induction v0_ with
 |nil=>
  intro _ _ h
  simp at h
 |cons p_ r ih_=>
  obtain⟨z,kd⟩:=p_
  intro n acc h
  unfold cellsFrom
  by_cases hz:y==z
  ·have:=eq_of_beq hz;subst this
   simp only[lookup_cons,beq_self_eq_true,Option.some.injEq]at h
   subst h
   rw[if_pos (by rfl)]
   exact cellsFrom_acc (by simp[lookup_cons])
  ·have hz':(y==z)=false:=by simpa using hz
   simp only[lookup_cons,hz']at h
   split
   ·exact ih_ h
   ·exact ih_ h
structure FnRec (h₀:Heap) (a:Addr) (D:FD) (fd:FuncData):Prop where
 at_:∃o,h₀.get? a=some o∧o.data= .func fd
 body:fd.body= .stmts D.body
 scope:fd.scope=D.scope
 clo:fd.closure=[]
 glob:fd.globals=mainGlobals
 blt:fd.builtins=builtinsNs
 code:h₀.CodeRec fd.code fd.qualname
 bind:∀vals:List Value,vals.length=D.params.length→bindArgs fd ⟨vals,[]⟩=pure (D.params.zip vals)
 kind:D.scope.kind= .function
 co:D.scope.isCoroutine=false
 gen:D.scope.isGenerator=false
 vars:D.params.all (isVar D.scope.names)=true
theorem AOK.deeper {A:Around} {env:Env} (h:AOK (k+1) A):AOK k (A.deeper env):=
 ⟨h.hd,by have:=h.dp;show A.depth+1+(k+2)<_;lia,by have:=h.un;show A.units+3+_+_<_;lia⟩
theorem SI.enter {hs:HS} {D:FD} {a:Addr} {fd:FuncData} {args:List V} {vals:List Value} {Γ:Gam}
 (es:fd.scope=D.scope) (eg:fd.globals=mainGlobals) (eb:fd.builtins=builtinsNs) (B:Base h₀ tk R s) (H:HsR C s.heap R hs) (hk:D.scope.kind= .function) (e:BindP D.params args (ownNames D.scope.names) Γ) (hv:VRs s.heap R args vals) {s₁:Shared}
 (I:InCallC s (callEnvC fd s.heap.objs.size a).locals (bindL (callEnvC fd s.heap.objs.size a).kindOf (D.params.zip vals) fun ux=>none) (callEnvC fd s.heap.objs.size a).cells
  (bindC (callEnvC fd s.heap.objs.size a).kindOf (D.params.zip vals) fun ux=>none) s₁):
 SI C h₀ (callEnvC fd s.heap.objs.size a) D.scope.names Γ R.sealed hs s₁∧
 ∀c,Own (callEnvC fd s.heap.objs.size a) D.scope.names c→s.heap.objs.size≤c:=by
 obtain⟨n0,q0,p0,b0,sc0,g0,c0,d0,kd0,doc0,pm0,an0,cd0,ct0,bl0⟩:=fd
 dsimp only at es eg eb
 subst es eg eb
 have keep:=I.toInCall.keep
 have kp:Kept [] s.heap s₁.heap:=Kept.all keep
 have above:∀c,Own (callEnvC ⟨n0,q0,p0,b0,D.scope,mainGlobals,c0,d0,kd0,doc0,pm0,an0,cd0,ct0,builtinsNs⟩ s.heap.objs.size a) D.scope.names c→s.heap.objs.size≤c:=by
  rintro c (rfl|⟨x,hx,hc⟩)
  ·exact I.toInCall.fresh
  ·exact Nat.le_of_lt (Nat.lt_of_le_of_lt I.toInCall.fresh (I.above x c (mem_of_lookup hc)))
 have gone:∀c,s.heap.objs.size≤c→s.heap.get? c=none:=fun c hc=>by
  cases q:s.heap.get? c with
  |none=>rfl
  |some o=>exact absurd (Heap.lt_size q) (Nat.not_lt.mpr hc)
 have vs1:VRs s₁.heap R.sealed args vals:=(VRs.step (R:=R) (R':=R) (Kept.all keep) rfl (fun ux ux e=>e) (fun ux ux q ux=>q) _ _ hv).sealed
 have H1:HsR C s₁.heap R.sealed hs:=(H.keep kp).sealed
 refine⟨⟨fun b o q=>keep b o (B.base b o q),fun b o q=>by rw[sealed_bad];exact B.nb b o q,⟨hk,rfl,rfl,rfl,?_,?_,?_⟩,H1,?_,?_⟩,above⟩
 ·refine⟨_,I.toInCall.ns,fun x hx=>?_⟩
  obtain⟨a,b,c⟩:=(bindPs_ok (K:=fun z=>D.scope.names.lookup z) (cm:=fun ux=>none) e vs1).1 hx ⟨.any,ownNames_own (.inl hx),trivial⟩
  exact⟨a,b,c⟩
 ·intro x hx
  obtain⟨c,hc⟩:=Option.isSome_iff_exists.mp (cellsFrom_some (n:=s.heap.objs.size+1) (acc:=[]) hx)
  obtain⟨sl,e1,e2⟩:=(bindPs_ok (K:=fun z=>D.scope.names.lookup z) (f:=fun ux=>none) e vs1).2 hx ⟨.any,ownNames_own (.inr hx),trivial⟩
  exact⟨c,_,sl,hc,I.cell x c hc,e1,e2⟩
 ·exact fun x y c hx hy=>name_of_addr I.apart (mem_of_lookup hx) (mem_of_lookup hy)
 ·intro p hp c hc
  have hg:=gone c (above c hc)
  have hp:p∈R.ρ:=hp
  obtain⟨r,hr⟩:=List.mem_iff_getElem?.mp hp
  have hlt:=(List.getElem?_eq_some_iff.mp hr).1
  obtain⟨l,hl⟩:∃l,hs[r]? =some l:=by rw[H.len]at hlt;exact⟨hs[r],List.getElem?_eq_some_iff.mpr ⟨hlt,rfl⟩⟩
  obtain⟨_,⟨ep,hsh,t,h1,h2,h3,h4⟩,_⟩:=H.at_ r p.1 p.2 l hr hl
  exact⟨fun q=>(by rw[←q,hg]at h3;cases h3),fun q=>(by rw[←q,hg]at h4;cases h4)⟩
 ·intro c hc
  cases q:h₀.get? c with
  |none=>rfl
  |some o=>have:=B.base c o q;rw[gone c (above c hc)]at this;cases this
theorem Tr.leave {hs hs':HS} (H:HsR C s.heap R hs) {env:Env} {ns:Names} {s₁ s':Shared} {R':RC} (g:Go s s₁) (keep:∀b o,s.heap.get? b=some o→s₁.heap.get? b=some o)
 (above:∀c,Own env ns c→s.heap.objs.size≤c) (St:StepS env ns s₁ R.sealed s' R') (H':HsR C s'.heap R' hs'):
 Tr C s R s' R (hs'.take hs.length)∧(∀b∈R.bad,b∈R'.bad):=by
 have sub:∀b∈R.bad,b∈R'.bad:=by
  intro b hb
  rcases mem_append.mp hb with q|q
  ·obtain⟨p,hp,rfl⟩:=mem_map.mp q
   exact mem_append_left _ (mem_map.mpr ⟨("",p.2),St.old _ (mem_map.mpr ⟨p,hp,rfl⟩) rfl,rfl⟩)
  ·obtain⟨ext,e,_⟩:=St.ρ
   have q':b∈R.ρ.map (·.2)++R.tk.X.map (·.1):=q
   refine mem_append_right _ ?_
   show b∈R'.ρ.map (·.2)++R'.tk.X.map (·.1)
   rw[e,St.tk,map_append]
   rcases mem_append.mp q' with q'|q'
   ·exact mem_append_left _ (mem_append_left _ q')
   ·exact mem_append_right _ q'
 refine⟨⟨StepR.refl _ _,g.trans St.go,fun b o hb ho=>?_,?_⟩,sub⟩
 ·exact St.kp b o hb sealed_act (fun q=>absurd (Heap.lt_size ho) (Nat.not_lt.mpr (above b q))) (keep b o ho)
 ·obtain⟨ext,e,_⟩:=St.ρ
  have e:R'.ρ=R.ρ++ext:=e
  have hle:hs.length≤hs'.length:=by simp only[←H'.len,←H.len,e,length_append];exact Nat.le_add_right R.ρ.length ext.length
  refine⟨by rw[List.length_take,Nat.min_eq_left hle];exact H.len,fun r i a l e1 e2=>?_,H.nod,fun p hp=>H'.own ("",p.2) (St.old _ (mem_map.mpr ⟨p,hp,rfl⟩) rfl),by have:=H'.tabs;rw[St.tk]at this;exact this⟩
  have hlt:=(List.getElem?_eq_some_iff.mp e1).1
  have e3:R'.ρ[r]? =some (i,a):=by rw[e,List.getElem?_append_left hlt];exact e1
  have e4:hs'[r]? =some l:=by
   rw[H.len]at hlt
   rw[List.getElem?_take,if_pos hlt]at e2
   exact e2
  obtain⟨n,⟨ep,hsh,t,h1,h2,h3,h4⟩,vs,hl,hv⟩:=H'.at_ r i a l e3 e4
  exact⟨n,⟨ep,hsh,t,fun q=>h1 (sub _ q),fun q=>h2 (sub _ q),h3,h4⟩,vs,hl,kvs_adopt (R:=R') (R':=R) (fun b q=> .inl (sub b q)) hv⟩
theorem WR.leave {hs:HS} (H:HsR C s.heap R hs) {env:Env} {ns:Names} {s₁ s':Shared} {R':RC} (keep:∀b o,s.heap.get? b=some o→s₁.heap.get? b=some o)
 (St:StepS env ns s₁ R.sealed s' R') (sub:∀b∈R.bad,b∈R'.bad) {r:W} {val:Value} (hp:pw r=true) (hr:RetR s₁.heap s'.heap R' r val):WR s.heap s'.heap R r val:=by
 have tk:R.tk=R'.tk:=St.tk.symm
 have none1:∀b,s₁.heap.get? b=none→s.heap.get? b=none:=fun b q=>by
  cases e:s.heap.get? b with
  |none=>rfl
  |some o=>rw[keep b o e]at q;cases q
 cases r with
 |p v=>exact VR.pure tk sub 8 v val hp hr
 |f l=>
  obtain⟨n,a,vs,e,h1,h2,h3⟩:=hr
  have ha:s.heap.get? a=none:=by
   rcases h1 with h1|⟨x,hx,hm⟩
   ·exact none1 _ h1.1
   ·rcases St.new _ hm with q|q
    ·exact(sealed_act ⟨x,hx,q⟩).elim
    ·exact none1 _ q.2
  have hb:a∉R.bad:=fun q=>by
   rcases mem_append.mp q with q|q
   ·obtain⟨p,hp,e'⟩:=mem_map.mp q
    obtain⟨o,ho,_⟩:=H.own p hp
    rw[e',ha]at ho;cases ho
   ·obtain⟨o,ho,_⟩:=H.seqs a q
    rw[ha]at ho;cases ho
  refine⟨n,a,vs,e,ha,hb,h2,VRs.pure (R:=R.with "" a) (R':=R'.with "" a) tk (fun b q=>?_) 8 l vs hp h3⟩
  rcases with_bad.mp q with q|q
  ·exact with_bad.mpr (.inl q)
  ·exact with_bad.mpr (.inr (sub _ q))
 |o l=>exact hr.elim
 |it l=>exact hr.elim
theorem fn_core (O:m.Ok) {D:FD} {a:Addr} {fd:FuncData} (F:FnRec m.h₀ a D fd) {args:List V} {hs hs2:HS} {Γ Γ':Gam} {fl:Fl} {r:W} (hΓ:BindP D.params args (ownNames D.scope.names) Γ) (hnm:D.scope.names.lookup ("":Str)=none)
 (h:XR m k D.scope.names Γ hs D.body fl Γ' hs2) (hr:(fl= .rt r∧pw r=true)∨(fl= .nx∧r= .p .none)):FnOK m (k+1) hs (.ref a) args r (hs2.take hs.length):=by
 intro A s R vals hA B H hv
 obtain⟨o,ho,hdata⟩:=F.at_
 refine wpAny_call (codeAny_call_cells (fd:=fd) (by have:=hA.dp;exact Nat.lt_of_add_right_lt this) (B.base _ _ ho) hdata (O.limit.keeps B.base) (F.code.keeps B.base) F.body
  (F.bind vals (by rw[hv.len,←bindPs_len hΓ])) F.clo ?_ ?_ (by rw[F.scope];exact F.co) (by rw[F.scope];exact F.gen) (by rw[F.scope];exact F.kind))
 ·intro x hx
  rw[F.scope]
  rcases isVar_or (all_eq_true.mp F.vars _ (List.of_mem_zip (a:=x.1) (b:=x.2) hx).1)with q|q
  ·exact .inl q
  ·exact .inr ⟨q,cellsFrom_some q⟩
 ·intro s₁ I
  obtain⟨S1,above⟩:=SI.enter F.scope F.glob F.blt B H F.kind hΓ hv I
  have keep:=I.toInCall.keep
  have hg:Go s s₁:=by obtain⟨h,t,q,_⟩:=I.done;exact⟨h,t,q⟩
  refine noE (h (bindPs_none hΓ (ownNames_none hnm)) _ _ R.sealed _ hA.deeper B.tk S1) fun f s' hp1=>?_
  obtain⟨R',P,hf⟩:=hp1
  obtain⟨T,sub⟩:=Tr.leave H hg keep above P.st P.si.hdr
  rcases hr with⟨rfl,hp⟩|⟨rfl,rfl⟩
  ·obtain⟨v,rfl,hr⟩:=hf
   exact⟨R,T,WR.leave H keep P.st sub hp hr⟩
  ·cases hf
   exact⟨R,T,rfl⟩
theorem fn_rt (O:m.Ok) {x:Str} {D:FD} {a:Addr} {fd:FuncData} (hx:m.mg x=some (.ref a)) (F:FnRec m.h₀ a D fd) {args:List V} {hs hs2:HS} {Γ Γ':Gam} {r:W} (hΓ:BindP D.params args (ownNames D.scope.names) Γ) (hnm:D.scope.names.lookup ("":Str)=none)
 (h:XR m k D.scope.names Γ hs D.body (.rt r) Γ' hs2) (hp:pw r=true) (ht:hs2.take hs.length=hs3):FnR m (k+1) hs x args r hs3:=by
 obtain⟨o,ho,hd⟩:=F.at_
 subst ht
 exact⟨a,o,fd,hx,ho,hd,fn_core O F hΓ hnm h (.inl ⟨rfl,hp⟩)⟩
end
theorem lk_hit {β:Type} {x y:Str} {b:β} {r} (h:(x==y)=true):List.lookup x ((y,b)::r)=some b:=by simp only[lookup_cons,h]
theorem lk_miss {β:Type} {x y:Str} {b:β} {r o} (h:(x==y)=false) (e:List.lookup x r=o):List.lookup x ((y,b)::r)=o:=by rw[lookup_cons,h];exact e
noncomputable def Gz (nm:List Str) (sl:List Slot):Gam:=nm.zip sl
inductive Ix (x:Str):List Str→Nat→Prop where
 |hit {y r}:(x==y)=true→Ix x (y::r) 0
 |miss {y r n}:(x==y)=false→Ix x r n→Ix x (y::r) (n+1)
theorem gz_lookup {x nm i} (h:Ix x nm i):∀{sl s},sl[i]? =some s→(Gz nm sl).lookup x=some s:=by
 induction h with
 | @hit y r e=>intro sl s hs;cases sl with
  |nil=>cases hs
  |cons a t=>cases hs;show List.lookup x ((y,s)::_)=_;exact lk_hit e
 | @miss y r n e _ ih=>intro sl s hs;cases sl with
  |nil=>cases hs
  |cons a t=>exact lk_miss (r:=Gz r t) e (ih hs)
theorem gz_set {x nm i} (h:Ix x nm i):∀{sl s},setG x s (Gz nm sl)=Gz nm (sl.set i s):=by
 induction h with
 | @hit y r e=>intro sl s;cases sl with
  |nil=>rfl
  |cons a t=>show(if x==y then _ else _)=_;rw[if_pos e];rfl
 | @miss y r n e _ ih=>intro sl s;cases sl with
  |nil=>rfl
  |cons a t=>show(if x==y then _ else(y,a)::setG x s (Gz r t))=_;rw[if_neg (by rw[e];exact Bool.false_ne_true),ih];rfl
theorem frz_one {x nm i} (h:Ix x nm i) {sl l} (hs:sl[i]? =some (.o l)):frz [x] (Gz nm sl)=Gz nm (sl.set i (.p (.lst l))):=by
 have key:∀{Γ:Gam},frz1 x Γ=match Γ.lookup x with|some (.o l)=>setG x (.p (.lst l)) Γ|_=>Γ:=by
  intro Γ
  induction Γ with
  |nil=>rfl
  |cons p r ih=>
   obtain⟨y,s⟩:=p
   show(if x==y then _ else(y,s)::frz1 x r)=_
   cases e:x==y with
   |true=>
    rw[if_pos rfl,lk_hit e]
    cases s<;>first|rfl|(show _=(if x==y then _ else _);rw[e];rfl)
   |false=>
    rw[if_neg (by exact Bool.false_ne_true),ih]
    rw[show List.lookup x ((y,s)::r)=List.lookup x r from lk_miss e rfl]
    cases List.lookup x r with
    |none=>rfl
    |some z=>cases z<;>first|rfl|(show _=(if x==y then _ else _);rw[e];rfl)
 show frz1 x (Gz nm sl)=_
 rw[key,gz_lookup h hs]
 exact gz_set h
structure Mod.Bs (m:Mod):Prop where
 len:BName m "len" (.builtin "len")
 range:BName m "range" (.type "range")
 max:BName m "max" (.builtin "max")
 min:BName m "min" (.builtin "min")
 sum:BName m "sum" (.builtin "sum")
 divmod:BName m "divmod" (.builtin "divmod")
 reversed:BName m "reversed" (.type "reversed")
noncomputable def FnH (m:Mod) (x:Str) (D:FD):Prop:=∃a fd,m.mg x=some (.ref a)∧FnRec m.h₀ a D fd
section
variable {m:Mod} {k:Nat} {ns:Names} {nm:List Str} {sl:List Slot} {hs hs1 hs2 hs3:HS} {x:Str} {i:Nat} {s:Slot} {w:W} {pos px:Pos} {Γ':Gam}
theorem ez_loc (hl:ns.lookup x=some .local) (hd:isDbg x=false) (hi:Ix x nm i) (hs:sl[i]? =some s) (hw:slotW s=some w):EvR m k ns (Gz nm sl) hs1 (.Name x pos) w hs1:=ev_loc hl hd (gz_lookup hi hs) hw
theorem ez_cell (hl:ns.lookup x=some .cell) (hd:isDbg x=false) (hi:Ix x nm i) (hs:sl[i]? =some s) (hw:slotW s=some w):EvR m k ns (Gz nm sl) hs1 (.Name x pos) w hs1:=ev_cell hl hd (gz_lookup hi hs) hw
theorem var_c (hl:ns.lookup x=some .cell):isVar ns x=true:=by unfold isVar;rw[hl]
theorem sz_asn {e:Expr} {wv:W} (hc:NComp e) (h:EvR m k ns (Gz nm sl) hs e wv hs1) (hx:isVar ns x=true) (es:ToSlot wv s) (hi:Ix x nm i):StR m k ns (Gz nm sl) hs (.Assign [.Name x px] e pos) .nx (Gz nm (sl.set i s)) hs1:=gz_set hi▸st_asn hc h hx es
theorem sz_asnc {elt gens sc p l} (h:CompR m k ns (Gz nm sl) hs elt gens sc l hs1) (hx:isVar ns x=true) (es:ToSlot (.f l) s) (hi:Ix x nm i):StR m k ns (Gz nm sl) hs (.Assign [.Name x px] (.ListComp elt gens sc p) pos) .nx (Gz nm (sl.set i s)) hs1:=gz_set hi▸st_asnc h hx es
theorem own_z {l:List V} (hd:isDbg x=false) (hv:isVar ns x=true) (hi:Ix x nm i) (hs:sl[i]? =some (.o l)):OwL ns (Gz nm sl) x l:=⟨hd,hv,gz_lookup hi hs⟩
theorem bz_name {v:V} (hi:Ix x nm i):BindR (.Name x px) v (Gz nm sl) (Gz nm (sl.set i (.p v))):=gz_set hi▸.name
theorem sz_frz {st fl} {l:List V} (hi:Ix x nm i) (hs0:sl[i]? =some (.o l)) (h:StR m k ns (Gz nm (sl.set i (.p (.lst l)))) hs st fl Γ' hs1):StR m k ns (Gz nm sl) hs st fl Γ' hs1:=st_frz [x] (frz_one hi hs0▸h)
theorem sz_augs {ie e:Expr} {op:Operator} {sp:Pos} {l:List V} {j:Int} {v u r:V} (hl:OwL ns (Gz nm sl) x l) (h1:EvR m k ns (Gz nm sl) hs ie (.p (.int j)) hs1) (hsl:NSl ie) (h0:0≤j) (hv:l[j.toNat]? =some v) (h2:EvR m k ns (Gz nm sl) hs1 e (.p u) hs2) (h:InR m op v u r) (hi:Ix x nm i):
 StR m k ns (Gz nm sl) hs (.AugAssign (.Subscript (.Name x px) ie sp) op e pos) .nx (Gz nm (sl.set i (.o (l.set j.toNat r)))) hs2:=gz_set hi▸st_augs hl h1 h0 hv h2 h hsl
theorem sz_aug {op:Operator} {e:Expr} {v u r:V} (hx:isVar ns x=true) (hi:Ix x nm i) (hg:sl[i]? =some (.p v)) (h1:EvR m k ns (Gz nm sl) hs e (.p u) hs1) (h:InR m op v u r):StR m k ns (Gz nm sl) hs (.AugAssign (.Name x px) op e pos) .nx (Gz nm (sl.set i (.p r))) hs1:=gz_set hi▸st_aug hx (gz_lookup hi hg) h1 h
theorem sz_app {args:List Expr} {l:List V} {v:V} {p1 p2 p3:Pos} (hl:OwL ns (Gz nm sl) x l) (hline:(p2.endLine==p3.line)=true) (hlen:args.length≤3) (h1:ArR m k ns (Gz nm sl) hs args [v] hs1) (hr:room (l.length+1)=true) (hi:Ix x nm i):
 StR m k ns (Gz nm sl) hs (.Expr (.Call (.Attribute (.Name x p1) "append" p2) args [] p3) pos) .nx (Gz nm (sl.set i (.o (l++[v])))) hs1:=gz_set hi▸st_app hl hline hlen h1 hr
noncomputable def XE (m:Mod) (k:Nat) (ns:Names) (Γ:Gam) (hs:HS) (b:List Stmt) (w:W) (hs':HS):Prop:=∃Γ',XR m k ns Γ hs b (.rt w) Γ' hs'
theorem e_cons {st r Γ Γ1} (h1:StR m k ns Γ hs st .nx Γ1 hs1) (h2:XE m k ns Γ1 hs1 r w hs2):XE m k ns Γ hs (st::r) w hs2:=let ⟨_,h⟩:=h2;⟨_,x_cons h1 h⟩
theorem e_ret {st r Γ Γ1} (h1:StR m k ns Γ hs st (.rt w) Γ1 hs1):XE m k ns Γ hs (st::r) w hs1:=⟨_,x_stop h1 fun h=>by cases h⟩
theorem fz_rt (O:m.Ok) {D:FD} (F:FnH m x D) {ps:List Str} {body:List Stmt} {args:List V} {sl0:List Slot} {r:W} (hp:D.params=ps) (hb:D.body=body) (hn:D.scope.names=ns) (ho:ownNames ns=Gz nm sl0) (hΓ:BindP ps args (Gz nm sl0) (Gz nm sl)) (hnm:ns.lookup ("":Str)=none)
 (hw:pw r=true) (ht:hs2.take hs.length=hs3) (h:XE m k ns (Gz nm sl) hs body r hs2):FnR m (k+1) hs x args r hs3:=by
 refine hid fun G_ k_=>?_
 obtain⟨a,fd,hx,F⟩:=F
 obtain⟨Γ',h⟩:=h
 subst hp hb hn
 refine k_ ?_
 exact fn_rt O hx F (ho▸hΓ) hnm h hw ht
theorem pz_cons {r:List Str} {v:V} {vs:List V} (hi:Ix x nm i) (h:BindP r vs (Gz nm (sl.set i (.p v))) Γ'):BindP (x::r) (v::vs) (Gz nm sl) Γ':= .cons (gz_set hi▸h)
end
theorem pa_pat:PlainAttrs "re.Pattern":=
 ⟨⟨"object.__getattribute__",by rw[typeLookup_type,builtinLookup_eq_fast];kernel_rfl,by decide +kernel⟩,by rw[typeLookup_type,builtinLookup_eq_fast];kernel_rfl⟩
theorem slot_sub:PySem.Slot "re.Pattern" "sub" "re.Pattern.sub":=
 .of (owner:="re.Pattern") (n:="sub") (by rw[typeLookup_type,builtinLookup_eq_fast];kernel_rfl) (by decide +kernel) (by decide +kernel) (by decide +kernel)
  (by first|exact .inl (by decide +kernel)|exact .inr (by decide +kernel)) (by rw[isSubtype_type];kernel_rfl)
theorem type_sub:typeOf (.builtin "re.Pattern.sub")=pure (.type "method_descriptor"):=by show builtinType _=_;rw[builtinType_eq_fast];kernel_rfl
theorem entry_sub:entryFor table "re.Pattern.sub"=some Builtin.«re.Pattern.sub»:=entryFor_of_tree (by kernel_rfl)
theorem entry_subloop:entryFor table "re.Pattern.sub.loop"=some Builtin.«re.Pattern.sub.loop»:=entryFor_of_tree (by kernel_rfl)
theorem slot_search:PySem.Slot "re.Pattern" "search" "re.Pattern.search":=
 .of (owner:="re.Pattern") (n:="search") (by rw[typeLookup_type,builtinLookup_eq_fast];kernel_rfl) (by decide +kernel) (by decide +kernel) (by decide +kernel)
  (by first|exact .inl (by decide +kernel)|exact .inr (by decide +kernel)) (by rw[isSubtype_type];kernel_rfl)
theorem type_search:typeOf (.builtin "re.Pattern.search")=pure (.type "method_descriptor"):=by show builtinType _=_;rw[builtinType_eq_fast];kernel_rfl
theorem entry_search:entryFor table "re.Pattern.search"=some Builtin.«re.Pattern.search»:=entryFor_of_tree (by kernel_rfl)
theorem owner_pat:Manifest.owners.lookup (String.ofList ['n','r','e','t','t','a','P','.','e','r'].reverse)=some Manifest.sig_re_Pattern:=by kernel_rfl
theorem args_sub (a b c:Value):argsOk "re.Pattern.sub" ⟨[a,b,c],[]⟩:=by
 unfold argsOk;rw[signature?_of (id:="re.Pattern.sub") (n:=['b','u','s']) (o:=['n','r','e','t','t','a','P','.','e','r']) (by kernel_rfl) owner_pat];kernel_rfl
theorem args_search (a b:Value):argsOk "re.Pattern.search" ⟨[a,b],[]⟩:=by
 unfold argsOk;rw[signature?_of (id:="re.Pattern.search") (n:=['h','c','r','a','e','s']) (o:=['n','r','e','t','t','a','P','.','e','r']) (by kernel_rfl) owner_pat];kernel_rfl
section
variable {M:Model} {A:Around} {E:Value→Shared→Prop} {s:Shared}
theorem drive_ok {Q:Sre.M→Shared→Prop}:∀(t n:Nat) (m:Sre.M),(Sre.M.runFor n m).outcome.isSome=true→n≤4*(t+1)→Q (Sre.M.runFor n m) s→wpAny M A (Re.reDrive (t+1) m) Q E s:=by
 intro t
 induction t using Nat.strongRecOn with
 |ind t ih=>
  intro n m h hn hq
  unfold Re.reDrive
  show wpAny M A (if(Sre.M.runFor 4 m).outcome.isSome=true then pure (Sre.M.runFor 4 m)else(rule "sre.turn">>=fun ux=>Re.reDrive t (Sre.M.runFor 4 m))) Q E s
  obtain⟨o,ho⟩:=Option.isSome_iff_exists.mp h
  by_cases h4:(Sre.M.runFor 4 m).outcome.isSome=true
  ·rw[if_pos h4]
   refine wpAny_pure ?_
   obtain⟨o',ho'⟩:=Option.isSome_iff_exists.mp h4
   have:Sre.M.runFor 4 m=Sre.M.runFor n m:=by
    rcases Nat.le_total n 4 with q|q
    ·obtain⟨j,e⟩:∃j,4=n+j:=⟨4-n,by exact Eq.symm (Nat.add_sub_of_le q)⟩
     rw[e,runFor_add,runFor_done ho]
    ·obtain⟨j,e⟩:∃j,n=4+j:=⟨n-4,by exact Eq.symm (Nat.add_sub_of_le q)⟩
     rw[e,runFor_add,runFor_done ho']
   rw[this];exact hq
  ·rw[if_neg h4]
   have h5:4<n:=by
    rcases Nat.lt_or_ge 4 n with q|q
    ·exact q
    ·obtain⟨j,e⟩:∃j,4=n+j:=⟨4-n,by exact Eq.symm (Nat.add_sub_of_le q)⟩
     rw[e,runFor_add,runFor_done ho,ho]at h4
     exact absurd rfl h4
   obtain⟨j,rfl⟩:∃j,n=4+j:=⟨n-4,by omega⟩
   rw[runFor_add]at h hq
   cases t with
   |zero=>omega
   |succ t=>exact wpAny_bind (wpAny_rule (ih t (Nat.lt_succ_self t) j _ h (by omega) hq))
theorem tell_ok {Q:PUnit→Shared→Prop} (f:Nat→PUnit→Sem (ForInStep PUnit)) (hf:∀i u,wpAny M A (f i u) (fun r s'=>r= .yield ⟨⟩∧s'=s) (fun ux ux=>False) s) (hq:Q ⟨⟩ s):∀l:List Nat,wpAny M A (forIn l ⟨⟩ f) Q E s:=by
 intro v0_
 induction v0_ with
 |nil=>
  simp only[List.forIn_nil];exact wpAny_pure hq
 |cons i r ih_=>
  rw[List.forIn_cons]
  refine wpAny_bind (noE (hf i ⟨⟩) fun a s' hp1=>?_)
  obtain⟨h1,h2⟩:=hp1
  subst h1
  refine Eq.mpr (congrArg _ (h2)) ?_
  exact ih_
theorem toEnd_ok {m:Sre.M} {n:Nat} {Q:Option Sre.M→Shared→Prop} (hn:n≤2^60) (h:match (Sre.M.runFor n m).outcome with
 |some .matched=>Q (some (Sre.M.runFor n m)) s
 |some .failed=>Q none s
 |_=>False):wpAny M A (Re.reRunToEnd m) Q E s:=by
 unfold Re.reRunToEnd
 obtain⟨t,ht⟩:∃t,2^64=t+1:=⟨2^64-1,by decide⟩
 rw[ht]
 refine wpAny_bind (drive_ok t n m ?_ (by omega) ?_)
 ·cases q:(Sre.M.runFor n m).outcome with
  |none=>rw[q]at h;exact h.elim
  |some o=>rfl
 ·refine wpAny_bind (tell_ok _ (fun i u=>?_) ?_ _)
  ·split
   ·exact wpAny_bind (wpAny_rule (wpAny_pure ⟨rfl,rfl⟩))
   ·exact wpAny_pure ⟨rfl,rfl⟩
  ·cases q:(Sre.M.runFor n m).outcome with
   |none=>rw[q]at h;exact h.elim
   |some o=>
    rw[q]at h
    cases o with
    |matched=>exact wpAny_pure h
    |failed=>exact wpAny_pure h
    |stuck w=>exact h.elim
end
inductive PatAt (h:Heap) (p:Addr) (code:Array Nat):Prop
 |mk (o:Obj) (vs:Array Value) (tup:Addr) (o2:Obj) (its:Array Value) (n:Nat):h.get? p=some o→o.cls= .type "re.Pattern"→o.dict=none→o.data= .fields vs→vs.getD 5 .none= .ref tup→Re.reRawNat (vs.getD 2 .none)=0→Re.reRawNat (vs.getD 6 .none)=0→
  h.get? tup=some o2→o2.data= .seq its n→(its.map Re.reRawOf).map Int.toNat=code→PatAt h p code
theorem PatAt.keeps {h h':Heap} {p code} (x:PatAt h p code) (k:∀b o,h.get? b=some o→h'.get? b=some o):PatAt h' p code:=by
 obtain⟨o,vs,tup,o2,its,n,h1,h2,h3,h4,h5,h6,h7,h8,h9,h10⟩:=x
 exact⟨o,vs,tup,o2,its,n,k _ _ h1,h2,h3,h4,h5,h6,h7,k _ _ h8,h9,h10⟩
section
variable {M:Model} {A:Around} {E:Value→Shared→Prop} {s:Shared}
theorem asStr_ok {x:Str} {t:Tok} {Q:Option Str→Shared→Prop} (h:Q (some x) s):wpAny M A (asStr? (.str x t)) Q E s:=wpAny_pure h
theorem textOf_ok {x:Str} {t:Tok} {Q:Array Nat×Nat→Shared→Prop} (h:Q (x.cps,0) s):wpAny M A (Re.reTextOf (.str x t)) Q E s:=by
 unfold Re.reTextOf
 exact wpAny_bind (asStr_ok (wpAny_pure h))
noncomputable def tgt (p:Addr) (x:Str) (t:Tok) (code:Array Nat):Re.ReTarget:=
 { pattern:= .ref p,string:= .str x t,code,text:=x.cps,kind:=0,groups:=0,pos:=0,lim:=x.cps.size }
theorem whole_ok {p:Addr} {code:Array Nat} {x:Str} {t:Tok} {Q:Re.ReTarget→Shared→Prop} (hp:PatAt s.heap p code) (h:Q (tgt p x t code) s):wpAny M A (Re.reWholeTarget (.ref p) (.str x t)) Q E s:=by
 obtain⟨o,vs,tup,o2,its,n,h1,h2,h3,h4,h5,h6,h7,h8,h9,h10⟩:=hp
 unfold Re.reWholeTarget
 refine wpAny_bind (wpAny_fieldsOf h1 h4 ?_)
 refine wpAny_bind (textOf_ok ?_)
 dsimp only
 rw[h7]
 refine wpAny_bind (wpAny_pure ?_)
 rw[h5,h6]
 unfold Re.reRawItems
 refine wpAny_bind (wpAny_bind (wpAny_seqItems h8 h9 (wpAny_pure ?_)))
 refine wpAny_pure ?_
 show Q { pattern:= .ref p,string:= .str x t,code:=(its.map Re.reRawOf).map Int.toNat,text:=x.cps,kind:=0,groups:=0,pos:=0,lim:=x.cps.size } s
 rw[h10]
 exact h
end
noncomputable def flat (l:List (Str×Tok)):List Nat:=l.flatMap fun p=>p.1.cps.toList
theorem join_flat:∀(l:List (Str×Tok)),Str.join ⟨#[]⟩ (l.map (·.1))=⟨(flat l).toArray⟩
 |[]=>rfl
 |[p]=>by
  show p.1=_
  simp[flat]
 |p::q::r=>by
  have ih:=join_flat (q::r)
  show p.1++⟨#[]⟩++Str.join ⟨#[]⟩ ((q::r).map (·.1))=_
  refine Eq.trans (congrArg _ (ih)) ?_
  show(⟨p.1.cps++ #[]++(flat (q::r)).toArray⟩:Str)=_
  congr 1
  simp[flat]
theorem txt_join (l:List (Str×Tok)):Txt.join ⟨#[]⟩ (l.map (·.1))=⟨(flat l).toArray⟩:=by
 show glued ⟨#[]⟩ (l.map (·.1))=_
 rw[StrLaws.glued_eq_join,join_flat]
section
variable {prog:Program} {w:World} {A:Around} {s:Shared}
theorem codeAny_builtin_of {id:String} {args:Args} {b:Builtin} {R:Result→Shared→Prop} (hb:entryFor table id=some b)
 (h:wpAny (model prog w) (A.under (.builtin id args)) (b args)
  (fun fin s'=>match fin with| .done f=>R (.ok f) s'| .again c'=>c'.quiet=true∧codeAny (model prog w) A c' R s') (fun e s'=>R (.error e) s') s):
 codeAny (model prog w) A (.builtin id args) R s:=by
 refine codeAny_of_tree ?_
 show wpAny _ _ (match entryFor table id with|some b=>b args|none=>unsupported ((withoutEnding? id "#data").getD id)) _ _ s
 rw[hb];exact h
theorem plain_push {h:Heap} {L:Addr} {vs:Array Value} {v:Value} (hl:h.PlainList L vs):(h.update L (Obj.mapSeq (·.push v))).PlainList L (vs.push v):=by
 obtain⟨n,ho⟩:=hl
 exact⟨_,Heap.get?_update_self _ ho rfl⟩
theorem push_ok {L:Addr} {vs:Array Value} {v:Value} {M:Model} {E:Value→Shared→Prop} {Q:Unit→Shared→Prop} (hl:s.heap.PlainList L vs) (hz:vs.size<sizeLine)
 (h:∀h',h'.PlainList L (vs.push v)→Heap.SameBut L s.heap h'→Q () { s with heap:=h' }):wpAny M A (updateSeq L (·.push v)) Q E s:=by
 obtain⟨n,ho⟩:=hl
 exact wpAny_updateSeq ho rfl (h _ (plain_push ⟨n,ho⟩) (Heap.SameBut.update ..)) (Nat.le_of_succ_le hz) (by rw[Array.size_push];exact Nat.le_add_right_of_le hz)
noncomputable def outF (next:Nat→Option (Nat×Nat)) (text:Array Nat) (repl:List Nat):Nat→Nat→List Nat
 |0,_=>[]
 |f+1,st=>match next st with
  |none=>(text.extract st text.size).toList
  |some (a,b)=>(text.extract st a).toList++repl++outF next text repl f b
theorem outF_succ {next:Nat→Option (Nat×Nat)} {text:Array Nat} {repl:List Nat} {f st:Nat}:outF next text repl (f+1) st=(match next st with
 |none=>(text.extract st text.size).toList
 |some (a,b)=>(text.extract st a).toList++repl++outF next text repl f b):=rfl
noncomputable def NextOk (code text:Array Nat) (next:Nat→Option (Nat×Nat)):Prop:=
 ∀st,st≤text.size→match next st with
  |none=>∃n≤2^60,Fails (Sre.forSearch code text 0 st text.size false) n
  |some (a,b)=>st≤a∧a<b∧b≤text.size∧∃n≤2^60,Ends (Sre.forSearch code text 0 st text.size false) n .matched a b
theorem flat_len (l:List (Str×Tok)):((l.map (·.1)).map (·.length)).sum=(flat l).length:=by
 induction l with
 |nil=>rfl
 |cons p r ih=>
  simp only[map_cons,List.sum_cons,ih,flat,flatMap_cons,length_append]
  rfl
theorem joinOk_flat {l:List (Str×Tok)} (h:(flat l).length≤sizeLine):tooLong ((l.map (·.1)).toArray.foldl (· +·.length+(⟨#[]⟩:Str).length) 0)=false:=by
 rw[StrLaws.joinTotal]
 rw[flat_len]
 unfold tooLong
 refine Iff.mpr (decide_eq_false_iff_not) ?_
 simp[Str.length]
 exact h
noncomputable def SubEnd (s:Shared) (L:Addr) (out:List Nat) (R:Result→Shared→Prop):Prop:=
 ∀h' k t',Heap.SameBut L s.heap h'→R (.ok (.ret (.str ⟨out.toArray⟩ t'))) { s with heap:=h',toks:=k }
theorem SubEnd.push {L:Addr} {out:List Nat} {R:Result→Shared→Prop} (h:SubEnd s L out R) {h':Heap} {k:Nat} (hs:Heap.SameBut L s.heap h'):SubEnd { s with heap:=h',toks:=k } L out R:=
 fun h2 k2 t' hs2=>h h2 k2 t' (hs.trans hs2)
theorem reslice_ok {x:Str} {a b:Nat} {M:Model} {E:Value→Shared→Prop} {Q:Value→Shared→Prop} (hx:x.length≤sizeLine) (h:∀t,Q (.str ⟨x.cps.extract a b⟩ t) { s with toks:=s.toks+1 }):wpAny M A (Re.reSlice x.cps 0 a b) Q E s:=by
 unfold Re.reSlice
 refine wpAny_mkStr (h _) ?_
 show(x.cps.extract a b).size≤_
 have:x.cps.size≤sizeLine:=hx
 rw[Array.size_extract];exact Nat.le_trans (Nat.sub_le _ _) (Nat.le_trans (Nat.min_le_right _ _) this)
theorem next_ok {p:Addr} {x:Str} {t:Tok} {code:Array Nat} {next:Nat→Option (Nat×Nat)} (hn:NextOk code x.cps next) {st:Nat} (hst:st≤x.cps.size) {M:Model} {E:Value→Shared→Prop} {Q:Option Sre.M→Shared→Prop}
 (h:match next st with
  |none=>Q none s
  |some (a,b)=>st≤a→a<b→b≤x.cps.size→∀m:Sre.M,m.start=a→m.handed=b→Q (some m) s):wpAny M A (Re.reNextFound (tgt p x t code) st false) Q E s:=by
 unfold Re.reNextFound
 have q:=hn st hst
 show wpAny M A (Re.reRunToEnd (Sre.forSearch code x.cps 0 st x.cps.size false)) Q E s
 cases e:next st with
 |none=>
  refine hid fun G_ k_=>?_
  rw[e]at h q
  obtain⟨n,hn,hf⟩:=q
  refine k_ ?_
  refine toEnd_ok hn ?_
  rw[hf.run];exact h
 |some ab=>
  refine hid fun G_ k_=>?_
  obtain⟨a,b⟩:=ab
  rw[e]at h q
  obtain⟨h1,h2,h3,n,hn,hf⟩:=q
  refine k_ ?_
  refine toEnd_ok hn ?_
  obtain⟨e1,e2,e3⟩:=hf.run
  rw[e1];exact h h1 h2 h3 _ e2 e3
theorem join_ok {L:Addr} {l:List (Str×Tok)} {t:Tok} {R:Value→Shared→Prop} {E:Value→Shared→Prop} (hl:s.heap.PlainList L (strValues l).toArray) (hlen:(flat l).length≤sizeLine) (h:∀k t',R (.str ⟨(flat l).toArray⟩ t') { s with toks:=k }):
 wpAny (model prog w) A (call (.builtin "str.join") [.str ⟨#[]⟩ t,.ref L]) R E s:=by
 refine call_meets F.slot_str_join (typeIs_str _ _ _) F.entry_str_join (F.args_str_join_2 _ _) (meets_str_join_list ⟨#[]⟩ t L l (joinOk_flat hlen)) ⟨hl.isList,?_⟩
 refine post_join l ⟨joinFit_length (joinOk_flat hlen),fun t' m=>?_⟩
 rw[txt_join]
 exact h m t'
theorem extract_len {x:Array Nat} {a b:Nat}:(x.extract a b).toList.length≤b-a:=by
 rw[Array.length_toList,Array.size_extract];exact Nat.sub_le_sub_right (Nat.min_le_left _ _) _
theorem flat_snoc (l:List (Str×Tok)) (w:Str) (t:Tok):flat (l++[(w,t)])=flat l++w.cps.toList:=by simp[flat]
theorem vals_snoc (l:List (Str×Tok)) (w:Str) (t:Tok):(strValues (l++[(w,t)])).toArray=(strValues l).toArray.push (.str w t):=by simp[strValues]
theorem vals_len (l:List (Str×Tok)):(strValues l).toArray.size=l.length:=by simp[strValues]
theorem flat_snoc_len (l:List (Str×Tok)) (w:Str) (t:Tok):(flat (l++[(w,t)])).length=(flat l).length+w.cps.toList.length:=by(rw[flat_snoc];exact(length_append))
set_option tactic.hygienic true in
theorem sub_loop {h₀:Heap} {p L:Addr} {x repl:Str} {t u:Tok} {code:Array Nat} {next:Nat→Option (Nat×Nat)} (hn:NextOk code x.cps next) (hx:x.length≤2^20) (hr:repl.length≤4) (hp:PatAt h₀ p code) (hL:h₀.get? L=none) {R:Result→Shared→Prop}:
 ∀(f st n:Nat) (l:List (Str×Tok)) (s:Shared),x.cps.size-st<f→st≤x.cps.size→(∀b o,h₀.get? b=some o→s.heap.get? b=some o)→s.heap.PlainList L (strValues l).toArray→
  l.length≤2*st→(flat l).length≤5*st→
  SubEnd s L (flat l++outF next x.cps repl.cps.toList f st) R→
  codeAny (model prog w) A (.builtin "re.Pattern.sub.loop" ⟨[.ref p,.str x t,.str repl u,rawInt 0,rawInt 0,rawInt n,rawInt st,rawInt st,.bool false,.ref L,.bool false],[]⟩) R s:=by
 intro f
 induction f with
 |zero=>intro _ _ _ _ h;exact absurd h (Nat.not_lt_zero _)
 |succ f ih=>
  intro st n l s hf hst hk hl hc hfl hR
  have hxs:x.cps.size≤2^20:=hx
  have hxl:x.length≤sizeLine:=by rw[sizeLine_eq];lia
  refine codeAny_builtin_of entry_subloop ?_
  unfold «re.Pattern.sub.loop»
  dsimp only[rawInt]
  refine wpAny_bind (whole_ok (hp.keeps hk) ?_)
  rw[if_pos (by rfl)]
  unfold Re.reLiteralCannotBeTurned
  refine wpAny_bind (wpAny_bind (asStr_ok (wpAny_pure ?_)))
  rw[if_neg (by simp)]
  refine wpAny_bind ?_
  show wpAny _ _ (Re.reNextFound (tgt p x t code) st false) _ _ s
  refine next_ok hn hst ?_
  rw[outF_succ]at hR
  cases e:next st with
  |none=>
   rw[e]at hR
   dsimp only at hR ⊢
   have fin:∀(s2:Shared) (l2:List (Str×Tok)),s2.heap.PlainList L (strValues l2).toArray→(flat l2).length≤sizeLine→SubEnd s2 L (flat l2) R→∀A1,wpAny (model prog w) A1 (do
    let joiner←Re.reSlice x.cps 0 0 0
    let its←seqItems? (.ref L)
    if(its.getD #[]).isEmpty=true then do
     let text←pure joiner
     if false=true then do
      let v←holding [text] do
       let i←mkInt ↑n
       newTuple [text,i]
      ret v
     else ret text
    else do
     let text←call (Value.builtin (if((0:Nat)==0)=true then "str.join" else "bytes.join")) [joiner,Value.ref L]
     if false=true then do
      let v←holding [text] do
       let i←mkInt ↑n
       newTuple [text,i]
      ret v
     else ret text) (fun fin s'=>match fin with
      |Fin.done f=>R (Except.ok f) s'
      |Fin.again c'=>c'.quiet=true∧codeAny (model prog w) A c' R s') (fun e s'=>R (Except.error e) s') s2:=by
    intro s2 l2 hl2 hlen2 hR2 A1
    refine wpAny_bind (reslice_ok hxl fun t0=>?_)
    have he:x.cps.extract 0 0= #[]:=by simp
    refine(he)▸ ?_
    obtain⟨n2,ho2⟩:=id hl2
    refine wpAny_bind (wpAny_seqItems (o:=_) ho2 rfl ?_)
    split
    ·rename_i hemp
     refine wpAny_bind (wpAny_pure ?_)
     rw[if_neg (by simp)]
     have:l2=[]:=by
      cases l2 with
      |nil=>rfl
      |cons a r=>simp[strValues]at hemp
     subst this
     exact wpAny_pure (hR2 s2.heap _ t0 (Heap.SameBut.refl ..))
    ·refine wpAny_bind (join_ok (s:={ s2 with toks:=s2.toks+1 }) hl2 hlen2 fun k t'=>?_)
     rw[if_neg (by simp)]
     exact wpAny_pure (hR2 s2.heap _ t' (Heap.SameBut.refl ..))
   by_cases hlt:st<x.cps.size
   ·rw[if_pos (show(↑st:Int).toNat<(tgt p x t code).lim from by simpa[tgt]using hlt)]
    refine wpAny_bind (reslice_ok hxl fun t0=>?_)
    refine wpAny_bind (push_ok (s:={ s with toks:=s.toks+1 }) hl (by rw[vals_len,sizeLine_eq];lia) fun h' hl' hs'=>?_)
    refine fin _ (l++[(⟨x.cps.extract st x.cps.size⟩,t0)]) (by rw[vals_snoc];exact hl') ?_ ?_ _
    ·rw[flat_snoc_len]
     have:=extract_len (x:=x.cps) (a:=st) (b:=x.cps.size)
     clear fin hR hl' hs' hl hk hn hr hp hL
     rw[sizeLine_eq];lia
    ·rw[flat_snoc]
     exact(SubEnd.push (k:=s.toks+1) hR hs')
   ·rw[if_neg (show¬(↑st:Int).toNat<(tgt p x t code).lim from by simpa[tgt]using hlt)]
    refine fin _ l hl (by rw[sizeLine_eq];lia) ?_ _
    have e1:(x.cps.extract st x.cps.size).toList=[]:=by
     refine Iff.mpr (List.eq_nil_iff_length_eq_zero) ?_
     have:=extract_len (x:=x.cps) (a:=st) (b:=x.cps.size)
     lia
    rw[e1,append_nil]at hR
    exact hR
  |some ab=>
   obtain⟨a,b⟩:=ab
   rw[e]at hR
   dsimp only at hR ⊢
   intro h1 h2 h3 m hm1 hm2
   subst hm1 hm2
   have step:∀(s2:Shared) (l2:List (Str×Tok)),s2.heap.PlainList L (strValues l2).toArray→l2.length≤2*st+1→(flat l2).length≤5*st+(m.start-st)→Heap.SameBut L s.heap s2.heap→
    SubEnd s2 L (flat l2++repl.cps.toList++outF next x.cps repl.cps.toList f m.handed) R→∀A1,wpAny (model prog w) A1 (do
     let item←pure (Value.str repl u)
     if(item != Value.none)=true then do
      updateSeq L fun x=>x.push item
      again (Code.builtin "re.Pattern.sub.loop" { pos:=[Value.ref p,Value.str x t,Value.str repl u,Value.int 0 0,Value.int 0 0,Value.int (↑n+1) 0,Value.int (↑m.handed) 0,Value.int (↑m.handed) 0,Value.bool (m.handed==m.start),Value.ref L,Value.bool false] })
     else
      again (Code.builtin "re.Pattern.sub.loop" { pos:=[Value.ref p,Value.str x t,Value.str repl u,Value.int 0 0,Value.int 0 0,Value.int (↑n+1) 0,Value.int (↑m.handed) 0,Value.int (↑m.handed) 0,Value.bool (m.handed==m.start),Value.ref L,Value.bool false] }))
     (fun fin s'=>match fin with
      |Fin.done f=>R (Except.ok f) s'
      |Fin.again c'=>c'.quiet=true∧codeAny (model prog w) A c' R s') (fun e s'=>R (Except.error e) s') s2:=by
    intro s2 l2 hl2 hc2 hfl2 hsb hR2 A1
    refine wpAny_bind (wpAny_pure ?_)
    rw[if_pos (by rfl)]
    refine wpAny_bind (push_ok hl2 (by rw[vals_len,sizeLine_eq];lia) fun h' hl' hs'=>?_)
    refine wpAny_pure ⟨Code.quiet_builtin _ (by decide +kernel),?_⟩
    have hb:(m.handed==m.start)=false:=by simp;lia
    rw[hb]
    have:=ih m.handed (n+1) (l2++[(repl,u)]) { s2 with heap:=h' } (by lia) h3 (fun b o q=>hs'.extBut b o (fun e=>by rw[e,hL]at q;cases q) (hsb.extBut b o (fun e=>by rw[e,hL]at q;cases q) (hk b o q))) (by rw[vals_snoc];exact hl') (by simp;lia) ?_ ?_
    ·exact this
    ·rw[flat_snoc_len]
     have hr':repl.cps.toList.length≤4:=hr
     lia
    ·rw[flat_snoc]
     exact(SubEnd.push (k:=s2.toks) hR2 hs')
   by_cases hlt:st<m.start
   ·rw[if_pos (show(↑st:Int).toNat<m.start from by simpa using hlt)]
    refine wpAny_bind (reslice_ok hxl fun t0=>?_)
    refine wpAny_bind (push_ok (s:={ s with toks:=s.toks+1 }) hl (by rw[vals_len,sizeLine_eq];lia) fun h' hl' hs'=>?_)
    rw[if_pos (by rfl)]
    refine step _ (l++[(⟨x.cps.extract st m.start⟩,t0)]) (by rw[vals_snoc];exact hl') (by simp;lia) ?_ hs' ?_ _
    ·rw[flat_snoc_len]
     have:=extract_len (x:=x.cps) (a:=st) (b:=m.start)
     lia
    ·rw[flat_snoc]
     simp only[append_assoc]at hR ⊢
     exact(SubEnd.push (k:=s.toks+1) hR hs')
   ·rw[if_neg (show¬(↑st:Int).toNat<m.start from by simpa using hlt)]
    rw[if_pos (by rfl)]
    refine step _ l hl (by lia) (by lia) (Heap.SameBut.refl ..) ?_ _
    have e1:(x.cps.extract st m.start).toList=[]:=by
     refine Iff.mpr (List.eq_nil_iff_length_eq_zero) ?_
     have:=extract_len (x:=x.cps) (a:=st) (b:=m.start)
     lia
    rw[e1,nil_append]at hR
    rw[append_assoc]
    exact hR
end
theorem str_nocall:typeLookup (.type "str") "__call__"=pure none:=by rw[typeLookup_type,builtinLookup_eq_fast];kernel_rfl
section
variable {prog:Program} {w:World} {A:Around} {s:Shared}
theorem sub_call {p:Addr} {x repl:Str} {t u:Tok} {code:Array Nat} {next:Nat→Option (Nat×Nat)} (hn:NextOk code x.cps next) (hx:x.length≤2^20) (hr:repl.length≤4) (h92:repl.cps.contains 92=false) (hp:PatAt s.heap p code)
 {Q:Value→Shared→Prop} (h:∀h' k t',(∀b o,s.heap.get? b=some o→h'.get? b=some o)→Q (.str ⟨(outF next x.cps repl.cps.toList (x.cps.size+1) 0).toArray⟩ t') { s with heap:=h',toks:=k }):
 wpAny (model prog w) A (call (.builtin "re.Pattern.sub") [.ref p,.str repl u,.str x t]) Q NoE s:=by
 have hT:s.TypeIs (.ref p) "re.Pattern":=by
  obtain⟨o,vs,tup,o2,its,n,h1,h2,_⟩:=id hp
  exact⟨o,h1,h2⟩
 refine wpAny_call (codeAny_call_builtin slot_sub.plain entry_sub (slot_sub.check _ _ _ _ _ _ _ _ hT (args_sub _ _ _) ?_))
 have e1:Re.reNamed "re.Pattern.sub" "sub" ["repl","string","count"] 2 [.str repl u,.str x t] []=pure [some (.str repl u),some (.str x t),none]:=rfl
 unfold «re.Pattern.sub» Re.reSubstitute
 dsimp only
 rw[e1]
 refine wpAny_bind (wpAny_pure ?_)
 simp only[]
 refine wpAny_bind (wpAny_pure ?_)
 refine wpAny_bind (wpAny_specialOf (typeIs_str _ _ _) str_nocall ?_)
 simp only[Option.isSome_none,Bool.false_eq_true,if_false]
 refine wpAny_bind (asStr_ok ?_)
 simp only[]
 refine wpAny_bind (wpAny_pure ?_)
 rw[h92]
 simp only[Bool.not_false,if_true]
 refine wpAny_bind (wpAny_pure ?_)
 refine wpAny_bind (wpAny_holding (whole_ok hp ?_))
 rw[if_neg (by simp)]
 refine wpAny_bind (wpAny_newList ?_)
 refine wpAny_pure ⟨Code.quiet_builtin _ (by decide +kernel),?_⟩
 have hL:s.heap.get? s.heap.objs.size=none:=size_none _
 have hpush:∀b o,s.heap.get? b=some o→(s.heap.push { cls:= .type "list",data:= .seq ([]:List Value).toArray }).get? b=some o:=fun b o q=>Heap.get?_push_of_some _ q
 have:=sub_loop (prog:=prog) (w:=w) (A:=A) hn hx hr hp hL (t:=t) (u:=u) (R:=fun r s'=>match r with
  |Except.ok (Flow.ret v)=>Q v s'
  |Except.ok _=>False
  |Except.error e=>NoE e s') (x.cps.size+1) 0 0 [] { s with heap:=s.heap.push { cls:= .type "list",data:= .seq ([]:List Value).toArray } } (Nat.sub_lt_succ x.cps.size 0) (Nat.zero_le x.cps.size) hpush ⟨0,Heap.get?_push_size _ rfl⟩ (by simp) (by exact Nat.le_refl _) ?_
 ·exact this
 ·intro h' k t' hs
  exact h h' k t' fun b o q=>hs.extBut b o (fun e=>by rw[e,hL]at q;cases q) (hpush b o q)
end
noncomputable def nlL:List Nat→List Nat
 |[]=>[]
 |[c]=>if c=10∨c=13 then[13,10]else[c]
 |c::d::r=>if c=13∧d=10 then 13::10::nlL r else if c=10∨c=13 then 13::10::nlL (d::r)else c::nlL (d::r)
noncomputable def dotL:Bool→List Nat→List Nat
 |_,[]=>[]
 |b,c::r=>if b=true∧c=46 then 46::46::dotL false r else c::dotL (c==10) r
theorem nl_0:nlL []=[]:=rfl
theorem nl_1 (c:Nat):nlL [c]=if c=10∨c=13 then[13,10]else[c]:=rfl
theorem nl_2 (c d:Nat) (r:List Nat):nlL (c::d::r)=if c=13∧d=10 then 13::10::nlL r else if c=10∨c=13 then 13::10::nlL (d::r)else c::nlL (d::r):=rfl
theorem dot_1 (b:Bool) (c:Nat) (r:List Nat):dotL b (c::r)=if b=true∧c=46 then 46::46::dotL false r else c::dotL (c==10) r:=rfl
theorem dot_0 (b:Bool):dotL b []=[]:=rfl
noncomputable def nlNext (text:Array Nat) (st:Nat):Option (Nat×Nat):=(nextIx (isNl text) text.size (text.size+1-st) st).map fun s=>(s,nlEnd text text.size s)
noncomputable def dotNext (text:Array Nat) (st:Nat):Option (Nat×Nat):=(nextIx (isDot text) text.size (text.size+1-st) st).map fun s=>(s,s+1)
theorem nlEnd_lt (text:Array Nat) (lim s:Nat):s<nlEnd text lim s:=by
 unfold nlEnd
 by_cases h:text.getD s 0=13∧s+1<lim∧text.getD (s+1) 0=10
 ·rw[if_pos h];lia
 ·rw[if_neg h];exact Nat.lt_add_one s
theorem nlEnd_le (text:Array Nat) (lim s:Nat) (hs:s<lim):nlEnd text lim s≤lim:=by
 unfold nlEnd
 by_cases h:text.getD s 0=13∧s+1<lim∧text.getD (s+1) 0=10
 ·rw[if_pos h];omega
 ·rw[if_neg h];exact Nat.succ_le_of_lt hs
theorem nlNext_ok (text:Array Nat) (hx:text.size≤2^20):NextOk nlCode text (nlNext text):=by
 intro st hst
 unfold nlNext
 have q:=search_nl (text:=text) (lim:=text.size) st
 cases e:nextIx (isNl text) text.size (text.size+1-st) st with
 |none=>rw[e]at q;exact⟨1,by decide,q⟩
 |some s=>
  rw[e]at q
  obtain⟨h1,h2,h3,h4⟩:=nextIx_spec e
  exact⟨h1,nlEnd_lt ..,nlEnd_le _ _ _ h2,30,by decide,q⟩
theorem dotNext_ok (text:Array Nat) (hx:text.size≤2^20):NextOk dotCode text (dotNext text):=by
 intro st hst
 unfold dotNext
 have q:=search_dot (text:=text) (lim:=text.size) st
 cases e:nextIx (isDot text) text.size (text.size+1-st) st with
 |none=>rw[e]at q;exact⟨_,by lia,q⟩
 |some s=>
  rw[e]at q
  obtain⟨h1,h2,h3,h4⟩:=nextIx_spec e
  exact⟨h1,by exact Nat.lt_add_one s,by exact Nat.succ_le_of_lt h2,_,by lia,q⟩
theorem getD_drop {text:Array Nat} {s:Nat} (h:s<text.size):text.toList.drop s=text.getD s 0::text.toList.drop (s+1):=by
 refine Eq.trans (List.drop_eq_getElem_cons (by simpa using h)) ?_
 congr 1
 simp[Array.getD,h]
theorem drop_end {text:Array Nat} {s:Nat} (h:text.size≤s):text.toList.drop s=[]:=by
 apply List.drop_eq_nil_of_le;simpa using h
theorem extract_cons {text:Array Nat} {s a:Nat} (h:s<a) (h2:a≤text.size):(text.extract s a).toList=text.getD s 0::(text.extract (s+1) a).toList:=by
 simp only[Array.toList_extract,List.extract_eq_take_drop]
 rw[getD_drop (Nat.lt_of_lt_of_le h h2),show a-s=(a-(s+1))+1 by lia,List.take_succ_cons]
theorem extract_nil {text:Array Nat} {s a:Nat} (h:a≤s):(text.extract s a).toList=[]:=by
 refine Iff.mpr (List.eq_nil_iff_length_eq_zero) ?_
 have:=extract_len (x:=text) (a:=s) (b:=a)
 omega
theorem nlL_skip {text:Array Nat} {a:Nat} (ha:a≤text.size):∀(n st:Nat),a-st=n→st≤a→(∀j,st≤j→j<a→isNl text j=false)→nlL (text.toList.drop st)=(text.extract st a).toList++nlL (text.toList.drop a):=by
 intro v0_
 induction v0_ with
 |zero=>
  intro st hn hst _
  have:st=a:=by lia
  subst this
  rw[extract_nil (Nat.le_refl _),nil_append]
 |succ n ih_=>
  intro st hn hst h
  have hlt:st<a:=Nat.lt_of_sub_eq_succ hn
  have hc:=h st (Nat.le_refl _) hlt
  unfold isNl at hc
  simp only[Bool.or_eq_false_iff,beq_eq_false_iff_ne,ne_eq]at hc
  have ih:=ih_ (st+1) (by lia) (Nat.succ_le_of_lt hlt) (fun j x y=>h j (Nat.le_of_succ_le x) y)
  rw[extract_cons hlt ha,getD_drop (Nat.lt_of_lt_of_le hlt ha),cons_append,←ih]
  cases e:text.toList.drop (st+1)with
  |nil=>
   simp only[nl_0,nl_1,nl_2]
   exact(if_neg (fun q=>q.elim hc.1 hc.2))
  |cons d r=>
   simp only[nl_0,nl_1,nl_2]
   rw[if_neg (fun q=>hc.2 q.1),if_neg (fun q=>q.elim hc.1 hc.2)]
theorem nl_out (text:Array Nat):∀(f st:Nat),text.size-st<f→st≤text.size→outF (nlNext text) text [13,10] f st=nlL (text.toList.drop st):=by
 intro v0_
 induction v0_ with
 |zero=>
  intro _ h _
  lia
 |succ f ih_=>
  intro st hf hst
  rw[outF_succ]
  cases e:nextIx (isNl text) text.size (text.size+1-st) st with
  |none=>
   have:nlNext text st=none:=by unfold nlNext;refine Eq.trans (congrArg _ (e)) ?_;rfl
   rw[this]
   have h:=nextIx_none (by lia) e
   have:=nlL_skip (text:=text) (Nat.le_refl text.size) _ st rfl hst h
   rw[drop_end (Nat.le_refl _)]at this
   rw[this];simp[nl_0,nl_1,nl_2]
  |some a=>
   have hn:nlNext text st=some (a,nlEnd text text.size a):=by unfold nlNext;refine Eq.trans (congrArg _ (e)) ?_;rfl
   rw[hn]
   obtain⟨h1,h2,h3,h4⟩:=nextIx_spec e
   show(text.extract st a).toList++[13,10]++outF (nlNext text) text [13,10] f (nlEnd text text.size a)=_
   have hlt:a<nlEnd text text.size a:=nlEnd_lt ..
   have hle:nlEnd text text.size a≤text.size:=nlEnd_le _ _ _ h2
   rw[ih_ _ (by lia) hle,nlL_skip (text:=text) (by exact Nat.le_of_succ_le h2:a≤text.size) _ st rfl h1 h4,append_assoc]
   congr 1
   have hc:text.getD a 0=10∨text.getD a 0=13:=by
    unfold isNl at h3;simpa using h3
   rw[getD_drop h2]
   unfold nlEnd
   by_cases h5:text.getD a 0=13∧a+1<text.size∧text.getD (a+1) 0=10
   ·rw[if_pos h5,getD_drop h5.2.1]
    simp[nl_0,nl_1,nl_2,h5.1,h5.2.2]
   ·rw[if_neg h5]
    by_cases h6:a+1<text.size
    ·rw[getD_drop h6]
     have:¬(text.getD a 0=13∧text.getD (a+1) 0=10):=fun q=>h5 ⟨q.1,h6,q.2⟩
     simp only[nl_0,nl_1,nl_2]
     rw[if_neg this,if_pos hc];rfl
    ·rw[drop_end (Nat.le_of_not_lt h6)]
     simp only[nl_0,nl_1,nl_2]
     rw[if_pos hc];rfl
noncomputable def bol (text:Array Nat) (st:Nat):Bool:=st==0||text.getD (st-1) 0==10
theorem dotL_skip {text:Array Nat} {a:Nat} (ha:a≤text.size):∀(n st:Nat),a-st=n→st≤a→(∀j,st≤j→j<a→isDot text j=false)→dotL (bol text st) (text.toList.drop st)=(text.extract st a).toList++dotL (bol text a) (text.toList.drop a):=by
 intro v0_
 induction v0_ with
 |zero=>
  intro st hn hst _
  have:st=a:=by lia
  subst this
  rw[extract_nil (Nat.le_refl _),nil_append]
 |succ n ih_=>
  intro st hn hst h
  have hlt:st<a:=Nat.lt_of_sub_eq_succ hn
  have hc:=h st (Nat.le_refl _) hlt
  have ih:=ih_ (st+1) (by lia) (Nat.succ_le_of_lt hlt) (fun j x y=>h j (Nat.le_of_succ_le x) y)
  rw[extract_cons hlt ha,getD_drop (Nat.lt_of_lt_of_le hlt ha),cons_append,←ih]
  have hb:bol text (st+1)=(text.getD st 0==10):=by rfl
  have hne:¬(bol text st=true∧text.getD st 0=46):=fun q=>by
   unfold isDot at hc
   unfold bol at q
   rw[q.2,q.1]at hc
   simp at hc
  rw[hb]
  simp only[dot_0,dot_1]
  exact(if_neg hne)
theorem dot_out (text:Array Nat):∀(f st:Nat),text.size-st<f→st≤text.size→outF (dotNext text) text [46,46] f st=dotL (bol text st) (text.toList.drop st):=by
 intro v0_
 induction v0_ with
 |zero=>
  intro _ h _
  lia
 |succ f ih_=>
  intro st hf hst
  rw[outF_succ]
  cases e:nextIx (isDot text) text.size (text.size+1-st) st with
  |none=>
   have:dotNext text st=none:=by unfold dotNext;rw[e];rfl
   rw[this]
   have h:=nextIx_none (by lia) e
   have:=dotL_skip (text:=text) (Nat.le_refl text.size) _ st rfl hst h
   rw[drop_end (Nat.le_refl _)]at this
   rw[this];simp[dot_0,dot_1]
  |some a=>
   have hn:dotNext text st=some (a,a+1):=by unfold dotNext;rw[e];rfl
   rw[hn]
   obtain⟨h1,h2,h3,h4⟩:=nextIx_spec e
   show(text.extract st a).toList++[46,46]++outF (dotNext text) text [46,46] f (a+1)=_
   rw[ih_ _ (by lia) (Nat.succ_le_of_lt h2),dotL_skip (text:=text) (by exact Nat.le_of_succ_le h2:a≤text.size) _ st rfl h1 h4,append_assoc]
   congr 1
   unfold isDot at h3
   simp only[Bool.and_eq_true,beq_iff_eq]at h3
   rw[getD_drop h2]
   have hb:bol text (a+1)=(text.getD a 0==10):=by rfl
   have hb2:bol text a=true:=h3.2
   rw[hb,h3.1,hb2]
   rfl
noncomputable def qd (x:Str):Str:=⟨(dotL true (nlL x.cps.toList)).toArray⟩
theorem nlL_len:∀(n:Nat) (l:List Nat),l.length≤n→(nlL l).length≤2*l.length
 |_,[],_=>by simp[nl_0,nl_1,nl_2]
 |_,[c],_=>by simp only[nl_0,nl_1,nl_2];split<;>simp
 |0,_::_::_,h=>by simp at h
 |n+1,c::d::r,h=>by
  simp only[nl_0,nl_1,nl_2]
  simp only[length_cons]at h
  have h1:=nlL_len n r (by lia)
  have h2:=nlL_len n (d::r) (by simp;exact Nat.le_of_lt_succ h)
  simp only[length_cons]at h2
  split
  ·simp only[length_cons];lia
  ·split<;>(simp only[length_cons];lia)
theorem dotL_len:∀(b:Bool) (l:List Nat),(dotL b l).length≤2*l.length:=by
 intro v0_ v1_
 revert v0_
 induction v1_ with
 |nil=>
  intro _
  simp[dot_0,dot_1]
 |cons c r ih_=>
  intro b
  simp only[dot_0,dot_1]
  have h1:=ih_ false
  have h2:=ih_ (c==10)
  split<;>(simp only[length_cons];lia)
theorem nl_all (x:Array Nat):outF (nlNext x) x [13,10] (x.size+1) 0=nlL x.toList:=by
 have:=nl_out x (x.size+1) 0 (Nat.sub_lt_succ x.size 0) (Nat.zero_le x.size)
 simpa using this
theorem dot_all (x:Array Nat):outF (dotNext x) x [46,46] (x.size+1) 0=dotL true x.toList:=by
 have:=dot_out x (x.size+1) 0 (Nat.sub_lt_succ x.size 0) (Nat.zero_le x.size)
 simpa[bol]using this
section
variable {m:Mod} {k:Nat} {ns:Names} {Γ:Gam} {hs hs1 hs2:HS}
theorem ev_psub (O:m.Ok) {P:Str} {pa:Addr} {p1 p2 p3:Pos} {e1 e2:Expr} {repl x y:Str} {code:Array Nat} {next:Nat→Option (Nat×Nat)}
 (hP:ns.lookup P=some .globalImplicit) (hd:isDbg P=false) (hm:m.mg P=some (.ref pa)) (hpa:PatAt m.h₀ pa code) (hn:NextOk code x.cps next) (hx:x.length≤2^20) (hr:repl.length≤4) (h92:repl.cps.contains 92=false)
 (hline:(p2.endLine==p3.line)=true) (hy:(⟨(outF next x.cps repl.cps.toList (x.cps.size+1) 0).toArray⟩:Str)=y) (hout:y.length≤sizeLine) (st1:isSt e1=false) (st2:isSt e2=false)
 (h1:EvR m k ns Γ hs e1 (.p (.str repl)) hs1) (h2:EvR m k ns Γ hs1 e2 (.p (.str x)) hs2):EvR m k ns Γ hs (.Call (.Attribute (.Name P p1) "sub" p2) [e1,e2] [] p3) (.p (.str y)) hs2:=fun A env R s hA t0 S=>by
 have ha:ArR m k ns Γ hs [e1,e2] [.str repl,.str x] hs2:=ar_cons h1 (ar_cons h2 ar_nil st2 rfl) st1 rfl
 obtain⟨o,vs,tup,o2,its,n,z1,z2,z3,_⟩:=id (hpa.keeps S.base)
 refine method_go rfl ha.1 (by simp) hline (glob_go O hP hd S (.inl hm) ?_)
 refine getMethod_builtin ⟨o,z1,z2⟩ pa_pat slot_sub type_sub (fun a e=>by cases e;exact⟨o,z1,z3⟩) (callB ha.1 ?_)
 refine noE (ha.2 p3 A env R s hA t0 S) fun vals s1 hp1=>?_
 obtain⟨R1,T1,v1,r1,e1,⟨_,u,e2⟩,v2,r2,e3,⟨_,t,e4⟩,e5⟩:=hp1
 subst e1 e2 e3 e4 e5
 refine noE (sub_call hn hx hr h92 (hpa.keeps (S.tr T1).base) (Q:=PostW m.C s R (.p (.str y)) hs2) fun h' k' t' hk=>?_) fun v s3 p=>p
 rw[hy]
 exact⟨R1,T1.trans (Tr.own T1.hd ⟨_,_,rfl⟩ (Kept.all hk)),hout,t',rfl⟩
theorem nl_made (x:Str):(⟨(outF (nlNext x.cps) x.cps (⟨#[13,10]⟩:Str).cps.toList (x.cps.size+1) 0).toArray⟩:Str)=⟨(nlL x.cps.toList).toArray⟩:=by
 show(⟨(outF (nlNext x.cps) x.cps [13,10] (x.cps.size+1) 0).toArray⟩:Str)=_
 rw[nl_all]
theorem dot_made (x:Str):(⟨(outF (dotNext x.cps) x.cps (⟨#[46,46]⟩:Str).cps.toList (x.cps.size+1) 0).toArray⟩:Str)=⟨(dotL true x.cps.toList).toArray⟩:=by
 show(⟨(outF (dotNext x.cps) x.cps [46,46] (x.cps.size+1) 0).toArray⟩:Str)=_
 rw[dot_all]
theorem qd_len (x:Str):(⟨(nlL x.cps.toList).toArray⟩:Str).length≤2*x.length∧(qd x).length≤4*x.length:=by
 have h5:x.cps.toList.length=x.length:=rfl
 have h4:=nlL_len _ x.cps.toList (Nat.le_refl _)
 have h3:=dotL_len true (nlL x.cps.toList)
 have h2:(qd x).length=(dotL true (nlL x.cps.toList)).length:=by
  show(List.toArray _).size=_
  exact(size_toArray)
 have h1:(⟨(nlL x.cps.toList).toArray⟩:Str).length=(nlL x.cps.toList).length:=by
  show(List.toArray _).size=_
  exact(size_toArray)
 lia
theorem ev_nl (O:m.Ok) {P:Str} {pa:Addr} {p1 p2 p3:Pos} {e1 e2:Expr} {x:Str} (hP:ns.lookup P=some .globalImplicit) (hd:isDbg P=false) (hm:m.mg P=some (.ref pa)) (hpa:PatAt m.h₀ pa nlCode) (hx:x.length≤2^18) (hline:(p2.endLine==p3.line)=true)
 (st1:isSt e1=false) (st2:isSt e2=false) (h1:EvR m k ns Γ hs e1 (.p (.str ⟨#[13,10]⟩)) hs1) (h2:EvR m k ns Γ hs1 e2 (.p (.str x)) hs2):EvR m k ns Γ hs (.Call (.Attribute (.Name P p1) "sub" p2) [e1,e2] [] p3) (.p (.str ⟨(nlL x.cps.toList).toArray⟩)) hs2:=
 ev_psub O hP hd hm hpa (nlNext_ok _ (Nat.le_trans hx (by decide))) (Nat.le_trans hx (by decide)) (by decide) (by simp) hline (nl_made x) (Nat.le_trans (qd_len x).1 (by rw[sizeLine_eq];exact Nat.le_trans (Nat.mul_le_mul_left 2 hx) (by decide))) st1 st2 h1 h2
theorem ev_dot (O:m.Ok) {P:Str} {pa:Addr} {p1 p2 p3:Pos} {e1 e2:Expr} {x y:Str} (hy:(⟨(nlL x.cps.toList).toArray⟩:Str)=y) (hP:ns.lookup P=some .globalImplicit) (hd:isDbg P=false) (hm:m.mg P=some (.ref pa)) (hpa:PatAt m.h₀ pa dotCode) (hx:x.length≤2^18) (hline:(p2.endLine==p3.line)=true)
 (st1:isSt e1=false) (st2:isSt e2=false) (h1:EvR m k ns Γ hs e1 (.p (.str ⟨#[46,46]⟩)) hs1) (h2:EvR m k ns Γ hs1 e2 (.p (.str y)) hs2):EvR m k ns Γ hs (.Call (.Attribute (.Name P p1) "sub" p2) [e1,e2] [] p3) (.p (.str (qd x))) hs2:=by
 have hl:=(qd_len x).1
 rw[hy]at hl
 have hl:y.length≤2^19:=Nat.le_trans hl (Nat.le_trans (Nat.mul_le_mul_left 2 hx) (by decide))
 exact ev_psub O hP hd hm hpa (dotNext_ok _ (Nat.le_trans hl (by decide))) (Nat.le_trans hl (by decide)) (by decide) (by simp) hline (by rw[dot_made,←hy];rfl) (Nat.le_trans (qd_len x).2 (by rw[sizeLine_eq];exact Nat.le_trans (Nat.mul_le_mul_left 4 hx) (by decide))) st1 st2 h1 h2
end
section
variable {m:Mod} {A:Around} {s:Shared}
theorem search_call {p:Addr} {x:Str} {t:Tok} {code:Array Nat} (hx:x.length≤sizeLine) (hp:PatAt s.heap p code) (hf:Fails (Sre.forSearch code x.cps 0 0 x.cps.size false) 1)
 {Q:Value→Shared→Prop} {E:Value→Shared→Prop} (h:Q .none s):wpAny (m.M) A (call (.builtin "re.Pattern.search") [.ref p,.str x t]) Q E s:=by
 obtain⟨o,vs,tup,o2,its,n,h1,h2,h3,h4,h5,h6,h7,h8,h9,h10⟩:=id hp
 have hT:s.TypeIs (.ref p) "re.Pattern":=⟨o,h1,h2⟩
 refine wpAny_call (codeAny_call_builtin slot_search.plain entry_search (slot_search.check _ _ _ _ _ _ _ _ hT (args_search _ _) ?_))
 have e1:Re.reNamed "re.Pattern.search" "search" ["string","pos","endpos"] 1 [.str x t] []=pure [some (.str x t),none,none]:=rfl
 unfold «re.Pattern.search» Re.reTarget
 dsimp only
 rw[e1]
 have hc:∀q:Nat,q≤x.cps.size→True:=fun ux ux=>trivial
 refine wpAny_bind (wpAny_bind (wpAny_pure ?_))
 simp only[]
 refine wpAny_bind (wpAny_pure ?_)
 refine wpAny_bind (wpAny_pure ?_)
 refine wpAny_bind (wpAny_fieldsOf h1 h4 ?_)
 refine wpAny_bind (textOf_ok ?_)
 dsimp only
 rw[h7]
 refine wpAny_bind (wpAny_pure ?_)
 rw[h5,h6]
 unfold Re.reRawItems
 refine wpAny_bind (wpAny_bind (wpAny_seqItems h8 h9 (wpAny_pure ?_)))
 refine wpAny_pure ?_
 unfold Re.reAnswer
 refine wpAny_bind ?_
 have hx':x.cps.size≤2^24:=by rw[sizeLine_eq]at hx;exact hx
 have e3:min (2^63-1:Int).toNat x.cps.size=x.cps.size:=Nat.min_eq_right (Nat.le_trans hx' (by decide))
 have e0:min (0:Int).toNat x.cps.size=0:=Nat.zero_min _
 show wpAny (m.M) A.in1 (Re.reRunToEnd (Sre.forSearch ((its.map Re.reRawOf).map Int.toNat) x.cps 0 (min (0:Int).toNat x.cps.size) (min (2^63-1:Int).toNat x.cps.size) false)) _ _ s
 rw[e3,e0,h10]
 refine toEnd_ok (n:=1) (by decide) ?_
 rw[hf.run]
 exact wpAny_pure h
theorem call_args {R:Result→Shared→Prop} {a:Addr} {o:Obj} {fd:FuncData} {body:List Stmt} {args:Args}
 (hroom:A.depth<recursionLimit) (ho:s.heap.get? a=some o) (hdata:o.data= .func fd) (hlim:s.heap.NoLimit) (hcd:s.heap.CodeRec fd.code fd.qualname)
 (hbody:fd.body= .stmts body) (hclo:fd.closure=[]) (hco:fd.scope.isCoroutine=false) (hgen:fd.scope.isGenerator=false) (hk:fd.scope.kind= .function)
 (hbind:wpAny (m.M) A.in1 (bindArgs fd args) (fun binds s'=>(∀b o,s.heap.get? b=some o→s'.heap.get? b=some o)∧
  (∀x∈binds,fd.scope.names.lookup x.1=some .local∨fd.scope.names.lookup x.1=some .cell)∧
  ∀s₁,InCallC s' (callEnvC fd s'.heap.objs.size a).locals (bindL (callEnvC fd s'.heap.objs.size a).kindOf binds fun ux=>none) (callEnvC fd s'.heap.objs.size a).cells
   (bindC (callEnvC fd s'.heap.objs.size a).kindOf binds fun ux=>none) s₁→
  wpAny (m.M) (A.deeper (callEnvC fd s'.heap.objs.size a)) (execs body (callEnvC fd s'.heap.objs.size a)) (fun f s'=>R (.ok (.ret (match f with| .ret v=>v|_=> .none))) s') NoE s₁) NoE s):
 codeAny (m.M) A (.call (.ref a) args) R s:=by
 refine codeAny_call_function hroom ho hdata hco hgen hbody hcd (noE hbind fun binds s' hp1=>?_)
 have h1:=hp1.1;have h2:=hp1.2.1;have h3:=hp1.2.2
 rw[hclo]
 refine wpAny_newFunctionEnv_cells hk (fun x hx=>(h2 x hx).imp id fun q=>⟨q,cellsFrom_some q⟩) fun env he s₁ x=>?_
 subst he
 exact⟨(hlim.keeps h1).keeps x.toInCall.keep,codeAny_func (noE (h3 s₁ x) fun ux ux q=>q)⟩
noncomputable def retV:Flow→Value
 | .ret v=>v
 |_=> .none
theorem call_argsC {R:Result→Shared→Prop} {a:Addr} {o:Obj} {fd:FuncData} {body:List Stmt} {args:Args}
 (hroom:A.depth<recursionLimit) (ho:s.heap.get? a=some o) (hdata:o.data= .func fd) (hlim:s.heap.NoLimit) (hcd:s.heap.CodeRec fd.code fd.qualname)
 (hbody:fd.body= .stmts body) (hclo:fd.closure=[]) (hco:fd.scope.isCoroutine=false) (hgen:fd.scope.isGenerator=false) (hk:fd.scope.kind= .function)
 (hbind:wpAny (m.M) A.in1 (bindArgs fd args) (fun binds s'=>(∀b o,s.heap.get? b=some o→s'.heap.get? b=some o)∧
  (∀x∈binds,fd.scope.names.lookup x.1=some .local∨fd.scope.names.lookup x.1=some .cell)∧
  ∀env s₁,env.kindOf=(fun y=>fd.scope.names.lookup y)→env.scope.kind= .function→env.globals=fd.globals→env.builtins=fd.builtins→InCallC s' env.locals (bindL (fun y=>fd.scope.names.lookup y) binds fun ux=>none) env.cells (bindC (fun y=>fd.scope.names.lookup y) binds fun ux=>none) s₁→
  wpAny (m.M) (A.deeper env) (execs body env) (fun f s'=>R (.ok (.ret (retV f))) s') NoE s₁) NoE s):
 codeAny (m.M) A (.call (.ref a) args) R s:=by
 refine call_args hroom ho hdata hlim hcd hbody hclo hco hgen hk (wpAny_mono hbind (fun binds s' h=>⟨h.1,h.2.1,fun s₁ I=>?_⟩) fun ux ux h=>h)
 refine wpAny_mono (h.2.2 (callEnvC fd s'.heap.objs.size a) s₁ rfl hk rfl rfl I) (fun f s2 q=>?_) fun ux ux h=>h
 cases f<;>exact q
theorem call_argsV {a:Addr} {o:Obj} {fd:FuncData} {body:List Stmt} {vals:List Value} {kw:List (Str×Value)} {Q:Value→Shared→Prop}
 (hroom:A.depth<recursionLimit) (ho:s.heap.get? a=some o) (hdata:o.data= .func fd) (hlim:s.heap.NoLimit) (hcd:s.heap.CodeRec fd.code fd.qualname)
 (hbody:fd.body= .stmts body) (hclo:fd.closure=[]) (hco:fd.scope.isCoroutine=false) (hgen:fd.scope.isGenerator=false) (hk:fd.scope.kind= .function)
 (hbind:wpAny (m.M) A.in1 (bindArgs fd ⟨vals,kw⟩) (fun binds s'=>(∀b o,s.heap.get? b=some o→s'.heap.get? b=some o)∧
  (∀x∈binds,fd.scope.names.lookup x.1=some .local∨fd.scope.names.lookup x.1=some .cell)∧
  ∀env s₁,env.kindOf=(fun y=>fd.scope.names.lookup y)→env.scope.kind= .function→env.globals=fd.globals→env.builtins=fd.builtins→InCallC s' env.locals (bindL (fun y=>fd.scope.names.lookup y) binds fun ux=>none) env.cells (bindC (fun y=>fd.scope.names.lookup y) binds fun ux=>none) s₁→
  wpAny (m.M) (A.deeper env) (execs body env) (fun f s'=>Q (retV f) s') NoE s₁) NoE s):
 wpAny (m.M) A (call (.ref a) vals kw) Q NoE s:=wpAny_call (call_argsC hroom ho hdata hlim hcd hbody hclo hco hgen hk hbind)
structure ConvRec (m:Mod) (a:Addr) (fd:FuncData) (p1 p2:Addr):Prop where
 at_:∃o,m.h₀.get? a=some o∧o.data= .func fd
 code:m.h₀.CodeRec fd.code fd.qualname
 clo:fd.closure=[]
 glob:fd.globals=mainGlobals
 blt:fd.builtins=builtinsNs
 bind:∀v x b,bindArgs fd ⟨[v,x],[(("name":Str),b)]⟩=pure [(("self":Str),v),(("value":Str),x),(("name":Str),b)]
 type_:BName m "type" (.type "type")
 str_:BName m "str" (.type "str")
 pat1:PatAt m.h₀ p1 nameCode
 pat2:PatAt m.h₀ p2 valCode
 n1:m.mg "_name_disallowed_re"=some (.ref p1)
 n2:m.mg "_value_disallowed_re"=some (.ref p2)
 scope:fd.scope=(PC "_convert_string_type").scope
 body:fd.body= .stmts (PC "_convert_string_type").body
theorem conv_fails {x:Str} {b:Bool} (hok:okText x (!b)=true):Fails (Sre.forSearch (if b then nameCode else valCode) x.cps 0 0 x.cps.size false) 1:=by
 have okc:∀j,j<x.cps.size→31<x.cps.getD j 0∧x.cps.getD j 0≠127∨((!b)=true∧x.cps.getD j 0=9):=by
  intro j hj
  unfold okText at hok
  have:=all_eq_true.mp hok (x.cps.getD j 0) (by simp[Array.getD,hj])
  simp only[Bool.and_eq_true,decide_eq_true_eq]at this
  exact this.1
 cases b
 ·exact search_val fun j hj=>(okc j hj).imp id fun q=>q.2
 ·exact search_name fun j hj=>(okc j hj).resolve_right fun q=>nomatch q.1
theorem conv_ok (O:m.Ok) {a p1 p2:Addr} {fd:FuncData} (F:ConvRec m a fd p1 p2) (hroom:A.depth<recursionLimit) (hk:∀b o,m.h₀.get? b=some o→s.heap.get? b=some o)
 {v:Value} {x:Str} {t:Tok} {b:Bool} (hx:x.length≤sizeLine) (hok:okText x (!b)=true) {Q:Value→Shared→Prop} (h:∀h' n,(∀b o,s.heap.get? b=some o→h'.get? b=some o)→Q (.str x t) { s with heap:=h',toks:=n }):
 wpAny (m.M) A (call (.ref a) [v,.str x t] [("name",.bool b)]) Q NoE s:=by
 have hb:(PC "_convert_string_type").body=(PC "_convert_string_type").body:=rfl
 conv at hb=>rhs;whnf
 obtain⟨o,ho,hdata⟩:=F.at_
 refine call_argsV hroom (hk _ _ ho) hdata (O.limit.keeps hk) (F.code.keeps hk) (F.body.trans (congrArg _ hb)) F.clo (by rw[F.scope];kernel_rfl) (by rw[F.scope];kernel_rfl) (by rw[F.scope];kernel_rfl) ?_
 rw[F.bind]
 refine wpAny_pure ⟨fun ux ux q=>q,fun y hy=> .inl ?_,fun env s₁ kn kk kg kb I=>?_⟩
 ·rw[F.scope]
  simp only[mem_cons,not_mem_nil,or_false]at hy
  rcases hy with rfl|rfl|rfl<;>kernel_rfl
 rw[F.scope]at I kn
 rw[F.glob]at kg
 rw[F.blt]at kb
 have keep:=I.toInCall.keep
 have glob:∀{y:Str} {pos:Pos} {u:Value} {s2:Shared} {Q:Value→Shared→Prop},(∀b o,s.heap.get? b=some o→s2.heap.get? b=some o)→(PC "_convert_string_type").scope.names.lookup y=some .globalImplicit→(m.mg y=some u∨(m.mg y=none∧m.mb y=some u))→(y==("__debug__":Str))=false→Q u s2→wpAny (m.M) (A.deeper env) (eval (.Name y pos) env) Q NoE s2:=by
  intro y pos u s2 Q hk2 hl hv hd hq
  refine Name_function_global kk (by rw[kn];exact hl) ?_ hd
  have hg:s2.heap.Ns env.globals m.mg:=kg▸O.g.keeps fun b o q=>hk2 b o (hk b o q)
  have hb:s2.heap.Ns env.builtins m.mb:=kb▸O.b.keeps fun b o q=>hk2 b o (hk b o q)
  rcases hv with hv|⟨hv,hb'⟩
  ·exact loadGlobal_global hg hv hq
  ·exact loadGlobal_builtin hg hv hb hb' hq
 have done:∀{n0 cm} {s2:Shared},InCallC s env.locals n0 env.cells cm s2→Q (.str x t) s2:=by
  intro n0 cm s2 I2
  obtain⟨h',n,e,hk2⟩:=I2.done
  subst e
  exact h h' n hk2
 clear h kg kb
 generalize A.deeper env=A at glob ⊢
 refine wpAny_execs_cons (wpAny_If (wpAny_isTrue_Compare1 ?_ rfl))
 refine wpAny_Call_NameR (glob keep (by kernel_rfl) (.inr F.type_) (by decide +kernel) ?_)
 refine callT rfl (args_cons ?_ rfl)
 refine NameLC I kk (by rw[kn];kernel_rfl) (v:= .str x t) (by kernel_rfl) (args_nil ?_) (by decide +kernel)
 refine call_type_of (typeIs_str _ _ _) (by decide) ?_
 refine glob keep (by kernel_rfl) (.inr F.str_) (by decide +kernel) ?_
 refine wpAny_is_self rfl (wpAny_truthy_bool ?_)
 show wpAny _ _ (execs _ env) _ _ _
 refine wpAny_execs_cons (wpAny_Assign_Name (wpAny_IfExp (wpAny_isTrue_value (NameLC I kk (by rw[kn];kernel_rfl) (v:= .bool b) (by kernel_rfl) (wpAny_truthy_bool ?_) (by decide +kernel)) rfl)) rfl)
 have pick:∀{Q:Value→Shared→Prop} {c1 c2:Pos},Q (.ref (if b then p1 else p2)) s₁→(if b=true then wpAny (m.M) A (eval (.Name "_name_disallowed_re" c1) env) Q NoE s₁ else wpAny (m.M) A (eval (.Name "_value_disallowed_re" c2) env) Q NoE s₁):=by
  intro Q c1 c2 hq
  cases b
  ·exact glob keep (by kernel_rfl) (.inl F.n2) (by decide +kernel) hq
  ·exact glob keep (by kernel_rfl) (.inl F.n1) (by decide +kernel) hq
 refine pick ?_
 clear pick glob
 refine stLC I kk (by rw[kn];kernel_rfl) fun s2 I2=>?_
 show wpAny _ _ (execs _ env) _ _ _
 have keep2:=I2.toInCall.keep
 have hpat:PatAt s2.heap (if b then p1 else p2) (if b then nameCode else valCode):=by
  cases b
  ·exact(F.pat2.keeps hk).keeps keep2
  ·exact(F.pat1.keeps hk).keeps keep2
 have hT:s2.TypeIs (.ref (if b then p1 else p2)) "re.Pattern":=by
  obtain⟨o,vs,tup,o2,its,n,h1,h2,_⟩:=id hpat
  exact⟨o,h1,h2⟩
 refine wpAny_execs_cons (wpAny_If (wpAny_isTrue_value ?_ rfl))
 refine method_go rfl rfl (by decide) (by kernel_rfl) ?_
 refine NameLC I2 kk (by rw[kn];kernel_rfl) (v:= .ref (if b then p1 else p2)) (by kernel_rfl) ?_ (by decide +kernel)
 refine getMethod_builtin hT pa_pat slot_search type_search (fun a e=>?_) ?_
 ·cases e
  obtain⟨o,vs,tup,o2,its,n,h1,h2,h3,_⟩:=id hpat
  exact⟨o,h1,h3⟩
 refine callB rfl (args_cons ?_ rfl)
 refine NameLC I2 kk (by rw[kn];kernel_rfl) (v:= .str x t) (by kernel_rfl) (args_nil ?_) (by decide +kernel)
 refine search_call hx hpat (conv_fails hok) (PyProof.Rows.truthy_none ?_)
 show wpAny _ _ (execs [] env) _ _ _
 refine wpAny_execs_nil ?_
 refine wpAny_execs_cons (wpAny_Return_some ?_)
 exact NameLC I2 kk (by rw[kn];kernel_rfl) (v:= .str x t) (by kernel_rfl) (done I2) (by decide +kernel)
end
noncomputable def RC.hide (R:RC):RC:={ O:=R.O++R.ρ.map fun p=>(("":Str),p.2),ρ:=[],tk:=R.tk }
noncomputable def hideSlot:Slot→Slot
 | .any=> .any
 | .p v=>if pv 8 v then .p v else .any
 | .o l=>if l.all (pv 8)then .o l else .any
noncomputable def hideG (Γ:Gam):Gam:=Γ.map fun x=>(x.1,hideSlot x.2)
section
variable {m:Mod} {C:Addr} {h₀:Heap} {k:Nat} {A:Around} {s:Shared} {R:RC}
theorem hide_bad:R.hide.bad=R.bad:=by
 simp[RC.hide,RC.bad,RC.hl,map_map,Function.comp_def]
theorem hide_lookup {x:Str}:∀{Γ:Gam},(hideG Γ).lookup x=(Γ.lookup x).map hideSlot
 |[]=>rfl
 |(y,sl)::r=>by
  have ih:=hide_lookup (x:=x) (Γ:=r)
  show List.lookup x ((y,hideSlot sl)::hideG r)=_
  simp only[lookup_cons]
  cases x==y
  ·exact ih
  ·rfl
theorem VR.hide {h:Heap} {v:V} {val:Value} (hp:pv 8 v=true) (r:VR h R v val):VR h R.hide v val:=
 VR.pure (R:=R.hide) (R':=R) rfl (fun b q=>by rw[hide_bad]at q;exact q) 8 v val hp r
theorem VRs.hide {h:Heap} {l:List V} {vs:List Value} (hp:l.all (pv 8)=true) (r:VRs h R l vs):VRs h R.hide l vs:=
 VRs.pure (R:=R.hide) (R':=R) rfl (fun b q=>by rw[hide_bad]at q;exact q) 8 l vs hp r
set_option tactic.hygienic true in
theorem SlotR.hide {h:Heap} {x:Str} {sl:Slot} {ov:Option Value} (q:SlotR h R x sl ov):SlotR h R.hide x (hideSlot sl) ov:=by
 cases sl with
 |any=>trivial
 |p v=>
  unfold hideSlot
  dsimp only
  split
  ·rename_i hp
   obtain⟨val,e,r⟩:=q
   exact⟨val,e,r.hide hp⟩
  ·trivial
 |o l=>
  unfold hideSlot
  dsimp only
  split
  ·rename_i hp
   obtain⟨n,a,vs,e,hm,hl,r⟩:=q
   exact⟨n,a,vs,e,mem_append_left _ hm,hl,r.hide hp⟩
  ·trivial
theorem SI.hide {env ns Γ hs} (S:SI C h₀ env ns Γ R hs s):SI C h₀ env ns (hideG Γ) R.hide [] s:=by
 have V:=S.var
 refine⟨S.base,fun b o e q=>S.nb b o e (by rw[hide_bad]at q;exact q),⟨V.kind,V.names,V.glob,V.blt,?_,?_,V.inj⟩,⟨rfl,fun r i a l e=>?_,by rw[hide_bad];exact S.hdr.nod,fun p hp=>?_,S.hdr.tabs⟩,fun p hp=>?_,S.fresh⟩
 ·obtain⟨n0,hm,hall⟩:=V.loc
  exact⟨n0,hm,fun x hx=>let ⟨sl,e,q⟩:=hall x hx;⟨hideSlot sl,by rw[hide_lookup,e];rfl,q.hide⟩⟩
 ·intro x hx
  obtain⟨c,ov,sl,e1,e2,e3,q⟩:=V.cel x hx
  exact⟨c,ov,hideSlot sl,e1,e2,by rw[hide_lookup,e3];rfl,q.hide⟩
 ·simp[RC.hide]at e
 ·rcases mem_append.mp hp with q|q
  ·exact S.hdr.own p q
  ·obtain⟨p',hp',rfl⟩:=mem_map.mp q
   obtain⟨r,hr⟩:=List.mem_iff_getElem?.mp hp'
   have hlt:=(List.getElem?_eq_some_iff.mp hr).1
   rw[S.hdr.len]at hlt
   obtain⟨_,_,vs,⟨n,ho⟩,_⟩:=S.hdr.at_ r p'.1 p'.2 _ hr (List.getElem?_eq_some_iff.mpr ⟨hlt,rfl⟩)
   exact⟨_,ho,_,n,rfl⟩
 ·simp[RC.hide]at hp
theorem HsR.tables {h h':Heap} {hs:HS} (H:HsR C h R hs) (k:Kept (R.tk.X.map (·.1)) h h') (t:TabInv h' R.tk.X):HsR C h' R hs:=by
 have nod:=List.nodup_append.mp H.nod
 have nod2:=List.nodup_append.mp nod.2.1
 have sub:∀b∈R.tk.X.map (·.1),b∈R.bad:=fun b q=>mem_append_right _ (mem_append_right _ q)
 refine⟨H.len,fun r i a l e1 e2=>?_,H.nod,fun p hp=>?_,t⟩
 ·obtain⟨n,⟨ep,hsh,tt,h1,h2,h3,h4⟩,vs,⟨n0,ho⟩,hv⟩:=H.at_ r i a l e1 e2
  refine⟨n,⟨ep,hsh,tt,h1,h2,k _ _ (fun q=>h1 (sub _ q)) h3,k _ _ (fun q=>h2 (sub _ q)) h4⟩,vs,⟨n0,k _ _ (fun q=>?_) ho⟩,VRs.step (R:=R) (R':=R) (k.mono sub) rfl (fun ux ux e=>e) (fun ux ux q ux=>q) _ _ hv⟩
  exact nod2.2.2 a (mem_map.mpr ⟨(i,a),mem_of_getElem? e1,rfl⟩) a q rfl
 ·obtain⟨o,ho,rr⟩:=H.own p hp
  exact⟨o,k _ _ (fun q=>nod.2.2 p.2 (mem_map.mpr ⟨p,hp,rfl⟩) p.2 (mem_append_right _ q) rfl) ho,rr⟩
theorem PostW.unhide {hs:HS} (H:HsR C s.heap R hs) {l:List V} (hp:l.all (pv 8)=true) {v:Value} {s':Shared} (p:PostW C s R.hide (.f l) [] v s'):PostW C s R (.f l) hs v s':=by
 obtain⟨R1,T,n,a,vs,e,h1,h2,h3,h4⟩:=p
 obtain⟨e1,e2,ext,e3,_⟩:=T.st
 have hb:∀b∈R.bad,b∈R1.bad:=by
  intro b q
  rw[←hide_bad]at q
  rcases mem_append.mp q with q|q
  ·exact mem_append_left _ (by rw[e2];exact q)
  ·exact mem_append_right _ (T.st.sub b q)
 have kt:Kept (R.tk.X.map (·.1)) s.heap s'.heap:=T.kp.mono (by simp[RC.hide,RC.hl])
 have tt:TabInv s'.heap R.tk.X:=by have:=T.hd.tabs;rw[e1]at this;exact this
 refine⟨R,⟨StepR.refl _ _,T.go,kt.mono fun b q=>mem_append_right _ q,H.tables kt tt⟩,n,a,vs,e,h1,fun q=>h2 (hb _ q),h3,?_⟩
 refine VRs.pure (R:=R.with "" a) (R':=R1.with "" a) e1.symm (fun b q=>?_) 8 l vs hp h4
 rcases with_bad.mp q with q|q
 ·exact with_bad.mpr (.inl q)
 ·exact with_bad.mpr (.inr (hb _ q))
structure ClsRec (h₀:Heap) (K:Frag) (C:Addr) (cv:Str) (fc:Addr):Prop where
 X:K.In h₀
 ga:findIn K (.ref C) "__getattribute__"=some (some (.builtin "object.__getattribute__"))
 gt:findIn K (.ref C) "__getattr__"=some none
 dict:hasDictIn K C=true
 hdr:findIn K (.ref C) "_headers"=some none
 conv:findIn K (.ref C) cv=some (some (.ref fc))
 fn:typeIn K (.ref fc)=some (.type "function")
 ne:cv≠("_headers":Str)
theorem HdrAt.inst {h:Heap} {i:Addr×Addr} {a:Addr} {l:List (Str×Str)} (H:HdrAt C h R i a l):∃hsh t n,InstAt h i.1 (instObj C i.2) C (some (dictOf [⟨hsh,.str "_headers" t,.ref a⟩] n)):=by
 obtain⟨_,⟨n,hsh,t,_,_,h3,h4⟩,_⟩:=H
 exact⟨hsh,t,n,h3,rfl,rfl,h4⟩
theorem HsR.get {h:Heap} {hs:HS} (H:HsR C h R hs) {r:Nat} {i:Addr×Addr} {a:Addr} (e:R.ρ[r]? =some (i,a)):∃l,hs[r]? =some l∧HdrAt C h R i a l:=by
 have hlt:=(List.getElem?_eq_some_iff.mp e).1
 rw[H.len]at hlt
 exact⟨hs[r],List.getElem?_eq_some_iff.mpr ⟨hlt,rfl⟩,H.at_ r i a _ e (List.getElem?_eq_some_iff.mpr ⟨hlt,rfl⟩)⟩
theorem shadow_none {name:Str} (hne:name≠("_headers":Str)) (hsh:Int) (t:Tok) (a:Addr) (n:Nat):shadowIn (some (dictOf [⟨hsh,.str "_headers" t,.ref a⟩] n)) name=some false:=by
 delta shadowIn lookIn
 dsimp only
 have h1:(Value.str ("_headers":Str) t).isStr name=false:=by
  show((Str.ofString "_headers")==name)=false
  simp;exact fun q=>hne q.symm
 simp[List.find?,h1,DictEntry.refKey]
section
variable {K:Frag} {cv self:Str} {fc:Addr} {ns:Names} {Γ:Gam} {hs hs1:HS} {p1 p2 p3 p4 p5:Pos} {r:Nat} {i:Addr×Addr} {a:Addr} {env:Env}
theorem self_ok (S:SI m.C m.h₀ env ns Γ R hs s) (hl:ns.lookup self=some .local) (hΓ:Γ.lookup self=some (.p (.hdr r))) (hd:isDbg self=false) (hρ:R.ρ[r]? =some (i,a)) {Q E:Value→Shared→Prop} (h:Q (.ref i.1) s):wpAny m.M A (eval (.Name self p1) env) Q E s:=by
 obtain⟨f,hm,hall⟩:=S.var.loc
 obtain⟨sl,e,q⟩:=hall _ hl
 rw[hΓ]at e;cases e
 obtain⟨val,hv,i',a',e',rfl⟩:=q
 rw[hρ]at e';cases e'
 exact wpAny_Name (wpAny_loadName_local S.var.kind (S.kind.trans hl) hm hv h) hd
theorem headers_ok (F:ClsRec m.h₀ K m.C cv fc) (S:SI m.C m.h₀ env ns Γ R hs s) (hl:ns.lookup self=some .local) (hΓ:Γ.lookup self=some (.p (.hdr r))) (hd:isDbg self=false) (hρ:R.ρ[r]? =some (i,a)) {Q E:Value→Shared→Prop} (h:Q (.ref a) { s with toks:=s.toks+1 }):
 wpAny m.M A (eval (.Attribute (.Name self p1) "_headers" p2) env) Q E s:=by
 obtain⟨l,hl',H⟩:=S.hdr.get hρ
 obtain⟨hsh,t,n,I⟩:=H.inst
 exact Attribute_name (self_ok S hl hΓ hd hρ (get_value (F.X.keeps S.base) I F.ga (findObj_own F.dict F.hdr rfl rfl) rfl h))
theorem ev_conv (O:m.Ok) {fd:FuncData} {q1 q2:Addr} (F:ClsRec m.h₀ K m.C cv fc) (CR:ConvRec m fc fd q1 q2) {kd:Nat} (hl:ns.lookup self=some .local) (hΓ:Γ.lookup self=some (.p (.hdr r))) (hd:isDbg self=false) (hline:(p2.endLine==p3.line)=true)
 {e:Expr} (hst:isSt e=false) {x:Str} {b:Bool} (hok:okText x (!b)=true) (he:EvR m k ns Γ hs e (.p (.str x)) hs1):
 EvR m k ns Γ hs (.Call (.Attribute (.Name self p1) cv p2) [e] [⟨some ("name":Str),.Constant (.bool b) kd p4,p5⟩] p3) (.p (.str x)) hs1:=fun A env R s hA t0 S=>by
 have hρ:∃i a,R.ρ[r]? =some (i,a):=by
  obtain⟨f,hm,hall⟩:=S.var.loc
  obtain⟨sl,e,q⟩:=hall _ hl
  rw[hΓ]at e;cases e
  obtain⟨val,hv,i',a',e',_⟩:=q
  exact⟨i',a',e'⟩
 obtain⟨i,a,hρ⟩:=hρ
 obtain⟨l,hl',H⟩:=S.hdr.get hρ
 obtain⟨hsh,t,n,I⟩:=H.inst
 rw[arm_eval_Call,attr_base rfl]
 refine wpAny_bind (self_ok S hl hΓ hd hρ ?_)
 refine wpAny_bind (wpAny_standAt ?_)
 have hform:methodCallForm ([e].length+[(⟨some ("name":Str),.Constant (.bool b) kd p4,p5⟩:Keyword)].length) (backTo p3 (starEach [e] env)) (backToKw p3 (keywordEach [⟨some ("name":Str),.Constant (.bool b) kd p4,p5⟩] env))=true:=by
  unfold methodCallForm
  have h1:=plain_back (env:=env) (es:=[e]) (plain_cons hst rfl) p3
  rw[List.any_eq_false]at h1
  have h2:(backTo p3 (starEach [e] env)).all (!·.1)=true:=by
   refine Iff.mpr (all_eq_true) ?_;intro x hx;simpa using h1 x hx
  simp only[h2]
  rfl
 have hpos:methodCallPos true (.Name self p1) env p2 p3=pure p3:=by unfold methodCallPos;simp[hline]
 unfold methodCall
 refine(hform)▸ ?_
 refine wpAny_bind (wpAny_holding (method_fn (F.X.keeps S.base) I F.ga F.gt F.conv F.fn (shadow_none F.ne ..) ?_))
 refine wpAny_bind (wpAny_of_eq hpos ?_)
 obtain⟨o,ho,hdat⟩:=CR.at_
 refine callWith_function_kw (o:=o) (fd:=fd) (evalArgs_kw2 rfl ?_ (star_false hst))
 refine args_cons (noE (he A env R s hA t0 S) fun v1 s1 ⟨R1,T1,hx,u,r1⟩=>args_nil ?_) (star_false hst)
 subst r1
 refine kwAll_cons (wpAny_Constant_bool (kwAll_nil ?_))
 have S1:=S.tr T1
 exact⟨⟨S1.base _ _ ho,hdat⟩,conv_ok O CR (by have:=hA.dp;exact Nat.lt_of_add_right_lt this) S1.base hx hok fun h' n hk=>⟨R1,T1.trans (Tr.own T1.hd ⟨_,_,rfl⟩ (Kept.all hk)),hx,_,rfl⟩⟩
end
end
theorem kvs_pure:∀l:List (Str×Str),(kvs l).all (pv 8)=true:=by
 intro v0_
 induction v0_ with
 |nil=>
  exact rfl
 |cons p r ih_=>
  have ih:=ih_
  show(pv 8 (.tup [.str p.1,.str p.2])&&(kvs r).all (pv 8))=true
  refine Eq.trans (congrArg _ (ih)) ?_;rfl
section
variable {m:Mod} {k:Nat} {K:Frag} {cv self nm:Str} {fc:Addr} {ns:Names} {Γ:Gam} {hs:HS} {r:Nat} {l:List (Str×Str)} {elt t:Expr} {ifs:List Expr} {sc:Scope} {res:List V}
theorem ev_hcomp (F:ClsRec m.h₀ K m.C cv fc) {p1 p2 pos:Pos} (hl:ns.lookup self=some .local) (hΓ:Γ.lookup self=some (.p (.hdr r))) (hd:isDbg self=false) (hr:hs[r]? =some l)
 (htgt:∀x∈tNames t,isV (sc.names.lookup x)) (hsc:ScOk ns sc) (hany:anyT (ownNames sc.names++hideG Γ) t) (hnone:(ownNames sc.names++hideG Γ).lookup ("":Str)=none)
 (em:MapR (TurnR m k (relab ns sc.names) t ifs (GenR m k (relab ns sc.names) elt []) (ownNames sc.names++hideG Γ)) (kvs l) [] res []) (hp:res.all (pv 8)=true) (hz:res.length≤sizeLine):
 EvR m k ns Γ hs (.ListComp elt [⟨t,.Attribute (.Name self p1) "_headers" p2,ifs,0⟩] sc pos) (.f res) hs:=fun A env R s hA t0 S=>by
 refine hid fun G_ k_=>?_
 have hρ:∃i a,R.ρ[r]? =some (i,a):=by
  have hlt:=(List.getElem?_eq_some_iff.mp hr).1
  rw[←S.hdr.len]at hlt
  exact⟨_,_,List.getElem?_eq_some_iff.mpr ⟨hlt,rfl⟩⟩
 obtain⟨i,a,hρ⟩:=hρ
 obtain⟨l',hl',hlen,_,vs,hpl,hv⟩:=S.hdr.get hρ
 rw[hr]at hl';cases hl'
 refine k_ ?_
 refine noE ?_ fun v s' (p:PostW m.C s R.hide (.f res) [] v s')=>p.unhide S.hdr hp
 simp only[eval_ListComp]
 refine wpAny_comprehension_free (use:=none) rfl (fun x=>rfl) (comp_closure S.var hsc) hsc.kind (fun x hx hl=>?_) ?_
 ·obtain⟨n,k0⟩:=x;cases hl;exact hsc.loc n hx
 ·have hit:wpAny m.M A (eval (.Attribute (.Name self p1) "_headers" p2) env) (PostW m.C s R.hide (.o (kvs l)) []) NoE s:=
   headers_ok F S hl hΓ hd hρ ⟨R.hide,Tr.own S.hide.hdr ⟨_,_,rfl⟩ (Kept.refl _ _),by simpa[kvs]using hlen,"",a,vs,rfl,mem_append_right _ (mem_map.mpr ⟨(i,a),mem_of_getElem? hρ,rfl⟩),hpl,hv.hide (kvs_pure l)⟩
  exact comp_core (R:=R.hide) (hs:=[]) (Q:=fun acc cl=>compPost m.M A NoE none (PostW m.C s R.hide (.f res) []) acc cl) hA t0 S.hide rfl (fun g hg=>by
   rcases mem_cons.mp hg with rfl|hg
   ·exact htgt
   ·cases hg) hsc hany hnone hit .o em hz fun acc cl s' R' ce=>by
   obtain⟨f,hm⟩:=ce.ns
   exact⟨f,hm,fun h' hs=>ce.drop hs⟩
theorem st_conv (O:m.Ok) {fd:FuncData} {g1 g2:Addr} (F:ClsRec m.h₀ K m.C cv fc) (CR:ConvRec m fc fd g1 g2) {q1 q2 q3 q7 q8 q9 q10:Pos} {kd:Nat} {e:Expr} (hl:ns.lookup self=some .local) (hΓ:Γ.lookup self=some (.p (.hdr r))) (hd:isDbg self=false) (hline:(q3.endLine==q9.line)=true)
 (hst:isSt e=false) {y:Str} {b:Bool} (hok:okText y (!b)=true) (he:EvR m k ns Γ hs e (.p (.str y)) hs) (hnm:isVar ns nm=true):
 StR m k ns Γ hs (.Assign [.Name nm q1] (.Call (.Attribute (.Name self q2) cv q3) [e] [⟨some ("name":Str),.Constant (.bool b) kd q7,q8⟩] q9) q10) .nx (setG nm (.p (.str y)) Γ) hs:=
 st_asn rfl (ev_conv O F CR hl hΓ hd hline hst hok he) hnm .p
end
section
variable {s₀ s:Shared} {L:Addr} {n0 cm:Str→Option Value} {cs:List (Str×Addr)}
theorem icc_grow (x:InCallC s₀ L n0 cs cm s) {h':Heap} {n:Nat} (k:∀b o,s.heap.get? b=some o→h'.get? b=some o):InCallC s₀ L n0 cs cm { s with heap:=h',toks:=n }:=by
 refine⟨⟨?_,x.toInCall.ns.keeps k,fun b o e=>k b o (x.toInCall.keep b o e),x.toInCall.fresh⟩,fun y c hc=>(x.cell y c hc).keeps k,x.apart,x.above⟩
 obtain⟨h₁,tk,rfl⟩:=x.toInCall.same
 exact⟨h',n,rfl⟩
theorem icc_turn (x:InCallC s₀ L n0 cs cm s) {h':Heap} {n:Nat} {D:Addr} (hs:Heap.SameBut D s.heap h') (hD:s₀.heap.get? D=none) (hl:∃vs,s.heap.PlainList D vs):InCallC s₀ L n0 cs cm { s with heap:=h',toks:=n }:=by
 obtain⟨vs,e,ho⟩:=hl
 refine⟨⟨?_,x.toInCall.ns.sameBut hs ?_,fun b o q=>hs.extBut b o (fun q'=>by rw[q',hD]at q;cases q) (x.toInCall.keep b o q),x.toInCall.fresh⟩,fun y c hc=>(x.cell y c hc).sameBut hs ?_,x.apart,x.above⟩
 ·obtain⟨h₁,tk,rfl⟩:=x.toInCall.same
  exact⟨h',n,rfl⟩
 ·obtain⟨o,es,ep,hL,hd,_⟩:=x.toInCall.ns
  intro q;rw[q,ho]at hL;cases hL;cases hd
 ·obtain⟨o,hc',hd⟩:=x.cell y c hc
  intro q;rw[q,ho]at hc';cases hc';cases hd
theorem icc_ns (x:InCallC s₀ L n0 cs cm s) {h':Heap} {n:Nat} {n1:Str→Option Value} (hn:h'.Ns L n1) (k:∀b o,b≠L→s.heap.get? b=some o→h'.get? b=some o):InCallC s₀ L n1 cs cm { s with heap:=h',toks:=n }:=by
 refine⟨⟨?_,hn,fun b o q=>k b o (Nat.ne_of_lt (Nat.lt_of_lt_of_le (Heap.lt_size q) x.toInCall.fresh)) (x.toInCall.keep b o q),x.toInCall.fresh⟩,fun y c hc=>?_,x.apart,x.above⟩
 ·obtain⟨h₁,tk,rfl⟩:=x.toInCall.same
  exact⟨h',n,rfl⟩
 ·obtain⟨o,ho,hd⟩:=x.cell y c hc
  exact⟨o,k c o (Nat.ne_of_gt (x.above y c (mem_of_lookup hc))) ho,hd⟩
end
section
variable {m:Mod} {k:Nat} {A:Around} {s:Shared} {R:RC}
theorem HsR.turn {C:Addr} {h h':Heap} {hs:HS} (H:HsR C h R hs) {a:Addr} (hsb:Heap.SameBut a h h') {r:Nat} {i:Addr×Addr} (hρ:R.ρ[r]? =some (i,a)) {l':List (Str×Str)} (hz:l'.length≤sizeLine)
 {vs:List Value} (hp:h'.PlainList a vs.toArray) (hv:VRs h R (kvs l') vs):HsR C h' R (setHs hs r l'):=by
 have hal:a∈R.hl:=mem_append_left _ (mem_map.mpr ⟨(i,a),mem_of_getElem? hρ,rfl⟩)
 have kb:Kept R.bad h h':=Kept.same hsb (hl_bad a hal)
 have nod:=List.nodup_append.mp H.nod
 have step:∀l vs,VRs h R l vs→VRs h' R l vs:=fun l vs q=>VRs.step (R:=R) (R':=R) kb rfl (fun ux ux e=>e) (fun ux ux q ux=>q) _ _ q
 refine⟨by unfold setHs;rw[length_set];exact H.len,fun r' i' a' l e1 e2=>?_,H.nod,fun p hp=>?_,H.tabs.at fun b ob q1 _ ⟨us,q3⟩=>hsb.extBut b ob (fun e=>by
  obtain⟨_,_,_,_,vs0,⟨m0,ho0⟩,_⟩:=H.get hρ
  rw[e,ho0]at q1;cases q1;cases q3) q1⟩
 ·unfold setHs at e2
  by_cases hr:r'=r
  ·subst hr
   rw[hρ]at e1;cases e1
   have hlt:=(List.getElem?_eq_some_iff.mp hρ).1
   rw[H.len]at hlt
   rw[List.getElem?_set_self hlt]at e2
   cases e2
   obtain⟨l0,hl0,n,⟨ep,hsh,t,h1,h2,h3,h4⟩,_⟩:=H.get hρ
   exact⟨hz,⟨ep,hsh,t,h1,h2,hsb.extBut _ _ (fun q=>h1 (q▸hl_bad a hal)) h3,hsb.extBut _ _ (fun q=>h2 (q▸hl_bad a hal)) h4⟩,vs,hp,step _ _ hv⟩
  ·rw[List.getElem?_set_ne (fun q=>hr q.symm)]at e2
   obtain⟨n,⟨ep,hsh,t,h1,h2,h3,h4⟩,us,⟨n0,ho⟩,hu⟩:=H.at_ r' i' a' l e1 e2
   have hne:a'≠a:=by
    intro q
    have n2:=(List.nodup_append.mp nod.2.1).1
    have g1:(R.ρ.map (·.2))[r']? =some a:=by simp[e1,q]
    have g2:(R.ρ.map (·.2))[r]? =some a:=by simp[hρ]
    have hlt:=(List.getElem?_eq_some_iff.mp g1).1
    exact hr ((List.getElem?_inj hlt n2).mp (g1.trans g2.symm))
   exact⟨n,⟨ep,hsh,t,h1,h2,hsb.extBut _ _ (fun q=>h1 (q▸hl_bad a hal)) h3,hsb.extBut _ _ (fun q=>h2 (q▸hl_bad a hal)) h4⟩,us,⟨n0,hsb.extBut _ _ hne ho⟩,step _ _ hu⟩
 ·obtain⟨o,ho,rr⟩:=H.own p hp
  exact⟨o,hsb.extBut _ _ (fun q=>nod.2.2 p.2 (mem_map.mpr ⟨p,hp,rfl⟩) a hal q) ho,rr⟩
theorem st_by {M:Model} {E:Value→Shared→Prop} {s₀:Shared} {n0 cm:Str→Option Value} {env:Env} {n:Str} {v:Value} {Q:Unit→Shared→Prop} (x:InCallC s₀ env.locals n0 env.cells cm s) (hk:env.scope.kind= .function) (hl:env.kindOf n=some .local)
 (h:∀h' k,InCallC s₀ env.locals (fun y=>if y=n then some v else n0 y) env.cells cm { s with heap:=h',toks:=k }→Heap.SameBut env.locals s.heap h'→Q () { s with heap:=h',toks:=k }):wpAny M A (storeName env n v) Q E s:=by
 refine wpAny_storeName_local hl x.toInCall.ns (fun h' hn' hs'=>h _ _ ⟨⟨?_,hn',fun b o e=>?_,x.toInCall.fresh⟩,fun k c hc=>?_,x.apart,x.above⟩ hs') (by rw[hk];rfl)
 ·obtain⟨h₁,tk,rfl⟩:=x.toInCall.same
  exact⟨h',_,rfl⟩
 ·exact hs'.extBut b o (Nat.ne_of_lt (Nat.lt_of_lt_of_le (Heap.lt_size e) x.toInCall.fresh)) (x.toInCall.keep b o e)
 ·exact(x.cell k c hc).sameBut hs' (Nat.ne_of_gt (x.above k c (mem_of_lookup hc)))
theorem conv_cps (O:m.Ok) {K:Frag} {cv:Str} {fc:Addr} {fd:FuncData} {q1 q2:Addr} (F:ClsRec m.h₀ K m.C cv fc) (CR:ConvRec m fc fd q1 q2) {env:Env} {self:Str} {p1 p2 p3 p4 p5:Pos} {kd:Nat} {i:Addr×Addr} {od:Obj} (hroom:A.depth<recursionLimit)
 (hk:∀b o,m.h₀.get? b=some o→s.heap.get? b=some o) (I:InstAt s.heap i.1 (instObj m.C i.2) m.C (some od)) (hsh:shadowIn (some od) cv=some false) (hline:(p2.endLine==p3.line)=true) {e:Expr} (hst:isSt e=false) {x:Str} {t:Tok} {b:Bool} (hok:okText x (!b)=true) (hx:x.length≤sizeLine)
 (hself:∀Q:Value→Shared→Prop,Q (.ref i.1) s→wpAny (m.M) A (eval (.Name self p1) env) Q NoE s) (he:∀Q:Value→Shared→Prop,Q (.str x t) s→wpAny (m.M) A (eval e env) Q NoE s)
 {Q:Value→Shared→Prop} (h:∀h' n,(∀b o,s.heap.get? b=some o→h'.get? b=some o)→Q (.str x t) { s with heap:=h',toks:=n }):
 wpAny (m.M) A (eval (.Call (.Attribute (.Name self p1) cv p2) [e] [⟨some ("name":Str),.Constant (.bool b) kd p4,p5⟩] p3) env) Q NoE s:=by
 (simp only[arm_eval_Call];rw[attr_base rfl])
 refine wpAny_bind (hself _ ?_)
 refine wpAny_bind (wpAny_standAt ?_)
 have hform:methodCallForm ([e].length+[(⟨some ("name":Str),.Constant (.bool b) kd p4,p5⟩:Keyword)].length) (backTo p3 (starEach [e] env)) (backToKw p3 (keywordEach [⟨some ("name":Str),.Constant (.bool b) kd p4,p5⟩] env))=true:=by
  unfold methodCallForm
  have h1:=plain_back (env:=env) (es:=[e]) (plain_cons hst rfl) p3
  rw[List.any_eq_false]at h1
  have h2:(backTo p3 (starEach [e] env)).all (!·.1)=true:=by
   refine Iff.mpr (all_eq_true) ?_;intro x hx;simpa using h1 x hx
  rw[h2]
  rfl
 have hpos:methodCallPos true (.Name self p1) env p2 p3=pure p3:=by unfold methodCallPos;simp[hline]
 unfold methodCall
 refine(hform)▸ ?_
 refine wpAny_bind (wpAny_holding (method_fn (F.X.keeps hk) I F.ga F.gt F.conv F.fn hsh ?_))
 refine wpAny_bind (wpAny_of_eq hpos ?_)
 obtain⟨o,ho,hdat⟩:=CR.at_
 refine callWith_function_kw (o:=o) (fd:=fd) (evalArgs_kw2 rfl ?_ (star_false hst))
 refine args_cons (he _ (args_nil ?_)) (star_false hst)
 refine kwAll_cons (wpAny_Constant_bool (kwAll_nil ?_))
 exact⟨⟨hk _ _ ho,hdat⟩,conv_ok O CR hroom hk hx hok h⟩
end
structure AddRec (h₀:Heap) (a:Addr) (fd:FuncData):Prop where
 at_:∃o,h₀.get? a=some o∧o.data= .func fd
 code:h₀.CodeRec fd.code fd.qualname
 clo:fd.closure=[]
 scope:fd.scope=(PC "add_header").scope
 body:fd.body= .stmts (PC "add_header").body
 bind:∀v x y,bindArgs fd ⟨[v,x,y],[]⟩=(alloc { cls:= .type "dict",data:= .dict #[] }>>=fun d=>pure [(("self":Str),v),(("_name":Str),x),(("_value":Str),y),(("_params":Str),.ref d)])
section
variable {m:Mod} {k:Nat} {A:Around} {s:Shared} {R:RC}
theorem join_one {sep x:Str}:Txt.join sep [x]=x:=by
 show glued sep [x]=x
 rw[StrLaws.glued_eq_join];rfl
theorem join_call {D:Addr} {sep v:Str} {t2 tk:Tok} (hp:s.heap.PlainList D #[.str v t2]) (w:JoinOk sep [v]=true) {Q:Value→Shared→Prop} (h:∀t k,Q (.str v t) { s with toks:=k }):wpAny (m.M) A (call (.builtin "str.join") [.str sep tk,.ref D]) Q NoE s:=by
 have hjoin:tooLong (([(v,t2)].map (·.1)).toArray.foldl (· +·.length+sep.length) 0)=false:=by
  unfold JoinOk at w
  rw[Bool.not_eq_true']at w
  exact w
 refine call_meets PySem.F.slot_str_join (typeIs_str _ _ _) PySem.F.entry_str_join (PySem.F.args_str_join_2 _ _) (meets_str_join_list sep _ D [(v,t2)] hjoin) ⟨hp.isList,?_⟩
 refine post_join [(v,t2)] ⟨joinFit_length hjoin,fun t' k9=>?_⟩
 rw[show([(v,t2)].map (·.1))=[v]from rfl,join_one]
 exact h t' k9
set_option maxHeartbeats 2000000 in
theorem addheader_ok (O:m.Ok) (hsm:∃o,m.h₀.get? sysModules=some o) {K:Frag} {fc:Addr} {fd0:FuncData} {q1 q2:Addr} (F:ClsRec m.h₀ K m.C "_convert_string_type" fc) (CR:ConvRec m fc fd0 q1 q2) {a:Addr} {fd:FuncData} (AR:AddRec m.h₀ a fd)
 {r:Nat} {n v:Str} {hs:HS} {l:List (Str×Str)} (hr:hs[r]? =some l) (w1:okText n false=true) (w2:okText v true=true) (w3:JoinOk ("; ":Str) [v]=true) (w4:room (l.length+1)=true)
 (hA:A.handled=none) (hroom:A.depth+1<recursionLimit) (B:Base m.h₀ m.tk R s) (H:HsR m.C s.heap R hs) {i:Addr×Addr} {b:Addr} (hρ:R.ρ[r]? =some (i,b)) {vals:List Value} (hv:VRs s.heap R [.str n,.str v] vals):
 wpAny (m.M) A (call (.ref a) (.ref i.1::vals)) (PostW m.C s R (.p .none) (setHs hs r (l++[(n,v)]))) NoE s:=by
 have hb:(PC "add_header").body=(PC "add_header").body:=rfl
 conv at hb=>rhs;whnf
 generalize hQ:PostW m.C s R (.p .none) (setHs hs r (l++[(n,v)]))=Q
 obtain⟨o,ho,hdata⟩:=AR.at_
 obtain⟨v1,vr1,rfl,⟨hn1,t1,rfl⟩,v2,vr2,rfl,⟨hn2,t2,rfl⟩,rfl⟩:=hv
 refine call_argsV (Nat.lt_of_succ_lt hroom) (B.base _ _ ho) hdata (O.limit.keeps B.base) (AR.code.keeps B.base) (AR.body.trans (congrArg _ hb)) AR.clo (by rw[AR.scope];kernel_rfl) (by rw[AR.scope];kernel_rfl) (by rw[AR.scope];kernel_rfl) ?_
 rw[AR.bind,AR.scope]
 refine wpAny_bind (wpAny_alloc (wpAny_pure ?_))
 have up0:∀b o,s.heap.get? b=some o→(s.heap.push { cls:= .type "dict",data:= .dict #[] }).get? b=some o:=fun b o q=>Heap.get?_push_of_some _ q
 refine⟨up0,fun y hy=> .inl ?_,fun env s₁ kn kk ux ux I=>?_⟩
 ·simp only[mem_cons,not_mem_nil,or_false]at hy
  rcases hy with rfl|rfl|rfl|rfl<;>kernel_rfl
 have hroom:(A.deeper env).depth<recursionLimit:=hroom
 generalize hAd:A.deeper env=A' at hroom ⊢
 have hA:A'.handled=none:=by rw[←hAd];exact hA
 clear hAd
 generalize hs':({ s with heap:=s.heap.push { cls:= .type "dict",data:= .dict #[] } }:Shared)=s' at I ⊢
 have hd':s'.heap.get? s.heap.objs.size=some { cls:= .type "dict",data:= .dict #[] }:=by rw[←hs'];exact Heap.get?_push_size _ rfl
 have up:∀b o,s.heap.get? b=some o→s'.heap.get? b=some o:=by rw[←hs'];exact up0
 have hdn:s.heap.get? s.heap.objs.size=none:=size_none _
 clear up0 hb ho hdata
 generalize s.heap.objs.size=d at I hd' hdn ⊢
 have hup:∀{n0 cm} {s2:Shared},InCallC s' env.locals n0 env.cells cm s2→∀b o,s.heap.get? b=some o→s2.heap.get? b=some o:=fun I2 b o q=>I2.toInCall.keep b o (up b o q)
 refine hid fun G_ k_=>?_
 obtain⟨l',hl',HA⟩:=H.get hρ
 rw[hr]at hl';cases hl'
 have HAk:∀{h2:Heap},(∀b o,s.heap.get? b=some o→h2.get? b=some o)→HdrAt m.C h2 R i b l:=fun kk=>HA.keep (Kept.all kk)
 refine k_ ?_
 refine wpAny_execs_cons (wpAny_Assign_Name (wpAny_List (args_nil ⟨by simp,?_⟩)) rfl)
 have hDn:s₁.heap.get? s₁.heap.objs.size=none:=size_none _
 generalize hD:s₁.heap.objs.size=D at hDn ⊢
 have hDl:(s₁.heap.push { cls:= .type "list",data:= .seq ([]:List Value).toArray }).get? D=some { cls:= .type "list",data:= .seq ([]:List Value).toArray }:=by rw[←hD];exact Heap.get?_push_size _ rfl
 have I1:=icc_grow I (h':=s₁.heap.push { cls:= .type "list",data:= .seq ([]:List Value).toArray }) (n:=s₁.toks) (fun b o q=>Heap.get?_push_of_some _ q)
 have hDs':s'.heap.get? D=none:=by
  cases q:s'.heap.get? D with
  |none=>rfl
  |some o=>rw[I.toInCall.keep _ _ q]at hDn;cases hDn
 have hLlt:env.locals<D:=by
  refine hid fun G_ k_=>?_
  obtain⟨oL,es,ep,hoL,_⟩:=I.toInCall.ns
  refine k_ ?_
  rw[←hD];exact Heap.lt_size hoL
 refine st_by I1 kk (by rw[kn];kernel_rfl) fun h2 k2' I2 sb2=>?_
 have hD2:h2.get? D=some { cls:= .type "list",data:= .seq ([]:List Value).toArray }:=sb2.extBut D _ (Nat.ne_of_gt hLlt) hDl
 show wpAny _ _ (execs _ env) _ _ _
 refine wpAny_execs_cons (wpAny_If (wpAny_isTrue_Compare1 (NameLC I2 kk (by rw[kn];kernel_rfl) (v:= .str v t2) (by kernel_rfl) (wpAny_Constant_none (wpAny_isNot_other rfl (by simp) (wpAny_truthy_bool ?_))) (by decide +kernel)) rfl))
 show wpAny _ _ (execs _ env) _ _ _
 obtain⟨hsh2,tk2,ep2,J2⟩:=(HAk (hup I2)).inst
 refine wpAny_execs_cons (wpAny_Assign_Name (conv_cps O F CR hroom (fun b o q=>hup I2 b o (B.base b o q)) J2 (shadow_none F.ne ..) (by kernel_rfl) rfl w2 hn2 (fun Q q=>NameLC I2 kk (by rw[kn];kernel_rfl) (v:= .ref i.1) (by kernel_rfl) q (by decide +kernel)) (fun Q q=>NameLC I2 kk (by rw[kn];kernel_rfl) (v:= .str v t2) (by kernel_rfl) q (by decide +kernel)) fun h3 k3' up3=>?_) rfl)
 have I3:=icc_grow I2 (n:=k3') up3
 have hD3:=up3 _ _ hD2
 refine st_by I3 kk (by rw[kn];kernel_rfl) fun h4 k4' I4 sb4=>?_
 have hD4:h4.get? D=some { cls:= .type "list",data:= .seq ([]:List Value).toArray }:=sb4.extBut D _ (Nat.ne_of_gt hLlt) hD3
 show wpAny _ _ (execs _ env) _ _ _
 have hpl4:h4.PlainList D ([]:List Value).toArray:=⟨_,hD4⟩
 refine wpAny_execs_cons (wpAny_Expr_any (method_go rfl rfl (by simp) (by kernel_rfl) (NameLC I4 kk (by rw[kn];kernel_rfl) (v:= .ref D) (by kernel_rfl) ?_ (by decide +kernel))) (by unfold interactive;rw[kk];rfl) rfl)
 refine getMethod_builtin hpl4.isList.typeIs PySem.F.plainAttrs_list slot_list_append PySem.F.type_list_append (fun b e=>by cases e;exact⟨_,hD4,rfl⟩) ?_
 refine callB rfl (args_cons (NameLC I4 kk (by rw[kn];kernel_rfl) (v:= .str v t2) (by kernel_rfl) (args_nil ?_) (by decide +kernel)) rfl)
 refine wpAny_list_append_plain hpl4 (fun h5 hp5 sb5=>?_) (by exact Nat.zero_le _)
 have I5:=icc_turn I4 (n:=k4') sb5 hDs' ⟨_,hpl4⟩
 refine wpAny_execs_nil ?_
 show wpAny _ _ (execs _ env) _ _ _
 have hdS:(d==sysModules)=false:=by
  obtain⟨om,hom⟩:=hsm
  rw[beq_eq_false_iff_ne,ne_eq]
  intro q;rw[q,B.base _ _ hom]at hdn;cases hdn
 have hdL:d≠env.locals:=Nat.ne_of_lt (Nat.lt_of_lt_of_le (Heap.lt_size hd') I.toInCall.fresh)
 have hd5:h5.get? d=some { cls:= .type "dict",data:= .dict #[] }:=I5.toInCall.keep _ _ hd'
 refine wpAny_execs_cons (wpAny_For_items_locals (knd:=PySem.strKind m.prog m.w) (d:=d) (kvs:=[]) (ep:=0) (m:=_) hA (by rw[kn];kernel_rfl) (by rw[kn];kernel_rfl) (by rw[kk];rfl) hdL hdS ?_ I5.toInCall.ns rfl (by kernel_rfl)
  (fun Q' q=>NameLC I5 kk (by rw[kn];kernel_rfl) (v:= .ref d) (by kernel_rfl) q (by decide +kernel)) (fun ux n0'=>n0'=_) rfl (fun i k v key m₁ s₁ q=>by simp at q) (fun h6 k6 m6 hn6 hJ6 keep6=>?_))
 ·refine⟨_,#[],hd5,?_,rfl,?_,?_,?_⟩
  ·exact⟨rfl,rfl,rfl⟩
  ·exact fun e he=>by simp at he
  ·exact .nil
  ·simp
 rw[hJ6]at hn6
 have hup6:∀b o,s.heap.get? b=some o→h6.get? b=some o:=fun b o q=>keep6 b o (Nat.ne_of_lt (Nat.lt_of_lt_of_le (Heap.lt_size (up b o q)) I.toInCall.fresh)) (hup I5 b o q)
 have I6:=icc_ns I5 (h':=h6) (n:=k6) hn6 keep6
 have hp6:h6.PlainList D #[.str v t2]:=by
  obtain⟨e,ho⟩:=hp5
  exact⟨e,keep6 D _ (Nat.ne_of_gt hLlt) ho⟩
 show wpAny _ _ (execs _ env) _ _ _
 refine hid fun G_ k_=>?_
 obtain⟨hsh6,tk6,ep6,J6⟩:=(HAk hup6).inst
 obtain⟨hlen,_,us,hpb,hvb⟩:=HAk hup6
 refine k_ ?_
 refine wpAny_execs_cons (wpAny_Expr_any (method_go rfl rfl (by simp) (by kernel_rfl) (Attribute_name (NameLC I6 kk (by rw[kn];kernel_rfl) (v:= .ref i.1) (by kernel_rfl) (get_value (F.X.keeps fun b o q=>hup6 b o (B.base b o q)) J6 F.ga (findObj_own F.dict F.hdr rfl rfl) rfl ?_) (by decide +kernel)))) (by unfold interactive;rw[kk];rfl) rfl)
 refine getMethod_builtin (s:={ s₁ with heap:=h6,toks:=k6+1 }) hpb.isList.typeIs PySem.F.plainAttrs_list slot_list_append PySem.F.type_list_append (fun b e=>by cases e;obtain⟨e,ho⟩:=hpb;exact⟨_,ho,rfl⟩) ?_
 have I7:=icc_grow I6 (h':=h6) (n:=k6+1) (fun b o q=>q)
 refine callB rfl (args_cons (wpAny_Tuple (args_cons ?_ rfl)) rfl)
 refine conv_cps O F CR hroom (fun b o q=>hup6 b o (B.base b o q)) J6 (shadow_none F.ne ..) (by kernel_rfl) rfl w1 hn1 (fun Q q=>NameLC I7 kk (by rw[kn];kernel_rfl) (v:= .ref i.1) (by kernel_rfl) q (by decide +kernel)) (fun Q q=>NameLC I7 kk (by rw[kn];kernel_rfl) (v:= .str n t1) (by kernel_rfl) q (by decide +kernel)) fun h8 k8 up8=>?_
 have I8:=icc_grow I7 (h':=h8) (n:=k8) up8
 have hp8:h8.PlainList D #[.str v t2]:=by obtain⟨e,ho⟩:=hp6;exact⟨e,up8 _ _ ho⟩
 refine args_cons ?_ rfl
 refine method_go rfl rfl (by simp) (by kernel_rfl) (PySem.Calls.Constant_str ?_)
 refine getMethod_builtin (typeIs_str _ _ _) PySem.F.plainAttrs_str PySem.F.slot_str_join PySem.F.type_str_join (fun ux e=>nomatch e) ?_
 have I9:=icc_grow I8 (h':=h8) (n:=k8+1) (fun b o q=>q)
 refine callB rfl (args_cons (NameLC I9 kk (by rw[kn];kernel_rfl) (v:= .ref D) (by kernel_rfl) (args_nil ?_) (by decide +kernel)) rfl)
 refine join_call (sep:="; ") (s:={ s₁ with heap:=h8,toks:=k8+1 }) hp8 w3 fun t' k9=>?_
 refine args_nil ⟨by simp[sizeLine_eq],?_⟩
 have hup8:∀b o,s.heap.get? b=some o→h8.get? b=some o:=fun b o q=>up8 b o (hup6 b o q)
 have H8:HsR m.C h8 R hs:=H.keep (Kept.all hup8)
 have hT:(h8.push { cls:= .type "tuple",data:= .seq [Value.str n t1,Value.str v t'].toArray }).get? h8.objs.size=some { cls:= .type "tuple",data:= .seq [Value.str n t1,Value.str v t'].toArray }:=Heap.get?_push_size _ rfl
 have hTb:h8.objs.size∉R.bad:=size_bad H8
 generalize h8.objs.size=T at hT hTb ⊢
 have hup9:∀b o,s.heap.get? b=some o→(h8.push { cls:= .type "tuple",data:= .seq [Value.str n t1,Value.str v t'].toArray }).get? b=some o:=fun b o q=>Heap.get?_push_of_some _ (hup8 b o q)
 generalize (h8.push { cls:= .type "tuple",data:= .seq [Value.str n t1,Value.str v t'].toArray })=h9 at hT hup9 ⊢
 have H9:HsR m.C h9 R hs:=H.keep (Kept.all hup9)
 obtain⟨hlen9,_,us9,hpb9,hvb9⟩:=HAk hup9
 have w4:=room_le w4
 refine args_nil ?_
 refine wpAny_list_append_plain hpb9 (fun h10 hp10 sb10=>?_) (by rw[size_toArray,hvb9.len];simpa[kvs]using hlen9)
 refine wpAny_execs_nil ?_
 subst hQ
 have hgo:Go s { s₁ with heap:=h10,toks:=k9 }:=by
  refine hid fun G_ k_=>?_
  obtain⟨h₁,tk,q⟩:=I.toInCall.same
  refine k_ ?_
  rw[q,←hs']
  exact⟨_,_,rfl⟩
 have hbl:b∈R.hl:=mem_append_left _ (mem_map.mpr ⟨(i,b),mem_of_getElem? hρ,rfl⟩)
 refine⟨R,⟨StepR.refl _ _,hgo,fun y o hy q=>sb10.extBut y o (fun e=>hy (e▸hbl)) (hup9 y o q),?_⟩,rfl⟩
 refine H9.turn sb10 hρ (by rw[length_append];exact w4) (vs:=us9++[.ref T]) (by rw[show(us9++[Value.ref T]).toArray=us9.toArray.push (.ref T) by simp];exact hp10) ?_
 have hk:kvs (l++[(n,v)])=kvs l++[.tup [.str n,.str v]]:=by simp[kvs]
 rw[hk]
 refine hvb9.app (VRs.one ⟨by simp[sizeLine_eq],T,[.str n t1,.str v t'],rfl,hTb,⟨_,hT,rfl,_,rfl⟩,?_⟩)
 exact⟨_,_,rfl,⟨hn1,_,rfl⟩,_,_,rfl,⟨hn2,_,rfl⟩,rfl⟩
end
structure NewRec (m:Mod) (K:Frag) (fI:Addr) (fd:FuncData):Prop where
 X:K.In m.h₀
 makes:makesIn K m.C=true
 init:findIn K (.ref m.C) "__init__"=some (some (.ref fI))
 fn:typeIn K (.ref fI)=some (.type "function")
 set_:findIn K (.ref m.C) "__setattr__"=some (some (.builtin "object.__setattr__"))
 over:plainOver K m.C=true
 taker:takerIn K m.C "_headers"=some none
 dict:hasDictIn K m.C=true
 keep:keepIn K (.ref m.C)=true
 at_:∃o,m.h₀.get? fI=some o∧o.data= .func fd
 code:m.h₀.CodeRec fd.code fd.qualname
 clo:fd.closure=[]
 glob:fd.globals=mainGlobals
 blt:fd.builtins=builtinsNs
 type_:BName m "type" (.type "type")
 list_:BName m "list" (.type "list")
 dflt:∃tup o n,fd.defaults= .ref tup∧m.h₀.get? tup=some o∧o.data= .seq #[.none] n
 scope:fd.scope=(PC "__init__").scope
 body:fd.body= .stmts (PC "__init__").body
 bind:∀v,∃kk,bindArgs fd ⟨[v],[]⟩=seqItems? fd.defaults>>=kk∧kk (some #[.none])=pure [(("self":Str),v),(("headers":Str),.none)]
section
variable {m:Mod} {k:Nat} {A:Around} {s:Shared} {R:RC}
theorem for_none {env:Env} {t:Expr} {y:Str} {py pos:Pos} {fb:List Stmt} {D:Addr} {Q:Flow→Shared→Prop} (hh:A.handled=none) (hpl:s.heap.PlainList D #[])
 (hname:∀Q:Value→Shared→Prop,Q (.ref D) s→wpAny (m.M) A (eval (.Name y py) env) Q NoE s) (h:∀h' n,(∀b o,s.heap.get? b=some o→h'.get? b=some o)→Q .next { s with heap:=h',toks:=n }):
 wpAny (m.M) A (exec (.For t (.Name y py) fb [] pos) env) Q NoE s:=by
 refine wpAny_For (hname _ ?_) (fun x=>rfl)
 refine wpAny_pyIter_list hpl.isList ?_
 have hne:D≠s.heap.objs.size:=by obtain⟨m9,ho⟩:=hpl;exact Nat.ne_of_lt (Heap.lt_size ho)
 have W:=Walks.list (prog:=m.prog) (w:=m.w) hh s.heap.objs.size D hne #[]
 refine codeAny_mono (R:=fun r s'=>∃f,r= .ok f∧Q f s') ?_ fun r s' ⟨f,hr,h⟩=>by subst hr;exact h
 refine codeAny_forLoop_any (fun m9 s1=>m9=0∧s1={ s with heap:=s.heap.push { cls:= .type "list_iterator",data:= .fields #[.ref D,rawInt 0] } }) (fun m9 s1 hinv=>?_) 0 ⟨rfl,rfl⟩
 obtain rfl:=hinv.1;obtain rfl:=hinv.2
 refine W.done _ _ _ ⟨⟨_,Heap.get?_push_size _ rfl,rfl,rfl⟩,hpl.isList.push _⟩ fun h' tks hk=>?_
 refine wpAny_execs_nil ⟨_,rfl,h h' tks fun b o e=>hk b o ?_ (Heap.get?_push_of_some _ e)⟩
 simp;exact Nat.ne_of_lt (Heap.lt_size e)
theorem HsR.more {C:Addr} {hs:HS} (H:HsR C s.heap R hs) {h':Heap} (up:∀b o,s.heap.get? b=some o→h'.get? b=some o) {x dx D:Addr} (hx:s.heap.get? x=none) (hdx:s.heap.get? dx=none) (hD:s.heap.get? D=none) (hxD:x≠D) (hdD:dx≠D)
 (ox:h'.get? x=some (instObj C dx)) {hsh:Int} {t:Tok} {n:Nat} (od:h'.get? dx=some (dictOf [⟨hsh,.str "_headers" t,.ref D⟩] n)) (oD:h'.PlainList D #[]):
 HsR C h' { R with ρ:=R.ρ++[((x,dx),D)] } (hs++[[]])∧StepR s.heap R { R with ρ:=R.ρ++[((x,dx),D)] }:=by
 have fr:∀y,s.heap.get? y=none→y∉R.bad:=fun y hy q=>by
  rcases mem_append.mp q with q|q
  ·obtain⟨p,hp,e⟩:=mem_map.mp q
   obtain⟨o,ho,_⟩:=H.own p hp
   rw[e,hy]at ho;cases ho
  ·obtain⟨o,ho,_⟩:=H.seqs y q
   rw[hy]at ho;cases ho
 have hb:∀y,y∈({ R with ρ:=R.ρ++[((x,dx),D)] }:RC).bad↔y∈R.bad∨y=D:=by
  intro y
  show y∈R.O.map (·.2)++((R.ρ++[((x,dx),D)]).map (·.2)++R.tk.X.map (·.1))↔y∈R.O.map (·.2)++(R.ρ.map (·.2)++R.tk.X.map (·.1))∨y=D
  rw[map_append]
  simp only[mem_append,map_cons,List.map_nil,mem_singleton]
  constructor
  ·rintro(h|(h|h)|h)
   ·exact .inl (.inl h)
   ·exact .inl (.inr (.inl h))
   ·exact .inr h
   ·exact .inl (.inr (.inr h))
  ·rintro((h|h|h)|h)
   ·exact .inl h
   ·exact .inr (.inl (.inl h))
   ·exact .inr (.inr h)
   ·exact .inr (.inl (.inr h))
 have ex:∀y o,s.heap.get? y=some o→y≠D:=fun y o e q=>by rw[q,hD]at e;cases e
 have step:∀l vs,VRs s.heap R l vs→VRs h' { R with ρ:=R.ρ++[((x,dx),D)] } l vs:=fun l vs q=>
  VRs.step (R:=R) (R':={ R with ρ:=R.ρ++[((x,dx),D)] }) (Kept.all up) rfl (fun r p e=>by
   have hlt:=(List.getElem?_eq_some_iff.mp e).1
   show(R.ρ++[((x,dx),D)])[r]? =some p
   refine Eq.trans (List.getElem?_append_left hlt) ?_;exact e) (fun b o q ho q'=>((hb b).mp q').elim q (ex b o ho)) _ _ q
 refine⟨⟨by simp[H.len],fun r i a l e1 e2=>?_,?_,fun p hp=>let ⟨o,ho,rr⟩:=H.own p hp;⟨o,up _ _ ho,rr⟩,H.tabs.at fun b o e ux ux=>up b o e⟩,rfl,rfl,[((x,dx),D)],rfl,fun p hp=>?_⟩
 ·by_cases hr:r<R.ρ.length
  ·refine hid fun G_ k_=>?_
   have e1':R.ρ[r]? =some (i,a):=by
    have:(R.ρ++[((x,dx),D)])[r]? =some (i,a):=e1
    rwa[List.getElem?_append_left hr]at this
   rw[List.getElem?_append_left (by rw[←H.len];exact hr)]at e2
   obtain⟨n0,⟨ep,hsh0,t0,h1,h2,h3,h4⟩,vs,⟨m9,ho⟩,hv⟩:=H.at_ r i a l e1' e2
   refine k_ ?_
   exact⟨n0,⟨ep,hsh0,t0,fun q=>((hb _).mp q).elim h1 (ex _ _ h3),fun q=>((hb _).mp q).elim h2 (ex _ _ h4),up _ _ h3,up _ _ h4⟩,vs,⟨m9,up _ _ ho⟩,step _ _ hv⟩
  ·have hr':r=R.ρ.length:=by
    have hlt:=(List.getElem?_eq_some_iff.mp e1).1
    have:r<(R.ρ++[((x,dx),D)]).length:=hlt
    simp at this;exact Nat.eq_of_lt_succ_of_not_lt this hr
   subst hr'
   have:(R.ρ++[((x,dx),D)])[R.ρ.length]? =some (i,a):=e1
   simp at this
   obtain rfl:=this.1;obtain rfl:=this.2
   rw[H.len]at e2
   simp at e2
   subst e2
   obtain⟨m9,ho⟩:=oD
   exact⟨by simp,⟨n,hsh,t,fun q=>((hb _).mp q).elim (fr x hx) hxD,fun q=>((hb _).mp q).elim (fr dx hdx) hdD,ox,od⟩,[],⟨m9,ho⟩,rfl⟩
 ·show(R.O.map (·.2)++((R.ρ++[((x,dx),D)]).map (·.2)++R.tk.X.map (·.1))).Nodup
  rw[map_append,append_assoc]
  have hn:(R.O.map (·.2)++(R.ρ.map (·.2)++R.tk.X.map (·.1))).Nodup:=H.nod
  rw[←append_assoc]at hn ⊢
  have hDb:D∉(R.O.map (·.2)++R.ρ.map (·.2))++R.tk.X.map (·.1):=fun q=>fr D hD (by rw[append_assoc]at q;exact q)
  refine(List.perm_middle (a:=D)).nodup_iff.mpr (List.nodup_cons.mpr ⟨hDb,hn⟩)
 ·simp only[mem_cons,not_mem_nil,or_false]at hp
  subst hp
  exact⟨hD,hx,hdx⟩
set_option maxHeartbeats 2000000 in
theorem new_ok (O:m.Ok) {K:Frag} {fI:Addr} {fd:FuncData} (N:NewRec m K fI fd) (hA:A.handled=none) (hroom:A.depth+1<recursionLimit) (B:Base m.h₀ m.tk R s) {hs:HS} (H:HsR m.C s.heap R hs) {pos:Pos} {env:Env}:
 wpAny (m.M) A (callWith pos (.ref m.C) [] (backTo pos (starEach [] env)) []) (PostW m.C s R (.p (.hdr hs.length)) (hs++[[]])) NoE s:=by
 have hb:(PC "__init__").body=(PC "__init__").body:=rfl
 conv at hb=>rhs;whnf
 obtain⟨o,ho,hdata⟩:=N.at_
 refine callWith_of (P:=fun h=>∀b o,s.heap.get? b=some o→h.get? b=some o) rfl (fun h hP=>?_) (evalArgs_nil (wpAny_mono (Q:=fun vs s'=>vs=[]∧s'=s) (Calls.spliced_nil ⟨rfl,rfl⟩) (fun vs s' ⟨q1,q2⟩=>?_) fun ux ux x=>x))
 ·obtain⟨k,q1,q2⟩:=looks_keep N.keep ((N.X.keeps B.base).keeps hP)
  exact⟨k,q1.elim .inl (fun q=> .inr (.inl q)),q2⟩
 rw[q1,q2]
 refine⟨fun ux ux q=>q,wpAny_call ?_⟩
 obtain⟨hh,g,dr,tt,os⟩:=s
 have XS:=N.X.keeps B.base
 refine make_core (makes_of XS N.makes) (looks_findIn XS N.init) (fun self=>bind_fn XS self N.fn) (.inl rfl) ?_
 have upA:∀b o,hh.get? b=some o→((hh.push emptyDict).push (instObj m.C hh.objs.size)).get? b=some o:=fun b o q=>Heap.get?_push_of_some _ (Heap.get?_push_of_some _ q)
 have hdx0:hh.get? hh.objs.size=none:=size_none _
 have hx0:hh.get? (hh.objs.size+1)=none:=none_ge (Nat.le_succ _)
 have odx:((hh.push emptyDict).push (instObj m.C hh.objs.size)).get? hh.objs.size=some emptyDict:=Heap.get?_push_of_some _ (Heap.get?_push_size _ rfl)
 have ox:((hh.push emptyDict).push (instObj m.C hh.objs.size)).get? (hh.objs.size+1)=some (instObj m.C hh.objs.size):=by
  have:=Heap.get?_push_size (hh.push emptyDict) (o:=instObj m.C hh.objs.size) rfl
  rwa[Heap.size_push]at this
 have hxd:hh.objs.size+1≠hh.objs.size:=Nat.succ_ne_self _
 obtain⟨n0,hn0⟩:∃n,n=hh.objs.size:=⟨_,rfl⟩
 have hszA:n0≤((hh.push emptyDict).push (instObj m.C hh.objs.size)).objs.size:=by rw[hn0,Heap.size_push,Heap.size_push];lia
 generalize hh.objs.size+1=x at ox hx0 hxd ⊢
 generalize hh.objs.size=dx at odx hdx0 ox hxd upA hszA ⊢
 generalize ((hh.push emptyDict).push (instObj m.C dx))=hA1 at ox odx upA hszA ⊢
 refine hid fun G_ k_=>?_
 have hkA:∀b o,m.h₀.get? b=some o→hA1.get? b=some o:=fun b o q=>upA b o (B.base b o q)
 obtain⟨kk,hb1,hb2⟩:=N.bind (.ref x)
 obtain⟨tup,ot,nt,q3,q4,q5⟩:=N.dflt
 obtain⟨Au,hAu⟩:∃Au,Au=A.under (.builtin "type.__call__" ⟨[.ref m.C],[]⟩):=⟨_,rfl⟩
 have hAd:Au.depth=A.depth+1:=by rw[hAu,depth_under_make]
 refine k_ ?_
 have hAh:Au.handled=none:=by rw[hAu];exact hA
 show codeAny (m.M) (A.under (.builtin "type.__call__" ⟨[.ref m.C],[]⟩)) (.call (.ref fI) ⟨[.ref x],[]⟩) _ _
 rw[←hAu]
 refine call_argsC (s:=⟨hA1,g,dr,tt,os⟩) (by rw[hAd];exact hroom) (hkA _ _ ho) hdata (O.limit.keeps hkA) (N.code.keeps hkA) (N.body.trans (congrArg _ hb)) N.clo (by rw[N.scope];kernel_rfl) (by rw[N.scope];kernel_rfl) (by rw[N.scope];kernel_rfl) ?_
 (refine(hb1)▸ ?_;refine(q3)▸ ?_;refine(N.scope)▸ ?_;refine(N.glob)▸ ?_;refine(N.blt)▸ ?_)
 refine wpAny_bind (wpAny_seqItems (hkA _ _ q4) q5 ?_)
 rw[hb2]
 refine wpAny_pure ⟨fun ux ux q=>q,fun y hy=> .inl ?_,fun env' s₁ kn kk kg kb I=>?_⟩
 ·simp only[mem_cons,not_mem_nil,or_false]at hy
  rcases hy with rfl|rfl<;>kernel_rfl
 have hAh':(Au.deeper env').handled=none:=hAh
 clear hAd hAu ho hdata hb q3 q4 q5 hb1 hb2 hAh
 generalize Au.deeper env'=A' at hAh' ⊢
 have glob:∀{y:Str} {pos:Pos} {u:Value} {s2:Shared} {Q:Value→Shared→Prop},(∀b o,hA1.get? b=some o→s2.heap.get? b=some o)→env'.kindOf y=some .globalImplicit→(m.mg y=some u∨(m.mg y=none∧m.mb y=some u))→(y==("__debug__":Str))=false→Q u s2→wpAny (m.M) A' (eval (.Name y pos) env') Q NoE s2:=by
  intro y pos u s2 Q hk2 hl hv hd hq
  refine Name_function_global kk hl ?_ hd
  have hg:s2.heap.Ns env'.globals m.mg:=kg▸O.g.keeps fun b o q=>hk2 b o (hkA b o q)
  have hb:s2.heap.Ns env'.builtins m.mb:=kb▸O.b.keeps fun b o q=>hk2 b o (hkA b o q)
  rcases hv with hv|⟨hv,hb'⟩
  ·exact loadGlobal_global hg hv hq
  ·exact loadGlobal_builtin hg hv hb hb' hq
 have hLge:hA1.objs.size≤env'.locals:=I.toInCall.fresh
 have hxL:x≠env'.locals:=Nat.ne_of_lt (Nat.lt_of_lt_of_le (Heap.lt_size ox) hLge)
 have hdL:dx≠env'.locals:=Nat.ne_of_lt (Nat.lt_of_lt_of_le (Heap.lt_size odx) hLge)
 refine wpAny_execs_cons (wpAny_Assign_Name (wpAny_IfExp (wpAny_isTrue_Compare1 (NameLC I kk (by rw[kn];kernel_rfl) (v:= .none) (by kernel_rfl) (wpAny_Constant_none (wpAny_isNot_self rfl (wpAny_truthy_bool ?_))) (by decide +kernel)) rfl)) rfl)
 show wpAny _ _ (eval _ env') _ _ _
 refine wpAny_List (args_nil ⟨by simp,?_⟩)
 have hDn:s₁.heap.get? s₁.heap.objs.size=none:=size_none _
 generalize hD:s₁.heap.objs.size=D at hDn ⊢
 have hDl:(s₁.heap.push { cls:= .type "list",data:= .seq ([]:List Value).toArray }).get? D=some { cls:= .type "list",data:= .seq ([]:List Value).toArray }:=by rw[←hD];exact Heap.get?_push_size _ rfl
 have I1:=icc_grow I (h':=s₁.heap.push { cls:= .type "list",data:= .seq ([]:List Value).toArray }) (n:=s₁.toks) (fun b o q=>Heap.get?_push_of_some _ q)
 have hDA:hA1.get? D=none:=by
  cases q:hA1.get? D with
  |none=>rfl
  |some o=>rw[I.toInCall.keep _ _ q]at hDn;cases hDn
 have hLlt:env'.locals<D:=by
  obtain⟨oL,es,ep,hoL,_⟩:=I.toInCall.ns
  rw[←hD];exact Heap.lt_size hoL
 refine st_by I1 kk (by rw[kn];kernel_rfl) fun h2 k2' I2 sb2=>?_
 have hD2:h2.get? D=some { cls:= .type "list",data:= .seq ([]:List Value).toArray }:=sb2.extBut D _ (Nat.ne_of_gt hLlt) hDl
 show wpAny _ _ (execs _ env') _ _ _
 have hk2:∀b o,hA1.get? b=some o→h2.get? b=some o:=I2.toInCall.keep
 refine wpAny_execs_cons (wpAny_If (wpAny_isTrue_Compare1 (wpAny_Call_NameR (glob hk2 (by rw[kn];kernel_rfl) (.inr N.type_) (by decide) (callT rfl (args_cons (NameLC I2 kk (by rw[kn];kernel_rfl) (v:= .ref D) (by kernel_rfl) (args_nil ?_) (by decide +kernel)) rfl)))) rfl))
 refine call_type_of (Tx:="list") ⟨_,hD2,rfl⟩ (by decide) ?_
 refine glob hk2 (by rw[kn];kernel_rfl) (.inr N.list_) (by decide) (wpAny_isNot_self rfl (wpAny_truthy_bool ?_))
 show wpAny _ _ (execs [] env') _ _ _
 refine wpAny_execs_nil ?_
 show wpAny _ _ (execs _ env') _ _ _
 refine wpAny_execs_cons (plainObj_wpAny_Assign_Attribute (NameLC I2 kk (by rw[kn];kernel_rfl) (v:= .ref D) (by kernel_rfl) (NameLC I2 kk (by rw[kn];kernel_rfl) (v:= .ref x) (by kernel_rfl) ?_ (by decide +kernel)) (by decide +kernel)) rfl)
 have hsz:hh.objs.size≤env'.locals:=by
  rw[←hn0];exact Nat.le_trans hszA hLge
 have F2:PyProof.Rows.Fr hh env'.locals h2 _:=⟨I2.toInCall.ns,fun b o q=>hk2 b o (upA b o q),hsz⟩
 have hD0:hh.get? D=none:=by
  cases q:hh.get? D with
  |none=>rfl
  |some o=>rw[upA _ _ q]at hDA;cases hDA
 have hDdx:D≠dx:=fun q=>by rw[q,odx]at hDA;cases hDA
 have hDx:D≠x:=fun q=>by rw[q,ox]at hDA;cases hDA
 have News2:News hh env'.locals h2 [(x,instObj m.C dx),(dx,dictOf [] 0),(D,{ cls:= .type "list",data:= .seq ([]:List Value).toArray })]:=by
  intro p hp
  simp only[mem_cons,not_mem_nil,or_false]at hp
  rcases hp with rfl|rfl|rfl
  ·exact⟨hk2 _ _ ox,hxL,hx0⟩
  ·exact⟨hk2 _ _ odx,hdL,hdx0⟩
  ·exact⟨hD2,Nat.ne_of_gt hLlt,hD0⟩
 refine set_dict (s:={ s₁ with heap:=h2,toks:=k2' }) F2 XS News2 (es:=[]) (n:=0) ⟨hk2 _ _ ox,rfl,rfl,hk2 _ _ odx⟩ rfl N.set_ N.over N.taker N.dict rfl rfl (.tail hxd (.head (fun p hp=>by
  simp only[mem_cons,not_mem_nil,or_false]at hp
  subst hp;exact hDdx))) (by simp[putL]) fun h3 F3 News3=>?_
 show wpAny _ _ (execs _ env') _ _ _
 refine hid fun G_ k_=>?_
 have q_:=News3 _ (.head _);have ox3:=q_.1
 have q_:=News3 _ (.tail _ (.head _));have od3:=q_.1
 have q_:=News3 _ (.tail _ (.tail _ (.head _)));have oD3:=q_.1
 refine k_ ?_
 refine wpAny_execs_cons (wpAny_If (wpAny_isTrue_value (wpAny_Constant_bool (wpAny_truthy_bool ?_)) rfl))
 show wpAny _ _ (execs _ env') _ _ _
 refine wpAny_execs_cons (for_none hAh' ⟨_,oD3⟩ (fun Q q=>wpAny_Name (wpAny_loadName_local kk (by rw[kn];kernel_rfl) F3.ns (v:= .ref D) (by kernel_rfl) q) (by decide +kernel)) fun h4 k4 up4=>?_)
 show wpAny _ _ (execs [] env') _ _ _
 refine wpAny_execs_nil ?_
 show wpAny _ _ (execs [] env') _ _ _
 refine wpAny_execs_nil ?_
 show InitBack x _ (.ok (.ret .none)) _
 refine⟨rfl,?_⟩
 have q_:=HsR.more (s:=⟨hh,g,dr,tt,os⟩) H (h':=h4) (fun b o q=>up4 _ _ (F3.keep b o q)) hx0 hdx0 hD0 hDx.symm hDdx.symm (up4 _ _ ox3) (up4 _ _ od3) ⟨_,up4 _ _ oD3⟩;have H1:=q_.1;have st1:=q_.2
 refine⟨_,⟨st1,?_,Kept.all fun b o q=>up4 _ _ (F3.keep b o q),H1⟩,(x,dx),D,?_,rfl⟩
 ·obtain⟨h₁,tk1,q⟩:=I.toInCall.same
  rw[q]
  exact⟨_,_,rfl⟩
 ·show(R.ρ++[((x,dx),D)])[hs.length]? =some ((x,dx),D)
  refine Eq.trans (congrArg _ (Eq.symm (H.len))) ?_;simp
end
inductive IopR:Operator→Int→Int→Int→Prop
 |add {a b}:IopR .Add a b (a+b)
 |sub {a b}:IopR .Sub a b (a-b)
 |mul {a b}:mulOk a b=true→IopR .Mult a b (a*b)
 |shr {a b}:0≤b→IopR .RShift a b (a.fdiv (2^b.toNat))
 |shl {a b}:0≤b→(Builtin.Int.intBits a:Int)+b≤2^27→IopR .LShift a b (a*2^b.toNat)
 |xor {a b}:IopR .BitXor a b (Builtin.bitXor a b)
inductive IxR (σ:Str→Option Int):Expr→Int→Prop
 |name {x p i}:σ x=some i→IxR σ (.Name x p) i
 |const {i k p}:IxR σ (.Constant (.int i) k p) i
 |bin {l op r p a b c}:IxR σ l a→IxR σ r b→IopR op a b c→IxR σ (.BinOp l op r p) c
section
variable {m:Mod} {A:Around} {s:Shared}
theorem iop2_ok {op:Operator} {a b c:Int} {t u:Tok} (e:IopR op a b c) {Q:Value→Shared→Prop} {n:Nat} (h:∀t k,Q (.int c t) { s with toks:=k }):wpAny m.M A (binaryOp op (.int a t) (.int b u)) Q NoE { s with toks:=n }:=by
 cases e with
 |add=>exact add_int (h _ _)
 |sub=>exact sub_int (h _ _)
 |mul hm=>exact mul_int (h _ _) (by unfold IntMulOk;unfold mulOk at hm;intro hc;rw[hc]at hm;cases hm)
 |shr hb=>exact rshift_int hb (h _ _)
 |shl h1 h2=>exact lshift_int h1 h2 (h _ _)
 |xor=>exact xor_int (h _ _)
theorem ix_ok {σ:Str→Option Int} {env:Env} (hσ:∀x p i,σ x=some i→∀n (Q:Value→Shared→Prop),(∀t k,Q (.int i t) { s with toks:=k })→wpAny m.M A (eval (.Name x p) env) Q NoE { s with toks:=n })
 {e:Expr} {i:Int} (h:IxR σ e i):∀n (Q:Value→Shared→Prop),(∀t k,Q (.int i t) { s with toks:=k })→wpAny m.M A (eval e env) Q NoE { s with toks:=n }:=by
 induction h with
 |name e=>exact hσ _ _ _ e
 |const=>exact fun n Q h=>wpAny_Constant_int (h _ _)
 |bin _ _ e3 ih1 ih2=>exact fun n Q h=>wpAny_BinOp (ih1 n _ fun t k=>ih2 k _ fun t' k'=>iop2_ok e3 h)
structure Fr2 (env:Env) (nm:Str→Option Value) (cl:List (Str×Addr)) (h:Heap):Prop where
 kind:env.scope.kind= .function
 cells:env.cells=cl
 ns:h.Ns env.locals nm
theorem local_int {env:Env} {nm:Str→Option Value} {cl:List (Str×Addr)} (F:Fr2 env nm cl s.heap) {x:Str} {p:Pos} {i:Int} {t:Tok} (hk:env.kindOf x=some .local) (hd:(x==("__debug__":Str))=false) (hv:nm x=some (.int i t)) {n:Nat} {Q:Value→Shared→Prop}
 (h:∀t k,Q (.int i t) { s with toks:=k }):wpAny (m.M) A (eval (.Name x p) env) Q NoE { s with toks:=n }:=
 wpAny_Name (wpAny_loadName_local F.kind hk F.ns hv (h _ _)) hd
theorem free_val {env:Env} {nm:Str→Option Value} {cl:List (Str×Addr)} (F:Fr2 env nm cl s.heap) {x:Str} {p:Pos} {v:Value} {c:Addr} (hk:env.kindOf x=some .free) (hd:(x==("__debug__":Str))=false) (hc:cl.lookup x=some c) (hv:s.heap.IsCell c (some v)) (hcd:(x==("__classdict__":Str))=false) {Q:Value→Shared→Prop}
 (h:Q v s):wpAny (m.M) A (eval (.Name x p) env) Q NoE s:=
 wpAny_Name (wpAny_loadName_free F.kind hk (by rw[F.cells];exact hc) hv h hcd) hd
theorem store_local {env:Env} {nm:Str→Option Value} {cl:List (Str×Addr)} (F:Fr2 env nm cl s.heap) {x:Str} {v:Value} (hk:env.kindOf x=some .local) {Q:Unit→Shared→Prop}
 (h:∀h' k,Fr2 env (fun y=>if y=x then some v else nm y) cl h'→Heap.SameBut env.locals s.heap h'→Q () { s with heap:=h',toks:=k }):wpAny (m.M) A (storeName env x v) Q NoE s:=
 wpAny_storeName_local hk F.ns (fun h' hn' hs'=>h _ _ ⟨F.kind,F.cells,hn'⟩ hs') (by rw[F.kind];rfl)
theorem call_clos {R:Result→Shared→Prop} {f:Addr} {o:Obj} {fd:FuncData} {body:List Stmt} {vals:List Value} {binds:List (Str×Value)}
 (hroom:A.depth<recursionLimit) (ho:s.heap.get? f=some o) (hdata:o.data= .func fd) (hlim:s.heap.NoLimit) (hcd:s.heap.CodeRec fd.code fd.qualname) (hbody:fd.body= .stmts body) (hbind:bindArgs fd ⟨vals,[]⟩=pure binds)
 (hnc:∀x∈fd.scope.names,x.2≠.cell) (hloc:∀x∈binds,fd.scope.names.lookup x.1=some .local) (hco:fd.scope.isCoroutine=false) (hgen:fd.scope.isGenerator=false) (hk:fd.scope.kind= .function)
 (h:∀env,env.scope=fd.scope→env.globals=fd.globals→env.builtins=fd.builtins→env.locals=s.heap.objs.size→∀h' n,Fr2 env (fun x=>binds.reverse.lookup x) fd.closure h'→(∀b o,s.heap.get? b=some o→h'.get? b=some o)→
  wpAny (m.M) (A.deeper env) (execs body env) (fun fl s'=>R (.ok (.ret (match fl with| .ret v=>v|_=> .none))) s') NoE { s with heap:=h',toks:=n }):
 codeAny (m.M) A (.call (.ref f) ⟨vals,[]⟩) R s:=by
 refine codeAny_call_function hroom ho hdata hco hgen hbody hcd ?_
 simp only[hbind]
 refine wpAny_pure (wpAny_newFunctionEnv hnc hloc (fun h' hn hs=>?_) hk)
 have keep:∀b o,s.heap.get? b=some o→h'.get? b=some o:=fun b o e=>hs.extBut b o (Nat.ne_of_lt (Heap.lt_size e)) (Heap.get?_push_of_some _ e)
 refine⟨hlim.keeps keep,codeAny_func ?_⟩
 exact noE (h (newEnv fd.scope s.heap.objs.size fd.globals fd.closure (fd.qualname++".<locals>.") (some f) fd.code none fd.builtins) rfl rfl rfl rfl h' _ ⟨hk,rfl,hn⟩ keep) fun ux ux q=>q
end
theorem call_name {m:Mod} {A:Around} {s:Shared} {env:Env} {x:Str} {px pos:Pos} {f:Addr} {o:Obj} {fd:FuncData} {es:List Expr} (hst:plainL es=true) (hd:o.data= .func fd) {Q:Value→Shared→Prop}
 (hx:∀Q:Value→Shared→Prop,Q (.ref f) s→wpAny (m.M) A (eval (.Name x px) env) Q NoE s)
 (h:wpAny (m.M) A (spliced (backTo pos (starEach es env))) (fun vs s₁=>s₁.heap.get? f=some o∧wpAny (m.M) A (call (.ref f) vs) Q NoE s₁) NoE s):
 wpAny (m.M) A (eval (.Call (.Name x px) es [] pos) env) Q NoE s:=by
 refine wpAny_Call_NameR (hx _ ?_)
 exact callF (o:=o) (fd:=fd) hst hd h
theorem IntsAre.set:∀{vs:List Value} {ns:List Int} (i:Nat) (x:Int) (t:Tok),IntsAre vs ns→IntsAre (vs.set i (.int x t)) (ns.set i x):=by
 intro vs ns i x t h
 induction h generalizing i with
 |nil=>exact .nil
 |cons n u r ih=>
  cases i with
  |zero=>exact .cons x t r
  |succ i=>exact .cons n u (ih i)
structure CB (fd:FuncData) (f D:Addr) (o:Obj) (n:Int) (dg:Str) (its:List Value) (h:Heap):Prop where
 data:o.data= .func fd
 at_:h.get? f=some o
 lim:h.NoLimit
 code:h.CodeRec fd.code fd.qualname
 dgc:∃c,fd.closure.lookup dg=some c∧h.IsCell c (some (.ref D))
 inc:∃c,fd.closure.lookup ("inner":Str)=some c∧h.IsCell c (some (.ref f))
 nc:∃c t,fd.closure.lookup ("n":Str)=some c∧h.IsCell c (some (.int n t))
 pl:h.PlainList D its.toArray
noncomputable abbrev KpD (ro:Bool) (D:Addr) (h h':Heap):Prop:=∀b o,b≠D∨ro=true→h.get? b=some o→h'.get? b=some o
section
variable {ro:Bool} {fd:FuncData} {f D:Addr} {o:Obj} {n:Int} {dg:Str} {its its':List Value} {h h':Heap}
theorem CB.keep (H:CB fd f D o n dg its h) {b:Addr} {ob:Obj} (k:KpD ro D h h') (q:h.get? b=some ob) (hd:∀vs n,ob.data≠.seq vs n):h'.get? b=some ob:=
 k b ob (.inl fun e=>by obtain⟨x,p⟩:=H.pl;rw[e,p]at q;cases q;exact hd _ _ rfl) q
theorem CB.cell (H:CB fd f D o n dg its h) (k:KpD ro D h h') {c:Addr} {v:Option Value} (q:h.IsCell c v):h'.IsCell c v:=
 (by obtain⟨oc,q1,q2⟩:=q;exact⟨oc,H.keep k q1 (by rw[q2];intros;exact nofun),q2⟩)
theorem CB.next (H:CB fd f D o n dg its h) (k:KpD ro D h h') (p:h'.PlainList D its'.toArray):CB fd f D o n dg its' h' where
 data:=H.data
 at_:=H.keep k H.at_ (by rw[H.data];intros;exact nofun)
 lim:=(by obtain⟨mc,⟨oc,es,ep,q1,q2,q3⟩,q4⟩:=H.lim;exact⟨mc,⟨oc,es,ep,H.keep k q1 (by rw[q2];intros;exact nofun),q2,q3⟩,q4⟩)
 code:=(by obtain⟨c,oc,vs,t,q1,q2,q3,q4⟩:=H.code;exact⟨c,oc,vs,t,q1,H.keep k q2 (by rw[q3];intros;exact nofun),q3,q4⟩)
 dgc:=(by obtain⟨c,a,b⟩:=H.dgc;exact⟨c,a,H.cell k b⟩)
 inc:=(by obtain⟨c,a,b⟩:=H.inc;exact⟨c,a,H.cell k b⟩)
 nc:=(by obtain⟨c,t,a,b⟩:=H.nc;exact⟨c,t,a,H.cell k b⟩)
 pl:=p
end
noncomputable def sgL (n:Int) (σ:List (Str×Int)) (y:Str):Option Int:=if y="n" then some n else σ.lookup y
noncomputable def okY (ns:List (Str×NameKind)) (y:Str):Bool:=ns.lookup y==some .local&& !(y==("__debug__":Str))
structure CS (ro:Bool) (fd:FuncData) (f D:Addr) (o:Obj) (n:Int) (dg:Str) (env:Env) (h0:Heap) (σ:List (Str×Int)) (its:List Value) (h:Heap):Prop where
 b0:∃is,CB fd f D o n dg is h0
 kp:KpD ro D h0 h
 pl:h.PlainList D its.toArray
 sc:env.scope=fd.scope
 lo:env.locals=h0.objs.size
 free:fd.scope.names.lookup dg=some .free∧fd.scope.names.lookup ("inner":Str)=some .free∧fd.scope.names.lookup ("n":Str)=some .free
 fr:∃nm,Fr2 env nm fd.closure h∧∀y i,σ.lookup y=some i→okY fd.scope.names y=true∧∃t,nm y=some (.int i t)
section
variable {ro:Bool} {m:Mod} {A:Around} {s:Shared} {fd:FuncData} {f D:Addr} {o:Obj} {n:Int} {dg:Str} {env:Env} {h0:Heap} {σ:List (Str×Int)} {its:List Value} {h:Heap} {k:Nat}
theorem okY_of {ns:List (Str×NameKind)} {y:Str} (q:okY ns y=true):ns.lookup y=some .local∧(y==("__debug__":Str))=false:=by
 unfold okY at q
 rw[Bool.and_eq_true,Bool.not_eq_true']at q
 exact⟨eq_of_beq q.1,q.2⟩
theorem CS.kn (S:CS ro fd f D o n dg env h0 σ its h) (y:Str):env.kindOf y=fd.scope.names.lookup y:=by unfold Env.kindOf;rw[S.sc]
theorem CS.b (S:CS ro fd f D o n dg env h0 σ its h):CB fd f D o n dg its h:=(by obtain⟨_,x⟩:=S.b0;exact x.next S.kp S.pl)
theorem CS.below (S:CS ro fd f D o n dg env h0 σ its h) {b:Addr} {ob:Obj} (q:h0.get? b=some ob):b≠env.locals:=by
 rw[show env.locals=h0.objs.size from S.lo];exact Nat.ne_of_lt (Heap.lt_size q)
theorem CS.Dl (S:CS ro fd f D o n dg env h0 σ its h):D≠env.locals:=(by obtain⟨_,x⟩:=S.b0;obtain⟨_,q⟩:=x.pl;exact S.below q)
theorem CS.freeV (S:CS ro fd f D o n dg env h0 σ its h) {x:Str} {p:Pos} {v:Value} {c:Addr} (hk:fd.scope.names.lookup x=some .free) (hc:fd.closure.lookup x=some c) (hv:h.IsCell c (some v)) (hd:(x==("__debug__":Str))=false∧(x==("__classdict__":Str))=false) {Q:Value→Shared→Prop} (hq:Q v { s with heap:=h,toks:=k }):
 wpAny (m.M) A (eval (.Name x p) env) Q NoE { s with heap:=h,toks:=k }:=
 (by obtain⟨_,F,_⟩:=S.fr;exact free_val (s:={ s with heap:=h,toks:=k }) F ((S.kn x).trans hk) hd.1 hc hv hd.2 hq)
theorem CS.rd (S:CS ro fd f D o n dg env h0 σ its h) {e:Expr} {i:Int} (he:IxR (sgL n σ) e i) {Q:Value→Shared→Prop} (hQ:∀t k,Q (.int i t) { s with heap:=h,toks:=k }):wpAny (m.M) A (eval e env) Q NoE { s with heap:=h,toks:=k }:=by
 refine ix_ok (s:={ s with heap:=h }) (fun y p j hy k Q hQ=>?_) he k Q hQ
 unfold sgL at hy
 by_cases hn:y="n"
 ·refine hid fun G_ k_=>?_
  rw[if_pos hn]at hy
  cases hy;subst hn
  obtain⟨c,t,a,b⟩:=S.b.nc
  refine k_ ?_
  exact S.freeV S.free.2.2 a b ⟨by decide +kernel,by decide +kernel⟩ (hQ _ _)
 ·refine hid fun G_ k_=>?_
  rw[if_neg hn]at hy
  obtain⟨nm,F,g⟩:=S.fr
  obtain⟨a,t,b⟩:=g y j hy
  refine k_ ?_
  exact local_int (s:={ s with heap:=h }) F ((S.kn y).trans (okY_of a).1) (okY_of a).2 b hQ
theorem CS.asg (S:CS ro fd f D o n dg env h0 σ its h) {y:Str} (hy:okY fd.scope.names y=true) {l r:Expr} {op:Operator} {pe:Pos} {i:Int} (he:IxR (sgL n σ) (.BinOp l op r pe) i) {rest:List Stmt} {py p:Pos} {Q:Flow→Shared→Prop}
 (H:∀h' k,CS ro fd f D o n dg env h0 ((y,i)::σ) its h'→wpAny (m.M) A (execs rest env) Q NoE { s with heap:=h',toks:=k }):wpAny (m.M) A (execs (.Assign [.Name y py] (.BinOp l op r pe) p::rest) env) Q NoE { s with heap:=h,toks:=k }:=by
 refine wpAny_execs_cons (wpAny_Assign_Name (S.rd he fun t k=>?_) rfl)
 obtain⟨nm,F,g⟩:=S.fr
 refine store_local (s:={ s with heap:=h,toks:=k }) F ((S.kn y).trans (okY_of hy).1) fun h' k F' sb=>H h' k ?_
 exact⟨S.b0,fun b o hb q=>sb.extBut b o (S.below q) (S.kp b o hb q),(by obtain⟨e,q⟩:=S.pl;exact⟨e,sb.extBut D _ S.Dl q⟩),S.sc,S.lo,S.free,_,F',fun z j hz=>by
  rw[lookup_cons]at hz
  by_cases hzy:z=y
  ·subst hzy
   rw[beq_self_eq_true]at hz
   cases hz
   exact⟨hy,t,if_pos rfl⟩
  ·rw[beq_false_of_ne hzy]at hz
   rw[if_neg hzy]
   exact g z j hz⟩
theorem CS.turn (S:CS ro fd f D o n dg env h0 σ its h) {its':List Value} {h':Heap} (k:KpD ro D h h') (p:h'.PlainList D its'.toArray):CS ro fd f D o n dg env h0 σ its' h':=
 ⟨S.b0,fun b o hb q=>k b o hb (S.kp b o hb q),p,S.sc,S.lo,S.free,(by obtain⟨nm,F,g⟩:=S.fr;obtain⟨oL,es,ep,q1,q2⟩:=F.ns;exact⟨nm,⟨F.kind,F.cells,⟨oL,es,ep,k _ _ (.inl S.Dl.symm) q1,q2⟩⟩,g⟩)⟩
theorem CS.inner (S:CS ro fd f D o n dg env h0 σ its h) {px pos:Pos} {es:List Expr} (hst:plainL es=true) {Q:Value→Shared→Prop}
 (H:wpAny (m.M) A (spliced (backTo pos (starEach es env))) (fun vs s₁=>s₁.heap.get? f=some o∧wpAny (m.M) A (call (.ref f) vs) Q NoE s₁) NoE { s with heap:=h,toks:=k }):
 wpAny (m.M) A (eval (.Call (.Name "inner" px) es [] pos) env) Q NoE { s with heap:=h,toks:=k }:=
 (by obtain⟨_,a,b⟩:=S.b.inc;exact call_name hst S.b.data (fun ux q=>S.freeV S.free.2.1 a b ⟨by decide +kernel,by decide +kernel⟩ q) H)
theorem CS.two (S:CS ro fd f D o n dg env h0 σ its h) {px pos:Pos} {a b:Expr} {i j:Int} (ha:IxR (sgL n σ) a i) (hb:IxR (sgL n σ) b j) {Q:Value→Shared→Prop}
 (e1:starEach [a,b] env=(false,eval a env)::starEach [b] env) (e2:starEach [b] env=(false,eval b env)::starEach [] env) (hst:plainL [a,b]=true)
 (H:∀t u k,wpAny (m.M) A (call (.ref f) [.int i t,.int j u]) Q NoE { s with heap:=h,toks:=k }):
 wpAny (m.M) A (eval (.Call (.Name "inner" px) [a,b] [] pos) env) Q NoE { s with heap:=h,toks:=k }:=
 S.inner hst (args_cons (S.rd ha fun t ux=>args_cons (S.rd hb fun u k=>args_nil ⟨S.b.at_,H t u k⟩) e2) e1)
theorem CS.three (S:CS ro fd f D o n dg env h0 σ its h) {px pos:Pos} {c a b:Expr} {x i j:Int} (hc:IxR (sgL n σ) c x) (ha:IxR (sgL n σ) a i) (hb:IxR (sgL n σ) b j) {Q:Value→Shared→Prop}
 (e0:starEach [c,a,b] env=(false,eval c env)::starEach [a,b] env) (e1:starEach [a,b] env=(false,eval a env)::starEach [b] env) (e2:starEach [b] env=(false,eval b env)::starEach [] env) (hst:plainL [c,a,b]=true)
 (H:∀v t u k,wpAny (m.M) A (call (.ref f) [.int x v,.int i t,.int j u]) Q NoE { s with heap:=h,toks:=k }):
 wpAny (m.M) A (eval (.Call (.Name "inner" px) [c,a,b] [] pos) env) Q NoE { s with heap:=h,toks:=k }:=
 S.inner hst (args_cons (S.rd hc fun v ux=>args_cons (S.rd ha fun t ux=>args_cons (S.rd hb fun u k=>args_nil ⟨S.b.at_,H v t u k⟩) e2) e1) e0)
end
theorem binds_ok {ns:List (Str×NameKind)} {y:Str} {i:Int}:∀(τ:List (Str×Int×Tok)),(τ.all fun p=>okY ns p.1)=true→(τ.map fun p=>(p.1,p.2.1)).lookup y=some i→okY ns y=true∧∃t,(τ.map fun p=>(p.1,Value.int p.2.1 p.2.2)).lookup y=some (.int i t):=fun τ=>by
 induction τ with
 |nil=>exact fun ux e=>nomatch e
 |cons p r ih=>
  intro h g
  rw[List.all_cons,Bool.and_eq_true]at h
  rw[map_cons,lookup_cons]at g ⊢
  cases hy:y==p.1 with
  |true=>rw[hy]at g;cases g;exact⟨eq_of_beq hy▸h.1,p.2.2,rfl⟩
  |false=>rw[hy]at g;exact ih h.2 g
theorem CS.enter {ro:Bool} {m:Mod} {A:Around} {s:Shared} {fd:FuncData} {f D:Addr} {o:Obj} {n:Int} {dg:Str} {its:List Value} (B:CB fd f D o n dg its s.heap) {body:List Stmt} (hb:fd.body= .stmts body) (hroom:A.depth<recursionLimit) {vals:List Value} {τ:List (Str×Int×Tok)}
 (hbind:bindArgs fd ⟨vals,[]⟩=pure (τ.map fun p=>(p.1,Value.int p.2.1 p.2.2)).reverse) (hτ:(τ.all fun p=>okY fd.scope.names p.1)=true)
 (hs:((fd.scope.names.all fun x=>x.2 != .cell)&&((!fd.scope.isCoroutine&& !fd.scope.isGenerator)&&(fd.scope.kind== .function&&(fd.scope.names.lookup dg==some .free&&(fd.scope.names.lookup ("inner":Str)==some .free&&fd.scope.names.lookup ("n":Str)==some .free)))))=true) {Q:Value→Shared→Prop}
 (h:∀env h k,CS ro fd f D o n dg env s.heap (τ.map fun p=>(p.1,p.2.1)) its h→wpAny (m.M) (A.deeper env) (execs body env) (fun fl s'=>Q (match fl with| .ret v=>v|_=> .none) s') NoE { s with heap:=h,toks:=k }):wpAny (m.M) A (call (.ref f) vals) Q NoE s:=by
 simp only[Bool.and_eq_true,Bool.not_eq_true',beq_iff_eq]at hs
 refine wpAny_call (call_clos hroom B.at_ B.data B.lim B.code hb hbind (fun x hx e=>?_) (fun x hx=>?_) hs.2.1.1 hs.2.1.2 hs.2.2.1 fun env e1 ux ux e4 h' k F K=>h env h' k ⟨⟨_,B⟩,fun b o ux q=>K b o q,?_,e1,e4,hs.2.2.2,_,F,fun y i q=>?_⟩)
 ·have:=all_eq_true.mp hs.1 x hx
  rw[e]at this;cases this
 ·obtain⟨p,hp,rfl⟩:=mem_map.mp (List.mem_reverse.mp hx)
  exact(okY_of (all_eq_true.mp hτ p hp)).1
 ·obtain⟨e,q⟩:=B.pl;exact⟨e,K _ _ q⟩
 ·rw[List.reverse_reverse];exact binds_ok τ hτ q
inductive DigR (n:Int):Nat→Int→Int→Int→List Int→List Int→Prop
 |one {f x L R ds}:L+1=R→0≤L→L<ds.length→L<2^62→DigR n (f+1) x L R ds (ds.set L.toNat x)
 |two {f x L R ds d1 d2 M S U}:L+1≠R→(L+R).fdiv (2^1)=M→(M-L)*n=S→x.fdiv (2^S.toNat)=U→mulOk (M-L) n=true→0≤S→(Builtin.Int.intBits U:Int)+S≤2^27→
  DigR n f (Builtin.bitXor x (U*2^S.toNat)) L M ds d1→DigR n f U M R d1 d2→DigR n (f+1) x L R ds d2
inductive SumR (n:Int) (ds:List Int):Nat→Int→Int→Int→Prop
 |one {f L R v}:L+1=R→0≤L→L<2^62→ds[L.toNat]? =some v→SumR n ds (f+1) L R v
 |two {f L R M S a b}:L+1≠R→(L+R).fdiv (2^1)=M→(M-L)*n=S→mulOk (M-L) n=true→0≤S→(Builtin.Int.intBits a:Int)+S≤2^27→SumR n ds f M R a→SumR n ds f L M b→SumR n ds (f+1) L R (a*2^S.toNat+b)
theorem DigR.len {n:Int} {f:Nat} {x L R:Int} {ds d2:List Int} (h:DigR n f x L R ds d2):d2.length=ds.length:=by
 induction h with
 |one=>exact length_set
 |two _ _ _ _ _ _ _ _ _ a b=>exact b.trans a
theorem IntsAre.get:∀{vs:List Value} {ns:List Int} {i:Nat} {x:Int},IntsAre vs ns→ns[i]? =some x→∃t,vs[i]? =some (.int x t):=by
 intro vs ns i x h
 induction h generalizing i with
 |nil=>intro e;simp at e
 |cons n t r ih=>
  intro e
  cases i with
  |zero=>simp at e;subst e;exact⟨t,rfl⟩
  |succ i=>simpa using ih (by simpa using e)
section
variable (m:Mod) (fd:FuncData) (f D:Addr) (o:Obj) (n:Int)
noncomputable def DigP (fu:Nat) (x L R:Int) (ds ds':List Int):Prop:=∀(A:Around) (s:Shared) (tx tL tR:Tok) (its:List Value),A.depth+fu<recursionLimit+1→CB fd f D o n "a_digits" its s.heap→IntsAre its ds→
 ∀Q:Value→Shared→Prop,(∀h' k its',KpD false D s.heap h'→h'.PlainList D its'.toArray→IntsAre its' ds'→Q .none { s with heap:=h',toks:=k })→wpAny (m.M) A (call (.ref f) [.int x tx,.int L tL,.int R tR]) Q NoE s
noncomputable def SumP (its:List Value) (fu:Nat) (L R v:Int):Prop:=∀(A:Around) (s:Shared) (tL tR:Tok),A.depth+fu<recursionLimit+1→CB fd f D o n "digits" its s.heap→
 ∀Q:Value→Shared→Prop,(∀h' k t,KpD true D s.heap h'→h'.PlainList D its.toArray→Q (.int v t) { s with heap:=h',toks:=k })→wpAny (m.M) A (call (.ref f) [.int L tL,.int R tR]) Q NoE s
end
section
variable {m:Mod} {fd:FuncData} {f D:Addr} {o:Obj} {n:Int} {fu:Nat} {x L R:Int} {ds ds':List Int}
theorem dig_bind (I:InnIs fd I2) (x y z:Value):bindArgs fd ⟨[x,y,z],[]⟩=pure [(("x":Str),x),(("L":Str),y),(("R":Str),z)]:=by
 have h1:=I.params
 have h2:=I.dfl
 have h3:=I.kwd
 obtain⟨n,q,p,b,s,g,c,d,kd,dc,py,an,cd,ct,bl⟩:=fd
 dsimp only at h1 h2 h3
 subst h1 h2 h3
 kernel_rfl
theorem sum_bind (I:InnIs fd D2) (y z:Value):bindArgs fd ⟨[y,z],[]⟩=pure [(("L":Str),y),(("R":Str),z)]:=by
 have h1:=I.params
 have h2:=I.dfl
 have h3:=I.kwd
 obtain⟨n,q,p,b,s,g,c,d,kd,dc,py,an,cd,ct,bl⟩:=fd
 dsimp only at h1 h2 h3
 subst h1 h2 h3
 kernel_rfl
theorem sc_ok {fd:FuncData} {I:Inn} {dg:Str} (h:InnIs fd I) (q:((I.scope.names.all fun x=>x.2 != .cell)&&((!I.scope.isCoroutine&& !I.scope.isGenerator)&&(I.scope.kind== .function&&(I.scope.names.lookup dg==some .free&&(I.scope.names.lookup ("inner":Str)==some .free&&I.scope.names.lookup ("n":Str)==some .free)))))=true):
 ((fd.scope.names.all fun x=>x.2 != .cell)&&((!fd.scope.isCoroutine&& !fd.scope.isGenerator)&&(fd.scope.kind== .function&&(fd.scope.names.lookup dg==some .free&&(fd.scope.names.lookup ("inner":Str)==some .free&&fd.scope.names.lookup ("n":Str)==some .free)))))=true:=by
 refine(h.scope)▸ ?_;exact q
theorem ok_of {fd:FuncData} {I:Inn} (h:InnIs fd I) {l:List Str} (q:(l.all fun y=>okY I.scope.names y)=true):(l.all fun y=>okY fd.scope.names y)=true:=by
 rw[h.scope];exact q
variable (I:InnIs fd I2)
include I
theorem dig_one {ds:List Int} (e0:L+1=R) (g1:0≤L) (g2:L<ds.length) (g3:L<2^62):DigP m fd f D o n (fu+1) x L R ds (ds.set L.toNat x):=by
 intro A s tx tL tR its hdep B hi Q hQ
 have hb:I2.body=I2.body:=rfl
 conv at hb=>rhs;whnf
 refine CS.enter (ro:=false) B (I.body.trans (congrArg _ hb)) (Nat.lt_of_le_of_lt (Nat.le_add_right _ fu) (Nat.lt_of_succ_lt_succ hdep)) (τ:=[("R",R,tR),("L",L,tL),("x",x,tx)]) (dig_bind I _ _ _) (ok_of (l:=["R","L","x"]) I (by kernel_rfl)) (sc_ok I (by kernel_rfl)) fun env h k S=>?_
 refine wpAny_execs_cons (wpAny_If (wpAny_isTrue_Compare1 (S.rd (i:=L+1) (.bin (.name (by kernel_rfl)) .const .add) fun t2 k2=>S.rd (i:=R) (.name (by kernel_rfl)) fun t3 k3=>PyProof.Rows.eq_int (wpAny_truthy_bool ?_)) rfl))
 rw[beq_of_eq e0]
 show wpAny _ _ (execs _ env) _ _ _
 refine wpAny_execs_cons (wpAny_Assign_Subscript (S.rd (i:=x) (.name (by kernel_rfl)) fun t4 k4=>?_) rfl)
 obtain⟨c,c1,c2⟩:=S.b.dgc
 refine S.freeV S.free.1 c1 c2 ⟨by decide +kernel,by decide +kernel⟩ (S.rd (i:=L) (.name (by kernel_rfl)) fun t5 k5=>?_)
 refine setItem_plain (s:={ s with heap:=h,toks:=k5 }) S.pl g1 (Int.lt_trans g3 (by decide)) (by rw[size_toArray,hi.length];exact g2) fun h2 hp2 hs2=>?_
 show wpAny _ _ (execs _ env) _ _ _
 refine wpAny_execs_cons (wpAny_Return_none (hQ h2 k5 (its.set L.toNat (.int x t4)) (fun b o hb q=>hs2.extBut b o (hb.resolve_right nofun) (S.kp b o hb q)) ?_ (IntsAre.set _ _ _ hi)))
 rw[List.setIfInBounds_toArray]at hp2
 exact hp2
theorem dig_two {ds d1 d2:List Int} {M S U:Int} (e0:L+1≠R) (e1:(L+R).fdiv (2^1)=M) (e2:(M-L)*n=S) (e3:x.fdiv (2^S.toNat)=U) (g1:mulOk (M-L) n=true) (g2:0≤S) (g3:(Builtin.Int.intBits U:Int)+S≤2^27)
 (a1:DigP m fd f D o n fu (Builtin.bitXor x (U*2^S.toNat)) L M ds d1) (a2:DigP m fd f D o n fu U M R d1 d2):DigP m fd f D o n (fu+1) x L R ds d2:=by
 intro A s tx tL tR its hdep B hi Q hQ
 have hb:I2.body=I2.body:=rfl
 conv at hb=>rhs;whnf
 refine CS.enter (ro:=false) B (I.body.trans (congrArg _ hb)) (Nat.lt_of_le_of_lt (Nat.le_add_right _ fu) (Nat.lt_of_succ_lt_succ hdep)) (τ:=[("R",R,tR),("L",L,tL),("x",x,tx)]) (dig_bind I _ _ _) (ok_of (l:=["R","L","x"]) I (by kernel_rfl)) (sc_ok I (by kernel_rfl)) fun env h k T=>?_
 have hdep':(A.deeper env).depth+fu<recursionLimit+1:=by show A.depth+1+fu<_;rw[Nat.add_right_comm];exact hdep
 generalize A.deeper env=A' at hdep' ⊢
 refine wpAny_execs_cons (wpAny_If (wpAny_isTrue_Compare1 (T.rd (i:=L+1) (.bin (.name (by kernel_rfl)) .const .add) fun t2 k2=>T.rd (i:=R) (.name (by kernel_rfl)) fun t3 k3=>PyProof.Rows.eq_int (wpAny_truthy_bool ?_)) rfl))
 rw[beq_false_of_ne e0]
 show wpAny _ _ (execs _ env) _ _ _
 refine wpAny_execs_nil ?_
 show wpAny _ _ (execs _ env) _ _ _
 have oks:=ok_of (l:=["mid","shift","upper","lower"]) I (by kernel_rfl)
 simp only[List.all_cons,Bool.and_eq_true]at oks
 refine T.asg oks.1 (i:=M) (e1▸.bin (.bin (.name (by kernel_rfl)) (.name (by kernel_rfl)) .add) .const (.shr (by decide))) fun h k T=>?_
 refine T.asg oks.2.1 (i:=S) (e2▸.bin (.bin (.name (by kernel_rfl)) (.name (by kernel_rfl)) .sub) (.name (by kernel_rfl)) (.mul g1)) fun h k T=>?_
 refine T.asg oks.2.2.1 (i:=U) (e3▸.bin (.name (by kernel_rfl)) (.name (by kernel_rfl)) (.shr g2)) fun h k T=>?_
 refine T.asg oks.2.2.2.1 (i:=Builtin.bitXor x (U*2^S.toNat)) (.bin (.name (by kernel_rfl)) (.bin (.name (by kernel_rfl)) (.name (by kernel_rfl)) (.shl g2 g3)) .xor) fun h k T=>?_
 have int:interactive env=false:=by unfold interactive;obtain⟨_,F,_⟩:=T.fr;rw[F.kind];rfl
 refine wpAny_execs_cons (wpAny_Expr_any (T.three (x:=Builtin.bitXor x (U*2^S.toNat)) (i:=L) (j:=M) (.name (by kernel_rfl)) (.name (by kernel_rfl)) (.name (by kernel_rfl)) rfl rfl rfl rfl fun t6 t7 t8 k=>a1 A' { s with heap:=h,toks:=k } t6 t7 t8 its hdep' T.b hi _ fun h2 k its2 K P I6=>?_) int rfl)
 have T:=T.turn K P
 show wpAny _ _ (execs _ env) _ _ _
 refine wpAny_execs_cons (wpAny_Expr_any (T.three (x:=U) (i:=M) (j:=R) (.name (by kernel_rfl)) (.name (by kernel_rfl)) (.name (by kernel_rfl)) rfl rfl rfl rfl fun t6 t7 t8 k=>a2 A' { s with heap:=h2,toks:=k } t6 t7 t8 its2 hdep' T.b I6 _ fun h3 k its3 K P I7=>?_) int rfl)
 have T:=T.turn K P
 show wpAny _ _ (execs [] env) _ _ _
 exact wpAny_execs_nil (hQ h3 k its3 T.kp P I7)
theorem dig_ok {ds ds':List Int} (h:DigR n fu x L R ds ds'):DigP m fd f D o n fu x L R ds ds':=by
 induction h with
 |one a b c d=>exact dig_one I a b c d
 |two a b c d e f g _ _ h i=>exact dig_two I a b c d e f g h i
end
section
variable {m:Mod} {fd:FuncData} {f D:Addr} {o:Obj} {n:Int} {fu:Nat} {L R v:Int} {ds:List Int} {its:List Value} (I:InnIs fd D2) (hi:IntsAre its ds)
include I
include hi in
theorem sum_one (e0:L+1=R) (g1:0≤L) (g3:L<2^62) (ev:ds[L.toNat]? =some v):SumP m fd f D o n its (fu+1) L R v:=by
 intro A s tL tR hdep B Q hQ
 have hb:D2.body=D2.body:=rfl
 conv at hb=>rhs;whnf
 refine CS.enter (ro:=true) B (I.body.trans (congrArg _ hb)) (Nat.lt_of_le_of_lt (Nat.le_add_right _ fu) (Nat.lt_of_succ_lt_succ hdep)) (τ:=[("R",R,tR),("L",L,tL)]) (sum_bind I _ _) (ok_of (l:=["R","L"]) I (by kernel_rfl)) (sc_ok I (by kernel_rfl)) fun env h k S=>?_
 refine wpAny_execs_cons (wpAny_If (wpAny_isTrue_Compare1 (S.rd (i:=L+1) (.bin (.name (by kernel_rfl)) .const .add) fun t2 k2=>S.rd (i:=R) (.name (by kernel_rfl)) fun t3 k3=>PyProof.Rows.eq_int (wpAny_truthy_bool ?_)) rfl))
 rw[beq_of_eq e0]
 show wpAny _ _ (execs _ env) _ _ _
 refine wpAny_execs_cons (wpAny_Return_some (Subscript_ ?_))
 obtain⟨c,c1,c2⟩:=S.b.dgc
 refine S.freeV S.free.1 c1 c2 ⟨by decide +kernel,by decide +kernel⟩ (S.rd (i:=L) (.name (by kernel_rfl)) fun t5 k5=>?_)
 obtain⟨tv,hv⟩:=IntsAre.get hi ev
 exact tail_go S.pl.isList.typeIs slot_list_getitem.lookup (wpAny_getItem_list (s:={ s with heap:=h,toks:=k5 }) S.pl.isList g1 (Int.lt_trans g3 (by decide)) (by refine Eq.trans (List.getElem?_toArray) ?_;exact hv) (hQ h k5 tv S.kp S.pl))
theorem sum_two {M S a b:Int} (e0:L+1≠R) (e1:(L+R).fdiv (2^1)=M) (e2:(M-L)*n=S) (g1:mulOk (M-L) n=true) (g2:0≤S) (g3:(Builtin.Int.intBits a:Int)+S≤2^27)
 (a1:SumP m fd f D o n its fu M R a) (a2:SumP m fd f D o n its fu L M b):SumP m fd f D o n its (fu+1) L R (a*2^S.toNat+b):=by
 intro A s tL tR hdep B Q hQ
 have hb:D2.body=D2.body:=rfl
 conv at hb=>rhs;whnf
 refine CS.enter (ro:=true) B (I.body.trans (congrArg _ hb)) (Nat.lt_of_le_of_lt (Nat.le_add_right _ fu) (Nat.lt_of_succ_lt_succ hdep)) (τ:=[("R",R,tR),("L",L,tL)]) (sum_bind I _ _) (ok_of (l:=["R","L"]) I (by kernel_rfl)) (sc_ok I (by kernel_rfl)) fun env h k T=>?_
 have hdep':(A.deeper env).depth+fu<recursionLimit+1:=by show A.depth+1+fu<_;rw[Nat.add_right_comm];exact hdep
 generalize A.deeper env=A' at hdep' ⊢
 refine wpAny_execs_cons (wpAny_If (wpAny_isTrue_Compare1 (T.rd (i:=L+1) (.bin (.name (by kernel_rfl)) .const .add) fun t2 k2=>T.rd (i:=R) (.name (by kernel_rfl)) fun t3 k3=>PyProof.Rows.eq_int (wpAny_truthy_bool ?_)) rfl))
 rw[beq_false_of_ne e0]
 show wpAny _ _ (execs _ env) _ _ _
 refine wpAny_execs_nil ?_
 show wpAny _ _ (execs _ env) _ _ _
 have oks:=ok_of (l:=["mid","shift"]) I (by kernel_rfl)
 simp only[List.all_cons,Bool.and_eq_true]at oks
 refine T.asg oks.1 (i:=M) (e1▸.bin (.bin (.name (by kernel_rfl)) (.name (by kernel_rfl)) .add) .const (.shr (by decide))) fun h k T=>?_
 refine T.asg oks.2.1 (i:=S) (e2▸.bin (.bin (.name (by kernel_rfl)) (.name (by kernel_rfl)) .sub) (.name (by kernel_rfl)) (.mul g1)) fun h k T=>?_
 refine wpAny_execs_cons (wpAny_Return_some (wpAny_BinOp (wpAny_BinOp (T.two (i:=M) (j:=R) (.name (by kernel_rfl)) (.name (by kernel_rfl)) rfl rfl rfl fun t6 t7 k=>a1 A' { s with heap:=h,toks:=k } t6 t7 hdep' T.b _ fun h k ta K P=>?_))))
 have T:=T.turn K P
 refine T.rd (i:=S) (.name (by kernel_rfl)) fun t8 k=>iop2_ok (s:={ s with heap:=h }) (op:= .LShift) (a:=a) (b:=S) (c:=a*2^S.toNat) (.shl g2 g3) fun t9 k=>?_
 refine T.two (i:=L) (j:=M) (.name (by kernel_rfl)) (.name (by kernel_rfl)) rfl rfl rfl fun t6 t7 k=>a2 A' { s with heap:=h,toks:=k } t6 t7 hdep' T.b _ fun h k tb K P=>?_
 exact iop2_ok (s:={ s with heap:=h }) (op:= .Add) .add fun t12 k=>hQ h k t12 (T.turn K P).kp P
include hi in
theorem sumd_ok (h:SumR n ds fu L R v):SumP m fd f D o n its fu L R v:=by
 induction h with
 |one a b c d=>exact sum_one I hi a b c d
 |two a b c d e f _ _ g h=>exact sum_two I a b c d e f g h
end
section
variable {M:Model} {A:Around} {s:Shared} {E:Value→Shared→Prop}
inductive BmAt (h:Heap) (mg:Str→Option Value) (P:Addr):Prop
 |mk (bm:Addr) (o:Obj):mg "__builtins__"=some (.ref bm)→bm≠builtinsNs→bm≠P→h.get? bm=some o→o.cls= .type "module"→o.dict=some builtinsNs→o.data= .plain→BmAt h mg P
inductive CodeC (h:Heap) (cd:Value) (q:Str):Prop
 |mk (c:Addr) (oc:Obj) (vs:Array Value) (t:Tok):cd= .ref c→h.get? c=some oc→oc.cls= .type "code"→oc.data= .fields vs→vs[1]? =some (.str q t)→CodeC h cd q
theorem CodeC.tor {h:Heap} {cd:Value} {q:Str} (x:CodeC h cd q):h.CodeRec cd q:=let ⟨c,oc,vs,t,a,b,_,d,e⟩:=x;⟨c,oc,vs,t,a,b,d,e⟩
theorem makeF_ok {name qual:Str} {params:Arguments} {body:List Stmt} {scope:Scope} {env:Env} {cl:List (Str×Addr)} {c P:Addr} {ps:Array Value} {pos:Pos} {fl:Nat} {mg:Str→Option Value} {Q:Value→Shared→Prop}
 (hcl:closureFor scope env=pure cl) (hne:cl.isEmpty=false) (hg:s.heap.Ns env.globals mg) (hcode:env.code= .ref c) (hok:s.heap.IsCode c P ps) (hT:s.heap.TableAt c P ps)
 (hps:ps= #[]∨∃c' oc vs t,ps= #[rawInt pos.line,rawInt pos.col,.ref c']∧s.heap.get? c'=some oc∧oc.cls= .type "code"∧oc.data= .fields vs∧vs[1]? =some (.str qual t))
 (hgP:env.globals≠P) (hb:BmAt s.heap mg P) (hdoc:docOf body=none)
 (h:∀f h' n fd,(∀b o,b≠P→s.heap.get? b=some o→h'.get? b=some o)→s.heap.get? f=none→h'.get? f=some { cls:= .type "function",data:= .func fd }→
  (fd.body= .stmts body∧fd.scope=scope∧fd.params=params∧fd.closure=cl∧fd.globals=env.globals∧fd.builtins=builtinsNs∧fd.qualname=qual∧fd.defaults= .none∧fd.kwdefaults= .none)→
  CodeC h' fd.code fd.qualname→TabInv h' [(P,((pos.line:Int),(pos.col:Int),qual))]→Q (.ref f) { s with heap:=h',toks:=n }):
 wpAny M A (makeFunction name qual params (.stmts body) scope env [] [] [] pos fl) Q E s:=by
 rw[makeFunction_eq]
 simp only[List.zip_nil_right,List.filterMap_nil,List.isEmpty_nil,if_true]
 refine wpAny_bind (wpAny_pure (wpAny_bind (wpAny_pure (wpAny_bind (wpAny_pure ?_)))))
 unfold makeTail
 rw[hcl]
 refine wpAny_bind (wpAny_pure ?_)
 rw[if_neg (by rw[hne];simp)]
 refine wpAny_bind (wpAny_newTextTuple ?_)
 generalize hh1:s.heap.push { cls:= .type "tuple",data:= .seq ((cl.mergeSort fun a b=>decide (a.1.cps.toList≤b.1.cps.toList)).map (.ref ·.2)).toArray }=h1
 have k1:∀b o,s.heap.get? b=some o→h1.get? b=some o:=fun b o q=>by rw[←hh1];exact Heap.get?_push_of_some _ q
 have fin:∀(h2:Heap),(∀b o,b≠P→s.heap.get? b=some o→h2.get? b=some o)→h2.Ns env.globals mg∧BmAt h2 mg P:=by
  intro h2 k2
  refine hid fun G_ k_=>?_
  obtain⟨og,es,ep,q1,q2⟩:=hg
  obtain⟨bm,ob,b1,b2,b3,b4,b5,b6,b7⟩:=hb
  refine k_ ?_
  exact⟨⟨og,es,ep,k2 _ _ hgP q1,q2⟩,bm,ob,b1,b2,b3,k2 _ _ b3 b4,b5,b6,b7⟩
 refine wpAny_bind ?_
 have hsz1:s.heap.objs.size≤h1.objs.size:=by rw[←hh1,Heap.size_push];exact Nat.le_add_right s.heap.objs.size 1
 rcases hps with rfl|⟨c',oc,vs,t,rfl,q1,q2,q3,q4⟩
 ·refine wpAny_functionCodeX (s:={ s with heap:=h1 }) hcode (hok.keeps k1) (hT.keeps k1) rfl fun c' h2 n hx hge hlt hok2 hrec htab hp1=>?_
  refine hid fun G_ k_=>?_
  obtain⟨P',_,hcode2,htab2⟩:=hp1
  have k2:∀b o,b≠P→s.heap.get? b=some o→h2.get? b=some o:=fun b o hb q=>hx b o hb (k1 b o q)
  obtain⟨hg2,bm,ob,b1,b2,b3,b4,b5,b6,b7⟩:=fin h2 k2
  refine k_ ?_
  refine wpAny_bind (wpAny_builtinsFor (s:={ s with heap:=h2,toks:=n }) hg2 b1 b2 b4 b5 b6 b7 ?_)
  refine wpAny_bind (wpAny_nsGet (s:={ s with heap:=h2,toks:=n }) hg2 ?_)
  simp only[hdoc]
  refine wpAny_bind (wpAny_pure (wpAny_newObj_type (s:={ s with heap:=h2,toks:=n }) ?_ (by simp[sizeOk])))
  refine hid fun G_ k_=>?_
  obtain⟨⟨oc,vs,q1,q2,q3,q4⟩,_⟩:=htab2
  obtain⟨cc,oc2,vs2,t,q5,q6,q7,q8⟩:=hrec
  cases q5
  rw[q1]at q6;cases q6
  rw[q3]at q7;cases q7
  refine k_ ?_
  refine h _ _ _ _ (fun b o hb q=>Heap.get?_push_of_some _ (k2 b o hb q)) (none_ge (Nat.le_trans hsz1 (Nat.le_trans hge (Nat.le_of_lt hlt)))) (Heap.get?_push_size _ rfl) ⟨rfl,rfl,rfl,rfl,rfl,rfl,rfl,rfl,rfl⟩ ⟨c',oc,vs,t,rfl,Heap.get?_push_of_some _ q1,q2,q3,q8⟩ ?_
  intro x hx'
  simp only[mem_cons,not_mem_nil,or_false]at hx'
  subst hx'
  exact⟨_,Heap.get?_push_of_some _ htab.2,.inr ⟨c',oc,vs,t,rfl,Heap.get?_push_of_some _ q1,q2,q3,q8⟩⟩
 ·refine wpAny_functionCode_hit (s:={ s with heap:=h1 }) hcode (hok.keeps k1) (c':= .ref c') (by simp[codeAmong,rawInt]) ?_
  refine hid fun G_ k_=>?_
  obtain⟨hg2,bm,ob,b1,b2,b3,b4,b5,b6,b7⟩:=fin h1 fun b o ux q=>k1 b o q
  refine k_ ?_
  refine wpAny_bind (wpAny_builtinsFor (s:={ s with heap:=h1 }) hg2 b1 b2 b4 b5 b6 b7 ?_)
  refine wpAny_bind (wpAny_nsGet (s:={ s with heap:=h1 }) hg2 ?_)
  simp only[hdoc]
  refine wpAny_bind (wpAny_pure (wpAny_newObj_type (s:={ s with heap:=h1 }) ?_ (by simp[sizeOk])))
  refine h _ _ _ _ (fun b o hb q=>Heap.get?_push_of_some _ (k1 b o q)) (none_ge hsz1) (Heap.get?_push_size _ rfl) ⟨rfl,rfl,rfl,rfl,rfl,rfl,rfl,rfl,rfl⟩ ⟨c',oc,vs,t,rfl,Heap.get?_push_of_some _ (k1 _ _ q1),q2,q3,q4⟩ ?_
  intro x hx'
  simp only[mem_cons,not_mem_nil,or_false]at hx'
  subst hx'
  exact⟨_,Heap.get?_push_of_some _ (k1 _ _ hT.2),.inr ⟨c',oc,vs,t,rfl,Heap.get?_push_of_some _ (k1 _ _ q1),q2,q3,q4⟩⟩
end
inductive CodeAt (h:Heap) (c P:Addr):Prop
 |mk (o:Obj) (vs:Array Value) (file:Str) (tf:Tok) (flags:Int) (tg:Tok) (inF:Bool) (text:Int) (tt:Tok):h.get? c=some o→o.cls= .type "code"→o.data= .fields vs→vs[11]? =some (.ref P)→vs.getD 11 .none= .ref P→vs.getD 18 .none= .str file tf→
  vs.getD 7 .none= .int flags tg→vs.getD 9 .none= .bool inF→vs.getD 10 .none= .int text tt→CodeAt h c P
inductive BmIn (h:Heap) (mg:Str→Option Value):Prop
 |mk (bm:Addr) (o:Obj):mg "__builtins__"=some (.ref bm)→bm≠builtinsNs→h.get? bm=some o→o.cls= .type "module"→o.dict=some builtinsNs→o.data= .plain→BmIn h mg
section
variable {m:Mod} {C:Addr} {h₀:Heap} {k:Nat} {A:Around} {s:Shared} {R:RC}
theorem SI.setCell {env ns Γ hs} (S:SI C h₀ env ns Γ R hs s) {x:Str} {c:Addr} {v:Value} {h':Heap} {n:Nat} (hl:ns.lookup x=some .cell) (e1:env.cells.lookup x=some c) (hc':h'.IsCell c (some v)) (hs':Heap.SameBut c s.heap h'):
 SI C h₀ env ns (setG x .any Γ) R hs { s with heap:=h',toks:=n }:=by
 refine hid fun G_ k_=>?_
 have V:=S.var
 obtain⟨c0,ov,sl0,e1',⟨oc,h1,h2⟩,e3,q0⟩:=V.cel x hl
 rw[e1]at e1';cases e1'
 have hown:Own env ns c:= .inr ⟨x,hl,e1⟩
 refine k_ ?_
 have nseq:∀vs n,oc.data≠.seq vs n:=by rw[h2];intros;simp
 have nfld:∀vs,oc.data≠.fields vs:=by rw[h2];intros;simp
 refine⟨fun b ob e=>(hs'.2 b (fun q=>?_)).trans (S.base b ob e),S.nb,⟨V.kind,V.names,V.glob,V.blt,?_,?_,V.inj⟩,S.hdr.other hs'.extBut h1 nseq (fun ux=>nfld) fun p hp=>S.apart p hp c hown,S.apart,S.fresh⟩
 ·subst q;rw[S.fresh _ hown]at e;cases e
 ·refine hid fun G_ k_=>?_
  obtain⟨z0,⟨oL,es,ep,hoL,hdL,rL⟩,hall⟩:=V.loc
  have hcl:env.locals≠c:=fun q=>by rw[q,h1]at hoL;cases hoL;rw[h2]at hdL;cases hdL
  refine k_ ?_
  refine⟨z0,⟨oL,es,ep,(hs'.2 _ hcl).trans hoL,hdL,rL⟩,fun y hy=>?_⟩
  obtain⟨sl1,e4,q1⟩:=hall y hy
  have hyx:y≠x:=fun e=>by subst e;rw[hl]at hy;cases hy
  exact⟨sl1,(setG_other hyx).trans e4,q1.other hs'.extBut h1 nseq (fun ux=>nfld)⟩
 ·intro y hy
  by_cases hyx:y=x
  ·subst hyx
   exact⟨c,some v,.any,e1,hc',setG_same (by rw[e3];rfl),trivial⟩
  ·refine hid fun G_ k_=>?_
   obtain⟨c',ov',sl1,e4,⟨oc',h4,h5⟩,e6,q1⟩:=V.cel y hy
   have hcc:c'≠c:=fun e=>hyx (V.inj y x c (e▸e4) e1)
   refine k_ ?_
   exact⟨c',ov',sl1,e4,⟨oc',(hs'.2 _ hcc).trans h4,h5⟩,(setG_other hyx).trans e6,q1.other hs'.extBut h1 nseq (fun ux=>nfld)⟩
theorem HsR.entry {h h':Heap} {hs:HS} (H:HsR C h R hs) {e:Addr×(Int×Int×Str)} (he:e∈R.tk.X) (k:∀b o,b≠e.1→h.get? b=some o→h'.get? b=some o) (t:TabInv h' [e]):HsR C h' R hs:=by
 refine H.tables (fun b o hb q=>k b o (fun q'=>hb (mem_map.mpr ⟨e,he,q'.symm⟩)) q) fun x hx=>?_
 by_cases hxe:x=e
 ·subst hxe;exact t x (by exact mem_cons_self)
 ·have nod:=(List.nodup_append.mp (List.nodup_append.mp H.nod).2.1).2.1
  have hne:x.1≠e.1:=by
   intro q
   obtain⟨i,hi⟩:=List.mem_iff_getElem?.mp hx
   obtain⟨j,hj⟩:=List.mem_iff_getElem?.mp he
   have g1:(R.tk.X.map (·.1))[i]? =some x.1:=by simp[hi]
   have g2:(R.tk.X.map (·.1))[j]? =some x.1:=by simp[hj,q]
   have hlt:=(List.getElem?_eq_some_iff.mp g1).1
   have:=(List.getElem?_inj hlt nod).mp (g1.trans g2.symm)
   rw[this,hj]at hi;cases hi;exact hxe rfl
  obtain⟨ps,h1,h2⟩:=H.tabs x hx
  obtain⟨pe,he1,_⟩:=H.tabs e he
  have hc:∀b o,h.get? b=some o→o.cls= .type "code"→h'.get? b=some o:=fun b o q1 q2=>k b o (fun q=>by rw[q,he1]at q1;cases q1;cases q2) q1
  exact⟨ps,k _ _ hne h1,h2.imp id fun⟨c',oc,vs,t,e1,e2,e3,e4,e5⟩=>⟨c',oc,vs,t,e1,hc _ _ e2 e3,e3,e4,e5⟩⟩
theorem def_ok {env ns Γ hs} (S:SI C h₀ env ns Γ R hs s) {name:Str} {params:Arguments} {body:List Stmt} {scope:Scope} {pos:Pos} {c P:Addr} {qual:Str} {mg:Str→Option Value} {Q:Flow→Shared→Prop}
 (hname:ns.lookup name=some .cell) (hfree:∀x∈scope.names,x.2= .free→ns.lookup x.1=some .cell) (hsome:∃x∈scope.names,x.2= .free)
 (hd1:params.defaults=[]) (hd2:params.kw_defaults=[]) (hann:annTrees params none env=[]) (hcode:env.code= .ref c) (hC:CodeAt h₀ c P) (hX:(P,((pos.line:Int),(pos.col:Int),qual))∈R.tk.X) (hq:qualnameIn env name name=qual)
 (hg:h₀.Ns mainGlobals mg) (hb:BmIn h₀ mg) (hdoc:docOf body=none)
 (h:∀s' f fd ci,SI C h₀ env ns (setG name .any Γ) R hs s'→StepS env ns s R s' R→s'.heap.get? f=some { cls:= .type "function",data:= .func fd }→
  (fd.body= .stmts body∧fd.scope=scope∧fd.params=params∧fd.closure=clF (fun x=>env.cells.lookup x) scope.names []∧fd.globals=mainGlobals∧fd.builtins=builtinsNs∧fd.defaults= .none∧fd.kwdefaults= .none)→CodeC s'.heap fd.code fd.qualname→
  env.cells.lookup name=some ci→s'.heap.IsCell ci (some (.ref f))→(∀b o,b≠P→b≠ci→s.heap.get? b=some o→s'.heap.get? b=some o)→Q .next s'):
 wpAny (m.M) A (exec (.FunctionDef name params body [] none [] scope none name pos) env) Q NoE s:=by
 refine hid fun G_ k_=>?_
 have V:=S.var
 obtain⟨ps,hP,hps⟩:=S.hdr.tabs _ hX
 have hPb:P∈R.bad:=mem_append_right _ (mem_append_right _ (mem_map.mpr ⟨_,hX,rfl⟩))
 have hP0:∀b o,h₀.get? b=some o→b≠P:=fun b o q q'=>S.nb b o q (q'▸hPb)
 obtain⟨oc,vs,file,tf,flags,tg,inF,text,tt,q1,q2,q3,q4,q5,q6,q7,q8,q9⟩:=hC
 have hcP:c≠P:=hP0 _ _ q1
 have htr:TriplesOk ps.toList:=by
  rcases hps with rfl|⟨c',oc,vs,t,rfl,_⟩
  ·simp[TriplesOk]
  ·trivial
 have hok:s.heap.IsCode c P ps:=⟨oc,vs,file,tf,flags,tg,inF,text,tt,_,S.base _ _ q1,q3,q5,q6,q7,q8,q9,hP,rfl,htr,hcP⟩
 have hT:s.heap.TableAt c P ps:=⟨⟨oc,vs,S.base _ _ q1,q2,q3,q4⟩,hP⟩
 have hg':s.heap.Ns env.globals mg:=V.glob▸hg.keeps S.base
 have hgP:env.globals≠P:=by
  rw[V.glob];obtain⟨og,es,ep,q,_⟩:=hg;exact hP0 _ _ q
 have hb':BmAt s.heap mg P:=by
  refine hid fun G_ k_=>?_
  obtain⟨bm,ob,b1,b2,b3,b4,b5,b6⟩:=hb
  refine k_ ?_
  exact⟨bm,ob,b1,b2,hP0 _ _ b3,S.base _ _ b3,b4,b5,b6⟩
 have hcl:closureFor scope env=pure (clF (fun x=>env.cells.lookup x) scope.names []):=closure_ok fun x hx hf=>by
  obtain⟨cc,_,_,e1,_⟩:=V.cel x.1 (hfree x hx hf)
  rw[e1];rfl
 have hne:(clF (fun x=>env.cells.lookup x) scope.names []).isEmpty=false:=by
  refine hid fun G_ k_=>?_
  obtain⟨x,hx,hf⟩:=hsome
  obtain⟨cc,_,_,e1,_⟩:=V.cel x.1 (hfree x hx hf)
  have:=clF_lookup (f:=fun x=>env.cells.lookup x) (names:=scope.names) (x:=x.1) (by obtain⟨a,b⟩:=x;cases hf;exact hx) e1
  refine k_ ?_
  cases q:clF (fun x=>env.cells.lookup x) scope.names []with
  |nil=>rw[q]at this;cases this
  |cons a r=>rfl
 refine k_ ?_
 (simp only[exec_def];rw[hq,defaultsOf_eq,hd1,hd2,hann])
 refine wpAny_bind (wpAny_standAt (wpAny_bind (wpAny_holding ?_)))
 refine wpAny_bind (wpAny_pure (wpAny_bind (wpAny_holding (wpAny_pure (wpAny_holding (wpAny_bind (wpAny_pure ?_)))))))
 refine makeF_ok hcl hne hg' hcode hok hT hps hgP hb' hdoc fun f h' n fd k1 hfn hf hfd hrec htab=>?_
 refine hid fun G_ k_=>?_
 obtain⟨f1,f2,f3,f4,f5,f6,f7,f8,f9⟩:=hfd
 have k2:Kept R.hl s.heap h':=fun b o hb q=>k1 b o (fun q'=>hb (mem_append_right _ (mem_map.mpr ⟨_,hX,q'.symm⟩))) q
 have H2:HsR C h' R hs:=S.hdr.entry hX k1 htab
 have T2:Tr C s R { s with heap:=h',toks:=n } R hs:=⟨StepR.refl _ _,⟨_,_,rfl⟩,k2,H2⟩
 have S2:=S.tr T2
 obtain⟨ci,ov,sl0,e1,e2,e3,_⟩:=S2.var.cel name hname
 refine k_ ?_
 refine wpAny_bind (wpAny_standAt (wpAny_bind (wpAny_bindName (wpAny_storeName_cell S2.var.kind (by unfold Env.kindOf;rw[S2.var.names];exact hname) e1 e2 fun h3 hc3 sb3=>wpAny_pure ?_))))
 have S3:=S2.setCell (n:=n) hname e1 hc3 sb3
 have hfci:f≠ci:=fun q=>by obtain⟨oo,q1,q2⟩:=e2;have q1:h'.get? ci=some oo:=q1;rw[←q,hf]at q1;cases q1;cases q2
 have hf3:h3.get? f=some { cls:= .type "function",data:= .func fd }:=sb3.extBut f _ hfci hf
 refine h { s with heap:=h3,toks:=n } f fd ci S3 ?_ hf3 ⟨f1,f2,f3,f4,f5.trans V.glob,f6,f8,f9⟩ ?_ e1 hc3 (fun b o hb1 hb2 q=>sb3.extBut b o hb2 (k1 b o hb1 q))
 ·refine(StepS.ofTr T2).trans ⟨rfl,⟨[],by simp,by simp⟩,⟨_,_,rfl⟩,fun ux q=> .inl q,fun ux q ux=>q,fun b o ux ux hb q=>sb3.extBut b o (fun q'=>hb (q'▸.inr ⟨name,hname,e1⟩)) q,fun b q=>?_⟩
  by_cases hb:b=ci
  ·subst hb;obtain⟨oo,q1,q2⟩:=hc3;have q1:h3.get? b=some oo:=q1;have q:h3.get? b=none:=q;rw[q]at q1;cases q1
  ·exact(sb3.2 b hb).symm.trans q
 ·refine hid fun G_ k_=>?_
  obtain⟨cc,oo,vv,t,r1,r2,rc,r3,r4⟩:=hrec
  refine k_ ?_
  refine⟨cc,oo,vv,t,r1,sb3.extBut cc _ (fun q=>?_) r2,rc,r3,r4⟩
  obtain⟨o2,q1,q2⟩:=e2
  have q1:h'.get? ci=some o2:=q1
  rw[q,q1]at r2;cases r2;rw[r3]at q2;cases q2
end
noncomputable abbrev vints (l:List Int):List V:=l.map V.int
theorem pv_map {α:Type} (n) (φ:α→V) (l:List α) (h:∀a∈l,pv n (φ a)=true):(l.map φ).all (pv n)=true:=by
 refine Iff.mpr (all_eq_true) ?_
 intro x hx
 obtain⟨i,hi,rfl⟩:=mem_map.mp hx
 exact h i hi
theorem pw_ints (l:List Int):pw (.p (.lst (vints l)))=true:=pv_map 7 _ _ fun ux ux=>rfl
theorem vints_to {h:Heap} {R:RC}:∀{l:List Int} {vs:List Value},VRs h R (vints l) vs→IntsAre vs l:=by
 intro v0_
 induction v0_ with
 |nil=>
  intro _ e
  cases e;exact .nil
 |cons x r ih_=>
  intro _ q1_
  obtain⟨_,_,e,⟨t,q⟩,h2⟩:=q1_
  cases e;cases q;exact .cons x t (ih_ h2)
theorem vints_of {h:Heap} {R:RC}:∀{l:List Int} {vs:List Value},IntsAre vs l→VRs h R (vints l) vs
 |_,_,.nil=>rfl
 |_,_,.cons _ t h2=>⟨_,_,rfl,⟨t,rfl⟩,vints_of h2⟩
theorem setG_id {x:Str} {sl:Slot}:∀{Γ:Gam},Γ.lookup x=some sl→setG x sl Γ=Γ:=by
 intro v0_
 induction v0_ with
 |nil=>
  intro h
  cases h
 |cons p_ r ih_=>
  obtain⟨y,s0⟩:=p_
  intro h
  show(if x==y then _ else(y,s0)::setG x sl r)=_
  cases hy:x==y with
  |true=>
   rw[lookup_cons,hy]at h
   cases h;rfl
  |false=>
   rw[lookup_cons,hy]at h
   rw[if_neg Bool.false_ne_true,ih_ h]
section
variable {m:Mod} {k:Nat} {A:Around} {s:Shared} {R:RC}
theorem PostW.seal {hs hs2:HS} {Γ':Gam} {r:W} {s₁ s':Shared} {f:Flow} {env:Env} {ns:Names} (H:HsR m.C s.heap R hs) (g:Go s s₁) (keep:∀b o,s.heap.get? b=some o→s₁.heap.get? b=some o)
 (above:∀c,Own env ns c→s.heap.objs.size≤c) (hp:pw r=true) (P:PostS m.C m.h₀ env ns s₁ R.sealed (.rt r) Γ' hs2 f s'):∃v,f= .ret v∧PostW m.C s R r (hs2.take hs.length) v s':=by
 obtain⟨R',P,v,rfl,hr⟩:=P
 obtain⟨T,sub⟩:=Tr.leave H g keep above P.st P.si.hdr
 exact⟨v,rfl,R,T,WR.leave H keep P.st sub hp hr⟩
theorem fn_core2 (O:m.Ok) {D:FD} {a:Addr} {fd:FuncData} (F:FnRec m.h₀ a D fd) {args:List V} {hs hs2:HS} {Γ Γ':Gam} {r:W} (hΓ:BindP D.params args (ownNames D.scope.names) Γ) (hnm:D.scope.names.lookup ("":Str)=none) (hp:pw r=true)
 (h:Γ.lookup ("":Str)=none→∀A env R s,AOK k A→R.tk=m.tk→SI m.C m.h₀ env D.scope.names Γ R hs s→env.code=fd.code→env.qual=fd.qualname++".<locals>."→wpAny m.M A (execs D.body env) (PostS m.C m.h₀ env D.scope.names s R (.rt r) Γ' hs2) NoE s):FnOK m (k+1) hs (.ref a) args r (hs2.take hs.length):=by
 intro A s R vals hA B H hv
 obtain⟨o,ho,hdata⟩:=F.at_
 refine wpAny_call (codeAny_call_cells (fd:=fd) (by have:=hA.dp;exact Nat.lt_of_add_right_lt this) (B.base _ _ ho) hdata (O.limit.keeps B.base) (F.code.keeps B.base) F.body
  (F.bind vals (by rw[hv.len,←bindPs_len hΓ])) F.clo ?_ ?_ (by rw[F.scope];exact F.co) (by rw[F.scope];exact F.gen) (by rw[F.scope];exact F.kind))
 ·intro x hx
  rw[F.scope]
  rcases isVar_or (all_eq_true.mp F.vars _ (List.of_mem_zip (a:=x.1) (b:=x.2) hx).1)with q|q
  ·exact .inl q
  ·exact .inr ⟨q,cellsFrom_some q⟩
 ·intro s₁ I
  obtain⟨S1,above⟩:=SI.enter F.scope F.glob F.blt B H F.kind hΓ hv I
  have hg:Go s s₁:=by obtain⟨h,t,q,_⟩:=I.done;exact⟨h,t,q⟩
  exact noE (h (bindPs_none hΓ (ownNames_none hnm)) _ _ R.sealed _ hA.deeper B.tk S1 rfl rfl) fun f s' P=>by
   obtain⟨v,rfl,h⟩:=PostW.seal H hg I.toInCall.keep above hp P
   exact h
theorem cell_tr {s':Shared} {R':RC} {hs hs':HS} {C:Addr} (H:HsR C s.heap R hs) (T:Tr C s R s' R' hs') {c:Addr} {v:Option Value} (q:s.heap.IsCell c v):s'.heap.IsCell c v:=by
 obtain⟨oo,q1,q2⟩:=q
 refine⟨oo,T.kp _ _ (fun hb=>?_) q1,q2⟩
 obtain⟨o',ho',e⟩:=H.seqs _ hb
 rw[q1]at ho';cases ho'
 exact Turn.no (by rw[q2];intros;simp) (by rw[q2];intros;simp) e
theorem obj_tr {s':Shared} {R':RC} {hs hs':HS} {C:Addr} (H:HsR C s.heap R hs) (T:Tr C s R s' R' hs') {b:Addr} {oo:Obj} (q1:s.heap.get? b=some oo) (q2:∀vs n,oo.data≠.seq vs n) (q3:oo.cls≠.none):s'.heap.get? b=some oo:=by
 refine T.kp _ _ (fun hb=>?_) q1
 obtain⟨o',ho',e⟩:=H.seqs _ hb
 rw[q1]at ho';cases ho'
 exact Turn.no2 q2 q3 e
theorem code_tr {s':Shared} {R':RC} {hs hs':HS} {C:Addr} (H:HsR C s.heap R hs) (T:Tr C s R s' R' hs') {cd:Value} {q:Str} (x:CodeC s.heap cd q):CodeC s'.heap cd q:=by
 obtain⟨cc,oo,vv,t,r1,r2,rc,r3,r4⟩:=x
 exact⟨cc,oo,vv,t,r1,obj_tr H T r2 (by rw[r3];intros;simp) (by rw[rc];simp),rc,r3,r4⟩
end
structure ClRec (m:Mod) (D:FD) (fd:FuncData) (dg:Str) (I:Inn) (c P:Addr) (qual:Str):Prop where
 names:D.scope.names.lookup ("inner":Str)=some .cell∧D.scope.names.lookup dg=some .cell∧D.scope.names.lookup ("n":Str)=some .cell
 h0:D.scope.names.lookup ("":Str)=none
 nd:isDbg dg=false
 ne:dg≠("inner":Str)∧dg≠("":Str)
 code:fd.code= .ref c
 at_:CodeAt m.h₀ c P
 tab:(P,((I.pos.line:Int),(I.pos.col:Int),qual))∈m.tk.X
 qual:(fd.qualname++".<locals>.")++("inner":Str)=qual
 bm:BmIn m.h₀ m.mg
 doc:docOf I.body=none
 free:∀x∈I.scope.names,x.2= .free→D.scope.names.lookup x.1=some .cell
 has:(dg,NameKind.free)∈I.scope.names∧(("inner":Str),NameKind.free)∈I.scope.names∧(("n":Str),NameKind.free)∈I.scope.names
 d1:I.args.defaults=[]
 d2:I.args.kw_defaults=[]
 ann:∀env,annTrees I.args none env=[]
section
variable {m:Mod} {k:Nat} {A:Around} {s:Shared} {R:RC} {D:FD} {a:Addr} {fd:FuncData} {dg:Str} {I:Inn} {c P:Addr} {qual:Str} {Γ:Gam} {hs:HS} {env:Env}
structure ClAt (I:Inn) (env:Env) (s:Shared) (f:Addr) (fd':FuncData) (ci:Addr):Prop where
 obj:s.heap.get? f=some { cls:= .type "function",data:= .func fd' }
 is:InnIs fd' I
 code:CodeC s.heap fd'.code fd'.qualname
 hci:env.cells.lookup ("inner":Str)=some ci
 cell:s.heap.IsCell ci (some (.ref f))
 lk:∀y cy,(y,NameKind.free)∈I.scope.names→env.cells.lookup y=some cy→fd'.closure.lookup y=some cy
theorem ClAt.tr {s':Shared} {R':RC} {hs':HS} {C:Addr} {f:Addr} {fd':FuncData} {ci:Addr} (H:HsR C s.heap R hs) (T:Tr C s R s' R' hs') (x:ClAt I env s f fd' ci):ClAt I env s' f fd' ci:=
 ⟨obj_tr H T x.obj (by intros;simp) (by simp),x.is,code_tr H T x.code,x.hci,cell_tr H T x.cell,x.lk⟩
theorem cl_def (O:m.Ok) (L:ClRec m D fd dg I c P qual) (t0:R.tk=m.tk) (S:SI m.C m.h₀ env D.scope.names Γ R hs s) (hcode:env.code=fd.code) (hqual:env.qual=fd.qualname++".<locals>.") {Q:Flow→Shared→Prop}
 (h:∀s' f fd' ci,SI m.C m.h₀ env D.scope.names (setG "inner" .any Γ) R hs s'→StepS env D.scope.names s R s' R→ClAt I env s' f fd' ci→Q .next s'):
 wpAny m.M A (exec (.FunctionDef "inner" I.args I.body [] none [] I.scope none "inner" I.pos) env) Q NoE s:=by
 have hqn:qualnameIn env "inner" "inner"=qual:=by
  unfold qualnameIn
  rw[if_neg,hqual,L.qual]
  unfold Env.kindOf;rw[S.var.names,L.names.1];decide
 exact def_ok S L.names.1 L.free ⟨_,L.has.1,rfl⟩ L.d1 L.d2 (L.ann env) (hcode.trans L.code) L.at_ (by rw[t0];exact L.tab) hqn O.g L.bm L.doc fun s2 f fd' ci S2 st2 hf2 q hrec hci hcell hkeep=>by
  obtain⟨g1,g2,g3,g4,g5,g6,g7,g8⟩:=q
  exact h s2 f fd' ci S2 st2 ⟨hf2,⟨g1,g2,g3,g7,g8⟩,hrec,hci,hcell,fun y cy q1 q2=>by rw[g4];exact clF_lookup q1 q2⟩
theorem i2d_turn (O:m.Ok) (hk:24≤k) (hA:AOK k A) (L:ClRec m D fd "a_digits" I2 c P qual) (t:R.tk=m.tk) (S:SI m.C m.h₀ env D.scope.names Γ R hs s) {f ci:Addr} {fd':FuncData} (K:ClAt I2 env s f fd' ci) {ds0 ds:List Int} {x n q:Int}
 (hΓ:Γ.lookup ("a_digits":Str)=some (.o (vints ds0))) (hΓn:Γ.lookup ("n":Str)=some (.p (.int n))) {es:List Expr} {px pos:Pos} (eva:ArR m k D.scope.names Γ hs es [.int x,.int 0,.int q] hs) (hdig:DigR n 24 x 0 q ds0 ds) (hz:ds.length≤sizeLine) {Q:Value→Shared→Prop}
 (last:∀s' R',StepS env D.scope.names s R s' R'→SI m.C m.h₀ env D.scope.names (setG "a_digits" (.o (vints ds)) Γ) R' hs s'→Q .none s'):wpAny m.M A (eval (.Call (.Name "inner" px) es [] pos) env) Q NoE s:=by
 refine call_name (s:=s) (f:=f) (o:={ cls:= .type "function",data:= .func fd' }) (fd:=fd') eva.1 rfl (fun Q q=>wpAny_Name (wpAny_loadName_cell S.var.kind (by unfold Env.kindOf;rw[S.var.names];exact L.names.1) K.hci K.cell q) (by decide +kernel)) ?_
 refine noE (eva.2 pos A env R s hA t S) fun vals s4 hp1=>?_
 obtain⟨R4,T4,hvals⟩:=hp1
 have S4:=S.tr T4
 have K4:=K.tr S.hdr T4
 have st4:=StepS.ofTr (env:=env) (ns:=D.scope.names) T4
 replace last:=fun s' R' st=>last s' R' (st4.trans st)
 refine⟨K4.obj,?_⟩
 refine hid fun G_ k_=>?_
 have Th:=T4.hd
 clear T4 S K eva st4
 obtain⟨v1,vr1,rfl,⟨u1,rfl⟩,v2,vr2,rfl,⟨u2,rfl⟩,v3,vr3,rfl,⟨u3,rfl⟩,rfl⟩:=hvals
 obtain⟨D',vs,hm,hpl,hvs,hz',hcl,_,hmut⟩:=S4.mut2 (m:=m) (x:="a_digits") (var_c L.names.2.1) hΓ
 obtain⟨cd,hcd,hcdc⟩:=hcl L.names.2.1
 obtain⟨cn,ov,sln,hcn,hcnc,en,qn⟩:=S4.var.cel "n" L.names.2.2
 rw[hΓn]at en;cases en
 obtain⟨vn,rfl,tn,rfl⟩:=qn
 refine k_ ?_
 refine dig_ok K4.is hdig A s4 u1 u2 u3 vs (Nat.lt_succ_of_lt (Nat.lt_of_le_of_lt (Nat.add_le_add_left (Nat.le_trans hk (Nat.le_add_right k 2)) _) hA.dp)) ⟨rfl,K4.obj,O.limit.keeps S4.base,K4.code.tor,⟨_,K4.lk _ _ L.has.1 hcd,hcdc⟩,⟨_,K4.lk _ _ L.has.2.1 K4.hci,K4.cell⟩,⟨_,_,K4.lk _ _ L.has.2.2 hcn,hcnc⟩,hpl⟩ (vints_to hvs) _ fun h5 n5 its5 K5 P5 I5=>?_
 obtain⟨S5,hv5⟩:=hmut s4 R4 hs (vints ds) its5 h5 n5 (Tr.refl Th) (fun b o hb q=>K5 b o (.inl hb) q) P5 (vints_of I5) (by rw[length_map];exact hz)
 refine last _ R4 ⟨rfl,⟨[],by simp,by simp⟩,⟨_,_,rfl⟩,fun ux q=> .inl q,fun ux q ux=>q,fun b o ux ha ux q=>K5 b o (.inl fun e=>ha ⟨"a_digits",L.ne.2,e▸hm⟩) q,fun b q=>?_⟩ S5
 by_cases hb:b=D'
 ·subst hb;obtain⟨e,q5⟩:=P5;have q:h5.get? b=none:=q;rw[q]at q5;cases q5
 ·cases q6:s4.heap.get? b with
  |none=>rfl
  |some o=>have:=K5 b o (.inl hb) q6;have q:h5.get? b=none:=q;rw[q]at this;cases this
theorem i2d_ok (O:m.Ok) (hk:24≤k) (F:FnRec m.h₀ a D fd) (L:ClRec m D fd "a_digits" I2 c P qual)
 {st1 st4:Stmt} {an:Str} {p1 p2 p3 p4 p5 p6:Pos} {e0 elen:Expr}
 (hD:D.body=[st1,.FunctionDef "inner" I2.args I2.body [] none [] I2.scope none "inner" I2.pos,.If (.Name an p1) [.Expr (.Call (.Name "inner" p2) [.Name an p3,e0,elen] [] p4) p5] [] p6,st4])
 {x n:Int} {Γ1 Γ4:Gam} {q:Nat} (hΓ:BindP D.params [.int x,.int n] (ownNames D.scope.names) Γ)
 (ev1:StR m k D.scope.names Γ hs st1 .nx Γ1 hs) (hΓ1:Γ1.lookup ("a_digits":Str)=some (.o (vints (List.replicate q 0)))) (hΓn:Γ1.lookup ("n":Str)=some (.p (.int n)))
 (evt:TsR m k D.scope.names (setG "inner" .any Γ1) hs (.Name an p1) (decide (x≠0)) hs) (eva:ArR m k D.scope.names (setG "inner" .any Γ1) hs [.Name an p3,e0,elen] [.int x,.int 0,.int q] hs)
 {ds:List Int} (ev4:StR m k D.scope.names (setG "a_digits" (.o (vints ds)) (setG "inner" .any Γ1)) hs st4 (.rt (.p (.lst (vints ds)))) Γ4 hs)
 (hdig:x≠0→DigR n 24 x 0 q (List.replicate q 0) ds) (hzero:x=0→ds=List.replicate q 0) (hq:q≤sizeLine):FnOK m (k+1) hs (.ref a) [.int x,.int n] (.p (.lst (vints ds))) hs:=by
 have:=fn_core2 (k:=k) (hs:=hs) (hs2:=hs) (Γ':=Γ4) O F hΓ L.h0 (pw_ints ds) fun hn A env R s hA t0 S hcode hqual=>?_
 ·simp only[List.take_length]at this;exact this
 rw[hD]
 refine wpAny_execs_cons (noE (ev1 hn A env R s hA t0 S) fun f s1 hp2=>?_)
 obtain⟨R1,⟨st1',S1,n1⟩,hf⟩:=hp2
 cases hf
 have n2:(setG "inner" .any Γ1).lookup ("":Str)=none:=setG_none n1
 have last:∀(s5:Shared) (R5:RC),StepS env D.scope.names s1 R1 s5 R5→SI m.C m.h₀ env D.scope.names (setG "a_digits" (.o (vints ds)) (setG "inner" .any Γ1)) R5 hs s5→
  wpAny m.M A (execs [st4] env) (PostS m.C m.h₀ env D.scope.names s R (.rt (.p (.lst (vints ds)))) Γ4 hs) NoE s5:=fun s5 R5 st5 S5=>
  noE (x_stop ev4 nofun (setG_none n2) A env R5 s5 hA ((st1'.trans st5).tk.trans t0) S5) fun f s6 p=>p.end (st1'.trans st5)
 generalize PostS m.C m.h₀ env D.scope.names s R (.rt (.p (.lst (vints ds)))) Γ4 hs=Q at last ⊢
 have t1:=st1'.tk.trans t0
 clear st1' S t0 ev1 ev4 hΓ hn
 refine wpAny_execs_cons (cl_def O L t1 S1 hcode hqual fun s2 f fd' ci S2 st2 K2=>?_)
 show wpAny _ _ (execs _ env) _ _ _
 refine wpAny_execs_cons (wpAny_If (noE (evt A env R1 s2 hA t1 S2) fun cnd s3 hp3=>?_))
 obtain⟨hcnd,R3,T3⟩:=hp3
 subst hcnd
 have S3:=S2.tr T3
 have st3:=st2.trans (StepS.ofTr T3)
 have hΓ2:(setG "inner" .any Γ1).lookup ("a_digits":Str)=some (.o (vints (List.replicate q 0))):=by refine Eq.trans (setG_other L.ne.1) ?_;exact hΓ1
 by_cases hx0:x=0
 ·rw[decide_eq_false (not_not_intro hx0)]
  refine wpAny_execs_nil (last s3 R3 st3 ?_)
  rw[hzero hx0,setG_id hΓ2]
  exact S3
 ·rw[decide_eq_true hx0]
  refine wpAny_execs_cons (wpAny_Expr_any (i2d_turn O hk hA L (T3.st.1.trans t1) S3 (K2.tr S2.hdr T3) hΓ2 (by refine Eq.trans (setG_other (by decide +kernel)) ?_;exact hΓn) eva (hdig hx0) (by rw[(hdig hx0).len,length_replicate];exact hq) fun s5 R5 st5 S5=>wpAny_execs_nil (last s5 R5 (st3.trans st5) S5)) (by unfold interactive;rw[S3.var.kind];rfl) rfl)
end
section
variable {m:Mod} {k:Nat} {A:Around} {s:Shared} {R:RC} {D:FD} {a:Addr} {fd:FuncData} {c P:Addr} {qual:Str} {Γ:Gam} {hs:HS} {env:Env}
theorem d2i_turn (O:m.Ok) (hk:24≤k) (hA:AOK k A) (L:ClRec m D fd "digits" D2 c P qual) (t:R.tk=m.tk) (S:SI m.C m.h₀ env D.scope.names Γ R hs s) {f ci D' cd:Addr} {fd':FuncData} (K:ClAt D2 env s f fd' ci) {ds:List Int} {vs:List Value} {v n q:Int}
 (hcd:env.cells.lookup ("digits":Str)=some cd) (hcdc:s.heap.IsCell cd (some (.ref D'))) (hDb:D'∉R.bad) (hpl:s.heap.PlainList D' vs.toArray) (hi:IntsAre vs ds) (hΓn:Γ.lookup ("n":Str)=some (.p (.int n))) {es:List Expr} {px pos:Pos} (eva:ArR m k D.scope.names Γ hs es [.int 0,.int q] hs) (hsum:SumR n ds 24 0 q v) {Q:Value→Shared→Prop}
 (last:∀s' R' t,StepS env D.scope.names s R s' R'→SI m.C m.h₀ env D.scope.names Γ R' hs s'→Q (.int v t) s'):wpAny m.M A (eval (.Call (.Name "inner" px) es [] pos) env) Q NoE s:=by
 refine call_name (s:=s) (f:=f) (o:={ cls:= .type "function",data:= .func fd' }) (fd:=fd') eva.1 rfl (fun Q q=>wpAny_Name (wpAny_loadName_cell S.var.kind (by unfold Env.kindOf;rw[S.var.names];exact L.names.1) K.hci K.cell q) (by decide +kernel)) ?_
 refine noE (eva.2 pos A env R s hA t S) fun vals s4 hp1=>?_
 obtain⟨R4,T4,hvals⟩:=hp1
 have S4:=S.tr T4
 have K4:=K.tr S.hdr T4
 have st4:=StepS.ofTr (env:=env) (ns:=D.scope.names) T4
 replace last:=fun s' R' t st=>last s' R' t (st4.trans st)
 have hcdc:=cell_tr S.hdr T4 hcdc
 refine⟨K4.obj,?_⟩
 have Th:=T4.hd
 have hpl:s4.heap.PlainList D' vs.toArray:=by obtain⟨e,q⟩:=hpl;exact⟨e,T4.kp _ _ (fun hb=>hDb (hl_bad _ hb)) q⟩
 refine hid fun G_ k_=>?_
 clear T4 S K eva st4 hDb t
 obtain⟨v1,vr1,rfl,⟨u1,rfl⟩,v2,vr2,rfl,⟨u2,rfl⟩,rfl⟩:=hvals
 obtain⟨cn,ov,sln,hcn,hcnc,en,qn⟩:=S4.var.cel "n" L.names.2.2
 rw[hΓn]at en;cases en
 obtain⟨vn,rfl,tn,rfl⟩:=qn
 refine k_ ?_
 refine sumd_ok K4.is hi hsum A s4 u1 u2 (Nat.lt_succ_of_lt (Nat.lt_of_le_of_lt (Nat.add_le_add_left (Nat.le_trans hk (Nat.le_add_right k 2)) _) hA.dp)) ⟨rfl,K4.obj,O.limit.keeps S4.base,K4.code.tor,⟨_,K4.lk _ _ L.has.1 hcd,hcdc⟩,⟨_,K4.lk _ _ L.has.2.1 K4.hci,K4.cell⟩,⟨_,_,K4.lk _ _ L.has.2.2 hcn,hcnc⟩,hpl⟩ _ fun h5 n5 t5 K5 P5=>?_
 have T5:Tr m.C s4 R4 { s4 with heap:=h5,toks:=n5 } R4 hs:=Tr.own Th ⟨_,_,rfl⟩ (Kept.all fun b o q=>K5 b o (.inr rfl) q)
 exact last _ R4 _ (StepS.ofTr T5) (S4.tr T5)
set_option maxHeartbeats 1000000 in
theorem d2i_ok (O:m.Ok) (hk:24≤k) (F:FnRec m.h₀ a D fd) (L:ClRec m D fd "digits" D2 c P qual)
 {p1 p2 p4 p5 p6 p7:Pos} {e0 elen:Expr} {kz:Nat}
 (hD:D.body=[.FunctionDef "inner" D2.args D2.body [] none [] D2.scope none "inner" D2.pos,.Return (some (.IfExp (.Name "digits" p1) (.Call (.Name "inner" p2) [e0,elen] [] p4) (.Constant (.int 0) kz p5) p6)) p7])
 {ds:List Int} {n:Int} (hΓ:BindP D.params [.lst (vints ds),.int n] (ownNames D.scope.names) Γ) (hΓ1:Γ.lookup ("digits":Str)=some (.p (.lst (vints ds)))) (hΓn:Γ.lookup ("n":Str)=some (.p (.int n)))
 (eva:ArR m k D.scope.names (setG "inner" .any Γ) hs [e0,elen] [.int 0,.int ds.length] hs)
 {v:Int} (h0:ds=[]→v=0) (hv:ds≠[]→SumR n ds 24 0 ds.length v):FnOK m (k+1) hs (.ref a) [.lst (vints ds),.int n] (.p (.int v)) hs:=by
 have:=fn_core2 (k:=k) (hs:=hs) (hs2:=hs) (Γ':=setG "inner" .any Γ) O F hΓ L.h0 (r:= .p (.int v)) rfl fun hn A env R s hA t0 S hcode hqual=>?_
 ·simp only[List.take_length]at this;exact this
 have fin:∀s' R' t,StepS env D.scope.names s R s' R'→SI m.C m.h₀ env D.scope.names (setG "inner" .any Γ) R' hs s'→PostS m.C m.h₀ env D.scope.names s R (.rt (.p (.int v))) (setG "inner" .any Γ) hs (.ret (.int v t)) s':=fun s' R' t st S=>⟨R',⟨st,S,setG_none hn⟩,_,rfl,_,rfl⟩
 generalize PostS m.C m.h₀ env D.scope.names s R (.rt (.p (.int v))) (setG "inner" .any Γ) hs=Q at fin ⊢
 rw[hD]
 refine wpAny_execs_cons (cl_def O L t0 S hcode hqual fun s2 f fd' ci S2 st2 K2=>?_)
 show wpAny _ _ (execs _ env) _ _ _
 refine hid fun G_ k_=>?_
 obtain⟨cd,ov,sld,hcd,hcdc,ed,qd'⟩:=S2.var.cel "digits" L.names.2.1
 rw[setG_other L.ne.1,hΓ1]at ed;cases ed
 obtain⟨vd,rfl,hz,D',vs,rfl,hDb,hpl,hvs⟩:=qd'
 have hints:=vints_to hvs
 rw[sizeLine_eq]at hz
 refine k_ ?_
 have hz':vs.length≤2^24:=by rw[hvs.len];exact hz
 refine wpAny_execs_cons (wpAny_Return_some (wpAny_IfExp (wpAny_isTrue_value (wpAny_Name (wpAny_loadName_cell S2.var.kind (by unfold Env.kindOf;rw[S2.var.names];exact L.names.2.1) hcd hcdc ?_) L.nd) rfl)))
 refine wpAny_truthy_list hpl.isList (by rw[size_toArray];lia) ?_
 have T3:Tr m.C s2 R { s2 with toks:=s2.toks+1+1 } R hs:=Tr.own S2.hdr ⟨_,_,rfl⟩ (Kept.refl _ _)
 have S3:=S2.tr T3
 have K3:=K2.tr S2.hdr T3
 have st3:=st2.trans (StepS.ofTr T3)
 have hcd3:=cell_tr S2.hdr T3 hcdc
 have hpl3:({ s2 with toks:=s2.toks+1+1 }:Shared).heap.PlainList D' vs.toArray:=hpl
 generalize ({ s2 with toks:=s2.toks+1+1 }:Shared)=s3 at T3 S3 K3 st3 hcd3 hpl3 ⊢
 by_cases hd0:ds=[]
 ·subst hd0
  have hvs0:vs=[]:=by cases hints;rfl
  subst hvs0
  show wpAny _ _ (eval (.Constant (.int 0) kz p5) env) _ _ _
  exact wpAny_Constant_int (h0 rfl▸fin _ R _ (st3.trans (StepS.ofTr (Tr.own S3.hdr ⟨_,_,rfl⟩ (Kept.refl _ _)))) (S3.tr (Tr.own S3.hdr ⟨_,_,rfl⟩ (Kept.refl _ _))))
 ·have hne':(!vs.toArray.isEmpty)=true:=by
   cases hints with
   |nil=>exact absurd rfl hd0
   |cons x t r=>rfl
  rw[hne']
  show wpAny _ _ (eval (.Call (.Name "inner" p2) [e0,elen] [] p4) env) _ _ _
  exact d2i_turn O hk hA L t0 S3 K3 hcd hcd3 hDb hpl3 hints (by refine Eq.trans (setG_other (by decide +kernel)) ?_;exact hΓn) eva (hv hd0) fun s5 R5 t st5 S5=>fin s5 R5 t (st3.trans st5) S5
end
noncomputable def S (l:List Nat):Str:=⟨l.toArray⟩
theorem S_inj {a b:List Nat}:S a=S b↔a=b:=by
 constructor
 ·intro h
  have:=congrArg (fun s:Str=>s.cps.toList) h
  simpa[S]using this
 ·intro h;exact congrArg _ (h)
theorem S_len (l:List Nat):(S l).length=l.length:=by rfl
theorem S_list (l:List Nat):(S l).cps.toList=l:=by simp[S]
theorem S_app (a b:List Nat):S a++S b=S (a++b):=by
 apply Str.ext'
 simp only[Str.cps_append]
 simp[S]
theorem S_of (s:Str):S s.cps.toList=s:=by
 apply Str.ext';simp[S]
theorem S_strOk (l:List Nat):PyData.strOk (S l)=l.all (fun c=>decide (c<1114112)):=by
 simp[PyData.strOk,S]
theorem foldl_app (n:Nat) (x:Array Nat):∀acc:Array Nat,((List.replicate n x).foldl (· ++·) acc).toList=acc.toList++(List.replicate n x.toList).flatten:=by
 induction n with
 |zero=>intro acc;simp
 |succ n ih=>intro acc;(rw[replicate_succ];simp only[foldl_cons,ih]);simp[replicate_succ]
set_option tactic.hygienic true in
theorem S_mul (l:List Nat) (n:Int):Txt.mul (S l) n=S (List.replicate n.toNat l).flatten:=by
 unfold Txt.mul
 split
 ·have:n.toNat=0:=by lia
  rw[this];rfl
 ·split
  ·rename_i h1 h2
   simp only[Bool.or_eq_true,beq_iff_eq]at h2
   rcases h2 with h2|h2
   ·subst h2;simp
   ·rw[S_len]at h2
    have:l=[]:=List.eq_nil_of_length_eq_zero h2
    subst this;simp
  ·apply Str.ext'
   apply Array.toList_inj.mp
   rw[foldl_app]
   simp[S]
theorem S_dots (n:Int):Txt.mul (S [46]) n=S (List.replicate n.toNat 46):=by
 rw[S_mul];congr 1
 generalize n.toNat=k
 induction k with
 |zero=>rfl
 |succ k ih=>(simp only[replicate_succ,replicate_succ,List.flatten_cons];rw[ih]);rfl
theorem S_item {l:List Nat} {i:Int} {c:Nat} (h0:0≤i) (h:l[i.toNat]? =some c):Txt.item (S l) i=S [c]∧(Txt.charAt (S l) i).isSome=true:=by
 have e:Txt.charAt (S l) i=some c:=by
  unfold Txt.charAt
  exact StrLaws.at_nonneg h0 (by simpa[S]using h)
 unfold Txt.item
 rw[e]
 exact⟨rfl,rfl⟩
theorem S_slice_to {l:List Nat} {j:Int} (h:0≤j∧j≤l.length):Txt.slice (S l) none (some j)=S (l.take j.toNat):=by
 have:=StrLaws.sliceText_to (x:=S l) (j:=j) (by simpa[S]using h)
 refine Eq.trans ?_ (this.trans ?_)
 ·rfl
 ·simp[S]
theorem S_slice_from {l:List Nat} {i:Int} (h:0≤i∧i≤l.length):Txt.slice (S l) (some i) none=S (l.drop i.toNat):=by
 have:=StrLaws.sliceText_from (x:=S l) (i:=i) (by simpa[S]using h)
 refine Eq.trans ?_ (this.trans ?_)
 ·rfl
 ·rw[S_list]
  rw[List.take_of_length_le (by rw[List.length_drop];omega)]
  rfl
noncomputable def glue (y:List Nat):List (List Nat)→List Nat
 |[]=>[]
 |[a]=>a
 |a::b::r=>a++y++glue y (b::r)
open StrLaws in
theorem at_iff (x y:List Nat) (i:Nat):At (S x) (S y) (S x).length i↔i+y.length≤x.length∧(x.drop i).take y.length=y:=by
 unfold At
 simp only[S_len,S_len,subAt_eq,S_list,S_list,S_len,beq_iff_eq]
open StrLaws in
theorem parts_of (x:List Nat) (c:Nat) (r:List Nat) (hr:c∉r):∀(ps:List (List Nat)) (a:Nat) (cuts:List Nat) (f:Nat),ps≠[]→(∀p∈ps,c∉p)→a≤x.length→x.drop a=glue (c::r) ps→
 ChainG (S x) (S (c::r)) (S x).length a cuts f→(∀k,f≤k→¬At (S x) (S (c::r)) (S x).length k)→partsFrom (S x) (S (c::r)).length a cuts=ps.map S:=by
 intro ps
 induction ps with
 |nil=>intro _ _ _ h;exact absurd rfl h
 |cons p t ih=>
  intro a cuts f _ hp ha hx hc hn
  cases t with
  |nil=>
   have hno:∀k,a≤k→¬At (S x) (S (c::r)) (S x).length k:=by
    intro k hk hA
    rw[at_iff]at hA
    have hA2:=hA.2
    have h1:x.drop k=p.drop (k-a):=by
     have:x.drop k=(x.drop a).drop (k-a):=by rw[List.drop_drop];congr 1;exact Eq.symm (Nat.add_sub_of_le hk)
     rw[this,hx];rfl
    rw[h1]at hA2
    have h2:c∈(p.drop (k-a)).take (c::r).length:=by rw[hA2];exact mem_cons_self
    exact hp p (by exact mem_cons_self) (List.mem_of_mem_drop (List.mem_of_mem_take h2))
   cases cuts with
   |cons d t=>exact absurd hc.2.1 (hno d hc.1)
   |nil=>
    show[strSub (S x) a (S x).length]=[S p]
    congr 1
    apply Str.ext'
    apply Array.toList_inj.mp
    simp only[strSub_toList,S_list,S_list,S_len,hx]
    apply List.take_of_length_le
    have:(x.drop a).length=(glue (c::r) [p]).length:=by exact congrArg _ (hx)
    rw[List.length_drop]at this
    exact Nat.le_of_eq (_root_.id (Eq.symm this))
  |cons q t=>
   have hlen:x.length=a+p.length+(c::r).length+(glue (c::r) (q::t)).length:=by
    have:(x.drop a).length=(glue (c::r) (p::q::t)).length:=by exact congrArg _ (hx)
    rw[List.length_drop]at this
    simp only[glue,length_append]at this
    grind
   have hdrop:∀k,a≤k→x.drop k=(p++(c::r)++glue (c::r) (q::t)).drop (k-a):=by
    intro k hk
    have:x.drop k=(x.drop a).drop (k-a):=by rw[List.drop_drop];congr 1;exact Eq.symm (Nat.add_sub_of_le hk)
    rw[this,hx];rfl
   have hat:At (S x) (S (c::r)) (S x).length (a+p.length):=by
    rw[at_iff]
    refine⟨by exact Nat.le.intro (_root_.id (Eq.symm hlen)),?_⟩
    simp only[hdrop _ (Nat.le_add_right a p.length),show a+p.length-a=p.length by exact Nat.add_sub_self_left a p.length,append_assoc,List.drop_left,List.take_left]
   have hbefore:∀k,a≤k→k<a+p.length→¬At (S x) (S (c::r)) (S x).length k:=by
    intro k h1 h2 hA
    rw[at_iff,hdrop k h1,append_assoc,List.drop_append_of_le_length (by lia)]at hA
    have h3:(p.drop (k-a))≠[]:=by
     intro h
     have:=congrArg List.length h
     simp at this;omega
    cases hd:p.drop (k-a)with
    |nil=>exact h3 hd
    |cons z w=>
     rw[hd]at hA
     have h4:=hA.2
     rw[cons_append,length_cons,List.take_succ_cons]at h4
     have h5:z=c:=(List.cons.inj h4).1
     have:z∈p:=List.mem_of_mem_drop (by rw[hd];exact mem_cons_self)
     rw[h5]at this
     exact hp p (by exact mem_cons_self) this
   cases cuts with
   |nil=>
    have e:f=a:=hc
    subst e
    exact absurd hat (hn _ (Nat.le_add_right f p.length))
   |cons d cs=>
    obtain⟨h1,h2,h3,h4⟩:=hc
    have hd:d=a+p.length:=by
     rcases Nat.lt_trichotomy d (a+p.length)with h|h|h
     ·exact absurd h2 (hbefore d h1 h)
     ·exact h
     ·exact absurd hat (h3 _ (Nat.le_add_right a p.length) h)
    subst hd
    have ih:=ih (a+p.length+(S (c::r)).length) cs f (by simp) (fun u hu=>hp u (by simp[hu])) (by rw[S_len];exact Nat.le.intro (_root_.id (Eq.symm hlen))) ?_ h4 hn
    ·show strSub (S x) a (a+p.length)::partsFrom (S x) _ _ cs=_
     rw[ih,map_cons]
     congr 1
     apply Str.ext'
     apply Array.toList_inj.mp
     simp only[strSub_toList,S_list,S_list,hx]
     show(p++(c::r)++glue (c::r) (q::t)).take _=_
     simp only[show a+p.length-a=p.length by exact Nat.add_sub_self_left a p.length,append_assoc,List.take_left]
    ·rw[S_len,hdrop _ (Nat.le_add_right_of_le h1),show a+p.length+(c::r).length-a=(p++(c::r)).length by simp;lia,List.drop_left]
theorem glue_len (c:Nat) (r:List Nat):∀p q t,(c::r).length≤(glue (c::r) (p::q::t)).length:=by
 intro p q t
 simp only[glue,length_append]
 lia
set_option tactic.hygienic true in
theorem S_split {c:Nat} {r:List Nat} (hr:c∉r) (hk:PySem.Builtin.Str.strKind (S (c::r))=1) {ps:List (List Nat)} (h0:ps≠[]) (hp:∀p∈ps,c∉p):Txt.split (S (glue (c::r) ps)) (S (c::r))=ps.map S:=by
 obtain⟨f,h1,h2⟩:=StrLaws.occ_tight (S (glue (c::r) ps)) (S (c::r)) (by rw[S_len];simp)
 have key:=parts_of (glue (c::r) ps) c r hr ps 0 _ f h0 hp (Nat.zero_le (glue (c::r) ps).length) rfl h1 h2
 unfold Txt.split
 have hkx:1≤PySem.Builtin.Str.strKind (S (glue (c::r) ps)):=by
  unfold PySem.Builtin.Str.strKind
  split
  ·exact Nat.le_refl _
  ·split<;>decide
 have hone:∀p,glue (c::r) [p]=p:=fun ux=>rfl
 split
 ·rename_i h
  rw[Bool.or_eq_true,decide_eq_true_eq,decide_eq_true_eq,hk,S_len,S_len]at h
  cases ps with
  |nil=>exact absurd rfl h0
  |cons p t=>
   cases t with
   |nil=>rw[hone];rfl
   |cons q t=>have:=glue_len c r p q t;lia
 ·split
  ·rename_i h
   have e:occurrences (S (glue (c::r) ps)) (S (c::r)) 0 (S (glue (c::r) ps)).length ((S (glue (c::r) ps)).length+1)=[]:=by simpa using h
   rw[e]at key
   cases ps with
   |nil=>exact absurd rfl h0
   |cons p t=>
    cases t with
    |nil=>rw[hone];rfl
    |cons q t=>exact nomatch (List.cons.inj (show[_]=S p::S q::t.map S from key)).2
  ·rw[StrLaws.partsBetween_eq]
   exact key
noncomputable abbrev vstrs (l:List (List Nat)):List V:=l.map fun x=>V.str (S x)
theorem mapO_of {α β γ:Type} (f:β→Option γ) (φ:α→β) (ψ:α→γ):∀l:List α,(∀a∈l,f (φ a)=some (ψ a))→mapO f (l.map φ)=some (l.map ψ):=by
 intro v0_
 induction v0_ with
 |nil=>
  intro _
  exact rfl
 |cons a l ih_=>
  intro h
  simp only[map_cons,map_cons]
  show(f (φ a)).bind _=_
  simp only[h a mem_cons_self,ih_ fun b hb=>h b (mem_cons_of_mem _ hb)];rfl
theorem toP_int (n i):toP n (.int i)=some (.int i):=by cases n<;>rfl
theorem toP_str (n x) (h:PyData.strOk x=true):toP n (.str x)=some (.str x):=by
 cases n<;>exact if_pos h
theorem toP_ints (n) (l:List Int):toP (n+1) (.lst (vints l))=some (.list (l.map .int)):=by
 show(mapO (toP n) (vints l)).map PyData.list=_
 rw[mapO_of (toP n) V.int PyData.int l fun a ux=>toP_int n a];rfl
theorem toP_strs (n) (l:List Str) (h:∀x∈l,PyData.strOk x=true):toP (n+1) (.lst (l.map .str))=some (.list (l.map .str)):=by
 show(mapO (toP n) (l.map .str)).map PyData.list=_
 rw[mapO_of (toP n) V.str PyData.str l fun a ha=>toP_str n a (h a ha)];rfl
theorem eqv_ints:∀a b:List Int,PyData.eqvAll (a.map .int) (b.map .int)=decide (a=b):=by
 intro a
 induction a with
 |nil=>intro b;cases b<;>rfl
 |cons x a ih=>
  intro b
  cases b with
  |nil=>rfl
  |cons y b=>
   simp only[map_cons,PyData.eqvAll,PyData.eqv,ih b]
   by_cases h:x=y<;>simp[h]
theorem eqv_strs:∀a b:List Str,PyData.eqvAll (a.map .str) (b.map .str)=decide (a=b):=by
 intro a
 induction a with
 |nil=>intro b;cases b<;>rfl
 |cons x a ih=>
  intro b
  cases b with
  |nil=>rfl
  |cons y b=>
   simp only[map_cons,PyData.eqvAll,PyData.eqv,ih b]
   by_cases h:x=y<;>simp[h]
theorem beq_int (a b:Int):V.beq (.int a) (.int b)=some (decide (a=b)):=by
 unfold V.beq;rw[toP_int,toP_int]
 simp only[PyData.eqv]
 by_cases h:a=b<;>rfl
theorem beq_str {a b:Str} (ha:PyData.strOk a=true) (hb:PyData.strOk b=true):V.beq (.str a) (.str b)=some (decide (a=b)):=by
 unfold V.beq;rw[toP_str 8 a ha,toP_str 8 b hb]
 simp only[PyData.eqv]
 by_cases h:a=b<;>rfl
theorem beq_ints (a b:List Int):V.beq (.lst (vints a)) (.lst (vints b))=some (decide (a=b)):=by
 unfold V.beq;rw[toP_ints,toP_ints]
 simp only[PyData.eqv,eqv_ints]
theorem beq_strs {a b:List Str} (ha:∀x∈a,PyData.strOk x=true) (hb:∀x∈b,PyData.strOk x=true):V.beq (.lst (a.map .str)) (.lst (b.map .str))=some (decide (a=b)):=by
 unfold V.beq;rw[toP_strs 7 a ha,toP_strs 7 b hb]
 simp only[PyData.eqv,eqv_strs]
theorem beq_pair (a b c d:Int):V.beq (.tup [.int a,.int b]) (.tup [.int c,.int d])=some (decide (a=c∧b=d)):=by
 have e:∀a b:Int,toP 8 (.tup [.int a,.int b])=some (.tuple [.int a,.int b]):=fun ux ux=>rfl
 unfold V.beq
 rw[e,e]
 simp only[PyData.eqv,PyData.eqvAll]
 by_cases h:a=c<;>by_cases h2:b=d<;>simp[h,h2]
theorem any_ints (a:Int) (l:List Int):((l.map PyData.int).any fun y=>PyData.eqv y (.int a))=decide (a∈l):=by
 induction l with
 |nil=>rfl
 |cons b r ih=>
  simp only[map_cons,List.any_cons,ih,PyData.eqv]
  by_cases h:a=b
  ·subst h;simp
  ·simp[h,Ne.symm h]
theorem inL_ints (a:Int) (l:List Int):inL (.int a) (vints l)=some (decide (a∈l)):=by
 unfold inL
 rw[toP_int,mapO_of (toP 8) V.int PyData.int l fun a ux=>toP_int 8 a]
 simp only[any_ints]
theorem room_of {n:Nat} (h:n≤16777216):room n=true:=decide_eq_true h
set_option tactic.hygienic true in
theorem intBits_le {i:Int} {n:Nat} (h:i.natAbs<2^n):Builtin.Int.intBits i≤n:=by
 unfold Builtin.Int.intBits
 split
 ·exact Nat.zero_le n
 ·rename_i h0
  have h1:i.natAbs≠0:=by
   intro e
   apply h0
   simpa using e
  have:=(Nat.log2_lt h1).mpr h
  exact Nat.succ_le_of_lt this
theorem mulOk_of {a b:Int} {n m:Nat} (ha:a.natAbs<2^n) (hb:b.natAbs<2^m) (h:n+m≤2^20):mulOk a b=true:=by
 have h1:=intBits_le ha
 have h2:=intBits_le hb
 unfold mulOk
 have e:Builtin.Int.intTooBig (↑(Builtin.Int.intBits a)+↑(Builtin.Int.intBits b))=false:=by
  unfold Builtin.Int.intTooBig
  apply decide_eq_false
  have:(2:Int)^20≤(bitsLine:Int):=by decide
  lia
 rw[e];simp
set_option tactic.hygienic true in
theorem goes_of {a b:Int} {m:Nat} (hb:b.natAbs<2^m) (h:m≤9000):divisionGoesByPylong a b=false:=by
 unfold divisionGoesByPylong
 have h1:=intBits_le hb
 unfold Builtin.Int.intBits at h1
 have:decide ((if(b==0)=true then 0 else b.natAbs.log2/30+1)>300)=false:=by
  apply decide_eq_false
  split
  ·exact Nat.not_lt_zero 300
  ·rename_i h0;rw[if_neg h0]at h1;lia
 simp only
 rw[this];rfl
noncomputable def sps:List Nat→List (List Nat)
 |[]=>[[]]
 |c::r=>if c=32 then[]::sps r else match sps r with
  |p::q=>(c::p)::q
  |[]=>[[c]]
theorem sps_ok:∀l:List Nat,glue [32] (sps l)=l∧sps l≠[]∧∀p∈sps l,32∉p:=by
 intro v0_
 induction v0_ with
 |nil=>
  exact⟨rfl,by simp[sps],by decide⟩
 |cons c r ih_=>
  obtain⟨h1,h2,h3⟩:=ih_
  simp only[sps]
  by_cases hc:c=32
  ·rw[if_pos hc]
   cases hs:sps r with
   |nil=>exact absurd hs h2
   |cons p q=>
    rw[hs]at h1 h3
    refine⟨?_,by simp,?_⟩
    ·show[]++[32]++glue [32] (p::q)=_
     rw[h1,hc];rfl
    ·intro u hu
     rcases mem_cons.mp hu with rfl|hu
     ·simp
     ·exact h3 u hu
  ·rw[if_neg hc]
   cases hs:sps r with
   |nil=>exact absurd hs h2
   |cons p q=>
    rw[hs]at h1 h3
    refine⟨?_,by simp,?_⟩
    ·cases q with
     |nil=>show c::p=_;rw[←h1];rfl
     |cons u v=>show c::p++[32]++glue [32] (u::v)=_;rw[←h1];rfl
    ·intro u hu
     rcases mem_cons.mp hu with rfl|hu
     ·intro h
      rcases mem_cons.mp h with h|h
      ·exact hc h.symm
      ·exact h3 p (by exact mem_cons_self) h
     ·exact h3 u (by simp[hu])
theorem kind_one {l:List Nat} (h:∀c∈l,c<256):PySem.Builtin.Str.strKind (S l)=1:=by
 unfold PySem.Builtin.Str.strKind
 rw[if_pos]
 rw[←Array.all_toList,S_list,all_eq_true]
 intro c hc
 exact decide_eq_true (h c hc)
theorem split_sps (l:List Nat):Txt.split (S l) (S [32])=(sps l).map S:=by
 obtain⟨h1,h2,h3⟩:=sps_ok l
 have:=S_split (c:=32) (r:=[]) (by simp) (kind_one (by decide)) h2 h3
 rw[h1]at this
 exact this
theorem rng0 (n:Nat):rngL 0 n 1=some ((List.range n).map fun(k:Nat)=>V.int k):=by
 show some _=some _
 rw[Int.sub_zero,Int.toNat_natCast]
 simp
theorem its_rng (n:Nat):ItsR (.p (.rng 0 n 1)) ((List.range n).map fun(k:Nat)=>V.int k):= .r (rng0 n)
theorem gz_none {nm:List Str} {sl:List Slot} (h:nm.contains ("":Str)=false):(Gz nm sl).lookup ("":Str)=none:=by
 induction nm generalizing sl with
 |nil=>rfl
 |cons y r ih=>
  rw[List.contains_cons,Bool.or_eq_false_iff]at h
  cases sl with
  |nil=>rfl
  |cons s t=>exact lk_miss (r:=Gz r t) h.1 (ih h.2)
theorem map_of {α:Type} {P0:V→HS→List V→HS→Prop} {hs:HS} (φ:α→V) (f:α→List V):∀l:List α,(∀a∈l,P0 (φ a) hs (f a) hs)→MapR P0 (l.map φ) hs (l.flatMap f) hs:=by
 intro v0_
 induction v0_ with
 |nil=>
  intro _
  exact .nil
 |cons a l ih_=>
  intro h
  rw[map_cons,flatMap_cons];exact .cons (h a (by exact mem_cons_self)) (ih_ fun b hb=>h b (by simp[hb]))
theorem flat_if {α:Type} (c:α→Bool) (ψ:α→V) (l:List α):(l.flatMap fun a=>bif c a then[ψ a]else[])=(l.filter c).map ψ:=by
 induction l with
 |nil=>rfl
 |cons a r ih=>
  simp only[flatMap_cons,ih,List.filter_cons]
  cases c a<;>rfl
theorem flat_one {α:Type} (ψ:α→V) (l:List α):(l.flatMap fun a=>[ψ a])=l.map ψ:=by
 induction l with
 |nil=>rfl
 |cons a r ih=>rw[flatMap_cons,ih];rfl
section
variable {m:Mod} {k:Nat} {ns:Names} {nm:List Str} {sl:List Slot} {hs:HS} {x:Str} {px:Pos} {elt it c:Expr} {sc:Scope} {wv:W} {α:Type}
noncomputable abbrev cn (x:Str) (nm:List Str):List Str:=".0"::x::nm
noncomputable abbrev cs (s:Slot) (sl:List Slot):List Slot:= .any::s::sl
structure CName (ns:Names) (sc:Scope) (x:Str) (nm:List Str) (ns':Names):Prop where
 ok:scOk ns sc=true
 own:ownNames sc.names=[((".0":Str),Slot.any),(x,Slot.any)]
 is:sc.names.lookup x=some .local∨sc.names.lookup x=some .cell
 nn:(cn x nm).contains ("":Str)=false
 ne:(x==(".0":Str))=false
 re:relab ns sc.names=ns'
theorem turn_one {φ:α→V} {ψ:α→V} {a:α} {w:W} {K:Gam→HS→List V→HS→Prop} (ne:(x==(".0":Str))=false) (hK:K=GenR m k ns elt []) (h:EvR m k ns (Gz (cn x nm) (cs (.p (φ a)) sl)) hs elt w hs) (hw:w.esc=some (ψ a)):TurnR m k ns (.Name x px) [] K (Gz (cn x nm) (cs .any sl)) (φ a) hs [ψ a] hs:=by
 subst hK
 refine⟨_,true,hs,bz_name (.miss ne (.hit (by simp))),ifs_nil,?_⟩
 exact⟨w,_,h,hw,rfl⟩
theorem turn_if {K:Gam→HS→List V→HS→Prop} {v:V} {b:Bool} {r:List V} (ne:(x==(".0":Str))=false) (h:TsR m k ns (Gz (cn x nm) (cs (.p v) sl)) hs c b hs) (hK:b=true→K (Gz (cn x nm) (cs (.p v) sl)) hs r hs):TurnR m k ns (.Name x px) [c] K (Gz (cn x nm) (cs .any sl)) v hs (bif b then r else[]) hs:=by
 refine⟨_,b,hs,bz_name (.miss ne (.hit (by simp))),ifs_one h,?_⟩
 cases b
 ·exact⟨rfl,rfl⟩
 ·exact hK rfl
theorem any_one (ne:(x==(".0":Str))=false):anyT (Gz (cn x nm) (cs .any sl)) (.Name x px):=fun y hy=>by
 cases mem_singleton.mp hy
 exact lk_miss ne (lk_hit (r:=Gz nm sl) (by simp))
theorem CName.comp {l:List V} {ns':Names} (N:CName ns sc x nm ns') {ifs:List Expr} {its:List V} (h0:NSet it) (h1:EvR m k ns (Gz nm sl) hs it wv hs) (ei:ItsR wv its)
 (em:MapR (TurnR m k ns' (.Name x px) ifs (GenR m k ns' elt []) (Gz (cn x nm) (cs .any sl))) its hs l hs) (hz:l.length≤16777216):CompR m k ns (Gz nm sl) hs elt [⟨.Name x px,it,ifs,0⟩] sc l hs:=by
 have e:ownNames sc.names++Gz nm sl=Gz (cn x nm) (cs .any sl):=by rw[N.own];rfl
 have hr:=N.re
 subst hr
 refine⟨scOk_ok N.ok,fun g hg y hy=>?_,by rw[e];exact gz_none N.nn,⟨_,it,ifs,[],wv,hs,its,rfl,by rw[e];exact any_one N.ne,h0,h1,ei,by rw[e];exact em⟩,decide_eq_true hz⟩
 cases mem_singleton.mp hg
 cases mem_singleton.mp hy;exact N.is
theorem c_one {ns':Names} (φ ψ:α→V) (l:List α) (N:CName ns sc x nm ns') (h0:NSet it) (h1:EvR m k ns (Gz nm sl) hs it wv hs) (ei:ItsR wv (l.map φ))
 (turn:∀a∈l,∃w,EvR m k ns' (Gz (cn x nm) (cs (.p (φ a)) sl)) hs elt w hs∧w.esc=some (ψ a)) (hz:l.length≤16777216):CompR m k ns (Gz nm sl) hs elt [⟨.Name x px,it,[],0⟩] sc (l.map ψ) hs:=by
 have em:=map_of (P0:=TurnR m k ns' (.Name x px) [] (GenR m k ns' elt []) (Gz (cn x nm) (cs .any sl))) (hs:=hs) φ (fun a=>[ψ a]) l fun a ha=>let ⟨w,h,hw⟩:=turn a ha;turn_one N.ne rfl h hw
 simp only[flat_one]at em
 exact N.comp h0 h1 ei em (by rw[length_map];exact hz)
theorem c_if {ns':Names} (φ ψ:α→V) (p:α→Bool) (l:List α) (N:CName ns sc x nm ns') (h0:NSet it) (h1:EvR m k ns (Gz nm sl) hs it wv hs) (ei:ItsR wv (l.map φ))
 (turn:∀a∈l,TsR m k ns' (Gz (cn x nm) (cs (.p (φ a)) sl)) hs c (p a) hs∧(p a=true→∃w,EvR m k ns' (Gz (cn x nm) (cs (.p (φ a)) sl)) hs elt w hs∧w.esc=some (ψ a))) (hz:l.length≤16777216):CompR m k ns (Gz nm sl) hs elt [⟨.Name x px,it,[c],0⟩] sc ((l.filter p).map ψ) hs:=by
 have em:=map_of (P0:=TurnR m k ns' (.Name x px) [c] (GenR m k ns' elt []) (Gz (cn x nm) (cs .any sl))) (hs:=hs) φ (fun a=>bif p a then[ψ a]else[]) l fun a ha=>turn_if N.ne (turn a ha).1 fun h=>let ⟨w,h,hw⟩:=(turn a ha).2 h;⟨w,_,h,hw,rfl⟩
 simp only[flat_if]at em
 exact N.comp h0 h1 ei em (by rw[length_map];exact Nat.le_trans (length_filter_le _ _) hz)
end
noncomputable def runW {σ:Type} (c:σ→Bool) (st:σ→σ):Nat→σ→Option σ
 |0,_=> .none
 |n+1,s=>if c s then runW c st n (st s)else some s
theorem runW_succ {σ:Type} {c:σ→Bool} {st:σ→σ} {n:Nat} {s:σ}:runW c st (n+1) s=if c s then runW c st n (st s)else some s:=rfl
theorem wh_of {σ:Type} {T:Gam→HS→Bool→HS→Prop} {B:Gam→HS→Fl→Gam→HS→Prop} {hs:HS} (G:σ→Gam) (c:σ→Bool) (st:σ→σ) (P:σ→Prop) (ht:∀s,P s→T (G s) hs (c s) hs) (hf:∀s,P s→c s=true→B (G s) hs .nx (G (st s)) hs∧P (st s)):
 ∀n s s',P s→runW c st n s=some s'→WhR T B n (G s) hs .nx (G s') hs∧P s':=by
 intro v0_
 induction v0_ with
 |zero=>
  intro _ _ _ e
  cases e
 |succ n ih_=>
  intro s s' hp e
  rw[runW_succ]at e
  have t:=ht s hp
  cases hc:c s with
  |true=>
   rw[hc,if_pos rfl]at e
   rw[hc]at t
   obtain⟨h1,h2⟩:=hf s hp hc
   obtain⟨h3,h4⟩:=ih_ (st s) s' h2 e
   exact⟨.go t h1 (.inl rfl) h3,h4⟩
  |false=>
   rw[hc,if_neg Bool.false_ne_true]at e
   rw[hc]at t
   cases e
   exact⟨.done t,hp⟩
noncomputable def ixB (x:Str):List Str→Nat→Bool
 |[],_=>false
 |y::_,0=>x==y
 |y::r,n+1=> !(x==y)&&ixB x r n
noncomputable def zok (ns:Names) (nm:List Str) (x:Str) (i:Nat):Bool:=isVar ns x&& !isDbg x&&ixB x nm i
noncomputable def gok (ns:Names) (x:Str):Bool:=ns.lookup x==some .globalImplicit&& !isDbg x
theorem ix_of {x:Str}:∀{nm:List Str} {i:Nat},ixB x nm i=true→Ix x nm i
 |[],_,h=>by cases h
 |y::r,0,h=> .hit h
 |y::r,n+1,h=>by
  have h:(!(x==y)&&ixB x r n)=true:=h
  rw[Bool.and_eq_true,Bool.not_eq_true']at h
  exact .miss h.1 (ix_of h.2)
theorem zok_of {ns nm x i} (h:zok ns nm x i=true):isVar ns x=true∧isDbg x=false∧Ix x nm i:=by
 unfold zok at h
 rw[Bool.and_eq_true,Bool.and_eq_true,Bool.not_eq_true']at h
 exact⟨h.1.1,h.1.2,ix_of h.2⟩
theorem gok_of {ns x} (h:gok ns x=true):ns.lookup x=some .globalImplicit∧isDbg x=false:=by
 unfold gok at h
 rw[Bool.and_eq_true,Bool.not_eq_true']at h
 exact⟨eq_of_beq h.1,h.2⟩
section
variable {m:Mod} {k:Nat} {ns:Names} {nm:List Str} {sl:List Slot} {hs hs1 hs2 hs3:HS} {x:Str} {s:Slot} {w:W} {pos px:Pos} {Γ:Gam}
theorem z_v (i:Nat) (h:zok ns nm x i=true:=by kernel_rfl!) (hi:sl[i]? =some s:=by rfl) (hw:slotW s=some w:=by rfl):EvR m k ns (Gz nm sl) hs (.Name x pos) w hs:=by
 obtain⟨h1,h2,h3⟩:=zok_of h
 rcases isVar_or h1 with q|q
 ·exact ez_loc q h2 h3 hi hw
 ·exact ez_cell q h2 h3 hi hw
theorem z_bi {args ws vs q} (h:gok ns x=true) (O:m.Ok) (h1:WsR m k ns Γ hs args ws hs1) (hr:RdAll ws vs) (hb:BiR m x vs w):EvR m k ns Γ hs (.Call (.Name x q) args [] pos) w hs1:=ev_bi O (gok_of h).1 (gok_of h).2 h1 hr hb
theorem z_fn {args vs q} (h:gok ns x=true) (O:m.Ok) (h1:ArR m k ns Γ hs args vs hs1) (hb:FnR m k hs1 x vs w hs2):EvR m k ns Γ hs (.Call (.Name x q) args [] pos) w hs2:=ev_fn O (gok_of h).1 (gok_of h).2 h1 hb
variable {wv:W}
theorem z_asn {i:Nat} (h:zok ns nm x i=true) {e:Expr} (h1:EvR m k ns (Gz nm sl) hs e wv hs1) (hc:NComp e) (es:ToSlot wv s):StR m k ns (Gz nm sl) hs (.Assign [.Name x px] e pos) .nx (Gz nm (sl.set i s)) hs1:=sz_asn hc h1 (zok_of h).1 es (zok_of h).2.2
theorem z_asnc {i:Nat} (h:zok ns nm x i=true) {elt gens sc p l} (h1:CompR m k ns (Gz nm sl) hs elt gens sc l hs1) (es:ToSlot (.f l) s):StR m k ns (Gz nm sl) hs (.Assign [.Name x px] (.ListComp elt gens sc p) pos) .nx (Gz nm (sl.set i s)) hs1:=sz_asnc h1 (zok_of h).1 es (zok_of h).2.2
theorem z_augs {i:Nat} (h:zok ns nm x i=true) {ie e:Expr} {op:Operator} {sp:Pos} {l:List V} {j:Int} {v u r:V} (hs0:sl[i]? =some (.o l)) (h1:EvR m k ns (Gz nm sl) hs ie (.p (.int j)) hs1) (hsl:NSl ie) (h0:0≤j) (hv:l[j.toNat]? =some v) (h2:EvR m k ns (Gz nm sl) hs1 e (.p u) hs2) (hr:InR m op v u r):
 StR m k ns (Gz nm sl) hs (.AugAssign (.Subscript (.Name x px) ie sp) op e pos) .nx (Gz nm (sl.set i (.o (l.set j.toNat r)))) hs2:=sz_augs (own_z (zok_of h).2.1 (zok_of h).1 (zok_of h).2.2 hs0) h1 hsl h0 hv h2 hr (zok_of h).2.2
theorem z_aug {i:Nat} (h:zok ns nm x i=true) {op:Operator} {e:Expr} {v u r:V} (hg:sl[i]? =some (.p v)) (h1:EvR m k ns (Gz nm sl) hs e (.p u) hs1) (hr:InR m op v u r):StR m k ns (Gz nm sl) hs (.AugAssign (.Name x px) op e pos) .nx (Gz nm (sl.set i (.p r))) hs1:=sz_aug (zok_of h).1 (zok_of h).2.2 hg h1 hr
theorem z_app {i:Nat} (h:zok ns nm x i=true) {args:List Expr} {l:List V} {v:V} {p1 p2 p3:Pos} (hs0:sl[i]? =some (.o l)) (h1:ArR m k ns (Gz nm sl) hs args [v] hs1) (hline:(p2.endLine==p3.line)=true) (hlen:args.length≤3) (hr:room (l.length+1)=true):
 StR m k ns (Gz nm sl) hs (.Expr (.Call (.Attribute (.Name x p1) "append" p2) args [] p3) pos) .nx (Gz nm (sl.set i (.o (l++[v])))) hs1:=sz_app (own_z (zok_of h).2.1 (zok_of h).1 (zok_of h).2.2 hs0) hline hlen h1 hr (zok_of h).2.2
theorem z_frz {i:Nat} {st fl Γ'} {l:List V} (h:ixB x nm i=true) (hs0:sl[i]? =some (.o l)) (h1:StR m k ns (Gz nm (sl.set i (.p (.lst l)))) hs st fl Γ' hs1):StR m k ns (Gz nm sl) hs st fl Γ' hs1:=sz_frz (ix_of h) hs0 h1
theorem z_par {i:Nat} (h:ixB x nm i=true) {r:List Str} {v:V} {vs:List V} {Γ'} (hr:BindP r vs (Gz nm (sl.set i (.p v))) Γ'):BindP (x::r) (v::vs) (Gz nm sl) Γ':=pz_cons (ix_of h) hr
theorem for_ofj {α σ J:Type} {B:V→Gam→HS→Fl→Gam→HS→Prop} {hs:HS} (φ:α→V) (G:Slot→J→σ→Gam) (st:σ→α→σ):∀(l:List α) (P:Nat→σ→Prop) (sl:Slot) (j:J) (s:σ),P 0 s→(∀i a,l[i]? =some a→∀sl j s,P i s→(∃j',B (φ a) (G sl j s) hs .nx (G (.p (φ a)) j' (st s a)) hs)∧P (i+1) (st s a))→
 ∃sl' j',ForR B (l.map φ) (G sl j s) hs .nx (G sl' j' (l.foldl st s)) hs∧P l.length (l.foldl st s):=by
 intro v0_
 induction v0_ with
 |nil=>
  intro P sl j s hp _
  exact⟨sl,j,.nil,hp⟩
 |cons a l ih_=>
  intro P sl j s hp h
  refine hid fun G_ k_=>?_
  obtain⟨⟨j1,h1⟩,h2⟩:=h 0 a rfl sl j s hp
  obtain⟨sl',j',h3,h4⟩:=ih_ (fun i=>P (i+1)) (.p (φ a)) j1 (st s a) h2 (fun i b hb=>h (i+1) b hb)
  refine k_ ?_
  exact⟨sl',j',.go h1 (.inl rfl) h3,h4⟩
theorem z_forxj (i:Nat) {it:Expr} {b:List Stmt} {α σ J:Type} (φ:α→V) (G:Slot→J→σ→List Slot) (st:σ→α→σ) (P:Nat→σ→Prop) (l:List α) (sl:Slot) (j:J) (s:σ) (h:zok ns nm x i=true)
 (hset:NSet it) (h1:EvR m k ns (Gz nm (G sl j s)) hs it wv hs) (ho:isO wv=false) (ei:ItsR wv (l.map φ)) (hG:∀sl j s v,(G sl j s).set i (.p v)=G (.p v) j s) (hp:P 0 s)
 (body:∀n a,l[n]? =some a→∀j s,P n s→(∃j',XR m k ns (Gz nm (G (.p (φ a)) j s)) hs b .nx (Gz nm (G (.p (φ a)) j' (st s a))) hs)∧P (n+1) (st s a)):
 ∃sl' j',StR m k ns (Gz nm (G sl j s)) hs (.For (.Name x px) it b [] pos) .nx (Gz nm (G sl' j' (l.foldl st s))) hs∧P l.length (l.foldl st s):=by
 refine hid fun G_ k_=>?_
 obtain⟨h2,_,h4⟩:=zok_of h
 obtain⟨sl',j',h5,h6⟩:=for_ofj (B:=TurnS m k ns (.Name x px) b) (hs:=hs) φ (fun sl j s=>Gz nm (G sl j s)) st l P sl j s hp fun n a ha sl j s hs=>⟨let ⟨j',hb⟩:=(body n a ha j s hs).1;⟨j',_,bz_name h4,by rw[hG];exact hb⟩,(body n a ha j s hs).2⟩
 refine k_ ?_
 exact⟨sl',j',st_for hset (fun y hy=>by cases mem_singleton.mp hy;exact h2) h1 ho ei h5,h6⟩
theorem z_forj (i:Nat) {it:Expr} {b r:List Stmt} {α σ J:Type} (φ:α→V) (G:Slot→J→σ→List Slot) (st:σ→α→σ) (P:Nat→σ→Prop) (l:List α) (sl:Slot) (j:J) (s:σ) (h:zok ns nm x i=true)
 (hset:NSet it) (h1:EvR m k ns (Gz nm (G sl j s)) hs it wv hs) (ho:isO wv=false) (ei:ItsR wv (l.map φ)) (hG:∀sl j s v,(G sl j s).set i (.p v)=G (.p v) j s) (hp:P 0 s)
 (body:∀n a,l[n]? =some a→∀j s,P n s→(∃j',XR m k ns (Gz nm (G (.p (φ a)) j s)) hs b .nx (Gz nm (G (.p (φ a)) j' (st s a))) hs)∧P (n+1) (st s a))
 (rest:∀sl j,P l.length (l.foldl st s)→XE m k ns (Gz nm (G sl j (l.foldl st s))) hs r w hs1):XE m k ns (Gz nm (G sl j s)) hs (.For (.Name x px) it b [] pos::r) w hs1:=by
 refine hid fun G_ k_=>?_
 obtain⟨sl',j',h2,h3⟩:=z_forxj i φ G st P l sl j s h hset h1 ho ei hG hp body
 refine k_ ?_
 exact e_cons h2 (rest sl' j' h3)
theorem z_forx (i:Nat) {it:Expr} {b:List Stmt} {α σ:Type} (φ:α→V) (G:Slot→σ→List Slot) (st:σ→α→σ) (P:Nat→σ→Prop) (l:List α) (sl:Slot) (s:σ) (h:zok ns nm x i=true)
 (hset:NSet it) (h1:EvR m k ns (Gz nm (G sl s)) hs it wv hs) (ho:isO wv=false) (ei:ItsR wv (l.map φ)) (hG:∀sl s v,(G sl s).set i (.p v)=G (.p v) s) (hp:P 0 s)
 (body:∀j a,l[j]? =some a→∀s,P j s→XR m k ns (Gz nm (G (.p (φ a)) s)) hs b .nx (Gz nm (G (.p (φ a)) (st s a))) hs∧P (j+1) (st s a)):
 ∃sl',StR m k ns (Gz nm (G sl s)) hs (.For (.Name x px) it b [] pos) .nx (Gz nm (G sl' (l.foldl st s))) hs∧P l.length (l.foldl st s):=
 let ⟨sl',_,h⟩:=z_forxj i φ (fun sl (_:Unit) s=>G sl s) st P l sl () s h hset h1 ho ei (fun sl ux s v=>hG sl s v) hp fun n a ha ux s hs=>⟨⟨(),(body n a ha s hs).1⟩,(body n a ha s hs).2⟩
 ⟨sl',h⟩
theorem z_for (i:Nat) {it:Expr} {b r:List Stmt} {α σ:Type} (φ:α→V) (G:Slot→σ→List Slot) (st:σ→α→σ) (P:Nat→σ→Prop) (l:List α) (sl:Slot) (s:σ) (h:zok ns nm x i=true)
 (hset:NSet it) (h1:EvR m k ns (Gz nm (G sl s)) hs it wv hs) (ho:isO wv=false) (ei:ItsR wv (l.map φ)) (hG:∀sl s v,(G sl s).set i (.p v)=G (.p v) s) (hp:P 0 s)
 (body:∀j a,l[j]? =some a→∀s,P j s→XR m k ns (Gz nm (G (.p (φ a)) s)) hs b .nx (Gz nm (G (.p (φ a)) (st s a))) hs∧P (j+1) (st s a))
 (rest:∀sl,P l.length (l.foldl st s)→XE m k ns (Gz nm (G sl (l.foldl st s))) hs r w hs1):XE m k ns (Gz nm (G sl s)) hs (.For (.Name x px) it b [] pos::r) w hs1:=by
 obtain⟨sl',h2,h3⟩:=z_forx i φ G st P l sl s h hset h1 ho ei hG hp body
 exact e_cons h2 (rest sl' h3)
theorem x_forj (i:Nat) {it:Expr} {b r:List Stmt} {α σ J J2:Type} {fl:Fl} {Q:J2→Gam} {Rr:Prop} (φ:α→V) (G:Slot→J→σ→List Slot) (st:σ→α→σ) (P:Nat→σ→Prop) (l:List α) (sl:Slot) (j:J) (s:σ) (h:zok ns nm x i=true)
 (hset:NSet it) (h1:EvR m k ns (Gz nm (G sl j s)) hs it wv hs) (ho:isO wv=false) (ei:ItsR wv (l.map φ)) (hG:∀sl j s v,(G sl j s).set i (.p v)=G (.p v) j s) (hp:P 0 s)
 (body:∀n a,l[n]? =some a→∀j s,P n s→(∃j',XR m k ns (Gz nm (G (.p (φ a)) j s)) hs b .nx (Gz nm (G (.p (φ a)) j' (st s a))) hs)∧P (n+1) (st s a))
 (rest:∀sl j,P l.length (l.foldl st s)→(∃j2,XR m k ns (Gz nm (G sl j (l.foldl st s))) hs r fl (Q j2) hs1)∧Rr):(∃j2,XR m k ns (Gz nm (G sl j s)) hs (.For (.Name x px) it b [] pos::r) fl (Q j2) hs1)∧Rr:=by
 refine hid fun G_ k_=>?_
 obtain⟨sl',j',h2,h3⟩:=z_forxj i φ G st P l sl j s h hset h1 ho ei hG hp body
 obtain⟨⟨j2,h4⟩,h5⟩:=rest sl' j' h3
 refine k_ ?_
 exact⟨⟨j2,x_cons h2 h4⟩,h5⟩
theorem xj_cons {st:Stmt} {r:List Stmt} {J2:Type} {fl:Fl} {Q:J2→Gam} {Rr:Prop} {Γ1:Gam} (h1:StR m k ns Γ hs st .nx Γ1 hs1) (h2:(∃j2,XR m k ns Γ1 hs1 r fl (Q j2) hs2)∧Rr):(∃j2,XR m k ns Γ hs (st::r) fl (Q j2) hs2)∧Rr:=
 ⟨let ⟨j2,h⟩:=h2.1;⟨j2,x_cons h1 h⟩,h2.2⟩
theorem z_while (n:Nat) {t:Expr} {b:List Stmt} {σ:Type} (G:σ→List Slot) (c:σ→Bool) (st:σ→σ) (P:σ→Prop) {s s':σ} (hp:P s) (hr:runW c st n s=some s') (ht:∀s,P s→TsR m k ns (Gz nm (G s)) hs t (c s) hs)
 (hf:∀s,P s→c s=true→XR m k ns (Gz nm (G s)) hs b .nx (Gz nm (G (st s))) hs∧P (st s)):StR m k ns (Gz nm (G s)) hs (.While t b [] pos) .nx (Gz nm (G s')) hs∧P s':=by
 obtain⟨h1,h2⟩:=wh_of (T:=fun Γ hs c hs1=>TsR m k ns Γ hs t c hs1) (B:=fun Γ hs f Γ1 hs1=>XR m k ns Γ hs b f Γ1 hs1) (hs:=hs) (fun s=>Gz nm (G s)) c st P ht hf n s s' hp hr
 exact⟨st_while h1,h2⟩
theorem z_def (O:m.Ok) {D:FD} (F:FnH m x D) {ps:List Str} {body:List Stmt} {args:List V} {sl0:List Slot} {r:W} (hp:D.params=ps) (hb:D.body=body) (hn:D.scope.names=ns) (ho:ownNames ns=Gz nm sl0) (hΓ:BindP ps args (Gz nm sl0) (Gz nm sl))
 (hw:pw r=true) (h:XE m k ns (Gz nm sl) hs body r hs) (hnm:ns.lookup ("":Str)=none):FnR m (k+1) hs x args r hs:=fz_rt O F hp hb hn ho hΓ hnm hw List.take_length h
end
noncomputable abbrev nats (l:List Nat):List V:=l.map fun(j:Nat)=>V.int j
theorem nats_vints (l:List Nat):nats l=vints (l.map Int.ofNat):=by
 show _=List.map _ (List.map _ l)
 rw[map_map];rfl
theorem getD_some {α:Type} {l:List α} {j:Nat} {d:α} (h:j<l.length):l[j]? =some (l.getD j d):=by
 rw[getD_eq_getElem?_getD,getElem?_eq_getElem h];rfl
section
variable {m:Mod} {k:Nat} {ns:Names} {Γ:Gam} {hs hs1 hs2:HS} {pos:Pos}
theorem sub_v {α:Type} {l:List α} {φ:α→V} {j:Nat} {a:α} (h:l[j]? =some a):SubR m (.lst (l.map φ)) (.int j) (φ a):=sub_l (Int.natCast_nonneg j) (by simp only[Int.toNat_natCast,getElem?_map,h];rfl)
theorem sub_d {α:Type} {l:List α} {φ:α→V} {j:Nat} (d:α) (h:j<l.length):SubR m (.lst (l.map φ)) (.int j) (φ (l.getD j d)):=sub_v (getD_some h)
theorem eq_nil_nats (l:List Nat):CmpR m .Eq (.lst (nats l)) (.lst []) (decide (l=[]))∧CmpR m .NotEq (.lst (nats l)) (.lst []) (!decide (l=[])):=by
 have:=eq_r (m:=m) (beq_ints (l.map Int.ofNat) [])
 rw[←nats_vints]at this
 rw[show decide (l=[])=decide (l.map Int.ofNat=[]) by simp]
 exact this
theorem small_nat {n:Nat} (h:n≤16777216):small (n:Int)=true:=by unfold small;apply decide_eq_true;omega
theorem ts_and {a b:Expr} {x y:Bool} (h1:TsR m k ns Γ hs a x hs) (h2:x=true→TsR m k ns Γ hs b y hs):TsR m k ns Γ hs (.BoolOp .And [a,b] pos) (x&&y) hs:=by
 refine ts_bool (all_cons h1 ?_)
 cases x with
 |false=>exact⟨rfl,rfl⟩
 |true=>
  show AllR m k ns Γ hs .And [b] y hs
  refine all_cons (h2 rfl) ?_
  cases y with
  |false=>exact⟨rfl,rfl⟩
  |true=>exact all_nil
theorem ts_or {a b:Expr} {x y:Bool} (h1:TsR m k ns Γ hs a x hs) (h2:x=false→TsR m k ns Γ hs b y hs):TsR m k ns Γ hs (.BoolOp .Or [a,b] pos) (x||y) hs:=by
 refine ts_bool (all_cons h1 ?_)
 cases x with
 |true=>exact⟨rfl,rfl⟩
 |false=>
  show AllR m k ns Γ hs .Or [b] y hs
  refine all_cons (h2 rfl) ?_
  cases y with
  |true=>exact⟨rfl,rfl⟩
  |false=>exact all_nil
theorem ts_b {e:Expr} {b:Bool} (hv:NTest e) (h1:EvR m k ns Γ hs e (.p (.bool b)) hs1):TsR m k ns Γ hs e b hs1:=ts_val hv h1 (.inl rfl)
theorem ts_i {e:Expr} {i:Int} (hv:NTest e) (h1:EvR m k ns Γ hs e (.p (.int i)) hs1):TsR m k ns Γ hs e (decide (i≠0)) hs1:=ts_val hv h1 (.inr ⟨i,rfl,rfl⟩)
noncomputable def flO:Option W→Fl
 |some w=> .rt w
 | .none=> .nx
theorem for_find {α:Type} {B:V→Gam→HS→Fl→Gam→HS→Prop} (φ:α→V) (G:Slot→Gam) (f:α→Option W):∀(l:List α) (sl:Slot),(∀a∈l,∀sl,B (φ a) (G sl) hs (flO (f a)) (G (.p (φ a))) hs)→∃sl',ForR B (l.map φ) (G sl) hs (flO (l.findSome? f)) (G sl') hs:=by
 intro v0_
 induction v0_ with
 |nil=>
  intro sl _
  exact⟨sl,.nil⟩
 |cons a l ih_=>
  intro sl h
  have h1:=h a (by simp) sl
  rw[List.findSome?_cons]
  cases e:f a with
  |none=>
   rw[e]at h1
   obtain⟨sl',h2⟩:=ih_ (.p (φ a)) fun b hb=>h b (by simp[hb])
   exact⟨sl',.go h1 (.inl rfl) h2⟩
  |some w=>rw[e]at h1;exact⟨_,.rt h1⟩
variable {nm:List Str} {x:Str} {px:Pos} {wv w:W}
theorem z_find (i:Nat) {it:Expr} {b r:List Stmt} {α:Type} (φ:α→V) (G:Slot→List Slot) (f:α→Option W) (l:List α) (sl:Slot) (h:zok ns nm x i=true)
 (hset:NSet it) (h1:EvR m k ns (Gz nm (G sl)) hs it wv hs) (ho:isO wv=false) (ei:ItsR wv (l.map φ)) (hG:∀sl v,(G sl).set i (.p v)=G (.p v))
 (body:∀a∈l,XR m k ns (Gz nm (G (.p (φ a)))) hs b (flO (f a)) (Gz nm (G (.p (φ a)))) hs)
 (rest:∀sl,l.findSome? f=none→XE m k ns (Gz nm (G sl)) hs r w hs) (hw:∀v,l.findSome? f=some v→v=w):XE m k ns (Gz nm (G sl)) hs (.For (.Name x px) it b [] pos::r) w hs:=by
 have q_:=zok_of h;have h2:=q_.1;have h4:=q_.2.2
 obtain⟨sl',h5⟩:=for_find (B:=TurnS m k ns (.Name x px) b) (hs:=hs) φ (fun sl=>Gz nm (G sl)) f l sl fun a ha sl=>⟨_,bz_name h4,by rw[hG];exact body a ha⟩
 have h6:=st_for (pos:=pos) hset (fun y hy=>by cases mem_singleton.mp hy;exact h2) h1 ho ei h5
 cases e:l.findSome? f with
 |none=>rw[e]at h6;exact e_cons h6 (rest sl' e)
 |some v=>rw[e]at h6;cases hw v e;exact e_ret h6
theorem z_if {t:Expr} {b o:List Stmt} {c:Bool} {fl:Fl} {Γ':Gam} (h1:TsR m k ns Γ hs t c hs) (ht:c=true→XR m k ns Γ hs b fl Γ' hs1) (he:c=false→XR m k ns Γ hs o fl Γ' hs1):StR m k ns Γ hs (.If t b o pos) fl Γ' hs1:=by
 refine st_if h1 ?_
 cases c
 ·exact he rfl
 ·exact ht rfl
theorem x_ifr {t:Expr} {b r:List Stmt} {c:Bool} {fl:Fl} {Γ':Gam} (h1:TsR m k ns Γ hs t c hs) (ht:c=true→XR m k ns Γ hs b fl Γ' hs1∧fl≠.nx) (he:c=false→XR m k ns Γ hs r fl Γ' hs1):XR m k ns Γ hs (.If t b [] pos::r) fl Γ' hs1:=by
 cases c with
 |true=>exact x_stop (st_if h1 (ht rfl).1) (ht rfl).2
 |false=>exact x_cons (st_if h1 x_nil) (he rfl)
theorem e_ifr {t:Expr} {b r:List Stmt} {c:Bool} (h1:TsR m k ns Γ hs t c hs) (ht:c=true→XE m k ns Γ hs b w hs1) (he:c=false→XE m k ns Γ hs r w hs1):XE m k ns Γ hs (.If t b [] pos::r) w hs1:=by
 cases c with
 |true=>obtain⟨Γ',h⟩:=ht rfl;exact⟨Γ',x_stop (st_if h1 h) (by simp)⟩
 |false=>exact e_cons (st_if h1 x_nil) (he rfl)
theorem e_iff {t:Expr} {b r:List Stmt} (h1:TsR m k ns Γ hs t false hs) (he:XE m k ns Γ hs r w hs1):XE m k ns Γ hs (.If t b [] pos::r) w hs1:=e_cons (st_if h1 x_nil) he
theorem x_ret {st r Γ1} (h1:StR m k ns Γ hs st (.rt w) Γ1 hs1):XR m k ns Γ hs (st::r) (.rt w) Γ1 hs1:=x_stop h1 fun h=>by cases h
theorem z_own (i:Nat) (h:zok ns nm x i=true) {sl:List Slot} {l:List V} (hs0:sl[i]? =some (.o l)):OwL ns (Gz nm sl) x l:=own_z (zok_of h).2.1 (zok_of h).1 (zok_of h).2.2 hs0
end
noncomputable abbrev cn2 (x y:Str) (nm:List Str):List Str:=".0"::x::y::nm
noncomputable abbrev cs2 (s t:Slot) (sl:List Slot):List Slot:= .any::s::t::sl
structure CName2 (ns:Names) (sc:Scope) (x y:Str) (nm:List Str) (ns':Names):Prop where
 ok:scOk ns sc=true
 own:ownNames sc.names=[((".0":Str),Slot.any),(x,Slot.any),(y,Slot.any)]
 is:∀z∈[x,y],isV (sc.names.lookup z)
 nn:(cn2 x y nm).contains ("":Str)=false
 ne:(x==(".0":Str))=false
 ne2:(y==(".0":Str))=false
 ne3:(y==x)=false
 re:relab ns sc.names=ns'
section
variable {m:Mod} {k:Nat} {ns ns':Names} {nm:List Str} {sl:List Slot} {hs:HS} {x y:Str} {px py:Pos} {elt it it2 c:Expr} {sc:Scope} {wv:W} {α β:Type}
theorem isV_of {o:Option NameKind} (h:(o==some .local||o==some .cell)=true):isV o:=by
 rw[Bool.or_eq_true]at h
 exact h.imp eq_of_beq eq_of_beq
theorem CName2.mk' (ok:scOk ns sc=true) (own:ownNames sc.names=[((".0":Str),Slot.any),(x,Slot.any),(y,Slot.any)]) (is1:(sc.names.lookup x==some .local||sc.names.lookup x==some .cell)=true) (is2:(sc.names.lookup y==some .local||sc.names.lookup y==some .cell)=true)
 (nn:(cn2 x y nm).contains ("":Str)=false) (ne:(x==(".0":Str))=false) (ne2:(y==(".0":Str))=false) (ne3:(y==x)=false) (re:relab ns sc.names=ns'):CName2 ns sc x y nm ns':=
 ⟨ok,own,fun z hz=>by
  rcases mem_cons.mp hz with rfl|hz
  ·exact isV_of is1
  ·cases mem_singleton.mp hz;exact isV_of is2,nn,ne,ne2,ne3,re⟩
theorem c_tup {tc:Nat} {tp:Pos} (φ1 φ2:α→V) (ψ:α→V) (p:α→Bool) (l:List α) (N:CName2 ns sc x y nm ns') (h0:NSet it) (h1:EvR m k ns (Gz nm sl) hs it wv hs) (ei:ItsR wv (l.map fun a=>V.tup [φ1 a,φ2 a]))
 (turn:∀a∈l,TsR m k ns' (Gz (cn2 x y nm) (cs2 (.p (φ1 a)) (.p (φ2 a)) sl)) hs c (p a) hs∧(p a=true→∃w,EvR m k ns' (Gz (cn2 x y nm) (cs2 (.p (φ1 a)) (.p (φ2 a)) sl)) hs elt w hs∧w.esc=some (ψ a))) (hz:l.length≤16777216):
 CompR m k ns (Gz nm sl) hs elt [⟨.Tuple [.Name x px,.Name y py] tc tp,it,[c],0⟩] sc ((l.filter p).map ψ) hs:=by
 have e:ownNames sc.names++Gz nm sl=Gz (cn2 x y nm) (cs2 .any .any sl):=by rw[N.own];rfl
 have hr:=N.re
 subst hr
 have ix:Ix x (cn2 x y nm) 1:= .miss N.ne (.hit (by simp))
 have iy:Ix y (cn2 x y nm) 2:= .miss N.ne2 (.miss N.ne3 (.hit (by simp)))
 have em:=map_of (P0:=TurnR m k (relab ns sc.names) (.Tuple [.Name x px,.Name y py] tc tp) [c] (GenR m k (relab ns sc.names) elt []) (Gz (cn2 x y nm) (cs2 .any .any sl))) (hs:=hs) (fun a=>V.tup [φ1 a,φ2 a]) (fun a=>bif p a then[ψ a]else[]) l fun a ha=>by
  obtain⟨t1,t2⟩:=turn a ha
  refine⟨Gz (cn2 x y nm) (cs2 (.p (φ1 a)) (.p (φ2 a)) sl),p a,hs,?_,ifs_one t1,?_⟩
  ·refine .tup (.cons ?_)
   rw[gz_set ix]
   refine .cons ?_
   rw[gz_set iy]
   exact .nil
  ·cases hp:p a with
   |false=>exact⟨rfl,rfl⟩
   |true=>obtain⟨w,h,hw⟩:=t2 hp;exact⟨w,_,h,hw,rfl⟩
 simp only[flat_if]at em
 refine⟨scOk_ok N.ok,fun g hg z hz=>?_,by rw[e];exact gz_none N.nn,⟨_,it,[c],[],wv,hs,_,rfl,?_,h0,h1,ei,by rw[e];exact em⟩,decide_eq_true (by rw[length_map];exact Nat.le_trans (length_filter_le _ _) hz)⟩
 ·cases mem_singleton.mp hg
  exact N.is z hz
 ·rw[e]
  intro z hz
  rcases mem_cons.mp hz with rfl|hz
  ·exact gz_lookup ix rfl
  ·cases mem_singleton.mp hz;exact gz_lookup iy rfl
end
section
variable {m:Mod} {k:Nat} {ns:Names} {nm:List Str} {sl:List Slot} {hs hs1:HS} {x y:Str} {pos p1 p2 p3 p4:Pos} {i j:Nat} {u v:V}
theorem z_pair {a b:Expr} {k1 k2:Nat} (hx:zok ns nm x i=true) (hy:zok ns nm y j=true) (hxy:(x==y)=false) (hc:([a,b].all (constantsAlone 8))=false) (h1:EvR m k ns (Gz nm sl) hs (.Tuple [a,b] k2 p4) (.p (.tup [u,v])) hs1):
 StR m k ns (Gz nm sl) hs (.Assign [.Tuple [.Name x p1,.Name y p2] k1 p3] (.Tuple [a,b] k2 p4) pos) .nx (Gz nm ((sl.set i (.p u)).set j (.p v))) hs1:=by
 have e:=st_pair (k1:=k1) (p1:=p1) (p2:=p2) (p3:=p3) (pos:=pos) h1 (zok_of hx).1 (zok_of hy).1 (by intro h;rw[h]at hxy;simp at hxy) hc
 rw[gz_set (zok_of hx).2.2,gz_set (zok_of hy).2.2]at e
 exact e
theorem z_tup2 {e:Expr} {k1:Nat} (hx:zok ns nm x i=true) (hy:zok ns nm y j=true) (he:NTup e) (h1:EvR m k ns (Gz nm sl) hs e (.p (.tup [u,v])) hs1):
 StR m k ns (Gz nm sl) hs (.Assign [.Tuple [.Name x p1,.Name y p2] k1 p3] e pos) .nx (Gz nm ((sl.set i (.p u)).set j (.p v))) hs1:=by
 refine st_tup he h1 (fun z hz=>?_) ?_
 ·have hz:z∈[x,y]:=hz
  rcases mem_cons.mp hz with rfl|hz
  ·exact(zok_of hx).1
  ·cases mem_singleton.mp hz;exact(zok_of hy).1
 ·refine .cons ?_
  rw[gz_set (zok_of hx).2.2]
  refine .cons ?_
  rw[gz_set (zok_of hy).2.2]
  exact .nil
end
theorem fix_run {b:Int} (hb:0<b):∀(f:Nat) (q r:Int),r<b→0≤r+f*b→runW (fun s:Int×Int=>decide (s.2<0)) (fun s=>(s.1-1,s.2+b)) (f+1) (q,r)=some ((q*b+r)/b,(q*b+r)%b):=by
 intro f
 induction f using Nat.strongRecOn with
 |ind f ih=>
  intro q r h1 h2
  rw[runW_succ]
  by_cases h:r<0
  ·refine Eq.trans (if_pos (decide_eq_true h)) ?_
   cases f with
   |zero=>rw[Int.natCast_zero,Int.zero_mul]at h2;grind
   |succ f=>
    have e:(q-1)*b+(r+b)=q*b+r:=by rw[Int.sub_mul,Int.one_mul];lia
    have:=ih f (Nat.lt_succ_self f) (q-1) (r+b) (by lia) (by
     rw[Int.natCast_add,Int.add_mul]at h2
     have:((1:Nat):Int)*b=b:=Int.one_mul b
     grind)
    rw[e]at this
    exact this
  ·(refine Eq.trans (if_neg (by rw[decide_eq_true_eq];exact h)) ?_)
   have e1:(q*b+r)/b=q:=by rw[Int.add_comm,Int.add_mul_ediv_right _ _ (Ne.symm (Int.ne_of_lt hb)),Int.ediv_eq_zero_of_lt (Int.not_lt.mp h) h1,Int.zero_add]
   have e2:(q*b+r)%b=r:=by rw[Int.add_comm,Int.add_mul_emod_self_right];exact Int.emod_eq_of_lt (Int.not_lt.mp h) h1
   rw[e1,e2]
section
variable {m:Mod} {k:Nat} {ns:Names} {nm:List Str} {hs hs1:HS} {x:Str} {pos px:Pos} {wv w:W}
theorem for_ofh {α σ J:Type} {B:V→Gam→HS→Fl→Gam→HS→Prop} (φ:α→V) (G:Slot→J→σ→Gam) (H:σ→HS) (st:σ→α→σ):∀(l:List α) (P:Nat→σ→Prop) (sl:Slot) (j:J) (s:σ),P 0 s→(∀i a,l[i]? =some a→∀sl j s,P i s→(∃j',B (φ a) (G sl j s) (H s) .nx (G (.p (φ a)) j' (st s a)) (H (st s a)))∧P (i+1) (st s a))→
 ∃sl' j',ForR B (l.map φ) (G sl j s) (H s) .nx (G sl' j' (l.foldl st s)) (H (l.foldl st s))∧P l.length (l.foldl st s):=by
 intro v0_
 induction v0_ with
 |nil=>
  intro P sl j s hp _
  exact⟨sl,j,.nil,hp⟩
 |cons a l ih_=>
  intro P sl j s hp h
  refine hid fun G_ k_=>?_
  obtain⟨⟨j1,h1⟩,h2⟩:=h 0 a rfl sl j s hp
  obtain⟨sl',j',h3,h4⟩:=ih_ (fun i=>P (i+1)) (.p (φ a)) j1 (st s a) h2 (fun i b hb=>h (i+1) b hb)
  refine k_ ?_
  exact⟨sl',j',.go h1 (.inl rfl) h3,h4⟩
theorem z_forxh (i:Nat) {it:Expr} {b:List Stmt} {α σ J:Type} (φ:α→V) (G:Slot→J→σ→List Slot) (H:σ→HS) (st:σ→α→σ) (P:Nat→σ→Prop) (l:List α) (sl:Slot) (j:J) (s:σ) (h:zok ns nm x i=true)
 (hset:NSet it) (h1:EvR m k ns (Gz nm (G sl j s)) (H s) it wv (H s)) (ho:isO wv=false) (ei:ItsR wv (l.map φ)) (hG:∀sl j s v,(G sl j s).set i (.p v)=G (.p v) j s) (hp:P 0 s)
 (body:∀n a,l[n]? =some a→∀j s,P n s→(∃j',XR m k ns (Gz nm (G (.p (φ a)) j s)) (H s) b .nx (Gz nm (G (.p (φ a)) j' (st s a))) (H (st s a)))∧P (n+1) (st s a)):
 ∃sl' j',StR m k ns (Gz nm (G sl j s)) (H s) (.For (.Name x px) it b [] pos) .nx (Gz nm (G sl' j' (l.foldl st s))) (H (l.foldl st s))∧P l.length (l.foldl st s):=by
 refine hid fun G_ k_=>?_
 obtain⟨h2,_,h4⟩:=zok_of h
 obtain⟨sl',j',h5,h6⟩:=for_ofh (B:=TurnS m k ns (.Name x px) b) φ (fun sl j s=>Gz nm (G sl j s)) H st l P sl j s hp fun n a ha sl j s hs=>⟨let ⟨j',hb⟩:=(body n a ha j s hs).1;⟨j',_,bz_name h4,by rw[hG];exact hb⟩,(body n a ha j s hs).2⟩
 refine k_ ?_
 exact⟨sl',j',st_for hset (fun y hy=>by cases mem_singleton.mp hy;exact h2) h1 ho ei h5,h6⟩
theorem z_forh (i:Nat) {it:Expr} {b r:List Stmt} {α σ J:Type} (φ:α→V) (G:Slot→J→σ→List Slot) (H:σ→HS) (st:σ→α→σ) (P:Nat→σ→Prop) (l:List α) (sl:Slot) (j:J) (s:σ) (h:zok ns nm x i=true)
 (hset:NSet it) (h1:EvR m k ns (Gz nm (G sl j s)) (H s) it wv (H s)) (ho:isO wv=false) (ei:ItsR wv (l.map φ)) (hG:∀sl j s v,(G sl j s).set i (.p v)=G (.p v) j s) (hp:P 0 s)
 (body:∀n a,l[n]? =some a→∀j s,P n s→(∃j',XR m k ns (Gz nm (G (.p (φ a)) j s)) (H s) b .nx (Gz nm (G (.p (φ a)) j' (st s a))) (H (st s a)))∧P (n+1) (st s a))
 (rest:∀sl j,P l.length (l.foldl st s)→XE m k ns (Gz nm (G sl j (l.foldl st s))) (H (l.foldl st s)) r w hs1):XE m k ns (Gz nm (G sl j s)) (H s) (.For (.Name x px) it b [] pos::r) w hs1:=by
 obtain⟨sl',j',h2,h3⟩:=z_forxh i φ G H st P l sl j s h hset h1 ho ei hG hp body
 exact e_cons h2 (rest sl' j' h3)
theorem x_forh (i:Nat) {it:Expr} {b r:List Stmt} {α σ J J2:Type} {fl:Fl} {Q:J2→Gam} {Rr:Prop} (φ:α→V) (G:Slot→J→σ→List Slot) (H:σ→HS) (st:σ→α→σ) (P:Nat→σ→Prop) (l:List α) (sl:Slot) (j:J) (s:σ) (h:zok ns nm x i=true)
 (hset:NSet it) (h1:EvR m k ns (Gz nm (G sl j s)) (H s) it wv (H s)) (ho:isO wv=false) (ei:ItsR wv (l.map φ)) (hG:∀sl j s v,(G sl j s).set i (.p v)=G (.p v) j s) (hp:P 0 s)
 (body:∀n a,l[n]? =some a→∀j s,P n s→(∃j',XR m k ns (Gz nm (G (.p (φ a)) j s)) (H s) b .nx (Gz nm (G (.p (φ a)) j' (st s a))) (H (st s a)))∧P (n+1) (st s a))
 (rest:∀sl j,P l.length (l.foldl st s)→(∃j2,XR m k ns (Gz nm (G sl j (l.foldl st s))) (H (l.foldl st s)) r fl (Q j2) hs1)∧Rr):(∃j2,XR m k ns (Gz nm (G sl j s)) (H s) (.For (.Name x px) it b [] pos::r) fl (Q j2) hs1)∧Rr:=by
 refine hid fun G_ k_=>?_
 obtain⟨sl',j',h2,h3⟩:=z_forxh i φ G H st P l sl j s h hset h1 ho ei hG hp body
 obtain⟨⟨j2,h4⟩,h5⟩:=rest sl' j' h3
 refine k_ ?_
 exact⟨⟨j2,x_cons h2 h4⟩,h5⟩
theorem is_tt (b:Bool):CmpR m .Is (.bool b) (.bool true) b:=by
 have:=(is_bb (m:=m) (a:=b) (b:=true)).1
 rw[show(b==true)=b by cases b<;>rfl]at this
 exact this
theorem isn_tt (b:Bool):CmpR m .IsNot (.bool b) (.bool true) (!b):=by
 have:=(is_bb (m:=m) (a:=b) (b:=true)).2
 rw[show(b==true)=b by cases b<;>rfl]at this
 exact this
end
theorem band_zero (x:Int):Builtin.bitAnd x 0=0:=by
 have:=kbt_mask x 0
 rw[show(2:Int)^0-1=0 by decide,show x%2^0=0 by lia]at this
 exact this
theorem band_apart (k:Nat):∀x y:Int,0≤y→y<2^k→Builtin.bitAnd (x*2^k) y=0:=by
 induction k with
 |zero=>
  intro x y h0 h1
  have:y=0:=by rw[Int.pow_zero]at h1;lia
  rw[this,band_zero]
 |succ k ih=>
  intro x y h0 h1
  rw[Int.pow_succ]at h1
  rw[kbt_halves,Int.pow_succ,←Int.mul_assoc,Int.mul_ediv_cancel _ (by decide),ih x (y/2) (by lia) (by lia),if_neg (by rw[Int.mul_emod_left];exact of_decide_eq_false rfl)]
  rfl
theorem band_top (k:Nat):∀x:Int,Builtin.bitAnd x (x/2^k*2^k)=x/2^k*2^k:=by
 induction k with
 |zero=>
  intro x
  have h1:=bitXor_self x
  rw[bitXor_and]at h1
  rw[Int.pow_zero,Int.ediv_one,Int.mul_one]
  exact bitAnd_self x
 |succ k ih=>
  intro x
  have e:x/2^(k+1)=x/2/2^k:=by rw[Int.pow_succ,Int.mul_comm,Int.ediv_ediv_of_nonneg (by decide)]
  rw[kbt_halves,e,Int.pow_succ,←Int.mul_assoc,Int.mul_ediv_cancel _ (by decide),ih (x/2),if_neg (by rw[Int.mul_emod_left];lia)]
  lia
theorem bor_apart {k:Nat} {x y:Int} (h0:0≤y) (h1:y<2^k):Builtin.bitOr (x*2^k) y=x*2^k+y:=by
 have h:=bitXor_and (x*2^k) y
 unfold Builtin.bitXor at h
 rw[band_apart k x y h0 h1]at h
 lia
theorem bxor_top (k:Nat) (x:Int):Builtin.bitXor x (x/2^k*2^k)=x%2^k:=by
 rw[bitXor_and,band_top]
 have:=Int.emod_add_mul_ediv x (2^k)
 rw[Int.mul_comm]at this
 lia
noncomputable def figs (n:Nat):Nat→Nat→List Nat
 |0,_=>[]
 |k+1,X=>X%2^n::figs n k (X/2^n)
noncomputable abbrev intsN (l:List Nat):List Int:=l.map Int.ofNat
noncomputable def val (n:Nat) (l:List Nat):Nat:=l.foldr (fun d v=>v*2^n+d) 0
section
variable {n:Nat}
theorem figs_len (k:Nat):∀X,(figs n k X).length=k:=by
 induction k with
 |zero=>exact fun ux=>rfl
 |succ k ih=>exact fun X=>congrArg (· +1) (ih _)
theorem figs_split (k j:Nat):∀X,figs n (j+k) X=figs n j X++figs n k (X/2^(n*j)):=by
 induction j with
 |zero=>intro X;simp only[Nat.zero_add,Nat.mul_zero,Nat.pow_zero,Nat.div_one];rfl
 |succ j ih=>
  intro X
  rw[Nat.succ_add]
  show _::_=_::(_++_)
  simp only[ih,Nat.div_div_eq_div_mul,←Nat.pow_add,Nat.mul_succ,Nat.add_comm n]
theorem figs_mod (j:Nat):∀X,figs n j (X%2^(n*j))=figs n j X:=by
 induction j with
 |zero=>exact fun ux=>rfl
 |succ j ih=>
  intro X
  show _::_=_::_
  simp only[Nat.mul_succ,Nat.add_comm,Nat.pow_add,Nat.mod_mul_right_mod,Nat.mod_mul_right_div_self,ih]
theorem figs_lt (k:Nat):∀X,∀d∈figs n k X,d<2^n:=by
 induction k with
 |zero=>exact fun ux ux h=>nomatch h
 |succ k ih=>
  intro X d h
  rcases mem_cons.mp h with rfl|h
  ·exact Nat.mod_lt _ (Nat.pow_pos (by decide))
  ·exact ih _ d h
theorem val_figs (k:Nat):∀X,X<2^(n*k)→val n (figs n k X)=X:=by
 induction k with
 |zero=>intro X h;simp only[Nat.mul_zero]at h;exact(Nat.lt_one_iff.mp h).symm
 |succ k ih=>
  intro X h
  show val n (figs n k (X/2^n))*2^n+X%2^n=X
  rw[ih _ (Nat.div_lt_of_lt_mul (by rw[←Nat.pow_add,Nat.add_comm,←Nat.mul_succ];exact h)),Nat.div_add_mod']
theorem val_append (b:List Nat):∀a,val n (a++b)=val n b*2^(n*a.length)+val n a:=by
 intro v0_
 induction v0_ with
 |nil=>
  simp only[length_nil,Nat.mul_zero,Nat.pow_zero,Nat.mul_one];rfl
 |cons d a ih_=>
  show val n (a++b)*2^n+d=_+(val n a*2^n+d)
  simp only[ih_,Nat.add_mul,Nat.add_assoc,Nat.mul_assoc,←Nat.pow_add,length_cons,Nat.mul_succ]
theorem val_lt:∀{l:List Nat},(∀d∈l,d<2^n)→val n l<2^(n*l.length):=by
 intro v0_
 induction v0_ with
 |nil=>
  intro _
  simp only[length_nil,Nat.mul_zero];exact Nat.one_pos
 |cons d l ih_=>
  intro h
  have h1:=h d mem_cons_self
  have h2:=ih_ fun x hx=>h x (mem_cons_of_mem _ hx)
  show val n l*2^n+d<_
  simp only[length_cons,Nat.mul_succ,Nat.pow_add]
  exact Nat.lt_of_lt_of_le (Nat.add_lt_add_left h1 _) (Nat.succ_mul (val n l) _▸Nat.mul_le_mul_right _ h2)
end
theorem fdiv_pow (X k:Nat):(X:Int).fdiv (2^k)=((X/2^k:Nat):Int):=by
 rw[Int.fdiv_eq_ediv_of_nonneg _ (Int.le_of_lt (kbt_pos k)),←kbt_cast];rfl
theorem mid_is (L q:Nat):((L:Int)+((L+q:Nat):Int)).fdiv (2^1)=((L+q/2:Nat):Int):=by
 rw[←Int.natCast_add,fdiv_pow,Nat.pow_one,←Nat.add_assoc,←Nat.two_mul,Nat.mul_add_div (by decide)]
theorem shift_is (n L j:Nat):(((L+j:Nat):Int)-L)*n=((n*j:Nat):Int):=by
 rw[Int.natCast_add,Int.add_comm,Int.add_sub_cancel,Int.natCast_mul,Int.mul_comm]
theorem mul_fine {n L j:Nat} (hn:n<2^15) (hj:j<2^5):mulOk (((L+j:Nat):Int)-L) n=true:=by
 rw[Int.natCast_add,Int.add_comm,Int.add_sub_cancel]
 exact mulOk_of (n:=5) (m:=15) (by simp only[Int.natAbs_natCast];exact hj) (by simp only[Int.natAbs_natCast];exact hn) (by decide)
theorem bits_fine {n j k U:Nat} (hn:n<2^15) (hU:U<2^(n*k)) (hq:j+k≤24):(Builtin.Int.intBits (U:Int):Int)+((n*j:Nat):Int)≤2^27:=by
 have h1:=intBits_le (i:=(U:Int)) (n:=n*k) (by simp only[Int.natAbs_natCast];exact hU)
 have h2:n*(j+k)≤2^15*24:=Nat.mul_le_mul (Nat.le_of_lt hn) hq
 rw[Nat.mul_add]at h2
 lia
theorem ne_succ {L q:Nat} (h:2≤q):(L:Int)+1≠((L+q:Nat):Int):=by lia
theorem dig_run {n:Nat} (hn:n<2^15):∀(f X:Nat) (a b c:List Int),0<b.length→b.length≤f→a.length+b.length≤24→X<2^(n*b.length)→
 DigR n f X a.length ((a.length+b.length:Nat):Int) (a++(b++c)) (a++(intsN (figs n b.length X)++c)):=by
 intro v0_
 induction v0_ with
 |zero=>
  intro _ _ _ _ h1 h2 _ _
  exact absurd h1 (Nat.not_lt_of_le h2)
 |succ f ih_=>
  intro X a b c h1 h2 h3 h4
  by_cases hq:b.length=1
  ·obtain⟨b0,rfl⟩:=List.length_eq_one_iff.mp hq
   rw[length_singleton,Nat.mul_one]at h4
   have e:(a++([b0]++c)).set (a.length:Int).toNat (X:Int)=a++(intsN (figs n 1 X)++c):=by
    rw[Int.toNat_natCast,List.set_append_right _ _ (Nat.le_refl _),Nat.sub_self]
    show _=a++(((X%2^n:Nat):Int)::c)
    rw[Nat.mod_eq_of_lt h4];rfl
   simp only[length_singleton,←e]
   simp only[length_singleton]at h3
   exact .one rfl (Int.natCast_nonneg _) (by rw[length_append];exact Int.ofNat_lt.mpr (Nat.lt_add_of_pos_right (Nat.succ_pos _))) (Int.ofNat_lt.mpr (Nat.lt_of_lt_of_le h3 (by decide)))
  ·have hq2:2≤b.length:=Nat.lt_of_le_of_ne h1 (Ne.symm hq)
   have j1:0<b.length/2:=Nat.div_pos hq2 (by decide)
   have j2:b.length/2<b.length:=Nat.div_lt_self h1 (by decide)
   obtain⟨b1,b2,hb,hl⟩:∃b1 b2:List Int,b=b1++b2∧b1.length=b.length/2:=⟨b.take (b.length/2),b.drop (b.length/2),(List.take_append_drop _ _).symm,List.length_take_of_le (Nat.le_of_lt j2)⟩
   have e1:=mid_is a.length b.length
   rw[←hl]at e1 j1 j2
   have e0:=ne_succ (L:=a.length) hq2
   subst hb
   clear hl hq hq2 h1
   rw[length_append]at*
   generalize hj:b1.length=j at*
   generalize hk:b2.length=k at*
   have k1:0<k:=Nat.lt_of_add_lt_add_left j2
   have hU:X/2^(n*j)<2^(n*k):=Nat.div_lt_of_lt_mul (by rw[←Nat.pow_add,←Nat.mul_add];exact h4)
   have hjk:j+k≤24:=Nat.le_trans (Nat.le_add_left _ _) h3
   have hj24:j≤24:=Nat.le_trans (Nat.le_add_right _ _) hjk
   have r1:=ih_ (X%2^(n*j)) a b1 (b2++c) (hj▸j1) (hj▸Nat.le_of_lt_succ (Nat.lt_of_lt_of_le j2 h2)) (hj▸Nat.le_trans (Nat.add_le_add_left (Nat.le_add_right _ _) _) h3) (hj▸Nat.mod_lt _ (Nat.pow_pos (by decide)))
   have r2:=ih_ (X/2^(n*j)) (a++intsN (figs n j X)) b2 c (hk▸k1) (hk▸Nat.le_of_lt_succ (Nat.lt_of_lt_of_le (Nat.lt_add_of_pos_left j1) h2)) (by simp only[length_append,length_map,figs_len,Nat.add_assoc,hk];exact h3) (hk▸hU)
   rw[hj,figs_mod]at r1
   rw[length_append,length_map,figs_len,hk,append_assoc,append_assoc,Nat.add_assoc]at r2
   simp only[figs_split,show intsN (figs n j X++figs n k (X/2^(n*j)))=intsN (figs n j X)++intsN (figs n k (X/2^(n*j)))from map_append,append_assoc,append_assoc]
   refine .two e0 e1 (shift_is n a.length j) (by simp only[Int.toNat_natCast];exact fdiv_pow X _) (mul_fine hn (Nat.lt_of_le_of_lt hj24 (by decide))) (Int.natCast_nonneg _) (bits_fine hn hU hjk) ?_ r2
   have e3:Builtin.bitXor X (((X/2^(n*j):Nat):Int)*2^(n*j))=((X%2^(n*j):Nat):Int):=by
    have:=bxor_top (n*j) X
    rw[←kbt_cast]at this ⊢
    exact this
   simp only[Int.toNat_natCast,e3]
   exact r1
theorem sum_run {n:Nat} (hn:n<2^15):∀(f:Nat) (a b c:List Nat),(∀d∈b,d<2^n)→0<b.length→b.length≤f→a.length+b.length≤24→
 SumR n (intsN (a++(b++c))) f a.length ((a.length+b.length:Nat):Int) (val n b:Nat):=by
 intro v0_
 induction v0_ with
 |zero=>
  intro _ _ _ _ h1 h2 _
  exact absurd h1 (Nat.not_lt_of_le h2)
 |succ f ih_=>
  intro a b c hd h1 h2 h3
  by_cases hq:b.length=1
  ·obtain⟨b0,rfl⟩:=List.length_eq_one_iff.mp hq
   refine .one rfl (Int.natCast_nonneg _) (Int.ofNat_lt.mpr (Nat.lt_of_lt_of_le (Nat.lt_of_lt_of_le (Nat.lt_succ_self _) h3) (by decide))) ?_
   simp only[Int.toNat_natCast,getElem?_map,List.getElem?_append_right (Nat.le_refl _),Nat.sub_self]
   show _=some (((0*2^n+b0:Nat):Int))
   rw[Nat.zero_mul,Nat.zero_add];rfl
  ·have hq2:2≤b.length:=Nat.lt_of_le_of_ne h1 (Ne.symm hq)
   have j1:0<b.length/2:=Nat.div_pos hq2 (by decide)
   have j2:b.length/2<b.length:=Nat.div_lt_self h1 (by decide)
   obtain⟨b1,b2,hb,hl⟩:∃b1 b2:List Nat,b=b1++b2∧b1.length=b.length/2:=⟨b.take (b.length/2),b.drop (b.length/2),(List.take_append_drop _ _).symm,List.length_take_of_le (Nat.le_of_lt j2)⟩
   have e1:=mid_is a.length b.length
   rw[←hl]at e1 j1 j2
   have e0:=ne_succ (L:=a.length) hq2
   subst hb
   clear hl hq hq2 h1
   rw[length_append]at*
   have d1:∀d∈b1,d<2^n:=fun d h=>hd d (mem_append_left _ h)
   have d2:∀d∈b2,d<2^n:=fun d h=>hd d (mem_append_right _ h)
   clear hd
   have k1:0<b2.length:=Nat.lt_of_add_lt_add_left j2
   have hjk:b1.length+b2.length≤24:=Nat.le_trans (Nat.le_add_left _ _) h3
   have r1:=ih_ a b1 (b2++c) d1 j1 (Nat.le_of_lt_succ (Nat.lt_of_lt_of_le j2 h2)) (Nat.le_trans (Nat.add_le_add_left (Nat.le_add_right _ _) _) h3)
   have r2:=ih_ (a++b1) b2 c d2 k1 (Nat.le_of_lt_succ (Nat.lt_of_lt_of_le (Nat.lt_add_of_pos_left j1) h2)) (by rw[length_append,Nat.add_assoc];exact h3)
   rw[length_append,append_assoc,Nat.add_assoc]at r2
   simp only[append_assoc,val_append,Int.natCast_add (val n b2*_),Int.natCast_mul,kbt_cast]
   exact .two (S:=((n*b1.length:Nat):Int)) e0 e1 (shift_is n a.length b1.length) (mul_fine hn (Nat.lt_of_le_of_lt (Nat.le_trans (Nat.le_add_right _ _) hjk) (by decide))) (Int.natCast_nonneg _) (bits_fine hn (val_lt d2) hjk) r2 r1
noncomputable def FnH2 (m:Mod) (x:Str):Prop:=FnH m x (P2 x)
theorem fmod_nat (k:Nat) (m:Nat):((k:Int).fmod (m:Int))=((k%m:Nat):Int):=by
 refine Eq.trans (Int.fmod_eq_emod_of_nonneg _ (Int.natCast_nonneg m)) ?_;rfl
noncomputable def opsT:Str:="( ) [ ] : , ; + - * / | & < > = . % { } == != <= >= ~ ^ << >> ** += -= *= /= %= &= |= ^= <<= >>= **= // //= @ @= -> ... := !"
noncomputable def ops:List (List Nat):=sps opsT.cps.toList
theorem ops_ok:room opsT.length=true∧ops.length=48∧(ops.all fun o=>decide (o.length≤3)&& !o.isEmpty&&o.all fun c=>decide (c<127)&&decide (32<c)&&decide (c≠115)&&decide (c≠83))=true∧ops.Nodup:=by
 refine⟨?_,?_,?_,?_⟩<;>decide +kernel
theorem s_nil:Str.ofString ""=S []:=by rfl
section
variable {m:Mod} {k:Nat} {hs:HS} (O:m.Ok) (B:m.Bs)
include O B
theorem operators_r (F:FnH2 m "_law_operators"):FnR m (k+1) hs "_law_operators" [] (.f (vstrs ops)) hs:=by
 have h3:Txt.split opsT (S [32])=ops.map S:=by rw[←S_of opsT];exact split_sps _
 have h4:((ops.map S).all fun p=>room p.length)=true:=by
  rw[List.all_map,all_eq_true]
  intro o ho
  have:=all_eq_true.mp ops_ok.2.2.1 o ho
  simp only[Bool.and_eq_true,decide_eq_true_eq]at this
  exact room_of (by rw[S_len];omega)
 have h6:MeR m "split" (.str opsT) [.str (S [32])] (.f (vstrs ops)):=by
  have:=split_r (m:=m) (x:=opsT) (y:=S [32]) rfl (by rw[h3,length_map,ops_ok.2.1];rfl) (by rw[h3];exact h4)
  rw[h3,map_map]at this
  exact this
 have hb:(P2 "_law_operators").body=(P2 "_law_operators").body:=rfl
 conv at hb=>rhs;whnf
 have hn:(P2 "_law_operators").scope.names=(P2 "_law_operators").scope.names:=rfl
 conv at hn=>rhs;whnf
 refine z_def (nm:=[]) (sl:=[]) (sl0:=[]) (ps:=[]) O F (by kernel_rfl!) hb hn rfl .nil (pv_map 8 _ _ fun ux ux=>rfl) ?_ (by kernel_rfl!)
 exact e_ret (by exists st_ret (ev_me rfl rfl dd (ev_str kk) (ws_cons (ev_str kk) ws_nil rfl) rfl (.cons rfl .nil) h6) .f)
omit O B in
omit O B in
omit O B in
omit O B in
omit O B in
end
section
variable {m:Mod} {k:Nat} {hs:HS}
theorem sub_S {t:List Nat} {j c:Nat} (h:t[j]? =some c) (hj:t.length≤16777216):SubR m (.str (S t)) (.int j) (.str (S [c])):=by
 have hlt:=(List.getElem?_eq_some_iff.mp h).1
 obtain⟨e1,e2⟩:=S_item (l:=t) (i:=(j:Int)) (Int.natCast_nonneg j) (by simp only[Int.toNat_natCast];exact h)
 have:=sub_s (m:=m) (x:=S t) (i:=(j:Int)) (by unfold fitsSsize;simp;lia) e2
 rw[e1]at this;exact this
theorem sl_from {t:List Nat} {j:Nat} (h:j≤t.length):SlR m (.str (S t)) (some (j:Int)) none (.p (.str (S (t.drop j)))):=by
 have:=sl_s (m:=m) (x:=S t) (a:=some (j:Int)) (b:=none)
 rw[S_slice_from ⟨by exact Int.natCast_nonneg j,by exact Int.ofNat_le.mpr h⟩,Int.toNat_natCast]at this
 exact this
noncomputable def GlI (m:Mod) (x:Str) (i:Int):Prop:=∃t,m.mg x=some (.int i t)
theorem z_gi (O:m.Ok) {ns:Names} {Γ:Gam} {x:Str} {i:Int} {pos:Pos} (h:gok ns x=true) (g:GlI m x i):EvR m k ns Γ hs (.Name x pos) (.p (.int i)) hs:=let ⟨t,g⟩:=g;ev_glob O (gok_of h).1 (gok_of h).2 g fun ux ux ux=>⟨t,rfl⟩
variable (O:m.Ok) (B:m.Bs)
include O B
theorem isterm_r (F:FnH2 m "ISTERMINAL") (g:GlI m "NT_OFFSET" 256) (x:Int):FnR m (k+1) hs "ISTERMINAL" [.int x] (.p (.bool (decide (x<256)))) hs:=by
 have hb:(P2 "ISTERMINAL").body=(P2 "ISTERMINAL").body:=rfl
 conv at hb=>rhs;whnf
 have hn:(P2 "ISTERMINAL").scope.names=(P2 "ISTERMINAL").scope.names:=rfl
 conv at hn=>rhs;whnf
 refine z_def (nm:=["x"]) (sl0:=[.any]) (ps:=["x"]) O F (by kernel_rfl!) hb hn rfl (z_par (i:=0) (by kernel_rfl!) .nil) rfl ?_ (by kernel_rfl!)
 exact e_ret (by exists st_ret (ev_cmp rfl (z_v 0) (z_gi O (by kernel_rfl!) g) rfl rfl lt_r) .p)
theorem isnont_r (F:FnH2 m "ISNONTERMINAL") (g:GlI m "NT_OFFSET" 256) (x:Int):FnR m (k+1) hs "ISNONTERMINAL" [.int x] (.p (.bool (decide (256≤x)))) hs:=by
 have hb:(P2 "ISNONTERMINAL").body=(P2 "ISNONTERMINAL").body:=rfl
 conv at hb=>rhs;whnf
 have hn:(P2 "ISNONTERMINAL").scope.names=(P2 "ISNONTERMINAL").scope.names:=rfl
 conv at hn=>rhs;whnf
 refine z_def (nm:=["x"]) (sl0:=[.any]) (ps:=["x"]) O F (by kernel_rfl!) hb hn rfl (z_par (i:=0) (by kernel_rfl!) .nil) rfl ?_ (by kernel_rfl!)
 exact e_ret (by exists st_ret (ev_cmp rfl (z_v 0) (z_gi O (by kernel_rfl!) g) rfl rfl ge_r) .p)
theorem iseof_r (F:FnH2 m "ISEOF") (g:GlI m "ENDMARKER" 0) (x:Int):FnR m (k+1) hs "ISEOF" [.int x] (.p (.bool (decide (x=0)))) hs:=by
 have hb:(P2 "ISEOF").body=(P2 "ISEOF").body:=rfl
 conv at hb=>rhs;whnf
 have hn:(P2 "ISEOF").scope.names=(P2 "ISEOF").scope.names:=rfl
 conv at hn=>rhs;whnf
 refine z_def (nm:=["x"]) (sl0:=[.any]) (ps:=["x"]) O F (by kernel_rfl!) hb hn rfl (z_par (i:=0) (by kernel_rfl!) .nil) rfl ?_ (by kernel_rfl!)
 exact e_ret (by exists st_ret (ev_cmp rfl (z_v 0) (z_gi O (by kernel_rfl!) g) rfl rfl ((eq_r (beq_int x 0)).1)) .p)
end
noncomputable def tokN (x:Str):Option Int:=(ops.findIdx? fun o=>o==x.cps.toList).map fun k=>(7+k:Int)
noncomputable abbrev dts (n:Nat):List Nat:=List.replicate n 46
theorem tok_dots:tokN (S (dts 1))=some 23∧tokN (S (dts 2))=none∧tokN (S (dts 3))=some 52:=by
 refine⟨?_,?_,?_⟩<;>decide +kernel
noncomputable def dotsL (r:Nat):List Int:=List.replicate (r/3) 52++List.replicate (r%3) 23
noncomputable def dSize (r:Nat):Nat:=if r=2 then 1 else 3
noncomputable def dNum (r:Nat):Int:=if 3≤r then 52 else 23
noncomputable abbrev DSt:=List Int×Nat×Slot
noncomputable def dC (s:DSt):Bool:= !decide (s.2.1=0)
noncomputable def dS (s:DSt):DSt:=(s.1++[dNum s.2.1],s.2.1-dSize s.2.1,.p (.int (dSize s.2.1)))
theorem dotsL_step {r:Nat} (h:r≠0):dotsL r=dNum r::dotsL (r-dSize r):=by
 delta dotsL dNum dSize
 by_cases h3:3≤r
 ·rw[if_pos h3,if_neg (Nat.ne_of_lt' h3),show r/3=(r-3)/3+1 by lia,show(r-3)%3=r%3 by exact Eq.symm (Nat.mod_eq_sub_mod h3),replicate_succ];rfl
 ·have:r=1∨r=2:=by lia
  rcases this with rfl|rfl<;>rfl
theorem dots_run (f:Nat):∀r ns sl,r<f→∃sl',runW dC dS f (ns,r,sl)=some (ns++dotsL r,0,sl'):=by
 induction f with
 |zero=>intro r ns sl h;lia
 |succ f ih=>
  intro r ns sl h
  rw[runW_succ]
  by_cases h0:r=0
  ·subst h0
   exact⟨sl,by refine Eq.trans (if_neg (by simp[dC])) ?_;rw[show dotsL 0=[]from rfl,append_nil]⟩
  ·rw[if_pos (by simp[dC,h0])]
   have hlt:r-dSize r<f:=by unfold dSize;split<;>lia
   obtain⟨sl',e⟩:=ih (r-dSize r) (ns++[dNum r]) (.p (.int (dSize r))) hlt
   refine⟨sl',e.trans ?_⟩
   rw[dotsL_step h0,append_assoc];rfl
theorem dots_count (n:Nat):(dotsL n).length=n/3+n%3∧(3:Int)*((dotsL n).count 52:Nat)+((dotsL n).count 23:Nat)=n:=by
 unfold dotsL
 rw[length_append,length_replicate,length_replicate,List.count_append,List.count_append,List.count_replicate,List.count_replicate,List.count_replicate,List.count_replicate]
 refine⟨rfl,?_⟩
 simp
 exact Int.mul_ediv_add_emod (↑n) 3
theorem S_ok {l:List Nat} (h:∀c∈l,c<1114112):PyData.strOk (S l)=true:=by
 rw[S_strOk,all_eq_true];exact fun c hc=>decide_eq_true (h c hc)
theorem slice_to (k r:Nat) (hk:k≤3):Txt.slice (S (dts r)) none (some (k:Int))=S (dts (min k r)):=by
 by_cases h:k≤r
 ·(rw[S_slice_to ⟨by exact Int.natCast_nonneg k,by rw[length_replicate];exact Int.ofNat_le.mpr h⟩,Int.toNat_natCast];exact congrArg _ (List.take_replicate))
 ·exact(by decide +kernel:∀k,k<4→∀r,r<k→Txt.slice (S (dts r)) none (some (k:Int))=S (dts (min k r))) k (Nat.lt_succ_of_le hk) r (Nat.lt_of_not_le h)
theorem slice_from {r:Nat} (h:r≠0):Txt.slice (S (dts r)) (some (dSize r:Int)) none=S (dts (r-dSize r)):=by
 by_cases h1:r=1
 ·subst h1;kernel_rfl!
 ·have:dSize r≤r:=by unfold dSize;split<;>lia
  (rw[S_slice_from ⟨by exact Int.natCast_nonneg (dSize r),by rw[length_replicate];exact Int.ofNat_le.mpr this⟩,Int.toNat_natCast];exact congrArg _ (List.drop_replicate))
theorem size_list {r:Nat} (h:r≠0):maxI ((([1,2,3]:List Nat).filter fun k=>(tokN (S (dts (min k r)))).isSome).map Int.ofNat)=some (dSize r:Int)∧tokN (S (dts (min (dSize r) r)))=some (dNum r):=by
 obtain⟨t1,t2,t3⟩:=tok_dots
 have:r=1∨r=2∨3≤r:=by lia
 rcases this with rfl|rfl|h3
 ·simp only[List.filter,show min 1 1=1 from rfl,show min 2 1=1 from rfl,show min 3 1=1 from rfl,t1,Option.isSome]
  exact⟨rfl,t1⟩
 ·simp only[List.filter,show min 1 2=1 from rfl,show min 2 2=2 from rfl,show min 3 2=2 from rfl,t1,t2,Option.isSome]
  exact⟨rfl,t1⟩
 ·have e:dSize r=3∧dNum r=52:=⟨if_neg (Nat.ne_of_lt' h3),if_pos h3⟩
  rw[e.1,e.2,show min 3 r=3 by exact Nat.min_eq_left h3]
  simp only[List.filter,show min 1 r=1 by lia,show min 2 r=2 by lia,show min 3 r=3 by exact Nat.min_eq_left h3,t1,t2,t3,Option.isSome]
  exact⟨rfl,trivial⟩
section
variable {m:Mod} {k:Nat} {hs:HS}
noncomputable def GlT (m:Mod):Prop:=m.mg "EXACT_TOKEN_TYPES"=some (.ref m.tk.a)
theorem z_tok (O:m.Ok) (g:GlT m) {ns:Names} {Γ:Gam} {pos:Pos} (h:gok ns "EXACT_TOKEN_TYPES"=true):EvR m k ns Γ hs (.Name "EXACT_TOKEN_TYPES" pos) (.p .toks) hs:=
 ev_glob O (gok_of h).1 (gok_of h).2 g fun R s hB=>by
  show Value.ref m.tk.a= .ref R.tk.a
  rw[hB.tk]
variable (O:m.Ok) (B:m.Bs)
include O B
theorem dots_r (F:FnH2 m "_law_dots") (g:GlT m) (T:TokOK m tokN) {n:Nat} (hn100:n≤100):FnR m (k+1) hs "_law_dots" [.str (S (dts n))] (.p (.int n)) hs:=by
 have hb:(P2 "_law_dots").body=(P2 "_law_dots").body:=rfl
 conv at hb=>rhs;whnf
 have hn:(P2 "_law_dots").scope.names=(P2 "_law_dots").scope.names:=rfl
 conv at hn=>rhs;whnf
 refine z_def (nm:=["run","numbers","rest","size"]) (sl0:=[.any,.any,.any,.any]) (ps:=["run"]) O F (by kernel_rfl!) hb hn rfl (z_par (i:=0) (by kernel_rfl!) .nil) rfl ?_ (by kernel_rfl!)
 clear hb hn
 refine' e_cons (by exists z_asn (i:=1) kk (ev_list ar_nil kk) rfl .o) ?_
 refine' e_cons (by exists z_asn (i:=2) kk (z_v 0) rfl .p) ?_
 obtain⟨sl',e⟩:=dots_run (n+1) n [] .any (Nat.lt_add_one n)
 have hd:∀j:Nat,(S (dts j)).length=j:=fun j=>by(rw[S_len];exact(length_replicate))
 refine e_cons (z_while (n+1) (fun(s:DSt)=>[.p (.str (S (dts n))),.o (vints s.1),.p (.str (S (dts s.2.1))),s.2.2]) dC dS (fun s=>s.2.1≤n∧s.1.length+s.2.1≤n) ⟨Nat.le_refl _,by rw[length_nil,Nat.zero_add];exact Nat.le_refl _⟩ e (fun s hp=>?_) (fun s hp hc=>⟨?_,?_⟩)).1 ?_
 ·have e1:=(eq_r (m:=m) (beq_str (a:=S (dts s.2.1)) (b:=S []) (S_ok fun c hc=>by rw[List.eq_of_mem_replicate hc];decide) (S_ok fun c hc=>by cases hc))).2
  rw[show decide (S (dts s.2.1)=S [])=decide (s.2.1=0) by
   rw[decide_eq_decide,S_inj,List.replicate_eq_nil_iff],←s_nil]at e1
  exact(by exists ts_cmp rfl (z_v 2) (ev_str kk) rfl rfl e1)
 ·obtain⟨ns,r,sl⟩:=s
  have hr:r≠0:=by intro h;rw[h]at hc;simp[dC]at hc
  obtain⟨m1,m2⟩:=size_list hr
  have sz3:dSize r≤3:=by unfold dSize;split<;>decide
  have f1:=max_r (m:=m) (f:="max") B.max m1
  rw[show List.map V.int (List.map Int.ofNat (([1,2,3]:List Nat).filter fun k=>(tokN (S (dts (min k r)))).isSome))=nats (([1,2,3]:List Nat).filter fun k=>(tokN (S (dts (min k r)))).isSome)from(nats_vints _).symm]at f1
  have f2:∀j:Nat,j≤3→SlR m (.str (S (dts r))) none (some (j:Int)) (.p (.str (S (dts (min j r))))):=fun j hj=>slice_to j r hj▸sl_s
  have f3:SlR m (.str (S (dts r))) (some (dSize r:Int)) none (.p (.str (S (dts (r-dSize r))))):=slice_from hr▸sl_s
  refine x_cons (by exists z_asn (i:=3) kk (z_bi kk O (ws_cons (ev_comp (c_if (fun(k:Nat)=>V.int k) (fun(k:Nat)=>V.int k) (fun k=>(tokN (S (dts (min k r)))).isSome) [1,2,3] ⟨by kernel_rfl!,by kernel_rfl!,.inl (by kernel_rfl!),by kernel_rfl!,by kernel_rfl!,rfl⟩ rfl (by exists ev_tup (ar_cons (ev_int _ _) (ar_cons (ev_int _ _) (ar_cons (ev_int _ _) ar_nil rfl rfl) rfl rfl) rfl rfl) kk) .t (fun x hx=>⟨(by exists ts_cmp rfl (ev_slice (z_v 4) op_none (op_some (z_v 1)) rfl (f2 x (by simp only[mem_cons,not_mem_nil,or_false]at hx;lia))) (z_tok O g (by kernel_rfl!)) rfl rfl (in_tok T)),fun ux=>⟨_,(by exact z_v 1),rfl⟩⟩) (by decide))) ws_nil rfl) (.cons rfl .nil) f1) rfl .p) ?_
  refine x_cons (Γ1:=Gz ["run","numbers","rest","size"] [.p (.str (S (dts n))),.o (vints (ns++[dNum r])),.p (.str (S (dts r))),.p (.int (dSize r))]) (by
   rw[show vints (ns++[dNum r])=vints ns++[.int (dNum r)]from map_append]
   exact(by exists z_app (i:=1) kk rfl (ar_cons (ev_sub (z_tok O g (by kernel_rfl!)) (ev_slice (z_v 2) op_none (op_some (z_v 3)) rfl (f2 _ sz3)) rfl rfl (sub_tok T O.tkd m2)) ar_nil rfl rfl) kk dd (room_of (by rw[length_map];have:=hp.2;dsimp only at this;lia)))) ?_
  exact x_cons (by exists z_asn (i:=2) kk (ev_slice (z_v 2) (op_some (z_v 3)) op_none rfl f3) rfl .p) x_nil
 ·have hr:s.2.1≠0:=by intro h;simp[dC,h]at hc
  have:1≤dSize s.2.1:=by unfold dSize;split<;>decide
  obtain⟨p1,p2⟩:=hp
  exact⟨by show s.2.1-dSize s.2.1≤n;lia,by show(s.1++[dNum s.2.1]).length+(s.2.1-dSize s.2.1)≤n;(rw[length_append];simp only[length_singleton]);lia⟩
 ·rw[nil_append]
  obtain⟨c1,c2⟩:=dots_count n
  have hv:(vints (dotsL n)).length=n/3+n%3:=by rw[length_map,c1]
  have q1:BinR m .FloorDiv (.int (S (dts n)).length) (.int 3) (.p (.int ((n/3:Nat):Int))):=by
   rw[hd]
   have:=div_r (m:=m) (a:=(n:Int)) (b:=3) (by decide) (goes_of (m:=2) (by decide) (by decide))
   rw[Int.fdiv_eq_ediv_of_nonneg _ (by decide)]at this
   exact this
  have q2:BinR m .Mod (.int (S (dts n)).length) (.int 3) (.p (.int ((n%3:Nat):Int))):=by
   rw[hd]
   have:=mod_r (m:=m) (a:=(n:Int)) (b:=3) (by decide)
   rw[Int.fmod_eq_emod_of_nonneg _ (by decide)]at this
   exact this
  have q3:CmpR m .NotEq (.int (vints (dotsL n)).length) (.int (((n/3:Nat):Int)+((n%3:Nat):Int))) false:=by
   have:=(eq_r (m:=m) (beq_int ((vints (dotsL n)).length:Int) (((n/3:Nat):Int)+((n%3:Nat):Int)))).2
   rw[show decide (((vints (dotsL n)).length:Int)=((n/3:Nat):Int)+((n%3:Nat):Int))=true from decide_eq_true (by rw[hv];exact Int.natCast_add (n/3) (n%3))]at this
   exact this
  refine e_iff (by exists ts_cmp rfl (z_bi kk O (ws_cons (z_v 1) ws_nil rfl) (.cons rfl .nil) (len_l B.len)) (ev_bin (ev_bin (z_bi kk O (ws_cons (z_v 0) ws_nil rfl) (.cons rfl .nil) (len_s B.len)) (ev_int _ _) rfl rfl q1) (ev_bin (z_bi kk O (ws_cons (z_v 0) ws_nil rfl) (.cons rfl .nil) (len_s B.len)) (ev_int _ _) rfl rfl q2) rfl rfl add_r) rfl rfl q3) ?_
  rw[←c2]
  have q4:BinR m .Mult (.int 3) (.int ((dotsL n).count 52:Nat)) (.p (.int (3*((dotsL n).count 52:Nat)))):=mul_r (mulOk_of (n:=2) (m:=7) (by decide) (by
   have:=List.count_le_length (a:=(52:Int)) (l:=dotsL n)
   rw[c1]at this
   simp only[Int.natAbs_natCast];lia) (by decide))
  exact e_ret (by exists st_ret (ev_bin (ev_bin (ev_int _ _) (ev_me rfl rfl dd (z_v 1) (ws_cons (ev_int _ _) ws_nil rfl) rfl (.cons rfl .nil) count_r) rfl rfl q4) (ev_me rfl rfl dd (z_v 1) (ws_cons (ev_int _ _) ws_nil rfl) rfl (.cons rfl .nil) count_r) rfl rfl add_r) .p)
end
theorem guess_ok {P a12 a3 b b1 b2:Int} (hP:0<P) (h:b=b1*P+b2) (h2:0≤b2∧b2<P) (h1:P≤2*b1∧b1<P) (ha:0≤a12∧a12<b) (h3:0≤a3∧a3<P):
 ∃q0 r0:Int,(if a12/P=b1 then(q0=P-1∧r0=a12-b1*P+b1)else(q0=a12/b1∧r0=a12%b1))∧a12=q0*b1+r0∧(r0*P+a3-q0*b2<b)∧(0≤q0∧q0<P∧0≤r0∧r0<P+P):=by
 by_cases hc:a12/P=b1
 ·refine⟨P-1,a12-b1*P+b1,by rw[if_pos hc];exact⟨rfl,rfl⟩,by rw[Int.sub_mul,Int.one_mul,Int.mul_comm b1 P];lia,?_,by exact Int.sub_nonneg_of_le hP,by lia,?_,?_⟩
  ·have e1:=Int.emod_add_mul_ediv a12 P
   rw[hc,Int.mul_comm]at e1
   have t0:=Int.emod_nonneg a12 (show P≠0 by exact Ne.symm (Int.ne_of_lt hP))
   have t1:=Int.emod_lt_of_pos a12 hP
   generalize a12%P=t at e1 t0 t1
   have e2:a12-b1*P+b1=t+b1:=by lia
   have t2:(t+1)*P≤b2*P:=Int.mul_le_mul_of_nonneg_right (by lia) (Int.le_of_lt hP)
   simp only[e2,Int.add_mul,Int.sub_mul,Int.one_mul,h,Int.mul_comm P b2]
   rw[Int.add_mul,Int.one_mul]at t2
   lia
  ·have:=Int.ediv_mul_le a12 (show P≠0 by exact Ne.symm (Int.ne_of_lt hP));rw[hc]at this;lia
  ·have:=Int.lt_ediv_add_one_mul_self a12 hP;rw[hc,Int.add_mul,Int.one_mul]at this;lia
 ·have hb1:0<b1:=by lia
  have r1:=Int.emod_nonneg a12 (show b1≠0 by exact Ne.symm (Int.ne_of_lt hb1))
  have r2:=Int.emod_lt_of_pos a12 hb1
  have q1:0≤a12/b1:=Int.ediv_nonneg ha.1 (Int.le_of_lt hb1)
  have hlt:a12<P*b1:=by
   have h5:a12/P<b1:=by
    have:a12/P<b1+1:=Int.ediv_lt_of_lt_mul hP (by rw[Int.add_mul,Int.one_mul];lia)
    lia
   have:=(Int.ediv_lt_iff_lt_mul hP).mp h5
   rw[Int.mul_comm];exact this
  refine⟨a12/b1,a12%b1,by rw[if_neg hc];exact⟨rfl,rfl⟩,by have:=Int.emod_add_mul_ediv a12 b1;rw[Int.mul_comm]at this;exact Eq.symm (Int.ediv_mul_add_emod a12 b1),?_,q1,Int.ediv_lt_of_lt_mul hb1 hlt,r1,by lia⟩
  have m1:a12%b1*P≤(b1-1)*P:=Int.mul_le_mul_of_nonneg_right (Int.le_sub_one_of_lt r2) (Int.le_of_lt hP)
  have m2:0≤a12/b1*b2:=Int.mul_nonneg q1 h2.1
  rw[Int.sub_mul,Int.one_mul]at m1
  lia
theorem guess_low {P a3 b b1 b2 q0 r0:Int} (hP:0<P) (h:b=b1*P+b2) (h2:0≤b2∧b2<P) (h1:P≤2*b1∧b1<P) (h3:0≤a3∧a3<P) (hq0:0≤q0∧q0<P∧0≤r0∧r0<P+P):0≤(r0*P+a3-q0*b2)+((2:Nat):Int)*b:=by
 have m1:q0*b2≤q0*P:=Int.mul_le_mul_of_nonneg_left (by lia) hq0.1
 have m2:q0*P≤P*P:=Int.mul_le_mul_of_nonneg_right (by lia) (Int.le_of_lt hP)
 have m3:P*P≤2*b1*P:=Int.mul_le_mul_of_nonneg_right h1.1 (Int.le_of_lt hP)
 have m4:0≤r0*P:=Int.mul_nonneg hq0.2.2.1 (Int.le_of_lt hP)
 rw[Int.mul_assoc]at m3
 rw[h]
 lia
section
variable {m:Mod} {k:Nat} {hs:HS}
theorem shl_n {a:Int} {n E:Nat} (h:a.natAbs<2^E) (hE:E+n≤2^20):BinR m .LShift (.int a) (.int n) (.p (.int (a*2^n))):=by
 have:=shl_r (m:=m) (a:=a) (n:=(n:Int)) (Int.natCast_nonneg n) (by have:=intBits_le h;lia)
 simp only[Int.toNat_natCast]at this;exact this
theorem shr_n {a:Int} {n:Nat}:BinR m .RShift (.int a) (.int n) (.p (.int (a/2^n))):=by
 have:=shr_r (m:=m) (a:=a) (n:=(n:Int)) (Int.natCast_nonneg n)
 rw[Int.toNat_natCast,Int.fdiv_eq_ediv_of_nonneg _ (Int.le_of_lt (kbt_pos n))]at this;exact this
variable (O:m.Ok) (B:m.Bs)
include O B
theorem div2s_r (F:FnH2 m "_div2n1n") (g:GlI m "_DIV_LIMIT" 4000) {a b:Int} {n:Nat} (hb:0<b) (hb2:b.natAbs<2^9000) (hs4:(Builtin.Int.intBits a:Int)-n≤4000):FnR m (k+1) hs "_div2n1n" [.int a,.int b,.int n] (.p (.tup [.int (a/b),.int (a%b)])) hs:=by
 have hb':(P2 "_div2n1n").body=(P2 "_div2n1n").body:=rfl
 conv at hb'=>rhs;whnf
 have hn:(P2 "_div2n1n").scope.names=(P2 "_div2n1n").scope.names:=rfl
 conv at hn=>rhs;whnf
 refine z_def (nm:=["a","b","n","pad","half_n","mask","b1","b2","q1","r","q2"]) (sl0:=[.any,.any,.any,.any,.any,.any,.any,.any,.any,.any,.any]) (ps:=["a","b","n"]) O F (by kernel_rfl!) hb' hn rfl (z_par (i:=0) (by kernel_rfl!) (z_par (i:=1) (by kernel_rfl!) (z_par (i:=2) (by kernel_rfl!) .nil))) rfl ?_ (by kernel_rfl!)
 clear hb' hn
 have q:BiR m "divmod" [.int a,.int b] (.p (.tup [.int (a/b),.int (a%b)])):=by
  have:=divmod_r (f:="divmod") (m:=m) B.divmod (a:=a) (b:=b) (Ne.symm (Int.ne_of_lt hb)) (goes_of hb2 (Nat.le_refl _))
  rw[Int.fdiv_eq_ediv_of_nonneg _ (Int.le_of_lt hb),Int.fmod_eq_emod_of_nonneg _ (Int.le_of_lt hb)]at this
  exact this
 exact e_ifr (by exists ts_cmp rfl (ev_bin (ev_me rfl rfl dd (z_v 0) ws_nil rfl .nil bits_r) (z_v 2) rfl rfl sub_r) (z_gi O (by kernel_rfl!) g) rfl rfl le_r) (fun ux=>e_ret (by exists st_ret (z_bi kk O (ws_cons (z_v 0) (ws_cons (z_v 1) ws_nil rfl) rfl) (.cons rfl (.cons rfl .nil)) q) .p)) fun h=>by have:=of_decide_eq_false h;lia
theorem div3_r (F:FnH2 m "_div3n2n") (F2:FnH2 m "_div2n1n") (g:GlI m "_DIV_LIMIT" 4000) {a12 a3 b b1 b2:Int} {n:Nat} (hn0:n≤4000) (h:b=b1*2^n+b2) (h2:0≤b2∧b2<2^n) (h1:2^n≤2*b1∧b1<2^n) (ha:0≤a12∧a12<b) (h3:0≤a3∧a3<2^n):
 FnR m (k+2) hs "_div3n2n" [.int a12,.int a3,.int b,.int b1,.int b2,.int n] (.p (.tup [.int ((a12*2^n+a3)/b),.int ((a12*2^n+a3)%b)])) hs:=by
 have hb:(P2 "_div3n2n").body=(P2 "_div3n2n").body:=rfl
 conv at hb=>rhs;whnf
 have hn:(P2 "_div3n2n").scope.names=(P2 "_div3n2n").scope.names:=rfl
 conv at hn=>rhs;whnf
 have hP:(0:Int)<2^n:=kbt_pos n
 have hE:∀x:Int,0≤x→x<2^n→x.natAbs<2^n:=fun x h0 h1=>by rw[←kbt_cast]at h1;lia
 have hPP:(2:Int)^(n+n)=2^n*2^n:=Int.pow_add ..
 have hb0:0<b:=by grind
 have hbP:b<2^(n+n):=by
  have:b1*2^n≤(2^n-1)*2^n:=Int.mul_le_mul_of_nonneg_right (by lia) (Int.le_of_lt hP)
  rw[Int.sub_mul,Int.one_mul]at this
  lia
 have ha2:a12.natAbs<2^(n+n):=by rw[←kbt_cast]at hbP;grind
 obtain⟨q0,r0,hq,e0,hlt,hq0⟩:∃q0 r0:Int,(if a12/2^n=b1 then(q0=2^n-1∧r0=a12-b1*2^n+b1)else(q0=a12/b1∧r0=a12%b1))∧a12=q0*b1+r0∧(r0*2^n+a3-q0*b2<b)∧(0≤q0∧q0<2^n∧0≤r0∧r0<2^n+2^n):=
  guess_ok hP h h2 h1 ha h3
 have hq2:q0.natAbs<2^n:=hE q0 hq0.1 hq0.2.1
 have hb22:b2.natAbs<2^n:=hE b2 h2.1 h2.2
 have hr2:r0.natAbs<2^(n+1):=by
  simp only[Nat.pow_succ]
  have:(2:Int)^n=((2^n:Nat):Int):=(kbt_cast n).symm
  lia
 have eA:a12*2^n+a3=q0*b+(r0*2^n+a3-q0*b2):=by
  simp only[e0,h,Int.add_mul,Int.mul_add,Int.mul_assoc]
  lia
 have low:0≤(r0*2^n+a3-q0*b2)+((2:Nat):Int)*b:=guess_low hP h h2 h1 h3 hq0
 have run:=fix_run hb0 2 q0 (r0*2^n+a3-q0*b2) hlt low
 rw[←eA]at run
 clear low eA hlt e0
 refine z_def (nm:=["a12","a3","b","b1","b2","n","q","r"]) (sl0:=[.any,.any,.any,.any,.any,.any,.any,.any]) (ps:=["a12","a3","b","b1","b2","n"]) O F (by kernel_rfl!) hb hn rfl (z_par (i:=0) (by kernel_rfl!) (z_par (i:=1) (by kernel_rfl!) (z_par (i:=2) (by kernel_rfl!) (z_par (i:=3) (by kernel_rfl!) (z_par (i:=4) (by kernel_rfl!) (z_par (i:=5) (by kernel_rfl!) .nil)))))) rfl ?_ (by kernel_rfl!)
 clear hb hn
 refine e_cons (hs1:=hs) (Γ1:=Gz ["a12","a3","b","b1","b2","n","q","r"] [.p (.int a12),.p (.int a3),.p (.int b),.p (.int b1),.p (.int b2),.p (.int n),.p (.int q0),.p (.int r0)]) (z_if (by exists ts_cmp rfl (ev_bin (z_v 0) (z_v 5) rfl rfl shr_n) (z_v 3) rfl rfl ((eq_r (beq_int _ _)).1)) (fun hc=>?_) fun hc=>?_) ?_
 ·rw[if_pos (of_decide_eq_true hc)]at hq
  obtain rfl:=hq.1;obtain rfl:=hq.2
  have s1:=shl_n (m:=m) (a:=1) (n:=n) (E:=1) (by decide) (by lia)
  rw[Int.one_mul]at s1
  exact x_cons (by exists z_pair (i:=6) (j:=7) kk kk kk kk (ev_tup (ar_cons (ev_bin (ev_bin (ev_int _ _) (z_v 5) rfl rfl s1) (ev_int _ _) rfl rfl sub_r) (ar_cons (ev_bin (ev_bin (z_v 0) (ev_bin (z_v 3) (z_v 5) rfl rfl (shl_n (E:=n) (hE b1 (by lia) h1.2) (by lia))) rfl rfl sub_r) (z_v 3) rfl rfl add_r) ar_nil rfl rfl) rfl rfl) kk)) x_nil
 ·rw[if_neg (of_decide_eq_false hc)]at hq
  obtain rfl:=hq.1;obtain rfl:=hq.2
  have hbb:b1.natAbs<2^9000:=Nat.lt_trans (hE b1 (by lia) h1.2) (Nat.pow_lt_pow_right (by decide) (by lia))
  exact x_cons (by exists z_tup2 (i:=6) (j:=7) kk kk rfl (z_fn kk O (ar_cons (z_v 0) (ar_cons (z_v 3) (ar_cons (z_v 5) ar_nil rfl rfl) rfl rfl) rfl rfl) (div2s_r O B F2 g (by lia) hbb (by have:=intBits_le ha2;lia)))) x_nil
 have s2:BinR m .BitOr (.int (r0*2^n)) (.int a3) (.p (.int (r0*2^n+a3))):=by
  have:=or_r (m:=m) (a:=r0*2^n) (b:=a3)
  rw[bor_apart h3.1 h3.2]at this;exact this
 refine' e_cons (by exists z_asn (i:=7) kk (ev_bin (ev_bin (ev_bin (z_v 7) (z_v 5) rfl rfl (shl_n hr2 (by lia))) (z_v 1) rfl rfl s2) (ev_bin (z_v 6) (z_v 4) rfl rfl (mul_r (mulOk_of hq2 hb22 (by lia)))) rfl rfl sub_r) rfl .p) ?_
 refine e_cons (z_while 3 (fun(s:Int×Int)=>[.p (.int a12),.p (.int a3),.p (.int b),.p (.int b1),.p (.int b2),.p (.int n),.p (.int s.1),.p (.int s.2)]) (fun s=>decide (s.2<0)) (fun s=>(s.1-1,s.2+b)) (fun ux=>True) trivial run (fun s ux=>(by exists ts_cmp rfl (z_v 7) (ev_int _ _) rfl rfl lt_r)) (fun s ux ux=>⟨x_cons (by exists z_aug (i:=6) kk rfl (ev_int _ _) isub_r) (x_cons (by exists z_aug (i:=7) kk rfl (z_v 2) iadd_r) x_nil),trivial⟩)).1 ?_
 exact e_ret (by exists st_ret (ev_tup (ar_cons (z_v 6) (ar_cons (z_v 7) ar_nil rfl rfl) rfl rfl) kk) .p)
end
theorem two_div {P a b:Int} (hP:0<P) (hb:0<b) (ha:0≤a∧a<b*(P*P)):
 (0≤a/(P*P)∧a/(P*P)<b)∧(0≤a/P%P∧a/P%P<P)∧(a/(P*P)*P+a/P%P=a/P)∧(0≤a/P%b∧a/P%b<b)∧(0≤a%P∧a%P<P)∧
 (0≤(a/P%b*P+a%P)/b∧(a/P%b*P+a%P)/b<P)∧(a/P/b*P+(a/P%b*P+a%P)/b=a/b)∧(a/P%b*P+a%P)%b=a%b∧(0≤a/P/b∧a/P/b<P):=by
 have hPP:0<P*P:=Int.mul_pos hP hP
 have h3:=Int.emod_nonneg (a/P) (show P≠0 by exact Ne.symm (Int.ne_of_lt hP))
 have h3':=Int.emod_lt_of_pos (a/P) hP
 have h5:=Int.emod_nonneg a (show P≠0 by exact Ne.symm (Int.ne_of_lt hP))
 have h5':=Int.emod_lt_of_pos a hP
 have h4:=Int.emod_nonneg (a/P) (show b≠0 by exact Ne.symm (Int.ne_of_lt hb))
 have h4':=Int.emod_lt_of_pos (a/P) hb
 have e1:a/(P*P)=a/P/P:=(Int.ediv_ediv_of_nonneg (Int.le_of_lt hP)).symm
 have e2:=Int.emod_add_mul_ediv (a/P) P
 have e3:=Int.emod_add_mul_ediv (a/P) b
 have e4:=Int.emod_add_mul_ediv a P
 have q1:a/P<b*P:=Int.ediv_lt_of_lt_mul hP (by rw[Int.mul_assoc];exact ha.2)
 have q0:0≤a/P:=Int.ediv_nonneg ha.1 (Int.le_of_lt hP)
 have A0:0≤a/P%b*P+a%P:=Int.add_nonneg (Int.mul_nonneg h4 (Int.le_of_lt hP)) h5
 have A1:a/P%b*P+a%P<P*b:=by
  have:a/P%b*P≤(b-1)*P:=Int.mul_le_mul_of_nonneg_right (Int.le_sub_one_of_lt h4') (Int.le_of_lt hP)
  rw[Int.sub_mul,Int.one_mul,Int.mul_comm b P]at this
  lia
 have eA:a=(a/P%b*P+a%P)+b*(a/P/b*P):=by
  have:a/P*P=(a/P%b+b*(a/P/b))*P:=by rw[e3]
  rw[Int.add_mul,Int.mul_assoc]at this
  rw[Int.mul_comm P]at e4
  lia
 refine⟨⟨Int.ediv_nonneg ha.1 (Int.le_of_lt hPP),Int.ediv_lt_of_lt_mul hPP ha.2⟩,⟨h3,h3'⟩,by rw[e1,Int.mul_comm];exact Int.mul_ediv_add_emod (a/P) P,⟨h4,h4'⟩,⟨h5,h5'⟩,⟨Int.ediv_nonneg A0 (Int.le_of_lt hb),Int.ediv_lt_of_lt_mul hb A1⟩,?_,?_,Int.ediv_nonneg q0 (Int.le_of_lt hb),Int.ediv_lt_of_lt_mul hb (by rw[Int.mul_comm];exact q1)⟩
 ·rw[show a/b=((a/P%b*P+a%P)+b*(a/P/b*P))/b by rw[←eA],Int.add_mul_ediv_left _ _ (Ne.symm (Int.ne_of_lt hb)),Int.add_comm]
 ·rw[show a%b=((a/P%b*P+a%P)+b*(a/P/b*P))%b by rw[←eA],Int.add_mul_emod_self_left]
theorem halves {P b:Int} {Q:Int} (hQ:0<Q) (hP:P=Q*2) (h:P*P≤2*b) (h2:b<P*P):P≤2*(b/P)∧b/P<P:=by
 have hP0:0<P:=by lia
 refine⟨?_,Int.ediv_lt_of_lt_mul hP0 h2⟩
 have:Q≤b/P:=(Int.le_ediv_iff_mul_le hP0).mpr (by
  rw[hP,Int.mul_comm Q 2,Int.mul_assoc]at h
  rw[hP]
  have:Q*(Q*2)=Q*(2*Q):=by exact congrArg _ (Int.mul_comm Q 2)
  lia)
 lia
theorem abs_pow {x:Int} {n:Nat} (h0:0≤x) (h1:x<2^n):x.natAbs<2^n:=by rw[←kbt_cast]at h1;omega
section
variable {m:Mod} {k:Nat} {hs:HS}
theorem mask_n {a:Int} {n:Nat}:BinR m .BitAnd (.int a) (.int (2^n-1)) (.p (.int (a%2^n))):=by
 have:=and_r (m:=m) (a:=a) (b:=2^n-1)
 rw[kbt_mask]at this;exact this
theorem ishl_one {a:Int} {E:Nat} (h:a.natAbs<2^E) (hE:E≤2^20):InR m .LShift (.int a) (.int 1) (.int (a*2)):=by
 have:=ishl_r (m:=m) (a:=a) (n:=1) (by decide) (by have:=intBits_le h;lia)
 exact this
theorem ishr_one {a:Int}:InR m .RShift (.int a) (.int 1) (.int (a/2)):=by
 have:=ishr_r (m:=m) (a:=a) (n:=1) (by decide)
 rw[show((2:Int)^(1:Int).toNat)=2 by decide,Int.fdiv_eq_ediv_of_nonneg _ (by decide)]at this
 exact this
variable (O:m.Ok) (B:m.Bs)
include O B
theorem div2_r (F:FnH2 m "_div2n1n") (F3:FnH2 m "_div3n2n") (g:GlI m "_DIV_LIMIT" 4000) {a b:Int} {n:Nat} (hn1:0<n) (hn8:n≤7999) (h1:2^n≤2*b∧b<2^n) (ha:0≤a∧a<b*2^n):FnR m (k+3) hs "_div2n1n" [.int a,.int b,.int n] (.p (.tup [.int (a/b),.int (a%b)])) hs:=by
 have hb:(P2 "_div2n1n").body=(P2 "_div2n1n").body:=rfl
 conv at hb=>rhs;whnf
 have hn:(P2 "_div2n1n").scope.names=(P2 "_div2n1n").scope.names:=rfl
 conv at hn=>rhs;whnf
 have hP:(0:Int)<2^n:=kbt_pos n
 have hb0:0<b:=by lia
 have hb9:b.natAbs<2^n:=by have:=h1.2;rw[←kbt_cast]at this;grind
 have ha9:a.natAbs<2^(n+n):=by
  have h5:b*2^n≤2^n*2^n:=Int.mul_le_mul_of_nonneg_right (by lia) (Int.le_of_lt hP)
  have h6:=ha.2
  rw[←Int.pow_add,←kbt_cast (n+n)]at h5
  grind
 refine hid fun G_ k_=>?_
 obtain⟨p,hp⟩:∃p,p=n%2:=⟨_,rfl⟩
 obtain⟨H,hH⟩:∃H,H=(n+p)/2:=⟨_,rfl⟩
 have hnp:n+p=H+H:=by lia
 obtain⟨a',ea⟩:∃a',a'=a*2^p:=⟨_,rfl⟩
 obtain⟨b',eb⟩:∃b',b'=b*2^p:=⟨_,rfl⟩
 have hp2:(0:Int)<2^p:=kbt_pos p
 have d1:a'/b'=a/b∧a'%b'=a%b*2^p:=by
  rw[ea,eb]
  exact⟨Int.mul_ediv_mul_of_pos_left _ _ hp2,by rw[Int.mul_comm a,Int.mul_comm b,Int.mul_emod_mul_of_pos _ _ hp2,Int.mul_comm]⟩
 have hpc:p=0∨p=1:=by lia
 have hPP:(2:Int)^(n+p)=2^H*2^H:=by rw[hnp,Int.pow_add]
 refine k_ ?_
 have b3:b'<2^H*2^H:=by rw[←hPP,Int.pow_add,eb];exact Int.mul_lt_mul_of_pos_right h1.2 hp2
 have b4:2^H*2^H≤2*b':=by rw[←hPP,Int.pow_add,eb,←Int.mul_assoc];exact Int.mul_le_mul_of_nonneg_right h1.1 (Int.le_of_lt hp2)
 have b5:0<b':=by rw[eb];exact Int.mul_pos hb0 hp2
 refine hid fun G_ k_=>?_
 have a3:0≤a'∧a'<b'*(2^H*2^H):=by
  refine⟨by rw[ea];exact Int.mul_nonneg ha.1 (Int.le_of_lt hp2),?_⟩
  have q1:a'<b'*2^n:=by rw[ea,eb,Int.mul_right_comm];exact Int.mul_lt_mul_of_pos_right ha.2 hp2
  have q2:b'*2^n≤b'*(2^H*2^H):=by
   refine Int.mul_le_mul_of_nonneg_left ?_ (Int.le_of_lt b5)
   rw[←hPP,Int.pow_add]
   have:(2:Int)^n*1≤2^n*2^p:=Int.mul_le_mul_of_nonneg_left hp2 (Int.le_of_lt hP)
   rw[Int.mul_one]at this;exact this
  exact Int.lt_of_lt_of_le q1 q2
 have hH:0<H:=by lia
 have hH4:H≤4000:=by lia
 have hQ:(2:Int)^H=2^(H-1)*2:=by rw[←Int.pow_succ,show(H-1).succ=H by lia]
 obtain⟨c1,c2⟩:=halves (kbt_pos (H-1)) hQ b4 b3
 obtain⟨t1,t2,t3,t4,t5,t6,t7,t8,t9⟩:=two_div (kbt_pos H) b5 a3
 have c3:=Int.emod_add_mul_ediv b' (2^H)
 have c4:=Int.emod_nonneg b' (show(2:Int)^H≠0 by have:=kbt_pos H;lia)
 have c5:=Int.emod_lt_of_pos b' (kbt_pos H)
 have w1:=div3_r (k:=k) (hs:=hs) O B F3 F g hH4 (b:=b') (b1:=b'/2^H) (b2:=b'%2^H) (by rw[Int.mul_comm];lia) ⟨c4,c5⟩ ⟨c1,c2⟩ t1 t2
 rw[t3]at w1
 have w2:=div3_r (k:=k) (hs:=hs) O B F3 F g hH4 (b:=b') (b1:=b'/2^H) (b2:=b'%2^H) (by rw[Int.mul_comm];lia) ⟨c4,c5⟩ ⟨c1,c2⟩ t4 t5
 rw[t8]at w2
 have f1:BinR m .BitAnd (.int n) (.int 1) (.p (.int p)):=by
  have:=and_r (m:=m) (a:=n) (b:=1)
  rw[bitAnd_m1,show(n:Int)%2=(p:Nat) by lia]at this;exact this
 have f2:BinR m .RShift (.int ((n+p:Nat):Int)) (.int 1) (.p (.int H)):=by
  have:=shr_r (m:=m) (a:=((n+p:Nat):Int)) (n:=1) (by decide)
  rw[show((2:Int)^(1:Int).toNat)=2 by decide,Int.fdiv_eq_ediv_of_nonneg _ (by decide),show((n+p:Nat):Int)/2=(H:Nat) by lia]at this
  exact this
 have f3:=shl_n (m:=m) (a:=1) (n:=H) (E:=1) (by decide) (by lia)
 rw[Int.one_mul]at f3
 have f4:BinR m .RShift (.int a') (.int ((n+p:Nat):Int)) (.p (.int (a'/(2^H*2^H)))):=by
  have:=shr_n (m:=m) (a:=a') (n:=n+p)
  rw[hPP]at this;exact this
 have n1:(a'/2^H/b').natAbs<2^H:=abs_pow t9.1 t9.2
 have f5:BinR m .BitOr (.int (a'/2^H/b'*2^H)) (.int ((a'/2^H%b'*2^H+a'%2^H)/b')) (.p (.int (a/b))):=by
  have:=or_r (m:=m) (a:=a'/2^H/b'*2^H) (b:=(a'/2^H%b'*2^H+a'%2^H)/b')
  rw[bor_apart t6.1 t6.2,t7,d1.1]at this;exact this
 have q:BiR m "divmod" [.int a,.int b] (.p (.tup [.int (a/b),.int (a%b)])):=by
  have:=divmod_r (f:="divmod") (m:=m) B.divmod (a:=a) (b:=b) (by lia) (goes_of hb9 (by lia))
  rw[Int.fdiv_eq_ediv_of_nonneg _ (Int.le_of_lt hb0),Int.fmod_eq_emod_of_nonneg _ (Int.le_of_lt hb0)]at this
  exact this
 have d2:=d1.2
 clear t1 t2 t3 t4 t5 t6 t7 t8 c1 c2 c3 c4 c5 a3 b3 b4 hQ d1
 refine k_ ?_
 refine z_def (nm:=["a","b","n","pad","half_n","mask","b1","b2","q1","r","q2"]) (sl0:=[.any,.any,.any,.any,.any,.any,.any,.any,.any,.any,.any]) (ps:=["a","b","n"]) O F (by kernel_rfl!) hb hn rfl (z_par (i:=0) (by kernel_rfl!) (z_par (i:=1) (by kernel_rfl!) (z_par (i:=2) (by kernel_rfl!) .nil))) rfl ?_ (by kernel_rfl!)
 clear hb hn
 refine e_ifr (by exists ts_cmp rfl (ev_bin (ev_me rfl rfl dd (z_v 0) ws_nil rfl .nil bits_r) (z_v 2) rfl rfl sub_r) (z_gi O (by kernel_rfl!) g) rfl rfl le_r) (fun ux=>e_ret (by exists st_ret (z_bi kk O (ws_cons (z_v 0) (ws_cons (z_v 1) ws_nil rfl) rfl) (.cons rfl (.cons rfl .nil)) q) .p)) fun ux=>?_
 refine' e_cons (by exists z_asn (i:=3) kk (ev_bin (z_v 2) (ev_int _ _) rfl rfl f1) rfl .p) ?_
 refine e_cons (hs1:=hs) (Γ1:=Gz ["a","b","n","pad","half_n","mask","b1","b2","q1","r","q2"] [.p (.int a'),.p (.int b'),.p (.int ((n+p:Nat):Int)),.p (.int p),.any,.any,.any,.any,.any,.any,.any]) (z_if (ts_i rfl (by exact z_v 3)) (fun hc=>?_) fun hc=>?_) ?_
 ·have hp1:p=1:=by have:=of_decide_eq_true hc;lia
  have e1:a'=a*2:=by rw[ea,hp1];rfl
  have e2:b'=b*2:=by rw[eb,hp1];rfl
  have e3:((n+p:Nat):Int)=(n:Int)+1:=by lia
  rw[e1,e2,e3]
  exact x_cons (by exists z_aug (i:=0) kk rfl (ev_int _ _) (ishl_one ha9 (by lia))) (x_cons (by exists z_aug (i:=1) kk rfl (ev_int _ _) (ishl_one hb9 (by lia))) (x_cons (by exists z_aug (i:=2) kk rfl (ev_int _ _) iadd_r) x_nil))
 ·have hp1:p=0:=by have:=of_decide_eq_false hc;lia
  have e1:a'=a:=by rw[ea,hp1];exact Int.mul_one a
  have e2:b'=b:=by rw[eb,hp1];exact Int.mul_one b
  have e3:((n+p:Nat):Int)=(n:Int):=by lia
  rw[e1,e2,e3]
  exact x_nil
 refine' e_cons (by exists z_asn (i:=4) kk (ev_bin (z_v 2) (ev_int _ _) rfl rfl f2) rfl .p) ?_
 refine' e_cons (by exists z_asn (i:=5) kk (ev_bin (ev_bin (ev_int _ _) (z_v 4) rfl rfl f3) (ev_int _ _) rfl rfl sub_r) rfl .p) ?_
 refine' e_cons (by exists z_pair (i:=6) (j:=7) kk kk kk kk (ev_tup (ar_cons (ev_bin (z_v 1) (z_v 4) rfl rfl shr_n) (ar_cons (ev_bin (z_v 1) (z_v 5) rfl rfl mask_n) ar_nil rfl rfl) rfl rfl) kk)) ?_
 refine' e_cons (by exists z_tup2 (i:=8) (j:=9) kk kk rfl (z_fn kk O (ar_cons (ev_bin (z_v 0) (z_v 2) rfl rfl f4) (ar_cons (ev_bin (ev_bin (z_v 0) (z_v 4) rfl rfl shr_n) (z_v 5) rfl rfl mask_n) (ar_cons (z_v 1) (ar_cons (z_v 6) (ar_cons (z_v 7) (ar_cons (z_v 4) ar_nil rfl rfl) rfl rfl) rfl rfl) rfl rfl) rfl rfl) rfl rfl) w1)) ?_
 refine' e_cons (by exists z_tup2 (i:=10) (j:=9) kk kk rfl (z_fn kk O (ar_cons (z_v 9) (ar_cons (ev_bin (z_v 0) (z_v 5) rfl rfl mask_n) (ar_cons (z_v 1) (ar_cons (z_v 6) (ar_cons (z_v 7) (ar_cons (z_v 4) ar_nil rfl rfl) rfl rfl) rfl rfl) rfl rfl) rfl rfl) rfl rfl) w2)) ?_
 refine e_cons (hs1:=hs) (Γ1:=Gz ["a","b","n","pad","half_n","mask","b1","b2","q1","r","q2"] [.p (.int a'),.p (.int b'),.p (.int ((n+p:Nat):Int)),.p (.int p),.p (.int H),.p (.int (2^H-1)),.p (.int (b'/2^H)),.p (.int (b'%2^H)),.p (.int (a'/2^H/b')),.p (.int (a%b)),.p (.int ((a'/2^H%b'*2^H+a'%2^H)/b'))]) (z_if (ts_i rfl (by exact z_v 3)) (fun hc=>?_) fun hc=>?_) ?_
 ·have hp1:p=1:=by have:=of_decide_eq_true hc;lia
  have f6:InR m .RShift (.int (a'%b')) (.int 1) (.int (a%b)):=by
   have:=ishr_one (m:=m) (a:=a'%b')
   rw[d2,hp1,show(2:Int)^1=2 by rfl,Int.mul_ediv_cancel _ (by decide)]at this
   rw[d2,hp1];exact this
  exact x_cons (by exists z_aug (i:=9) kk rfl (ev_int _ _) f6) x_nil
 ·have hp1:p=0:=by have:=of_decide_eq_false hc;lia
  have e1:a%b=a'%b':=by rw[d2,hp1];exact(Int.mul_one _).symm
  refine(Eq.symm (e1))▸ ?_
  exact x_nil
 exact e_ret (by exists st_ret (ev_tup (ar_cons (ev_bin (ev_bin (z_v 8) (z_v 4) rfl rfl (shl_n n1 (by lia))) (z_v 10) rfl rfl f5) (ar_cons (z_v 9) ar_nil rfl rfl) rfl rfl) kk) .p)
end
set_option tactic.hygienic true in
theorem lt_bits (X:Nat):X<2^Builtin.Int.intBits (X:Int):=by
 unfold Builtin.Int.intBits
 split
 ·rename_i h
  have:X=0:=by
   have:=eq_of_beq h
   exact Int.ofNat_eq_zero.mp this
  rw[this];decide
 ·rename_i h
  simp only[Int.natAbs_natCast]
  have h0:X≠0:=fun e=>h (by rw[e];rfl)
  exact(Nat.log2_lt h0).mp (Nat.lt_succ_self _)
noncomputable def cntF (n X:Nat):Nat:=(Builtin.Int.intBits (X:Int)+n-1)/n
noncomputable def digsF (n X:Nat):List Int:=intsN (figs n (cntF n X) X)
theorem cnt_le {n X:Nat} (hn:0<n):X<2^(n*cntF n X):=by
 refine Nat.lt_of_lt_of_le (lt_bits X) (Nat.pow_le_pow_right (by decide) ?_)
 unfold cntF
 have:=Nat.div_add_mod (Builtin.Int.intBits (X:Int)+n-1) n
 have:=Nat.mod_lt (Builtin.Int.intBits (X:Int)+n-1) hn
 omega
theorem cnt_zero {n:Nat} (hn:0<n):cntF n 0=0:=by
 unfold cntF
 rw[show Builtin.Int.intBits ((0:Nat):Int)=0 from rfl]
 exact Nat.div_eq_of_lt (by omega)
noncomputable def I2H (m:Mod):Prop:=∃a fd c P qual,m.mg "_int2digits"=some (.ref a)∧FnRec m.h₀ a (P2 "_int2digits") fd∧ClRec m (P2 "_int2digits") fd "a_digits" I2 c P qual
section
variable {m:Mod} {k:Nat} {hs:HS} (O:m.Ok) (B:m.Bs)
include O B
theorem i2d_r (F:I2H m) (hk:24≤k) {n X:Nat} (hn0:0<n) (hn2:n<2^15) (hq:cntF n X≤24):FnR m (k+1) hs "_int2digits" [.int X,.int n] (.p (.lst (vints (digsF n X)))) hs:=by
 have hb:(P2 "_int2digits").body=(P2 "_int2digits").body:=rfl
 conv at hb=>rhs;whnf
 have hn:(P2 "_int2digits").scope.names=(P2 "_int2digits").scope.names:=rfl
 conv at hn=>rhs;whnf
 refine hid fun G_ k_=>?_
 obtain⟨a,fd,c,P,qual,hx,FR,L⟩:=F
 obtain⟨o,ho,hd⟩:=FR.at_
 refine k_ ?_
 refine⟨a,o,fd,hx,ho,hd,?_⟩
 have hq2:((Builtin.Int.intBits (X:Int):Int)+n-1).fdiv n=(cntF n X:Nat):=by
  rw[Int.fdiv_eq_ediv_of_nonneg _ (Int.natCast_nonneg n),show((Builtin.Int.intBits (X:Int):Int)+n-1)=((Builtin.Int.intBits (X:Int)+n-1:Nat):Int) by lia];rfl
 have f1:BinR m .FloorDiv (.int ((Builtin.Int.intBits (X:Int):Int)+n-1)) (.int n) (.p (.int (cntF n X))):=by
  have:=div_r (m:=m) (a:=(Builtin.Int.intBits (X:Int):Int)+n-1) (b:=(n:Int)) (Int.natCast_ne_zero_iff_pos.mpr hn0) (goes_of (m:=15) (by simp only[Int.natAbs_natCast];exact hn2) (by decide))
  rw[hq2]at this;exact this
 have f2:BinR m .Mult (.lst [.int 0]) (.int (cntF n X)) (.f (vints (List.replicate (cntF n X) 0))):=by
  have:=mull_r (m:=m) (a:=[.int 0]) (n:=((cntF n X:Nat):Int)) (by lia) (Rat.intCast_lt_intCast.mp rfl) (by decide)
  rw[show repl [V.int 0] ((cntF n X:Nat):Int)=vints (List.replicate (cntF n X) 0) by
   show _=List.map _ _
   rw[List.map_replicate]
   unfold repl
   simp only[Int.toNat_natCast]
   induction cntF n X with
   |zero=>rfl
   |succ n ih=>(simp only[replicate_succ,replicate_succ,List.flatten_cons];rw[ih]);rfl]at this
  exact this
 have hlen:((vints (List.replicate (cntF n X) 0)).length:Int)=(cntF n X:Nat):=by rw[length_map,length_replicate]
 refine i2d_ok (m:=m) (k:=k) (hs:=hs) O hk FR L hb (x:=X) (n:=n) (q:=cntF n X) (Γ:=Gz ["a","n","a_digits","inner"] [.p (.int X),.p (.int n),.any,.any]) (Γ1:=Gz ["a","n","a_digits","inner"] [.p (.int X),.p (.int n),.o (vints (List.replicate (cntF n X) 0)),.any]) (Γ4:=Gz ["a","n","a_digits","inner"] [.p (.int X),.p (.int n),.p (.lst (vints (digsF n X))),.any])
  ?zz0 ?zz1 (gz_lookup (ix_of (i:=2) (by kernel_rfl!)) rfl) (gz_lookup (ix_of (i:=1) (by kernel_rfl!)) rfl) ?zz2 ?zz3 ?zz4 (fun h=>?zz5) (fun h=>?zz6) (Nat.le_trans hq (by decide))
 case zz0=>
  show BindP ["a","n"] _ (Gz ["a","n","a_digits","inner"] [.any,.any,.any,.any]) _
  exact z_par (i:=0) (by kernel_rfl!) (z_par (i:=1) (by kernel_rfl!) .nil)
 case zz1=>exact(by exists z_asn (i:=2) kk (ev_bin (ev_list (ar_cons (ev_int _ _) ar_nil rfl rfl) kk) (ev_bin (ev_bin (ev_bin (ev_me rfl rfl dd (z_v 0) ws_nil rfl .nil bits_r) (z_v 1) rfl rfl add_r) (ev_int _ _) rfl rfl sub_r) (z_v 1) rfl rfl f1) rfl rfl f2) rfl .o)
 case zz2=>rw[gz_set (ix_of (i:=3) (by kernel_rfl!))];exact ts_i rfl (by exact z_v 0)
 case zz3=>
  rw[gz_set (ix_of (i:=3) (by kernel_rfl!))]
  have f3:BiR m "len" [.lst (vints (List.replicate (cntF n X) 0))] (.p (.int (cntF n X))):=hlen▸len_l B.len
  exact ar_cons (by exact z_v 0) (ar_cons (by exact ev_int _ _) (ar_cons (by exists z_bi kk O (ws_cons (z_v 2) ws_nil rfl) (.cons rfl .nil) f3) ar_nil rfl rfl) rfl rfl) rfl rfl
 case zz4=>
  rw[gz_set (ix_of (i:=3) (by kernel_rfl!)),gz_set (ix_of (i:=2) (by kernel_rfl!))]
  exact(by exists z_frz (x:="a_digits") (i:=2) kk rfl (st_ret (z_v 2) .p))
 case zz5=>
  have h1:=cnt_le (X:=X) hn0
  have h2:=dig_run hn2 24 X [] (List.replicate (cntF n X) 0) [] (by
   rw[length_replicate]
   refine Nat.pos_of_ne_zero fun e=>h ?_
   rw[e,Nat.mul_zero]at h1
   rw[Nat.lt_one_iff.mp h1];rfl) (by rw[length_replicate];exact hq) (by simp only[length_replicate,length_nil,Nat.zero_add];exact hq) (by rw[length_replicate];exact h1)
  rw[length_replicate,length_nil,Nat.zero_add,append_nil,append_nil,nil_append,nil_append]at h2
  exact h2
 case zz6=>
  have h0:X=0:=Int.ofNat_eq_zero.mp h
  unfold digsF
  rw[h0,cnt_zero hn0];rfl
end
noncomputable def D2H (m:Mod):Prop:=∃a fd c P qual,m.mg "_digits2int"=some (.ref a)∧FnRec m.h₀ a (P2 "_digits2int") fd∧ClRec m (P2 "_digits2int") fd "digits" D2 c P qual
section
variable {m:Mod} {k:Nat} {hs:HS} (O:m.Ok) (B:m.Bs)
include O B
theorem d2i_r (F:D2H m) (hk:24≤k) {n:Nat} (hn2:n<2^15) {ds:List Nat} (hd4:∀d∈ds,d<2^n) (hq:ds.length≤24):FnR m (k+1) hs "_digits2int" [.lst (vints (ds.map Int.ofNat)),.int n] (.p (.int (val n ds:Nat))) hs:=by
 have hb:(P2 "_digits2int").body=(P2 "_digits2int").body:=rfl
 conv at hb=>rhs;whnf
 have hn:(P2 "_digits2int").scope.names=(P2 "_digits2int").scope.names:=rfl
 conv at hn=>rhs;whnf
 refine hid fun G_ k_=>?_
 obtain⟨a,fd,c,P,qual,hx,FR,L⟩:=F
 obtain⟨o,ho,hd⟩:=FR.at_
 refine k_ ?_
 refine⟨a,o,fd,hx,ho,hd,?_⟩
 refine d2i_ok (m:=m) (k:=k) (hs:=hs) O hk FR L hb (ds:=ds.map Int.ofNat) (n:=n) (Γ:=Gz ["digits","n","inner"] [.p (.lst (vints (ds.map Int.ofNat))),.p (.int n),.any])
  ?zz0 (gz_lookup (ix_of (i:=0) (by kernel_rfl!)) rfl) (gz_lookup (ix_of (i:=1) (by kernel_rfl!)) rfl) ?zz1 (fun h=>?zz2) (fun h=>?zz3)
 case zz0=>
  show BindP ["digits","n"] _ (Gz ["digits","n","inner"] [.any,.any,.any]) _
  exact z_par (i:=0) (by kernel_rfl!) (z_par (i:=1) (by kernel_rfl!) .nil)
 case zz1=>
  rw[gz_set (ix_of (i:=2) (by kernel_rfl!))]
  have f3:BiR m "len" [.lst (vints (ds.map Int.ofNat))] (.p (.int (ds.map Int.ofNat).length)):=by
   have:=len_l (m:=m) (f:="len") B.len (l:=vints (ds.map Int.ofNat))
   rw[length_map]at this;exact this
  exact ar_cons (by exact ev_int _ _) (ar_cons (by exists z_bi kk O (ws_cons (z_v 0) ws_nil rfl) (.cons rfl .nil) f3) ar_nil rfl rfl) rfl rfl
 case zz2=>
  have:ds=[]:=List.map_eq_nil_iff.mp h
  rw[this];rfl
 case zz3=>
  have h0:ds≠[]:=fun e=>h (by rw[e];rfl)
  have:=sum_run hn2 24 [] ds [] hd4 (List.length_pos_iff.mpr h0) hq (by simp only[length_nil,Nat.zero_add];exact hq)
  rw[length_nil,Nat.zero_add,append_nil,nil_append]at this
  rw[length_map]
  exact this
end
theorem bits_lo {Y:Nat} (h:0<Y):2^Builtin.Int.intBits (Y:Int)≤2*Y:=by
 unfold Builtin.Int.intBits
 rw[if_neg (by intro e;have:=eq_of_beq e;omega),Int.natAbs_natCast,Nat.pow_succ,Nat.mul_comm]
 exact Nat.mul_le_mul_left 2 (Nat.log2_self_le (Nat.ne_zero_of_lt h))
noncomputable def hz (n:Nat) (l:List Nat):Nat:=l.foldl (fun v d=>v*2^n+d) 0
structure DivI (n Y:Nat) (L:List Nat) (t:Nat) (s:Nat×List Nat):Prop where
 r:s.1=hz n (L.take t)%Y
 len:s.2.length=t
 q:hz n s.2=hz n (L.take t)/Y
 lt:∀x∈s.2,x<2^n
theorem DivI.step {n Y t d:Nat} {L:List Nat} {s:Nat×List Nat} (hY:0<Y) (hd:d<2^n) (e:L[t]? =some d) (h:DivI n Y L t s):DivI n Y L (t+1) ((s.1*2^n+d)%Y,s.2++[(s.1*2^n+d)/Y])∧s.1<Y∧s.1*2^n+d<Y*2^n:=by
 obtain⟨r,qs⟩:=s
 obtain⟨h1,h2,h3,h4⟩:=h
 have h1:r=_:=h1
 have hr:r<Y:=by rw[h1];exact Nat.mod_lt _ hY
 have hlt:r*2^n+d<Y*2^n:=Nat.lt_of_lt_of_le (Nat.add_lt_add_left hd _) (Nat.succ_mul r _▸Nat.mul_le_mul_right _ hr)
 have ht:hz n (L.take (t+1))=hz n (L.take t)*2^n+d:=by
  rw[List.take_add_one,e]
  exact List.foldl_append
 have e3:hz n (L.take (t+1))=Y*(hz n (L.take t)/Y*2^n)+(r*2^n+d):=by
  rw[ht,h1,←Nat.add_assoc,←Nat.mul_assoc,←Nat.add_mul,Nat.div_add_mod]
 refine⟨⟨?_,?_,?_,fun x hx=>?_⟩,hr,hlt⟩
 ·rw[e3,Nat.mul_add_mod]
 ·rw[length_append,h2];rfl
 ·rw[e3,Nat.mul_add_div hY,←h3]
  exact List.foldl_append
 ·rcases mem_append.mp hx with hx|hx
  ·exact h4 x hx
  ·cases mem_singleton.mp hx;exact Nat.div_lt_of_lt_mul hlt
section
variable {m:Mod} {k:Nat} {ns:Names} {nm:List Str} {sl:List Slot} {hs:HS} {x:Str} {pos p1 p2 p3:Pos} {i:Nat} {l:List V}
theorem z_rev (h:zok ns nm x i=true) (hs0:sl[i]? =some (.o l)) (hline:(p2.endLine==p3.line)=true):StR m k ns (Gz nm sl) hs (.Expr (.Call (.Attribute (.Name x p1) "reverse" p2) [] [] p3) pos) .nx (Gz nm (sl.set i (.o l.reverse))) hs:=gz_set (zok_of h).2.2▸st_rev (z_own i h hs0) hline
end
section
variable {m:Mod} {k:Nat} {hs:HS} (O:m.Ok) (B:m.Bs)
include O B
theorem divpos_r (F:FnH2 m "_divmod_pos") (I:I2H m) (D:D2H m) (F2:FnH2 m "_div2n1n") (F3:FnH2 m "_div3n2n") (g:GlI m "_DIV_LIMIT" 4000) {A Y n:Nat} (hY:0<Y) (hnY:Builtin.Int.intBits (Y:Int)=n) (hn8:n≤7999) (hq:cntF n A≤24):
 FnR m (k+26) hs "_divmod_pos" [.int A,.int Y] (.p (.tup [.int (A/Y:Nat),.int (A%Y:Nat)])) hs:=by
 have hb:(P2 "_divmod_pos").body=(P2 "_divmod_pos").body:=rfl
 conv at hb=>rhs;whnf
 have hn:(P2 "_divmod_pos").scope.names=(P2 "_divmod_pos").scope.names:=rfl
 conv at hn=>rhs;whnf
 have y1:Y<2^n:=by have:=lt_bits Y;rw[hnY]at this;exact this
 have y2:2^n≤2*Y:=by have:=bits_lo hY;rw[hnY]at this;exact this
 have hn0:0<n:=by
  cases n with
  |zero=>simp only[Nat.pow_zero]at y1;lia
  |succ j=>exact Nat.succ_pos j
 have w1:=i2d_r (k:=k+24) (hs:=hs) O B I (Nat.le_add_left 24 k) hn0 (Nat.lt_of_le_of_lt hn8 (by decide)) hq
 have eL:(vints (digsF n A)).reverse=(figs n (cntF n A) A).reverse.map fun d=>V.int (d:Nat):=by
  show(List.map _ (List.map _ _)).reverse=_
  rw[map_map,←List.map_reverse];rfl
 have hA:hz n (figs n (cntF n A) A).reverse=A:=by
  unfold hz
  refine Eq.trans (List.foldl_reverse) ?_
  exact val_figs _ _ (cnt_le hn0)
 have hl:(figs n (cntF n A) A).reverse.length=cntF n A:=by rw[List.length_reverse,figs_len]
 have hd:∀d∈(figs n (cntF n A) A).reverse,d<2^n:=fun d h=>figs_lt _ _ d (List.mem_reverse.mp h)
 generalize (figs n (cntF n A) A).reverse=L at eL hA hl hd
 refine z_def (nm:=["a","b","n","a_digits","r","q_digits","a_digit","q_digit","q"]) (sl0:=[.any,.any,.any,.any,.any,.any,.any,.any,.any]) (ps:=["a","b"]) O F (by kernel_rfl!) hb hn rfl (z_par (i:=0) (by kernel_rfl!) (z_par (i:=1) (by kernel_rfl!) .nil)) rfl ?_ (by kernel_rfl!)
 clear hb hn
 have f1:MeR m "bit_length" (.int Y) [] (.p (.int n)):=by have:=bits_r (m:=m) (i:=(Y:Int));rw[hnY]at this;exact this
 refine' e_cons (by exists z_asn (i:=2) kk (ev_me rfl rfl dd (z_v 1) ws_nil rfl .nil f1) rfl .p) ?_
 refine' e_cons (by exists z_asn (i:=3) kk (z_fn kk O (ar_cons (z_v 0) (ar_cons (z_v 2) ar_nil rfl rfl) rfl rfl) w1) rfl .p) ?_
 refine' e_cons (by exists z_asn (i:=4) kk (ev_int _ _) rfl .p) ?_
 refine' e_cons (by exists z_asn (i:=5) kk (ev_list ar_nil kk) rfl .o) ?_
 refine z_forj 6 (fun d=>V.int (d:Nat)) (fun sl (j:Slot) (s:Nat×List Nat)=>[.p (.int A),.p (.int Y),.p (.int n),.p (.lst (vints (digsF n A))),.p (.int s.1),.o (nats s.2),sl,j,.any]) (fun s d=>((s.1*2^n+d)%Y,s.2++[(s.1*2^n+d)/Y]))
  (DivI n Y L) L .any .any (0,[]) (by kernel_rfl!) rfl (by exists ev_rev O kk B.reversed (ar_cons (z_v 3) ar_nil rfl rfl)) rfl (by rw[←eL];exact .i) (fun ux ux ux ux=>rfl) ?_ (fun t d hi j s hp=>?_) (fun sl j hp=>?_)
 ·exact⟨(Nat.zero_mod _).symm,rfl,(Nat.zero_div _).symm,fun x hx=>nomatch hx⟩
 ·have hdn:=hd d (mem_of_getElem? hi)
  obtain⟨p2,hr,hlt⟩:=hp.step hY hdn hi
  have ht:t<24:=Nat.lt_of_lt_of_le (List.getElem?_eq_some_iff.mp hi).1 (hl▸hq)
  refine⟨⟨.p (.int ((s.1*2^n+d)/Y:Nat)),?_⟩,p2⟩
  have hlen:=hp.len
  clear p2 hp hi hd hA hl hdn eL w1
  obtain⟨r,qs⟩:=s
  have hr:r<Y:=hr
  have hlt:r*2^n+d<Y*2^n:=hlt
  have hlen:qs.length=t:=hlen
  have e1:(((r*2^n+d:Nat):Nat):Int)=(r:Int)*2^n+(d:Nat):=by(simp only[Int.natCast_add,Int.natCast_mul];rw[kbt_cast])
  have w2:=div2_r (k:=k+22) (hs:=hs) O B F2 F3 g (a:=((r*2^n+d:Nat):Int)) (b:=(Y:Int)) hn0 hn8 (by rw[←kbt_cast];lia) (by rw[←kbt_cast,←Int.natCast_mul];lia)
  rw[←Int.natCast_ediv,←Int.natCast_emod,e1]at w2
  have r1:(r:Int).natAbs<2^n:=Nat.lt_trans hr y1
  refine x_cons (by exists z_tup2 (i:=7) (j:=4) kk kk rfl (z_fn kk O (ar_cons (ev_bin (ev_bin (z_v 4) (z_v 2) rfl rfl (shl_n r1 (by lia))) (z_v 6) rfl rfl add_r) (ar_cons (z_v 1) (ar_cons (z_v 2) ar_nil rfl rfl) rfl rfl) rfl rfl) w2)) ?_
  rw[show nats (qs++[(r*2^n+d)/Y])=nats qs++[.int ((r*2^n+d)/Y:Nat)]from map_append]
  exact x_cons (by exists z_app (i:=5) kk rfl (ar_cons (z_v 7) ar_nil rfl rfl) kk dd (room_of (by rw[length_map];lia))) x_nil
 ·generalize L.foldl (fun(s:Nat×List Nat) d=>((s.1*2^n+d)%Y,s.2++[(s.1*2^n+d)/Y])) (0,[])=s at hp ⊢
  obtain⟨p1,p2,p3,p4⟩:=hp
  rw[List.take_length,hA]at p1 p3
  have w3:=d2i_r (k:=k+24) (hs:=hs) O B D (Nat.le_add_left 24 k) (Nat.lt_of_le_of_lt hn8 (by decide)) (fun x hx=>p4 x (List.mem_reverse.mp hx)) (by rw[List.length_reverse,p2,hl];exact hq)
  rw[show val n s.2.reverse=A/Y from List.foldr_reverse.trans p3,←nats_vints,show nats s.2.reverse=(nats s.2).reverse from List.map_reverse]at w3
  refine' e_cons (z_rev (i:=5) (by kernel_rfl!) rfl rfl) ?_
  refine' e_cons (z_frz (x:="q_digits") (i:=5) (by kernel_rfl!) rfl (by exists z_asn (i:=8) kk (z_fn kk O (ar_cons (z_v 5) (ar_cons (z_v 2) ar_nil rfl rfl) rfl rfl) w3) rfl .p)) ?_
  rw[←p1]
  exact e_ret (by exists st_ret (ev_tup (ar_cons (z_v 8) (ar_cons (z_v 4) ar_nil rfl rfl) rfl rfl) kk) .p)
end
theorem cnt_of {n A:Nat} (hn:0<n) (h:A<2^(n*24)):cntF n A≤24:=by
 have:=intBits_le (i:=(A:Int)) (n:=n*24) (by simp only[Int.natAbs_natCast];exact h)
 unfold cntF
 have h2:(Builtin.Int.intBits (A:Int)+n-1)/n<25:=Nat.div_lt_of_lt_mul (by omega)
 exact(Nat.le_mul_iff_le_right hn).mp this
section
variable {m:Mod} {k:Nat} {ns:Names} {Γ:Gam} {hs hs1:HS} {pos:Pos} {w:W}
theorem e_if2 {t:Expr} {b o r:List Stmt} {c:Bool} (h1:TsR m k ns Γ hs t c hs) (ht:c=true→XE m k ns Γ hs b w hs1) (he:c=false→XE m k ns Γ hs o w hs1):XE m k ns Γ hs (.If t b o pos::r) w hs1:=by
 cases c with
 |true=>obtain⟨Γ',h⟩:=ht rfl;exact⟨Γ',x_stop (st_if h1 h) (by simp)⟩
 |false=>obtain⟨Γ',h⟩:=he rfl;exact⟨Γ',x_stop (st_if h1 h) (by simp)⟩
end
section
variable {m:Mod} {k:Nat} {hs:HS} (O:m.Ok) (B:m.Bs)
include O B
theorem idm_pos (F0:FnH2 m "int_divmod") (F:FnH2 m "_divmod_pos") (I:I2H m) (D:D2H m) (F2:FnH2 m "_div2n1n") (F3:FnH2 m "_div3n2n") (g:GlI m "_DIV_LIMIT" 4000) {A Y n:Nat} (hY:0<Y) (hnY:Builtin.Int.intBits (Y:Int)=n) (hn8:n≤7999) (hq:cntF n A≤24):
 FnR m (k+27) hs "int_divmod" [.int A,.int Y] (.p (.tup [.int (A/Y:Nat),.int (A%Y:Nat)])) hs:=by
 have hb:(P2 "int_divmod").body=(P2 "int_divmod").body:=rfl
 conv at hb=>rhs;whnf
 have hn:(P2 "int_divmod").scope.names=(P2 "int_divmod").scope.names:=rfl
 conv at hn=>rhs;whnf
 have w1:=divpos_r (k:=k) (hs:=hs) O B F I D F2 F3 g hY hnY hn8 hq
 refine z_def (nm:=["a","b","q","r"]) (sl0:=[.any,.any,.any,.any]) (ps:=["a","b"]) O F0 (by kernel_rfl!) hb hn rfl (z_par (i:=0) (by kernel_rfl!) (z_par (i:=1) (by kernel_rfl!) .nil)) rfl ?_ (by kernel_rfl!)
 clear hb hn
 refine e_if2 (by exists ts_cmp rfl (z_v 1) (ev_int _ _) rfl rfl ((eq_r (beq_int _ _)).1)) (fun h=>by have:=of_decide_eq_true h;omega) fun ux=>?_
 refine e_if2 (by exists ts_cmp rfl (z_v 1) (ev_int _ _) rfl rfl lt_r) (fun h=>by have:=of_decide_eq_true h;omega) fun ux=>?_
 refine e_if2 (by exists ts_cmp rfl (z_v 0) (ev_int _ _) rfl rfl lt_r) (fun h=>by have:=of_decide_eq_true h;omega) fun ux=>?_
 exact e_ret (by exists st_ret (z_fn kk O (ar_cons (z_v 0) (ar_cons (z_v 1) ar_nil rfl rfl) rfl rfl) w1) .p)
theorem idm_up (F0:FnH2 m "int_divmod") (F:FnH2 m "_divmod_pos") (I:I2H m) (D:D2H m) (F2:FnH2 m "_div2n1n") (F3:FnH2 m "_div3n2n") (g:GlI m "_DIV_LIMIT" 4000) {a:Int} {Y n:Nat} (hY:0<Y) (hnY:Builtin.Int.intBits (Y:Int)=n) (hn8:n≤7999) (ha:a.natAbs<2^(n*24)):
 FnR m (k+28) hs "int_divmod" [.int a,.int Y] (.p (.tup [.int (a/Y),.int (a%Y)])) hs:=by
 have hn0:0<n:=by
  cases n with
  |zero=>have:=lt_bits Y;rw[hnY,Nat.pow_zero]at this;lia
  |succ j=>exact Nat.succ_pos j
 by_cases h0:0≤a
 ·obtain⟨A,rfl⟩:=Int.eq_ofNat_of_zero_le h0
  have:=idm_pos (k:=k+1) (hs:=hs) O B F0 F I D F2 F3 g (A:=A) hY hnY hn8 (cnt_of hn0 (by simp only[Int.natAbs_natCast]at ha;exact ha))
  simp only[Int.natCast_ediv,Int.natCast_emod]at this
  exact this
 have hb:(P2 "int_divmod").body=(P2 "int_divmod").body:=rfl
 conv at hb=>rhs;whnf
 have hn:(P2 "int_divmod").scope.names=(P2 "int_divmod").scope.names:=rfl
 conv at hn=>rhs;whnf
 obtain⟨A,eA⟩:=Int.eq_ofNat_of_zero_le (show 0≤ -a-1 by lia)
 have w1:=idm_pos (k:=k) (hs:=hs) O B F0 F I D F2 F3 g (A:=A) hY hnY hn8 (cnt_of hn0 (by omega))
 rw[Int.natCast_ediv,Int.natCast_emod,←eA]at w1
 obtain⟨b1,b2⟩:=kbt_below a (show(0:Int)<Y by exact Int.natCast_pos.mpr hY)
 refine z_def (nm:=["a","b","q","r"]) (sl0:=[.any,.any,.any,.any]) (ps:=["a","b"]) O F0 (by kernel_rfl!) hb hn rfl (z_par (i:=0) (by kernel_rfl!) (z_par (i:=1) (by kernel_rfl!) .nil)) rfl ?_ (by kernel_rfl!)
 clear hb hn
 refine e_if2 (by exists ts_cmp rfl (z_v 1) (ev_int _ _) rfl rfl ((eq_r (beq_int _ _)).1)) (fun h=>by have:=of_decide_eq_true h;lia) fun ux=>?_
 refine e_if2 (by exists ts_cmp rfl (z_v 1) (ev_int _ _) rfl rfl lt_r) (fun h=>by have:=of_decide_eq_true h;lia) fun ux=>?_
 refine e_if2 (by exists ts_cmp rfl (z_v 0) (ev_int _ _) rfl rfl lt_r) (fun ux=>?_) (fun h=>by have:=of_decide_eq_false h;lia)
 refine' e_cons (by exists z_tup2 (i:=2) (j:=3) kk kk rfl (z_fn kk O (ar_cons (ev_inv (z_v 0)) (ar_cons (z_v 1) ar_nil rfl rfl) rfl rfl) w1)) ?_
 rw[b1,show a%Y=(Y:Int)+(-((-a-1)%Y)-1) by lia]
 exact e_ret (by exists st_ret (ev_tup (ar_cons (ev_inv (z_v 2)) (ar_cons (ev_bin (z_v 1) (ev_inv (z_v 3)) rfl rfl add_r) ar_nil rfl rfl) rfl rfl) kk) .p)
theorem idm_dn (F0:FnH2 m "int_divmod") (F:FnH2 m "_divmod_pos") (I:I2H m) (D:D2H m) (F2:FnH2 m "_div2n1n") (F3:FnH2 m "_div3n2n") (g:GlI m "_DIV_LIMIT" 4000) {a:Int} {Y n:Nat} (hY:0<Y) (hnY:Builtin.Int.intBits (Y:Int)=n) (hn8:n≤7999) (ha:a.natAbs<2^(n*24)):
 FnR m (k+29) hs "int_divmod" [.int a,.int (-(Y:Int))] (.p (.tup [.int (-a/Y),.int (-(-a%Y))])) hs:=by
 have hb:(P2 "int_divmod").body=(P2 "int_divmod").body:=rfl
 conv at hb=>rhs;whnf
 have hn:(P2 "int_divmod").scope.names=(P2 "int_divmod").scope.names:=rfl
 conv at hn=>rhs;whnf
 have w1:=idm_up (k:=k) (hs:=hs) O B F0 F I D F2 F3 g (a:= -a) hY hnY hn8 (by rw[Int.natAbs_neg];exact ha)
 rw[show(Y:Int)= - -(Y:Int) by exact Int.eq_neg_comm.mp rfl]at w1
 refine z_def (nm:=["a","b","q","r"]) (sl0:=[.any,.any,.any,.any]) (ps:=["a","b"]) O F0 (by kernel_rfl!) hb hn rfl (z_par (i:=0) (by kernel_rfl!) (z_par (i:=1) (by kernel_rfl!) .nil)) rfl ?_ (by kernel_rfl!)
 clear hb hn
 rw[show -a/(Y:Int)= -a/ - -(Y:Int) by rw[Int.neg_neg],show -a% (Y:Int)= -a% - -(Y:Int) by rw[Int.neg_neg]]
 refine e_if2 (by exists ts_cmp rfl (z_v 1) (ev_int _ _) rfl rfl ((eq_r (beq_int _ _)).1)) (fun h=>by have:=of_decide_eq_true h;omega) fun ux=>?_
 refine e_if2 (by exists ts_cmp rfl (z_v 1) (ev_int _ _) rfl rfl lt_r) (fun ux=>?_) (fun h=>by have:=of_decide_eq_false h;omega)
 refine' e_cons (by exists z_tup2 (i:=2) (j:=3) kk kk rfl (z_fn kk O (ar_cons (ev_neg (z_v 0)) (ar_cons (ev_neg (z_v 1)) ar_nil rfl rfl) rfl rfl) w1)) ?_
 exact e_ret (by exists st_ret (ev_tup (ar_cons (z_v 2) (ar_cons (ev_neg (z_v 3)) ar_nil rfl rfl) rfl rfl) kk) .p)
end
noncomputable def QdH (m:Mod):Prop:=∃p1 p2 t,m.mg "_twin_re_1"=some (.ref p1)∧PatAt m.h₀ p1 dotCode∧m.mg "_twin_re_2"=some (.ref p2)∧PatAt m.h₀ p2 nlCode∧m.mg "CRLF"=some (.str ⟨#[13,10]⟩ t)
section
variable {m:Mod} {k:Nat} {hs:HS}
theorem ev_strS {ns:Names} {Γ:Gam} {pos:Pos} {x y:Str} {c:Nat} (h:x=y) (hr:room x.length=true):EvR m k ns Γ hs (.Constant (.str x) c pos) (.p (.str y)) hs:=h▸ev_str hr
variable (O:m.Ok) (B:m.Bs)
include O B
theorem quote_r (F:FnH2 m "quotedata") (Q:QdH m) {x:Str} (hx:x.length≤2^18):FnR m (k+1) hs "quotedata" [.str x] (.p (.str (qd x))) hs:=by
 have hb:(P2 "quotedata").body=(P2 "quotedata").body:=rfl
 conv at hb=>rhs;whnf
 have hn:(P2 "quotedata").scope.names=(P2 "quotedata").scope.names:=rfl
 conv at hn=>rhs;whnf
 refine hid fun G_ k_=>?_
 obtain⟨p1,p2,t,m1,h1,m2,h2,m3⟩:=Q
 refine k_ ?_
 refine z_def (nm:=["data"]) (sl0:=[.any]) (ps:=["data"]) O F (by kernel_rfl!) hb hn rfl (z_par (i:=0) (by kernel_rfl!) .nil) rfl ?_ (by kernel_rfl!)
 clear hb hn
 refine' e_ret (st_ret ?_ .p)
 refine' ev_dot O rfl ?a1 ?a2 m1 h1 hx ?a3 ?a4 ?a5 ?a6 ?a7
 case a1=>kernel_rfl!
 case a2=>kernel_rfl!
 case a3=>rfl
 case a4=>rfl
 case a5=>rfl
 case a6=>exact ev_strS (by rfl) (by kernel_rfl!)
 case a7=>
  refine' ev_nl O ?b1 ?b2 m2 h2 hx ?b3 ?b4 ?b5 ?b6 ?b7
  case b1=>kernel_rfl!
  case b2=>kernel_rfl!
  case b3=>rfl
  case b4=>rfl
  case b5=>rfl
  case b6=>exact ev_glob O (by kernel_rfl!) (by kernel_rfl!) m3 fun R s hB=>⟨by decide,t,rfl⟩
  case b7=>exact(by exact z_v 0)
end
section
variable {m:Mod} {k:Nat} {hs:HS} {K:Frag} {cv:Str} {fc:Addr} {fd0:FuncData} {q1 q2:Addr}
theorem hm_get (F:ClsRec m.h₀ K m.C cv fc) {x:Str} {a:Addr} (hx:findIn K (.ref m.C) x=some (some (.ref a))) (ht:typeIn K (.ref a)=some (.type "function")) (hne:x≠("_headers":Str)) {r:Nat}:
 ∀A s R hs0 (i:Addr×Addr) (b:Addr) pl (Q:Value×List Value→Shared→Prop) E,Base m.h₀ m.tk R s→HsR m.C s.heap R hs0→R.ρ[r]? =some (i,b)→Q (.ref a,[.ref i.1]) s→wpAny m.M A (getMethod (.ref i.1) x pl) Q E s:=by
 intro A s R hs0 i b pl Q E hB H hρ hq
 obtain⟨l,hl',HH⟩:=H.get hρ
 obtain⟨hsh,t,n,I⟩:=HH.inst
 exact method_fn (F.X.keeps hB.base) I F.ga F.gt hx ht (shadow_none hne ..) hq
theorem add_hm (O:m.Ok) (hsm:∃o,m.h₀.get? sysModules=some o) (F:ClsRec m.h₀ K m.C "_convert_string_type" fc) (CR:ConvRec m fc fd0 q1 q2) {a:Addr} {fd:FuncData} (AR:AddRec m.h₀ a fd) (hx:findIn K (.ref m.C) "add_header"=some (some (.ref a))) (ht:typeIn K (.ref a)=some (.type "function"))
 {r:Nat} {n v:Str} {l:List (Str×Str)} (hr:hs[r]? =some l) (w1:okText n false=true) (w2:okText v true=true) (w3:JoinOk ("; ":Str) [v]=true) (w4:room (l.length+1)=true):
 HmR m (k+1) "add_header" r [.str n,.str v] hs (.p .none) (setHs hs r (l++[(n,v)])):=by
 obtain⟨o,ho,hd⟩:=AR.at_
 refine⟨a,o,fd,ho,hd,hm_get F hx ht (by decide +kernel),fun A s R i b vals hA hB H hρ hv=>?_⟩
 refine addheader_ok O hsm F CR AR hr w1 w2 w3 w4 hA.hd (by have:=hA.dp;omega) hB H hρ ?_
 obtain⟨v1,vr1,rfl,h1,v2,vr2,rfl,h2,rfl⟩:=hv
 exact⟨v1,_,rfl,h1,v2,_,rfl,h2,rfl⟩
theorem new_hm (O:m.Ok) {fI:Addr} {fd:FuncData} (N:NewRec m K fI fd) (hC:m.mg "Headers"=some (.ref m.C)):NewR m:=
 ⟨hC,fun k A s R hs pos env hA hB H=>new_ok O N hA.hd (by have:=hA.dp;omega) hB H⟩
end
theorem sub_t {m:Mod} {l:List V} {i:Int} {r:V} (h0:0≤i) (hl:l.length≤100) (e:l[i.toNat]? =some r):SubR m (.tup l) (.int i) r:=by
 rintro A s R _ _ _ _ _ ⟨n,a,vs,rfl,_,hl2,hv⟩ ⟨t,rfl⟩
 obtain⟨x,hx,hr⟩:=hv.get e
 have hlt:=hv.lt e
 have hlen:=hv.len
 have hT:s.TypeIs (.ref a) "tuple":=IsTup.typeIs hl2
 refine tail_go hT slot_tuple_getitem.lookup (PyProof.Rows.getItem_tuple (j:=i.toNat) hl2 (by lia) (by lia) ?_ (by simpa using hx) ⟨Go.refl _,Kept.refl _ _,hr⟩)
 unfold seqIndex?
 simp only[size_toArray,show¬i<0 by exact Int.not_lt_of_ge h0,if_false]
 rw[if_pos (by simp;lia)]
section
variable {m:Mod} {k:Nat} {hs:HS} {K:Frag} {fc:Addr} {fd0:FuncData} {g1 g2:Addr}
theorem get_hm (O:m.Ok) (F:ClsRec m.h₀ K m.C "_convert_string_type" fc) (CR:ConvRec m fc fd0 g1 g2) {a:Addr} {fd:FuncData} (FR:FnRec m.h₀ a (PC "get_all") fd) (hx:findIn K (.ref m.C) "get_all"=some (some (.ref a))) (ht:typeIn K (.ref a)=some (.type "function"))
 {r:Nat} {x y:Str} {l:List (Str×Str)} (hr:hs[r]? =some l) (hy:Txt.lower x=y) (hy2:tooLong y.length=false) (hy3:okText y false=true) (hy4:PyData.strOk y=true) (hl:∀p∈l,tooLong (Txt.lower p.1).length=false∧PyData.strOk (Txt.lower p.1)=true) (hlen:l.length≤100000):
 HmR m (k+1) "get_all" r [.str x] hs (.f ((l.filter fun p=>decide (Txt.lower p.1=y)).map fun p=>V.str p.2)) hs:=by
 obtain⟨o,ho,hd⟩:=FR.at_
 have hb:(PC "get_all").body=(PC "get_all").body:=rfl
 conv at hb=>rhs;whnf
 have hn:(PC "get_all").scope.names=(PC "get_all").scope.names:=rfl
 conv at hn=>rhs;whnf
 have key:FnOK m (k+1) hs (.ref a) [.hdr r,.str x] (.f ((l.filter fun p=>decide (Txt.lower p.1=y)).map fun p=>V.str p.2)) hs:=by
  have:=fn_core (k:=k) (hs:=hs) (hs2:=hs) O FR (args:=[.hdr r,.str x]) (Γ:=Gz ["self","name"] [.p (.hdr r),.p (.str x)]) (Γ':=Gz ["self","name"] [.p (.hdr r),.p (.str y)]) (fl:= .rt (.f ((l.filter fun p=>decide (Txt.lower p.1=y)).map fun p=>V.str p.2))) (r:= .f ((l.filter fun p=>decide (Txt.lower p.1=y)).map fun p=>V.str p.2)) ?z1 (by kernel_rfl!) ?z2 (.inl ⟨rfl,pv_map 8 _ _ fun ux ux=>rfl⟩)
  ·simp only[List.take_length]at this;exact this
  case z1=>
   show BindP ["self","name"] _ (Gz ["self","name"] [.any,.any]) _
   exact z_par (i:=0) (by kernel_rfl!) (z_par (i:=1) (by kernel_rfl!) .nil)
  case z2=>
   rw[hb]
   have hlow:MeR m "lower" (.str x) [] (.p (.str y)):=hy▸lower_r (by rw[hy];exact hy2)
   refine x_cons (hs1:=hs) (Γ1:=Gz ["self","name"] [.p (.hdr r),.p (.str y)]) ?y1 (x_stop (st_ret ?y2 .f) (by simp))
   case y1=>
    have e:setG "name" (.p (.str y)) (Gz ["self","name"] [.p (.hdr r),.p (.str x)])=Gz ["self","name"] [.p (.hdr r),.p (.str y)]:=gz_set (ix_of (i:=1) (by kernel_rfl!))
    rw[←e]
    refine' st_conv O F CR ?c1 (gz_lookup (ix_of (i:=0) (by kernel_rfl!)) rfl) ?c2 ?c3 ?c4 hy3 ?c5 ?c6
    case c1=>kernel_rfl!
    case c2=>kernel_rfl!
    case c3=>rfl
    case c4=>rfl
    case c5=>exact(by exists ev_me rfl rfl dd (z_v 1) ws_nil rfl .nil hlow)
    case c6=>kernel_rfl!
   case y2=>
    refine' ev_hcomp F ?d1 (gz_lookup (ix_of (i:=0) (by kernel_rfl!)) rfl) ?d2 hr ?d3 ?d4 ?d5 ?d6 ?em (pv_map 8 _ _ fun ux ux=>rfl) ?d8
    case d1=>kernel_rfl!
    case d2=>kernel_rfl!
    case d3=>exact fun z hz=>by cases mem_singleton.mp hz;exact isV_of (by kernel_rfl!)
    case d4=>exact scOk_ok (by kernel_rfl!)
    case d5=>exact any_one (x:="kv") (nm:=["self","name"]) (sl:=[.any,.p (.str y)]) (by kernel_rfl!)
    case d6=>exact gz_none (nm:=cn "kv" ["self","name"]) (sl:=cs .any [.any,.p (.str y)]) (by kernel_rfl!)
    case em=>
     rw[←flat_if]
     refine' map_of (fun(p:Str×Str)=>V.tup [.str p.1,.str p.2]) (fun p=>bif decide (Txt.lower p.1=y)then[V.str p.2]else[]) l (fun p hp=>?_)
     exact turn_if (x:="kv") (nm:=["self","name"]) (sl:=[.any,.p (.str y)]) (by kernel_rfl!) (by exists ts_cmp rfl (ev_me rfl rfl dd (ev_sub (z_v 1) (ev_int _ _) rfl rfl (sub_t (by decide) (by simp) rfl)) ws_nil rfl .nil (lower_r (hl p hp).1)) (z_v 3) rfl rfl ((eq_r (beq_str (hl p hp).2 hy4)).1)) (fun ux=>⟨_,_,(by exists ev_sub (z_v 1) (ev_int _ _) rfl rfl (sub_t (by decide) (by simp) rfl)),rfl,rfl⟩)
    case d8=>
     rw[length_map,sizeLine_eq]
     exact Nat.le_trans (length_filter_le _ _) (Nat.le_trans hlen (by decide))
 refine⟨a,o,fd,ho,hd,hm_get F hx ht (by decide +kernel),fun A s R i b vals hA hB H hρ hv=>key A s R _ hA hB H ?_⟩
 obtain⟨v1,vr1,rfl,h1,rfl⟩:=hv
 exact⟨_,_,rfl,⟨i,b,hρ,rfl⟩,v1,_,rfl,h1,rfl⟩
end
noncomputable def eL (i:Int):List Nat:=if i%3=0 then[10]else if i%3=1 then[13]else[13,10]
noncomputable def cleanL (s:List Nat):Prop:=∀c∈s,c≠10∧c≠13
theorem nl_c {c:Nat} (h1:c≠10) (h2:c≠13) (x:List Nat):nlL (c::x)=c::nlL x:=by
 cases x with
 |nil=>rw[nl_1,if_neg (fun h=>h.elim h1 h2),nl_0]
 |cons d r=>rw[nl_2,if_neg (fun h=>h2 h.1),if_neg (fun h=>h.elim h1 h2)]
theorem nl_seg:∀(s x:List Nat),cleanL s→nlL (s++x)=s++nlL x:=by
 intro v0_
 induction v0_ with
 |nil=>
  intro _ _
  exact rfl
 |cons c s ih_=>
  intro x h
  have:=h c (by simp)
  rw[cons_append,nl_c this.1 this.2,ih_ x fun d hd=>h d (by simp[hd])];rfl
theorem nl_10 (x:List Nat):nlL (10::x)=13::10::nlL x:=by
 cases x with
 |nil=>rw[nl_1,if_pos (Or.inl rfl),nl_0]
 |cons d r=>rw[nl_2,if_neg (fun h=>by cases h.1),if_pos (Or.inl rfl)]
theorem nl_13 (x:List Nat) (h:x.head?≠some 10):nlL (13::x)=13::10::nlL x:=by
 cases x with
 |nil=>rw[nl_1,if_pos (Or.inr rfl),nl_0]
 |cons d r=>rw[nl_2,if_neg (fun e=>h (by rw[e.2];rfl)),if_pos (Or.inr rfl)]
theorem nl_end (i:Int) (x:List Nat) (h:x.head? =some 10→i%3≠1):nlL (eL i++x)=13::10::nlL x:=by
 unfold eL
 by_cases h0:i%3=0
 ·rw[if_pos h0];exact nl_10 x
 ·by_cases h1:i%3=1
  ·rw[if_neg h0,if_pos h1];exact nl_13 x fun e=>h e h1
  ·rw[if_neg h0,if_neg h1]
   show nlL (13::10::x)=_
   rw[nl_2,if_pos ⟨rfl,rfl⟩]
theorem eL_head (i:Int) (x:List Nat):(eL i++x).head? =some 10→i%3=0:=by
 unfold eL
 by_cases h0:i%3=0
 ·exact fun ux=>h0
 ·rw[if_neg h0]
  by_cases h1:i%3=1
  ·rw[if_pos h1];intro h;cases h
  ·rw[if_neg h1];intro h;cases h
theorem nl_rows (seg:Nat→List Nat) (hseg:∀k,cleanL (seg k)∧seg k≠[]) (t:Int):∀(n a:Nat) (x:List Nat),(x.head? =some 10→(t+((a+n:Nat):Int))%3=0)→nlL ((List.range' a n).flatMap (fun(k:Nat)=>seg k++eL (t+k))++x)=(List.range' a n).flatMap (fun k=>seg k++[13,10])++nlL x:=by
 intro v0_
 induction v0_ with
 |zero=>
  intro _ _ _
  exact rfl
 |succ n ih_=>
  intro a x h
  have ih:=ih_ (a+1) x (fun e=>by have:=h e;rw[show a+1+n=a+(n+1) by exact Nat.succ_add_eq_add_succ a n];exact this)
  rw[List.range'_succ,flatMap_cons,flatMap_cons,append_assoc,append_assoc,nl_seg _ _ (hseg a).1,nl_end,ih]
  ·rw[append_assoc,append_assoc];rfl
  ·intro e
   cases n with
   |zero=>have:=h e;omega
   |succ n=>
    exfalso
    rw[List.range'_succ,flatMap_cons]at e
    obtain⟨q1,q2⟩:=hseg (a+1)
    cases hs:seg (a+1)with
    |nil=>exact q2 hs
    |cons c r=>
     rw[hs]at e q1
     have e:some c=some 10:=e
     exact(q1 c (by simp)).1 (Option.some.inj e)
noncomputable def ddL (s:List Nat):List Nat:=if s.head? =some 46 then 46::s else s
theorem dot_f:∀(s x:List Nat),(∀c∈s,c≠10)→dotL false (s++10::x)=s++10::dotL true x:=by
 intro v0_
 induction v0_ with
 |nil=>
  intro x _
  show dotL false (10::x)=10::dotL true x
  rw[dot_1,if_neg (fun h=>by cases h.1)];rfl
 |cons c s ih_=>
  intro x h
  have hc:=h c (by simp)
  rw[cons_append,dot_1,if_neg (fun h=>by cases h.1),show(c==10)=false by simpa using hc,ih_ x fun d hd=>h d (by simp[hd])];rfl
theorem dot_seg (s x:List Nat) (h:∀c∈s,c≠10):dotL true (s++13::10::x)=ddL s++13::10::dotL true x:=by
 have e:=dot_f (s++[13]) x fun c hc=>by
  rcases mem_append.mp hc with hc|hc
  ·exact h c hc
  ·cases mem_singleton.mp hc;decide
 cases s with
 |nil=>
  show dotL true (13::10::x)=13::10::dotL true x
  rw[dot_1,if_neg (fun h=>by cases h.2),show((13:Nat)==10)=false from rfl,dot_1,if_neg (fun h=>by cases h.1)];rfl
 |cons c r=>
  have hc:=h c (by simp)
  have e2:=dot_f (r++[13]) x fun d hd=>by
   rcases mem_append.mp hd with hd|hd
   ·exact h d (by simp[hd])
   ·cases mem_singleton.mp hd;decide
  rw[append_assoc,append_assoc]at e2
  have e2:dotL false (r++13::10::x)=r++13::10::dotL true x:=e2
  unfold ddL
  by_cases h46:c=46
  ·subst h46
   rw[if_pos (show(46::r).head? =some 46 from rfl),cons_append,dot_1,if_pos ⟨rfl,rfl⟩,e2];rfl
  ·rw[if_neg (show¬(c::r).head? =some 46 from fun e=>h46 (Option.some.inj e)),cons_append,dot_1,if_neg (fun h=>h46 h.2),show(c==10)=false by simpa using hc,e2];rfl
theorem dot_rows (seg:Nat→List Nat) (hseg:∀k,∀c∈seg k,c≠10):∀(l:List Nat) (x:List Nat),dotL true (l.flatMap (fun k=>seg k++[13,10])++x)=l.flatMap (fun k=>ddL (seg k)++[13,10])++dotL true x:=by
 intro v0_
 induction v0_ with
 |nil=>
  intro _
  exact rfl
 |cons k l ih_=>
  intro x
  rw[flatMap_cons,flatMap_cons,append_assoc,append_assoc,append_assoc]
  show dotL true (seg k++13::10::(l.flatMap (fun k=>seg k++[13,10])++x))=_
  simp only[dot_seg _ _ (hseg k),ih_ x,append_assoc];rfl
noncomputable def cellsG (xs:List Int):List Int:=(List.range xs.length).foldl (fun c k=>c.set (k%10) (c.getD (k%10) 0+xs.getD k 0)) [1,1,3,2,3,4,44,12,1,900]
noncomputable abbrev vroads (l:List (Nat×Nat)):List V:=l.map fun p=>V.tup [.int p.1,.int p.2]
noncomputable def roadF (c:Int):List (Nat×Nat):=if c.fmod 4>0 then[[(0,1),(0,2),(1,2)].getD (c.fmod 4-1).toNat (0,0)]else[]
noncomputable def roadsF (cs:List Int):List (Nat×Nat):=(cs.take 3).foldl (fun s c=>s++roadF c) [(0,2),(1,2)]
theorem pv_roads (l:List (Nat×Nat)):pw (.p (.lst (vroads l)))=true:=pv_map 7 (fun p:Nat×Nat=>V.tup [.int p.1,.int p.2]) l fun a ux=>rfl
section
variable {m:Mod} {k:Nat} {hs:HS} (O:m.Ok) (B:m.Bs)
include O B
theorem cells_g (F:FnH2 m "_law_cells") {xs:List Int} (hx:xs.length≤63):FnR m (k+1) hs "_law_cells" [.lst (vints xs)] (.p (.lst (vints (cellsG xs)))) hs:=by
 have hb:(P2 "_law_cells").body=(P2 "_law_cells").body:=rfl
 conv at hb=>rhs;whnf
 have hn:(P2 "_law_cells").scope.names=(P2 "_law_cells").scope.names:=rfl
 conv at hn=>rhs;whnf
 have h1:small (vints xs).length=true:=by unfold small;rw[length_map];apply decide_eq_true;lia
 refine z_def (nm:=["script","cells","place"]) (sl0:=[.any,.any,.any]) (ps:=["script"]) O F (by kernel_rfl!) hb hn rfl (z_par (i:=0) (by kernel_rfl!) .nil) (pw_ints _) ?_ (by kernel_rfl!)
 clear hb hn
 refine e_cons (by exists z_asn (i:=1) kk (ev_list (ar_cons (ev_int _ _) (ar_cons (ev_int _ _) (ar_cons (ev_int _ _) (ar_cons (ev_int _ _) (ar_cons (ev_int _ _) (ar_cons (ev_int _ _) (ar_cons (ev_int _ _) (ar_cons (ev_int _ _) (ar_cons (ev_int _ _) (ar_cons (ev_int _ _) ar_nil rfl rfl) rfl rfl) rfl rfl) rfl rfl) rfl rfl) rfl rfl) rfl rfl) rfl rfl) rfl rfl) rfl rfl) kk) rfl .o) ?_
 refine z_for 2 (fun(k:Nat)=>V.int k) (fun sl c=>[.p (.lst (vints xs)),.o (vints c),sl]) (fun c k=>c.set (k%10) (c.getD (k%10) 0+xs.getD k 0)) (fun ux c=>c.length=10) (List.range xs.length) .any [1,1,3,2,3,4,44,12,1,900]
  (by kernel_rfl!) rfl (by exists z_bi kk O (ws_cons (z_bi kk O (ws_cons (z_v 0) ws_nil rfl) (.cons rfl .nil) (len_l B.len)) ws_nil rfl) (.cons rfl .nil) (range1 B.range h1)) rfl (by rw[length_map];exact its_rng _) (fun ux ux ux=>rfl) rfl (fun i j hj c hc=>?_) (fun sl ux=>e_ret (by exists z_frz (x:="cells") (i:=1) kk rfl (st_ret (z_v 1) .p)))
 have hj:j<xs.length:=mem_range.mp (mem_of_getElem? hj)
 refine⟨?_,by rw[length_set];exact hc⟩
 have hb:BinR m .Mod (.int j) (.int 10) (.p (.int ((j%10:Nat):Int))):=fmod_nat j 10▸mod_r (by decide)
 have hs1:SubR m (.lst (vints xs)) (.int j) (.int (xs.getD j 0)):=sub_d (φ:=V.int) 0 hj
 have hv:(vints c)[((j%10:Nat):Int).toNat]? =some (.int (c.getD (j%10) 0)):=by
  (simp only[Int.toNat_natCast,getElem?_map,getD_eq_getElem?_getD];rw[getElem?_eq_getElem (by rw[hc];lia)]);rfl
 rw[show vints (c.set (j%10) (c.getD (j%10) 0+xs.getD j 0))=(vints c).set ((j%10:Nat):Int).toNat (.int (c.getD (j%10) 0+xs.getD j 0)) by rw[Int.toNat_natCast];exact List.map_set]
 exact x_cons (by exists z_augs (i:=1) kk rfl (ev_bin (z_v 2) (ev_int _ _) rfl rfl hb) rfl (Int.natCast_nonneg _) hv (ev_sub (z_v 0) (z_v 2) rfl rfl hs1) iadd_r) x_nil
theorem roads_r (F:FnH2 m "_law_roads") {cs:List Int} (hc:cs.length=10):FnR m (k+1) hs "_law_roads" [.lst (vints cs)] (.p (.lst (vroads (roadsF cs)))) hs:=by
 have hb:(P2 "_law_roads").body=(P2 "_law_roads").body:=rfl
 conv at hb=>rhs;whnf
 have hn:(P2 "_law_roads").scope.names=(P2 "_law_roads").scope.names:=rfl
 conv at hn=>rhs;whnf
 have e1:SlR m (.lst (vints cs)) none (some 3) (.f (vints (cs.take 3))):=by
  have:=sl_l (m:=m) (l:=vints cs) (a:=none) (b:=some 3)
  have h:sliceL (vints cs) none (some 3)=vints (cs.take 3):=by
   unfold sliceL
   show(List.drop 0 (vints cs)).take (clipAt _ 3-0)=_
   rw[show clipAt (vints cs).length 3=3 by rw[length_map,hc];rfl]
   show List.take 3 (List.map V.int cs)=_
   rw[←List.map_take]
  rw[h]at this;exact this
 refine z_def (nm:=["cells","roads","cell"]) (sl0:=[.any,.any,.any]) (ps:=["cells"]) O F (by kernel_rfl!) hb hn rfl (z_par (i:=0) (by kernel_rfl!) .nil) (pv_roads _) ?_ (by kernel_rfl!)
 clear hb hn
 refine e_cons (by exists z_asn (i:=1) kk (ev_list (ar_cons (ev_tup (ar_cons (ev_int _ _) (ar_cons (ev_int _ _) ar_nil rfl rfl) rfl rfl) kk) (ar_cons (ev_tup (ar_cons (ev_int _ _) (ar_cons (ev_int _ _) ar_nil rfl rfl) rfl rfl) kk) ar_nil rfl rfl) rfl rfl) kk) rfl .o) ?_
 refine z_for 2 V.int (fun sl (s:List (Nat×Nat))=>[.p (.lst (vints cs)),.o (vroads s),sl]) (fun s c=>s++roadF c) (fun i s=>s.length≤2+i) (cs.take 3) .any [(0,2),(1,2)]
  (by kernel_rfl!) rfl (by exists ev_slice (z_v 0) op_none (op_some (ev_int _ _)) rfl e1) rfl .f (fun ux ux ux=>rfl) (Nat.le_refl _) (fun i x hx s hl=>?_) (fun sl ux=>e_ret (by exists z_frz (x:="roads") (i:=1) kk rfl (st_ret (z_v 1) .p)))
 have hi:i<3:=by
  have:=(List.getElem?_eq_some_iff.mp hx).1
  rw[List.length_take]at this;lia
 refine⟨x_cons (z_if (c:=decide (x.fmod 4>0)) (by exists ts_cmp rfl (ev_bin (z_v 2) (ev_int _ _) rfl rfl (mod_r (by decide))) (ev_int _ _) rfl rfl gt_r) (fun h=>?_) (fun h=>?_)) x_nil,?_⟩
 ·have h:=of_decide_eq_true h
  have hm:=Int.fmod_lt_of_pos x (show(0:Int)<4 by decide)
  have e2:SubR m (.lst (vroads [(0,1),(0,2),(1,2)])) (.int (x.fmod 4-1)) (.tup [.int (([(0,1),(0,2),(1,2)]:List (Nat×Nat)).getD (x.fmod 4-1).toNat (0,0)).1,.int (([(0,1),(0,2),(1,2)]:List (Nat×Nat)).getD (x.fmod 4-1).toNat (0,0)).2]):=by
   rw[←show((x.fmod 4-1).toNat:Int)=x.fmod 4-1 from Int.toNat_of_nonneg (by lia)]
   exact sub_d (φ:=fun p:Nat×Nat=>V.tup [.int p.1,.int p.2]) (0,0) (by show _<3;lia)
  rw[roadF,if_pos h,show vroads (s++[([(0,1),(0,2),(1,2)]:List (Nat×Nat)).getD (x.fmod 4-1).toNat (0,0)])=vroads s++[_]from map_append]
  exact x_cons (by exists z_app (i:=1) kk rfl (ar_cons (ev_sub (ev_list (ar_cons (ev_tup (ar_cons (ev_int _ _) (ar_cons (ev_int _ _) ar_nil rfl rfl) rfl rfl) kk) (ar_cons (ev_tup (ar_cons (ev_int _ _) (ar_cons (ev_int _ _) ar_nil rfl rfl) rfl rfl) kk) (ar_cons (ev_tup (ar_cons (ev_int _ _) (ar_cons (ev_int _ _) ar_nil rfl rfl) rfl rfl) kk) ar_nil rfl rfl) rfl rfl) rfl rfl) kk) (ev_bin (ev_bin (z_v 2) (ev_int _ _) rfl rfl (mod_r (by decide))) (ev_int _ _) rfl rfl sub_r) rfl rfl e2) ar_nil rfl rfl) kk dd (room_of (by rw[length_map];lia))) x_nil
 ·have h:=of_decide_eq_false h
  rw[roadF,if_neg h,append_nil]
  exact x_nil
 ·rw[length_append]
  have:(roadF x).length≤1:=by unfold roadF;split;exact Nat.le_refl 1;exact Nat.zero_le 1
  lia
end
noncomputable def hasF (a b:List Nat):Bool:=(List.range 3).all fun t=>decide (b.getD t 0≤a.getD t 0)
section
variable {m:Mod} {k:Nat} {hs:HS} (O:m.Ok) (B:m.Bs)
include O B
theorem has_r (F:FnH2 m "_law_has") (Fn:FnH2 m "ISNONTERMINAL") (gn:GlI m "NT_OFFSET" 256) {a b:List Nat} (ha:a.length=3) (hb3:b.length=3):FnR m (k+2) hs "_law_has" [.lst (nats a),.lst (nats b)] (.p (.bool (hasF a b))) hs:=by
 have hb:(P2 "_law_has").body=(P2 "_law_has").body:=rfl
 conv at hb=>rhs;whnf
 have hn:(P2 "_law_has").scope.names=(P2 "_law_has").scope.names:=rfl
 conv at hn=>rhs;whnf
 refine z_def (nm:=["load","part","town"]) (sl0:=[.any,.any,.any]) (ps:=["load","part"]) O F (by kernel_rfl!) hb hn rfl (z_par (i:=0) (by kernel_rfl!) (z_par (i:=1) (by kernel_rfl!) .nil)) rfl ?_ (by kernel_rfl!)
 clear hb hn
 refine z_find 2 (fun(j:Nat)=>V.int j) (fun sl=>[.p (.lst (nats a)),.p (.lst (nats b)),sl]) (fun t=>if b.getD t 0≤a.getD t 0 then none else some (.p (.bool false))) (List.range 3) .any
  (by kernel_rfl!) rfl (by exists z_bi kk O (ws_cons (ev_int _ _) ws_nil rfl) (.cons rfl .nil) (range1 B.range (by decide))) rfl (its_rng 3) (fun ux ux=>rfl) (fun t ht=>?_) (fun sl h=>?_) (fun v h=>?_)
 ·have ht:=mem_range.mp ht
  have e1:=sub_d (m:=m) (φ:=fun(j:Nat)=>V.int j) (j:=t) (l:=a) 0 (by lia)
  have e2:=sub_d (m:=m) (φ:=fun(j:Nat)=>V.int j) (j:=t) (l:=b) 0 (by lia)
  have f1:=isnont_r (k:=k) (hs:=hs) O B Fn gn (256+(a.getD t 0:Int)-(b.getD t 0:Int))
  have e3:decide (256+(a.getD t 0:Int)-(b.getD t 0:Int)≥256)=decide (b.getD t 0≤a.getD t 0):=by
   rw[decide_eq_decide];lia
  rw[e3]at f1
  refine x_ifr (by exists ts_cmp rfl (z_fn kk O (ar_cons (ev_bin (ev_bin (ev_int _ _) (ev_sub (z_v 0) (z_v 2) rfl rfl e1) rfl rfl add_r) (ev_sub (z_v 1) (z_v 2) rfl rfl e2) rfl rfl sub_r) ar_nil rfl rfl) f1) (ev_bool _ _) rfl rfl (isn_tt _)) (fun h=>?_) (fun h=>?_)
  ·rw[if_neg (by simpa using h)];exact⟨x_ret (by exists st_ret (ev_bool _ _) .p),by simp[flO]⟩
  ·rw[if_pos (by simpa using h)];exact x_nil
 ·have e:hasF a b=true:=by
   unfold hasF
   rw[all_eq_true]
   intro t ht
   have:=List.findSome?_eq_none_iff.mp h t ht
   by_cases q:b.getD t 0≤a.getD t 0
   ·exact decide_eq_true q
   ·rw[if_neg q]at this;cases this
  rw[e]
  exact e_ret (by exists st_ret (ev_bool _ _) .p)
 ·obtain⟨t,ht,e⟩:=List.exists_of_findSome?_eq_some h
  by_cases q:b.getD t 0≤a.getD t 0
  ·rw[if_pos q]at e;cases e
  ·rw[if_neg q]at e
   cases e
   have:hasF a b=false:=by
    unfold hasF
    rw[List.all_eq_false]
    exact⟨t,ht,by simpa using q⟩
   rw[this]
end
noncomputable abbrev vii (l:List (List Int)):List V:=l.map fun a=>V.lst (vints a)
noncomputable abbrev vnn (l:List (List Nat)):List V:=l.map fun a=>V.lst (nats a)
theorem vnn_vii (l:List (List Nat)):vnn l=vii (l.map fun a=>a.map Int.ofNat):=by
 show List.map _ _=List.map _ (List.map _ _)
 rw[map_map]
 exact map_congr_left fun a ux=>congrArg V.lst (nats_vints a)
theorem eqv_ii:∀a b:List (List Int),PyData.eqvAll (a.map fun l=> .list (l.map .int)) (b.map fun l=> .list (l.map .int))=decide (a=b):=by
 intro a
 induction a with
 |nil=>intro b;cases b<;>rfl
 |cons x a ih=>
  intro b
  cases b with
  |nil=>rfl
  |cons y b=>
   simp only[map_cons,PyData.eqvAll,PyData.eqv,ih b,eqv_ints]
   by_cases h:x=y<;>simp[h]
theorem toP_ii (n) (l:List (List Int)):toP (n+2) (.lst (vii l))=some (.list (l.map fun a=> .list (a.map .int))):=by
 show(mapO (toP (n+1)) (vii l)).map PyData.list=_
 rw[mapO_of (toP (n+1)) (fun a=>V.lst (vints a)) (fun a=>PyData.list (a.map .int)) l fun a ux=>toP_ints n a];rfl
theorem beq_ii (a b:List (List Int)):V.beq (.lst (vii a)) (.lst (vii b))=some (decide (a=b)):=by
 unfold V.beq;rw[toP_ii,toP_ii]
 simp only[PyData.eqv,eqv_ii]
theorem eq_nil_nn {m:Mod} (l:List (List Nat)):CmpR m .Eq (.lst (vnn l)) (.lst []) (decide (l=[]))∧CmpR m .NotEq (.lst (vnn l)) (.lst []) (!decide (l=[])):=by
 have:=eq_r (m:=m) (beq_ii (l.map fun a=>a.map Int.ofNat) [])
 rw[←vnn_vii]at this
 rw[show decide (l=[])=decide ((l.map fun a=>a.map Int.ofNat)=[]) by simp]
 exact this
section
variable {m:Mod} {k:Nat} {hs hs1:HS} {ns:Names} {Γ Γ1:Gam} {pos:Pos}
theorem x_last {st:Stmt} {o:Option W} (h:StR m k ns Γ hs st (flO o) Γ1 hs1):XR m k ns Γ hs [st] (flO o) Γ1 hs1:=by
 cases o with
 |none=>exact x_cons h fun hn ux ux R ux ux ux S=>wpAny_execs_nil ⟨R,⟨StepS.refl,S,hn⟩,rfl⟩
 |some w=>exact x_stop h fun h=>by cases h
theorem for_findj {α J:Type} {B:V→Gam→HS→Fl→Gam→HS→Prop} (φ:α→V) (G:Slot→J→Gam) (f:α→Option W):∀(l:List α) (sl:Slot) (j:J),(∀a∈l,∀sl j,∃j',B (φ a) (G sl j) hs (flO (f a)) (G (.p (φ a)) j') hs)→∃sl' j',ForR B (l.map φ) (G sl j) hs (flO (l.findSome? f)) (G sl' j') hs:=by
 intro l
 induction l with
 |nil=>intro sl j ux;exact⟨sl,j,.nil⟩
 |cons a l ih=>
  intro sl j h
  obtain⟨j1,h1⟩:=h a mem_cons_self sl j
  rw[List.findSome?_cons]
  cases e:f a with
  |none=>
   rw[e]at h1
   obtain⟨sl',j',h2⟩:=ih (.p (φ a)) j1 fun b hb=>h b (mem_cons_of_mem _ hb)
   exact⟨sl',j',.go h1 (.inl rfl) h2⟩
  |some w=>rw[e]at h1;exact⟨_,_,.rt h1⟩
variable {nm:List Str} {x:Str} {px:Pos} {wv w:W}
theorem z_findj (i:Nat) {it:Expr} {b:List Stmt} {α J:Type} (φ:α→V) (G:Slot→J→List Slot) (f:α→Option W) (l:List α) (sl:Slot) (j:J) (h:zok ns nm x i=true)
 (hset:NSet it) (h1:EvR m k ns (Gz nm (G sl j)) hs it wv hs) (ho:isO wv=false) (ei:ItsR wv (l.map φ)) (hG:∀sl j v,(G sl j).set i (.p v)=G (.p v) j)
 (body:∀a∈l,∀j,∃j',XR m k ns (Gz nm (G (.p (φ a)) j)) hs b (flO (f a)) (Gz nm (G (.p (φ a)) j')) hs):
 ∃sl' j',StR m k ns (Gz nm (G sl j)) hs (.For (.Name x px) it b [] pos) (flO (l.findSome? f)) (Gz nm (G sl' j')) hs:=by
 have q_:=zok_of h;have h2:=q_.1;have h4:=q_.2.2
 obtain⟨sl',j',h5⟩:=for_findj (B:=TurnS m k ns (.Name x px) b) (hs:=hs) φ (fun sl j=>Gz nm (G sl j)) f l sl j fun a ha sl j=>by
  obtain⟨j',hb⟩:=body a ha j
  exact⟨j',_,bz_name h4,by rw[hG];exact hb⟩
 exact⟨sl',j',st_for (pos:=pos) hset (fun y hy=>by cases mem_singleton.mp hy;exact h2) h1 ho ei h5⟩
theorem e_find {st:Stmt} {r:List Stmt} {o:Option W} (h:StR m k ns Γ hs st (flO o) Γ1 hs1) (h0:o=none→XE m k ns Γ1 hs1 r w hs1) (h1:∀v,o=some v→v=w):XE m k ns Γ hs (st::r) w hs1:=by
 cases o with
 |none=>exact e_cons h (h0 rfl)
 |some v=>cases h1 v rfl;exact e_ret h
theorem z_findje (i:Nat) {it:Expr} {b r:List Stmt} {α J:Type} (φ:α→V) (G:Slot→J→List Slot) (f:α→Option W) (l:List α) (sl:Slot) (j:J) (h:zok ns nm x i=true)
 (hset:NSet it) (h1:EvR m k ns (Gz nm (G sl j)) hs it wv hs) (ho:isO wv=false) (ei:ItsR wv (l.map φ)) (hG:∀sl j v,(G sl j).set i (.p v)=G (.p v) j)
 (body:∀a∈l,∀j,∃j',XR m k ns (Gz nm (G (.p (φ a)) j)) hs b (flO (f a)) (Gz nm (G (.p (φ a)) j')) hs)
 (rest:∀sl j,l.findSome? f=none→XE m k ns (Gz nm (G sl j)) hs r w hs) (hw:∀v,l.findSome? f=some v→v=w):XE m k ns (Gz nm (G sl j)) hs (.For (.Name x px) it b [] pos::r) w hs:=by
 obtain⟨sl',j',h5⟩:=z_findj (pos:=pos) (px:=px) i φ G f l sl j h hset h1 ho ei hG body
 exact e_find h5 (rest sl' j') hw
theorem x_findj (i:Nat) {it:Expr} {b:List Stmt} {α J:Type} {S0:List Slot} {H:Slot×J→List Slot} (φ:α→V) (G:Slot→J→List Slot) (f:α→Option W) (l:List α) (sl:Slot) (j:J) (e0:S0=G sl j) (h:zok ns nm x i=true)
 (hset:NSet it) (h1:EvR m k ns (Gz nm S0) hs it wv hs) (ho:isO wv=false) (ei:ItsR wv (l.map φ)) (hG:∀sl j v,(G sl j).set i (.p v)=G (.p v) j) (hH:∀sl j,G sl j=H (sl,j))
 (body:∀a∈l,∀j,∃j',XR m k ns (Gz nm (G (.p (φ a)) j)) hs b (flO (f a)) (Gz nm (G (.p (φ a)) j')) hs):
 ∃j2,XR m k ns (Gz nm S0) hs [.For (.Name x px) it b [] pos] (flO (l.findSome? f)) (Gz nm (H j2)) hs:=by
 subst e0
 obtain⟨sl',j',h5⟩:=z_findj (pos:=pos) (px:=px) i φ G f l sl j h hset h1 ho ei hG body
 exact⟨(sl',j'),hH sl' j'▸x_last h5⟩
theorem find_map {α β γ:Type} (g:β→γ) (f:α→Option β) (l:List α):l.findSome? (fun a=>(f a).map g)=(l.findSome? f).map g:=by
 induction l with
 |nil=>rfl
 |cons a l ih=>
  rw[List.findSome?_cons,List.findSome?_cons]
  cases e:f a with
  |none=>exact ih
  |some b=>rfl
end
noncomputable def lackF (loads:List (List Nat)) (s a b:Nat):Option Int:=if loads.filter (fun x=>hasF x [a,b,s-a-b])=[]then some ((s:Int)-1)else none
noncomputable def spareF (loads:List (List Nat)):Int:=((List.range 12).findSome? fun s=>(List.range (s+1)).findSome? fun a=>(List.range (s+1-a)).findSome? (lackF loads s a)).getD 12
noncomputable abbrev wI' (i:Int):W:= .p (.int i)
section
variable {m:Mod} {k:Nat} {hs:HS} (O:m.Ok) (B:m.Bs)
include O B
theorem spare_r (F:FnH2 m "_law_spare") (F1:FnH2 m "_law_has") (Fn:FnH2 m "ISNONTERMINAL") (gn:GlI m "NT_OFFSET" 256) {loads:List (List Nat)} (h3:∀x∈loads,x.length=3) (hl:loads.length≤1000):FnR m (k+3) hs "_law_spare" [.lst (vnn loads)] (.p (.int (spareF loads))) hs:=by
 have hb:(P2 "_law_spare").body=(P2 "_law_spare").body:=rfl
 conv at hb=>rhs;whnf
 have hn:(P2 "_law_spare").scope.names=(P2 "_law_spare").scope.names:=rfl
 conv at hn=>rhs;whnf
 refine z_def (nm:=["loads","size","first","second","part"]) (sl0:=[.any,.any,.any,.any,.any]) (ps:=["loads"]) O F (by kernel_rfl!) hb hn rfl (z_par (i:=0) (by kernel_rfl!) .nil) rfl ?_ (by kernel_rfl!)
 clear hb hn
 have key:(List.range 12).findSome? (fun s=>(List.range (s+1)).findSome? fun a=>(List.range (s+1-a)).findSome? fun b=>(lackF loads s a b).map wI')=((List.range 12).findSome? fun s=>(List.range (s+1)).findSome? fun a=>(List.range (s+1-a)).findSome? (lackF loads s a)).map wI':=by
  simp only[find_map]
 refine z_findje 1 (fun(s:Nat)=>V.int s) (fun sl (j:Slot×Slot×Slot)=>[.p (.lst (vnn loads)),sl,j.1,j.2.1,j.2.2]) (fun s=>(List.range (s+1)).findSome? fun a=>(List.range (s+1-a)).findSome? fun b=>(lackF loads s a b).map wI') (List.range 12) .any (.any,.any,.any)
  (by kernel_rfl!) rfl (by exists z_bi kk O (ws_cons (ev_int _ _) ws_nil rfl) (.cons rfl .nil) (range1 B.range (by decide))) rfl (its_rng 12) (fun ux ux ux=>rfl) (fun s hs1 j=>?_) (fun sl j e=>?_) (fun v e=>?_)
 ·have hs1:=mem_range.mp hs1
  have e1:BinR m .Add (.int s) (.int 1) (.p (.int ((s+1:Nat):Int))):=Int.natCast_add s 1▸add_r
  refine x_findj 2 (fun(a:Nat)=>V.int a) (fun sl (j:Slot×Slot)=>[.p (.lst (vnn loads)),.p (.int s),sl,j.1,j.2]) (fun a=>(List.range (s+1-a)).findSome? fun b=>(lackF loads s a b).map wI') (List.range (s+1)) j.1 j.2 rfl
   (by kernel_rfl!) rfl (by exists z_bi kk O (ws_cons (ev_bin (z_v 1) (ev_int _ _) rfl rfl e1) ws_nil rfl) (.cons rfl .nil) (range1 B.range (small_nat (by lia)))) rfl (its_rng _) (fun ux ux ux=>rfl) (fun ux ux=>rfl) (fun a ha j=>?_)
  have ha:=mem_range.mp ha
  have e2:BinR m .Sub (.int ((s+1:Nat):Int)) (.int a) (.p (.int ((s+1-a:Nat):Int))):=Int.ofNat_sub (Nat.le_of_lt ha)▸sub_r
  refine x_findj (J:=Slot) 3 (fun(b:Nat)=>V.int b) (fun sl j=>[.p (.lst (vnn loads)),.p (.int s),.p (.int a),sl,j]) (fun b=>(lackF loads s a b).map wI') (List.range (s+1-a)) j.1 j.2 rfl
   (by kernel_rfl!) rfl (by exists z_bi kk O (ws_cons (ev_bin (ev_bin (z_v 1) (ev_int _ _) rfl rfl e1) (z_v 2) rfl rfl e2) ws_nil rfl) (.cons rfl .nil) (range1 B.range (small_nat (by lia)))) rfl (its_rng _) (fun ux ux ux=>rfl) (fun ux ux=>rfl) (fun b hb j=>?_)
  have hb:=mem_range.mp hb
  have e3:BinR m .Sub (.int s) (.int a) (.p (.int ((s-a:Nat):Int))):=Int.ofNat_sub (Nat.le_of_lt_succ ha)▸sub_r
  have e4:BinR m .Sub (.int ((s-a:Nat):Int)) (.int b) (.p (.int ((s-a-b:Nat):Int))):=Int.ofNat_sub (show b≤s-a by lia)▸sub_r
  have f1:∀x∈loads,FnR m (k+2) hs "_law_has" [.lst (nats x),.lst (nats [a,b,s-a-b])] (.p (.bool (hasF x [a,b,s-a-b]))) hs:=fun x hx=>has_r (k:=k) O B F1 Fn gn (h3 x hx) rfl
  refine⟨.p (.lst (nats [a,b,s-a-b])),x_cons (by exists z_asn (i:=4) kk (ev_list (ar_cons (z_v 2) (ar_cons (z_v 3) (ar_cons (ev_bin (ev_bin (z_v 1) (z_v 2) rfl rfl e3) (z_v 3) rfl rfl e4) ar_nil rfl rfl) rfl rfl) rfl rfl) kk) rfl .f) ?_⟩
  refine x_ifr (by exists ts_cmp rfl (ev_comp (c_if (fun(x:List Nat)=>V.lst (nats x)) (fun x=>V.lst (nats x)) (fun x=>hasF x [a,b,s-a-b]) loads ⟨by kernel_rfl!,by kernel_rfl!,.inl (by kernel_rfl!),by kernel_rfl!,by kernel_rfl!,rfl⟩ rfl (by exact(z_v 0)) .l (fun x hx=>⟨(by exists ts_b rfl (z_fn kk O (ar_cons (z_v 1) (ar_cons (z_v 6) ar_nil rfl rfl) rfl rfl) (f1 x hx))),fun ux=>⟨_,(by exact(z_v 1)),rfl⟩⟩) (by lia))) (ev_list ar_nil kk) rfl rfl ((eq_nil_nn _).1)) (fun h=>?_) (fun h=>?_)
  ·unfold lackF
   rw[if_pos (of_decide_eq_true h)]
   exact⟨x_ret (by exists st_ret (ev_bin (z_v 1) (ev_int _ _) rfl rfl sub_r) .p),by simp[flO]⟩
  ·unfold lackF
   rw[if_neg (of_decide_eq_false h)]
   exact x_nil
 ·rw[key,Option.map_eq_none_iff]at e
  rw[spareF,e];exact e_ret (by exists st_ret (ev_int _ _) .p)
 ·rw[key]at e
  obtain⟨i,e2,rfl⟩:=Option.map_eq_some_iff.mp e
  rw[spareF,e2,Option.getD_some]
end
noncomputable def DivH (m:Mod):Prop:=FnH2 m "int_divmod"∧FnH2 m "_divmod_pos"∧I2H m∧D2H m∧FnH2 m "_div2n1n"∧FnH2 m "_div3n2n"∧GlI m "_DIV_LIMIT" 4000
noncomputable abbrev vqr (l:List (Int×Int)):List V:=l.map fun p=>V.tup [.int p.1,.int p.2]
theorem pv_qr (l:List (Int×Int)):pw (.p (.lst (vqr l)))=true:=pv_map 7 (fun p:Int×Int=>V.tup [.int p.1,.int p.2]) l fun a ux=>rfl
noncomputable def num1 (d1 x c0 c1:Int):Int:=d1*c0+x*c1
noncomputable def num2 (d0 x c0 c1:Int):Int:=x*c0+d0*c1
noncomputable def partsF (d0 d1 x:Int) (T:Nat) (c0 c1:Int):List (Int×Int):=[(num1 d1 x c0 c1/T,num1 d1 x c0 c1%T),(num2 d0 x c0 c1/T,num2 d0 x c0 c1%T)]
theorem two_bits {T:Nat} (hT:0<T):0<Builtin.Int.intBits (T:Int):=Nat.pos_of_ne_zero fun h=>by
 have:=lt_bits T
 rw[h]at this;lia
section
variable {m:Mod} {k:Nat} {hs:HS} (O:m.Ok) (B:m.Bs)
omit O B in
theorem mul_sm {a b:Int} (ha:a.natAbs<2^20) (hb:b.natAbs<2^20):BinR m .Mult (.int a) (.int b) (.p (.int (a*b))):=mul_r (mulOk_of (n:=20) (m:=20) ha hb (by decide))
include O B
theorem dv_up (H:DivH m) {a:Int} {T:Nat} (hT:0<T) (hT2:T<2^100) (ha:a.natAbs<2^24):FnR m (k+28) hs "int_divmod" [.int a,.int T] (.p (.tup [.int (a/T),.int (a%T)])) hs:=by
 obtain⟨F0,F,I,D,F2,F3,g⟩:=H
 have hb:=two_bits hT
 have hb2:Builtin.Int.intBits (T:Int)≤100:=intBits_le (by rw[Int.natAbs_natCast];exact hT2)
 exact idm_up O B F0 F I D F2 F3 g hT rfl (Nat.le_trans hb2 (by decide)) (Nat.lt_of_lt_of_le ha (Nat.pow_le_pow_right (by decide) (Nat.le_mul_of_pos_left 24 hb)))
theorem dv_dn (H:DivH m) {a:Int} {T:Nat} (hT:0<T) (hT2:T<2^100) (ha:a.natAbs<2^24):FnR m (k+29) hs "int_divmod" [.int (-a),.int (-(T:Int))] (.p (.tup [.int (a/T),.int (-(a%T))])) hs:=by
 obtain⟨F0,F,I,D,F2,F3,g⟩:=H
 have hb:=two_bits hT
 have hb2:Builtin.Int.intBits (T:Int)≤100:=intBits_le (by rw[Int.natAbs_natCast];exact hT2)
 have:=idm_dn (k:=k) (hs:=hs) (a:= -a) O B F0 F I D F2 F3 g hT rfl (Nat.le_trans hb2 (by decide)) (by rw[Int.natAbs_neg];exact Nat.lt_of_lt_of_le ha (Nat.pow_le_pow_right (by decide) (Nat.le_mul_of_pos_left 24 hb)))
 rw[Int.neg_neg]at this
 exact this
theorem parts_r (F:FnH2 m "_law_parts") (H:DivH m) {c:List Int} {d:List Nat} {x T:Nat} (hc:c.length=3) (hd:d.length=3) (hc0:(c.getD 0 0).natAbs<256) (hc1:(c.getD 1 0).natAbs<256) (hd0:d.getD 0 0<256) (hd1:d.getD 1 0<256) (hx:x<256) (hT:0<T) (hT2:T<2^100) (tn:Bool):
 FnR m (k+30) hs "_law_parts" [.lst (vints c),.lst (nats d),.int x,.int T,.bool tn] (.p (.lst (vqr (partsF (d.getD 0 0) (d.getD 1 0) x T (c.getD 0 0) (c.getD 1 0))))) hs:=by
 have hbd:(P2 "_law_parts").body=(P2 "_law_parts").body:=rfl
 conv at hbd=>rhs;whnf
 have hn:(P2 "_law_parts").scope.names=(P2 "_law_parts").scope.names:=rfl
 conv at hn=>rhs;whnf
 have s0:=sub_d (m:=m) (φ:=V.int) (j:=0) (l:=c) 0 (by lia)
 have s1:=sub_d (m:=m) (φ:=V.int) (j:=1) (l:=c) 0 (by lia)
 have u0:=sub_d (m:=m) (φ:=fun(j:Nat)=>V.int j) (j:=0) (l:=d) 0 (by lia)
 have u1:=sub_d (m:=m) (φ:=fun(j:Nat)=>V.int j) (j:=1) (l:=d) 0 (by lia)
 generalize c.getD 0 0=c0 at*
 generalize c.getD 1 0=c1 at*
 generalize d.getD 0 0=d0 at*
 generalize d.getD 1 0=d1 at*
 have sm:∀{i:Int},i.natAbs<256→i.natAbs<2^20:=fun h=>Nat.lt_of_lt_of_le h (by decide)
 have sn:∀{i:Nat},i<256→(i:Int).natAbs<2^20:=fun h=>Nat.lt_of_lt_of_le h (by decide)
 have m1:=mul_sm (m:=m) (sn hd1) (sm hc0)
 have m2:=mul_sm (m:=m) (sn hx) (sm hc1)
 have m3:=mul_sm (m:=m) (sn hx) (sm hc0)
 have m4:=mul_sm (m:=m) (sn hd0) (sm hc1)
 have bd:∀{p q:Nat} {a b:Int},p<256→q<256→a.natAbs<256→b.natAbs<256→((p:Int)*a+q*b).natAbs<2^24:=fun{p q a b} hp hq ha hb=>by
  have e1:((p:Int)*a).natAbs≤256*256:=by rw[Int.natAbs_mul,Int.natAbs_natCast];exact Nat.mul_le_mul (Nat.le_of_lt hp) (Nat.le_of_lt ha)
  have e2:((q:Int)*b).natAbs≤256*256:=by rw[Int.natAbs_mul,Int.natAbs_natCast];exact Nat.mul_le_mul (Nat.le_of_lt hq) (Nat.le_of_lt hb)
  exact Nat.lt_of_le_of_lt (Int.natAbs_add_le _ _) (Nat.lt_of_le_of_lt (Nat.add_le_add e1 e2) (by decide))
 have hbn:∀a∈[num1 d1 x c0 c1,num2 d0 x c0 c1],a.natAbs<2^24:=fun a ha=>by
  rcases mem_cons.mp ha with rfl|ha
  ·exact bd hd1 hx hc0 hc1
  ·cases mem_singleton.mp ha;exact bd hx hd0 hc0 hc1
 refine z_def (nm:=["chips","sums","cross","trees","turned","rows","number","quotient","rest"]) (sl0:=[.any,.any,.any,.any,.any,.any,.any,.any,.any]) (ps:=["chips","sums","cross","trees","turned"]) O F (by kernel_rfl!) hbd hn rfl (z_par (i:=0) (by kernel_rfl!) (z_par (i:=1) (by kernel_rfl!) (z_par (i:=2) (by kernel_rfl!) (z_par (i:=3) (by kernel_rfl!) (z_par (i:=4) (by kernel_rfl!) .nil))))) (pv_qr _) ?_ (by kernel_rfl!)
 clear hbd hn
 refine e_cons (by exists z_asn (i:=5) kk (ev_list ar_nil kk) rfl .o) ?_
 refine z_forj 6 V.int (fun sl (j:Slot×Slot) (s:List (Int×Int))=>[.p (.lst (vints c)),.p (.lst (nats d)),.p (.int x),.p (.int T),.p (.bool tn),.o (vqr s),sl,j.1,j.2]) (fun s n=>s++[(n/(T:Int),n% (T:Int))]) (fun i s=>s.length=i) [num1 d1 x c0 c1,num2 d0 x c0 c1] .any (.any,.any) []
  (by kernel_rfl!) rfl (by exists ev_tup (ar_cons (ev_bin (ev_bin (ev_sub (z_v 1) (ev_int _ _) rfl rfl u1) (ev_sub (z_v 0) (ev_int _ _) rfl rfl s0) rfl rfl m1) (ev_bin (z_v 2) (ev_sub (z_v 0) (ev_int _ _) rfl rfl s1) rfl rfl m2) rfl rfl add_r) (ar_cons (ev_bin (ev_bin (z_v 2) (ev_sub (z_v 0) (ev_int _ _) rfl rfl s0) rfl rfl m3) (ev_bin (ev_sub (z_v 1) (ev_int _ _) rfl rfl u0) (ev_sub (z_v 0) (ev_int _ _) rfl rfl s1) rfl rfl m4) rfl rfl add_r) ar_nil rfl rfl) rfl rfl) kk) rfl .t (fun ux ux ux ux=>rfl) rfl (fun i n hn j s hl=>⟨?_,by rw[length_append,hl];rfl⟩) (fun sl j ux=>e_ret (by exists z_frz (x:="rows") (i:=5) kk rfl (st_ret (z_v 5) .p)))
 have hi:i<2:=(List.getElem?_eq_some_iff.mp hn).1
 have hn:=hbn n (mem_of_getElem? hn)
 have g1:=dv_up (k:=k+1) (hs:=hs) O B H hT hT2 hn
 have g2:=dv_dn (k:=k) (hs:=hs) O B H hT hT2 hn
 rw[show vqr (s++[(n/(T:Int),n% (T:Int))])=vqr s++[.tup [.int (n/(T:Int)),.int (n% (T:Int))]]from map_append]
 have hroom:room ((vqr s).length+1)=true:=room_of (by rw[length_map];lia)
 cases tn
 ·refine⟨(.p (.int (n/(T:Int))),.p (.int (n% (T:Int)))),?_⟩
  refine x_cons (by exists z_tup2 (i:=7) (j:=8) kk kk rfl (ev_ite (ts_b rfl (z_v 4)) (z_fn kk O (ar_cons (z_v 6) (ar_cons (z_v 3) ar_nil rfl rfl) rfl rfl) g1))) ?_
  exact x_cons (by exists z_app (i:=5) kk rfl (ar_cons (ev_tup (ar_cons (z_v 7) (ar_cons (ev_ite (ts_b rfl (z_v 4)) (z_v 8)) ar_nil rfl rfl) rfl rfl) kk) ar_nil rfl rfl) kk dd hroom) x_nil
 ·obtain⟨r,hr⟩:∃r,r= -(n% (T:Int)):=⟨_,rfl⟩
  rw[←hr]at g2
  rw[show n% (T:Int)= -r by lia]
  refine⟨(.p (.int (n/(T:Int))),.p (.int r)),?_⟩
  refine x_cons (by exists z_tup2 (i:=7) (j:=8) kk kk rfl (ev_ite (ts_b rfl (z_v 4)) (z_fn kk O (ar_cons (ev_neg (z_v 6)) (ar_cons (ev_neg (z_v 3)) ar_nil rfl rfl) rfl rfl) g2))) ?_
  exact x_cons (by exists z_app (i:=5) kk rfl (ar_cons (ev_tup (ar_cons (z_v 7) (ar_cons (ev_ite (ts_b rfl (z_v 4)) (ev_neg (z_v 8))) ar_nil rfl rfl) rfl rfl) kk) ar_nil rfl rfl) kk dd hroom) x_nil
end
theorem upper_r {m:Mod} {x:Str} (hf:tooLong (Txt.upper x).length=false):MeR m "upper" (.str x) [] (.p (.str (Txt.upper x))):=
 ⟨"str",_,F.plainAttrs_str,F.slot_str_upper,F.type_str_upper,str_type,fun k A s R vo vals hs _ _ ⟨_,t,e⟩ e2=>by
  cases e;cases e2
  exact call_gives F.slot_str_upper (typeIs_str _ _ _) F.entry_str_upper (F.args_str_upper_1 _) (gives_str_upper x t hf) ⟨fit_le hf,PostO.toks _ ⟨fit_le hf,_,rfl⟩⟩⟩
theorem addS {m:Mod} {a b:List Nat} (h:a.length+b.length≤16777216):BinR m .Add (.str (S a)) (.str (S b)) (.p (.str (S (a++b)))):=S_app a b▸adds_r (room_of (by rw[S_len,S_len];exact h))
noncomputable def ltF (o:Bool) (r1 r2:Nat):List Nat:=if o then[65+r1,65+r2]else[97+r1,97+r2]
noncomputable def nameF (l:List (Int×Int)) (o:Bool):List Nat:=ltF (decide ((l.getD 0 (0,0)).1%2=1) != o) (l.getD 0 (0,0)).2.toNat (l.getD 1 (0,0)).2.toNat
theorem up_ok:∀a,a<16→∀b,b<16→Txt.upper (S [97+a,97+b])=S [65+a,65+b]∧tooLong (Txt.upper (S [97+a,97+b])).length=false:=by decide +kernel
theorem lets_ok:Str.ofString "abcdefghijklmnop"=S ((List.range 16).map (97+·)):=by rfl
theorem beq_bb (a b:Bool):V.beq (.bool a) (.bool b)=some (a==b):=by cases a<;>cases b<;>rfl
section
variable {m:Mod} {k:Nat} {hs:HS} (O:m.Ok) (B:m.Bs)
include O B
theorem name_r (F:FnH2 m "_law_name") {q1 q2:Int} {r1 r2:Nat} (h1:r1<16) (h2:r2<16) (o:Bool):FnR m (k+1) hs "_law_name" [.lst (vqr [(q1,r1),(q2,r2)]),.bool o] (.p (.str (S (nameF [(q1,r1),(q2,r2)] o)))) hs:=by
 have hb:(P2 "_law_name").body=(P2 "_law_name").body:=rfl
 conv at hb=>rhs;whnf
 have hn:(P2 "_law_name").scope.names=(P2 "_law_name").scope.names:=rfl
 conv at hn=>rhs;whnf
 refine z_def (nm:=["rows","other","letters","name"]) (sl0:=[.any,.any,.any,.any]) (ps:=["rows","other"]) O F (by kernel_rfl!) hb hn rfl (z_par (i:=0) (by kernel_rfl!) (z_par (i:=1) (by kernel_rfl!) .nil)) rfl ?_ (by kernel_rfl!)
 clear hb hn
 have a0:SubR m (.lst (vqr [(q1,r1),(q2,r2)])) (.int 0) (.tup [.int q1,.int r1]):=sub_d (φ:=fun p:Int×Int=>V.tup [.int p.1,.int p.2]) (j:=0) (0,0) (show 0<2 by decide)
 have a1:SubR m (.lst (vqr [(q1,r1),(q2,r2)])) (.int 1) (.tup [.int q2,.int r2]):=sub_d (φ:=fun p:Int×Int=>V.tup [.int p.1,.int p.2]) (j:=1) (0,0) (show 1<2 by decide)
 have b0:SubR m (.tup [.int q1,.int r1]) (.int 0) (.int q1):=sub_t (by decide) (show 2≤100 by decide) rfl
 have b1:SubR m (.tup [.int q1,.int r1]) (.int 1) (.int r1):=sub_t (by decide) (show 2≤100 by decide) rfl
 have b2:SubR m (.tup [.int q2,.int r2]) (.int 1) (.int r2):=sub_t (by decide) (show 2≤100 by decide) rfl
 have let1:∀{r:Nat},r<16→SubR m (.str (Str.ofString "abcdefghijklmnop")) (.int r) (.str (S [97+r])):=fun{r} h=>lets_ok▸sub_S (by rw[getElem?_map,List.getElem?_range h];rfl) (by decide)
 have e1:=(eq_r (m:=m) (beq_int (q1.fmod 2) 1)).1
 rw[show q1.fmod 2=q1%2 from Int.fmod_eq_emod_of_nonneg _ (by decide)]at e1
 have e0:BinR m .Mod (.int q1) (.int 2) (.p (.int (q1%2))):=Int.fmod_eq_emod_of_nonneg q1 (show(0:Int)≤2 by decide)▸mod_r (by decide)
 have e2:CmpR m .NotEq (.bool (decide (q1%2=1))) (.bool o) (decide (q1%2=1) != o):=(eq_r (beq_bb (decide (q1%2=1)) o)).2
 obtain⟨u1,u2⟩:=up_ok r1 h1 r2 h2
 have e3:MeR m "upper" (.str (S [97+r1,97+r2])) [] (.p (.str (S [65+r1,65+r2]))):=u1▸upper_r u2
 refine e_cons (by exists z_asn (i:=2) kk (ev_str kk) rfl .p) ?_
 refine e_cons (by exists z_asn (i:=3) kk (ev_bin (ev_sub (z_v 2) (ev_sub (ev_sub (z_v 0) (ev_int _ _) rfl rfl a0) (ev_int _ _) rfl rfl b1) rfl rfl (let1 h1)) (ev_sub (z_v 2) (ev_sub (ev_sub (z_v 0) (ev_int _ _) rfl rfl a1) (ev_int _ _) rfl rfl b2) rfl rfl (let1 h2)) rfl rfl (addS (show 1+1≤16777216 by decide))) rfl .p) ?_
 show XE _ _ _ _ _ _ (.p (.str (S (ltF (decide (q1%2=1) != o) r1 r2)))) _
 generalize (decide (q1%2=1) != o)=c at e2 ⊢
 cases c
 ·exact e_ret (by exists st_ret (ev_ite (ts_cmp rfl (ev_cmp rfl (ev_bin (ev_sub (ev_sub (z_v 0) (ev_int _ _) rfl rfl a0) (ev_int _ _) rfl rfl b0) (ev_int _ _) rfl rfl e0) (ev_int _ _) rfl rfl e1) (z_v 1) rfl rfl e2) (z_v 3)) .p)
 ·exact e_ret (by exists st_ret (ev_ite (ts_cmp rfl (ev_cmp rfl (ev_bin (ev_sub (ev_sub (z_v 0) (ev_int _ _) rfl rfl a0) (ev_int _ _) rfl rfl b0) (ev_int _ _) rfl rfl e0) (ev_int _ _) rfl rfl e1) (z_v 1) rfl rfl e2) (ev_me rfl rfl dd (z_v 3) ws_nil rfl .nil e3)) .p)
end
noncomputable def tailL (t:Int) (mk:Nat):List Nat:=eL t++(eL t++(46::(eL (t+1)++(97::mk::46::(eL (t+2)++[46])))))
theorem tail_nl {mk:Nat} (t:Int) (hm:mk≠10∧mk≠13):nlL (tailL t mk)=[13,10,13,10,46,13,10,97,mk,46,13,10,46]:=by
 unfold tailL
 rw[nl_end,nl_end,nl_c (by decide) (by decide),nl_end,nl_c (by decide) (by decide),nl_c hm.1 hm.2,nl_c (by decide) (by decide),nl_end]
 ·rw[nl_c (by decide) (by decide)];rfl
 all_goals first|(intro h;have:=eL_head _ _ h;lia)|(intro h;cases h)
theorem tail_dot {mk:Nat} (hm:mk≠10∧mk≠46):dotL true [13,10,13,10,46,13,10,97,mk,46,13,10,46]=[13,10,13,10,46,46,13,10,97,mk,46,13,10,46,46]:=by
 have e1:=dot_seg [] (13::10::[46,13,10,97,mk,46,13,10,46]) (by simp)
 have e2:=dot_seg [] [46,13,10,97,mk,46,13,10,46] (by simp)
 have e3:=dot_seg [46] [97,mk,46,13,10,46] (by decide)
 have e4:=dot_seg [97,mk,46] [46] (by simp;exact hm.1)
 simp only[nil_append,cons_append]at e1 e2 e3 e4
 simp only[e1,e2,e3,e4];rfl
section
variable (ds bs:List Nat) (cs:List (List Nat)) (mk:Nat) (t:Int)
noncomputable def rowL (k:Nat):List Nat:=dts (ds.getD k 0)++[32]++cs.getD k []
noncomputable def segL (k:Nat):List Nat:=(bif decide (k∈bs)then[]else[mk])++rowL ds cs k
noncomputable def dueL (k:Nat):List Nat:=(bif decide (k∈bs)then[46]else[mk])++rowL ds cs k
noncomputable def mailL:List Nat:=(List.range 3).flatMap (fun(k:Nat)=>segL ds bs cs mk k++eL (t+k))++tailL t mk
noncomputable def endL:List (List Nat):=[[],[],[46,46],[97,mk,46],[46,46]]
noncomputable def sentL:List Nat:=(List.range 3).flatMap (fun k=>dueL ds bs cs mk k++[13,10])++[13,10,13,10,46,46,13,10,97,mk,46,13,10,46,46]
variable {ds cs bs mk t}
theorem row_clean (hc:∀k,∀c∈cs.getD k [],c≠10∧c≠13) (k:Nat):cleanL (rowL ds cs k):=fun c h=>by
 unfold rowL at h
 rw[append_assoc]at h
 rcases mem_append.mp h with h|h
 ·rw[List.eq_of_mem_replicate h];decide
 ·rcases mem_cons.mp h with rfl|h
  ·decide
  ·exact hc k c h
theorem sent_ok (hm:mk≠10∧mk≠13∧mk≠46) (hc:∀k,∀c∈cs.getD k [],c≠10∧c≠13) (hd:∀k∈bs,1≤ds.getD k 0):dotL true (nlL (mailL ds bs cs mk t))=sentL ds bs cs mk:=by
 have h1:∀k,cleanL (segL ds bs cs mk k)∧segL ds bs cs mk k≠[]:=fun k=>by
  unfold segL
  constructor
  ·intro c h
   rcases mem_append.mp h with h|h
   ·cases hb:decide (k∈bs)with
    |true=>rw[hb]at h;cases h
    |false=>rw[hb]at h;cases mem_singleton.mp h;exact⟨hm.1,hm.2.1⟩
   ·exact row_clean hc k c h
  ·unfold rowL;simp
 have h2:∀k,ddL (segL ds bs cs mk k)=dueL ds bs cs mk k:=fun k=>by
  delta segL dueL ddL
  by_cases hb:k∈bs
  ·rw[decide_eq_true hb]
   have:=hd k hb
   show(if(rowL ds cs k).head? =some 46 then _ else _)=_
   rw[if_pos]
   ·rfl
   ·unfold rowL
    obtain⟨d,e⟩:∃d,ds.getD k 0=d+1:=⟨ds.getD k 0-1,by exact(Nat.sub_eq_iff_eq_add (hd k hb)).mp rfl⟩
    rw[e];rfl
  ·rw[decide_eq_false hb]
   exact if_neg fun h=>hm.2.2 (Option.some.inj h)
 unfold mailL sentL
 rw[List.range_eq_range',nl_rows _ h1,tail_nl t ⟨hm.1,hm.2.1⟩,dot_rows _ (fun k c h=>((h1 k).1 c h).1),tail_dot ⟨hm.1,hm.2.2⟩]
 ·congr 1;simp only[h2]
 ·intro h
  have:=eL_head _ _ h
  lia
theorem glue_map (y:List Nat) (f:Nat→List Nat) (r:List (List Nat)) (hr:r≠[]):∀l:List Nat,glue y (l.map f++r)=l.flatMap (fun k=>f k++y)++glue y r:=by
 intro v0_
 induction v0_ with
 |nil=>
  exact rfl
 |cons k l ih_=>
  have ih:=ih_
  rw[map_cons,cons_append,flatMap_cons,append_assoc,←ih]
  cases h:l.map f++r with
  |nil=>exact absurd (List.append_eq_nil_iff.mp h).2 hr
  |cons a b=>rfl
theorem sent_split (hm:mk≠13) (hc:∀k,∀c∈cs.getD k [],c≠10∧c≠13):Txt.split (S (sentL ds bs cs mk)) (S [13,10])=((List.range 3).map (dueL ds bs cs mk)++endL mk).map S:=by
 have e:sentL ds bs cs mk=glue (13::[10]) ((List.range 3).map (dueL ds bs cs mk)++endL mk):=by
  rw[glue_map _ _ _ (by unfold endL;simp)];rfl
 rw[e]
 refine S_split (c:=13) (r:=[10]) (by decide) (kind_one (by decide)) (by unfold endL;simp) fun p hp h=>?_
 rcases mem_append.mp hp with hp|hp
 ·obtain⟨k,_,rfl⟩:=mem_map.mp hp
  unfold dueL at h
  rcases mem_append.mp h with h|h
  ·cases hb:decide (k∈bs)with
   |true=>rw[hb]at h;cases mem_singleton.mp h
   |false=>rw[hb]at h;exact hm (mem_singleton.mp h).symm
  ·exact(row_clean hc k 13 h).2 rfl
 ·simp[endL]at hp
  rcases hp with rfl|rfl|rfl|rfl<;>simp at h
  exact hm h.symm
theorem split_row (d:Nat) (r:List Nat):Txt.split (S (dts d++[32]++r)) (S [32])=S (dts d)::(sps r).map S:=by
 rw[split_sps]
 have:∀d,sps (dts d++[32]++r)=dts d::sps r:=fun d=>by
  induction d with
  |zero=>rfl
  |succ d ih=>
   show sps (46::(dts d++[32]++r))=_
   rw[sps,if_neg (by decide),ih];rfl
 rw[this];rfl
end
noncomputable abbrev endsV:List V:=vstrs [[10],[13],[13,10]]
theorem eL_len (i:Int):(eL i).length≤2:=by
 unfold eL;split
 ·decide
 ·split<;>decide
section
variable {m:Mod} {k:Nat} {ns:Names} {Γ:Gam} {hs:HS} {pos:Pos}
theorem z_ite {c a b:Expr} {bb:Bool} (v:Bool→W) (h1:TsR m k ns Γ hs c bb hs) (ha:EvR m k ns Γ hs a (v true) hs) (hb:EvR m k ns Γ hs b (v false) hs):EvR m k ns Γ hs (.IfExp c a b pos) (v bb) hs:=ev_ite h1 (by
 cases bb with
 |true=>exact ha
 |false=>exact hb)
theorem iaddS {a b:List Nat} (h:a.length+b.length≤16777216):InR m .Add (.str (S a)) (.str (S b)) (.str (S (a++b))):=S_app a b▸iadds_r (room_of (by rw[S_len,S_len];exact h))
theorem dotsM {d:Nat} (h:d<2^20):BinR m .Mult (.str (S [46])) (.int d) (.p (.str (S (dts d)))):=by
 have:=muls_r (m:=m) (a:=S [46]) (n:=(d:Int)) ⟨by lia,by lia,by rw[S_len];decide⟩
 rw[S_dots,Int.toNat_natCast]at this
 exact this
theorem mod3 (i:Int):BinR m .Mod (.int i) (.int 3) (.p (.int (i%3))):=by
 have:=mod_r (m:=m) (a:=i) (b:=3) (by decide)
 rw[Int.fmod_eq_emod_of_nonneg _ (by decide)]at this
 exact this
theorem ends_r (i:Int):SubR m (.lst endsV) (.int (i%3)) (.str (S (eL i))):=by
 have:i%3=0∨i%3=1∨i%3=2:=by lia
 unfold eL
 rcases this with h|h|h
 ·rw[h,if_pos rfl];exact sub_l (by decide) rfl
 ·rw[h,if_neg (by decide),if_pos rfl];exact sub_l (by decide) rfl
 ·rw[h,if_neg (by decide),if_neg (by decide)];exact sub_l (by decide) rfl
theorem mul2 {e:List Nat} (h:e.length≤2):BinR m .Mult (.str (S e)) (.int 2) (.p (.str (S (e++e)))):=by
 have:=muls_r (m:=m) (a:=S e) (n:=2) ⟨by decide,by decide,by rw[S_len];lia⟩
 rw[S_mul,show(List.replicate (2:Int).toNat e).flatten=e++e by
  show e++(e++[])=_
  rw[append_nil]]at this
 exact this
theorem neS {x:List Nat} (h:∀c∈x,c<1114112):CmpR m .NotEq (.str (S x)) (.str (S x)) false:=by
 have:=(eq_r (m:=m) (beq_str (a:=S x) (b:=S x) (S_ok h) (S_ok h))).2
 rw[decide_eq_true rfl]at this
 exact this
theorem fold2 {α β:Type} (f g:α→List β):∀(l:List α) (a b:List β),l.foldl (fun s k=>(s.1++f k,s.2++g k)) (a,b)=(a++l.flatMap f,b++l.flatMap g)
 |[],a,b=>by simp
 |x::l,a,b=>by
  rw[foldl_cons,fold2 f g l,flatMap_cons,flatMap_cons,append_assoc,append_assoc]
variable {ds bs:List Nat} {cs:List (List Nat)} {mk:Nat} {t:Int}
noncomputable def sendF (ds bs:List Nat) (n:Nat):List Nat:=(List.range n).map fun k=>bif decide (k∈bs)then ds.getD k 0+1 else ds.getD k 0
noncomputable abbrev sendS (ds bs:List Nat) (cs:List (List Nat)) (mk:Nat) (t:Int) (s:List Nat×List Nat) (k:Nat):List Nat×List Nat:=(s.1++(segL ds bs cs mk k++eL (t+k)),s.2++(dueL ds bs cs mk k++[13,10]))
structure SendP (ds:List Nat) (cs:List (List Nat)) (mk:Nat):Prop where
 n:cs.length=3
 n3:ds.length=3
 d:∀k,ds.getD k 0≤90
 c:∀k,∀c∈cs.getD k [],c≠10∧c≠13∧c≠32∧c<1000
 l:∀k,(cs.getD k []).length≤3
 m:mk≠10∧mk≠13∧mk≠46∧mk<10000
theorem in_nats (a:Nat) (l:List Nat):CmpR m .In (.int a) (.lst (nats l)) (decide (a∈l))∧CmpR m .NotIn (.int a) (.lst (nats l)) (!decide (a∈l)):=by
 have h:=inL_ints (a:Int) (l.map Int.ofNat)
 rw[←nats_vints]at h
 rw[show decide (a∈l)=decide ((a:Int)∈l.map Int.ofNat) by
  have:(a:Int)∈l.map Int.ofNat↔a∈l:=⟨fun h=>by obtain⟨b,hb,e⟩:=mem_map.mp h;have e:b=a:=Int.ofNat.inj e;exact e▸hb,fun h=>mem_map.mpr ⟨a,h,rfl⟩⟩
  exact(decide_eq_decide.mpr this).symm]
 exact in_r h (.inl rfl)
theorem bif_len (b:Bool) (c:Nat):(bif b then[]else[c]).length≤1∧(bif b then[46]else[c]).length=1:=by cases b<;>exact⟨by simp,rfl⟩
theorem row_len (P:SendP ds cs mk) (k:Nat):(rowL ds cs k).length≤94∧(segL ds bs cs mk k).length≤95∧(dueL ds bs cs mk k).length≤95:=by
 have h1:(rowL ds cs k).length≤94:=by
  unfold rowL
  rw[length_append,length_append,length_replicate]
  have:=P.d k
  have:=P.l k
  simp only[length_singleton];lia
 have b:=bif_len (decide (k∈bs)) mk
 refine⟨h1,?_,?_⟩
 ·unfold segL;rw[length_append];lia
 ·unfold dueL;rw[length_append];lia
theorem due_small (P:SendP ds cs mk) (k:Nat):∀c∈dueL ds bs cs mk k,c<1114112:=fun c h=>by
 unfold dueL rowL at h
 rw[append_assoc]at h
 rcases mem_append.mp h with h|h
 ·have:=P.m.2.2.2
  cases hb:decide (k∈bs)with
  |true=>rw[hb]at h;rw[mem_singleton.mp h];decide
  |false=>rw[hb]at h;rw[mem_singleton.mp h];lia
 ·rcases mem_append.mp h with h|h
  ·rw[List.eq_of_mem_replicate h];decide
  ·rcases mem_cons.mp h with rfl|h
   ·decide
   ·have:=(P.c k c h).2.2.2;lia
theorem sent_small (P:SendP ds cs mk):∀c∈sentL ds bs cs mk,c<1114112:=fun c h=>by
 unfold sentL at h
 rcases mem_append.mp h with h|h
 ·obtain⟨k,_,h⟩:=List.mem_flatMap.mp h
  rcases mem_append.mp h with h|h
  ·exact due_small P k c h
  ·simp only[mem_cons,not_mem_nil,or_false]at h;lia
 ·have:=P.m.2.2.2
  simp only[mem_cons,not_mem_nil,or_false]at h;omega
theorem sps_one:∀l:List Nat,32∉l→sps l=[l]:=by
 intro l
 induction l with
 |nil=>intro ux;rfl
 |cons c r ih=>
  intro h
  have hc:c≠32:=fun e=>h (e▸mem_cons_self)
  rw[sps,if_neg hc,ih fun q=>h (mem_cons_of_mem _ q)]
theorem row_split (P:SendP ds cs mk) (d:Nat) (hd:d≤91) (k:Nat):MeR m "split" (.str (S (dts d++[32]++cs.getD k []))) [.str (S [32])] (.f [.str (S (dts d)),.str (S (cs.getD k []))]):=by
 have e:=split_row d (cs.getD k [])
 rw[sps_one (cs.getD k []) fun h=>(P.c k 32 h).2.2.1 rfl]at e
 have:=split_r (m:=m) (x:=S (dts d++[32]++cs.getD k [])) (y:=S [32]) (by rw[S_len];rfl) (by rw[e];exact room_of (by show 2≤_;decide)) (by
  rw[e,all_eq_true]
  intro p hp
  rcases mem_cons.mp hp with rfl|hp
  ·exact room_of (by rw[S_len,length_replicate];lia)
  ·rw[mem_singleton.mp hp];exact room_of (by rw[S_len];exact Nat.le_trans (P.l k) (by decide)))
 rw[e]at this
 exact this
theorem due_slice (P:SendP ds cs mk) (k:Nat):SlR m (.str (S (dueL ds bs cs mk k))) (some (bif decide (k∈bs)then 0 else 1)) none (.p (.str (S (dts (bif decide (k∈bs)then ds.getD k 0+1 else ds.getD k 0)++[32]++cs.getD k [])))):=by
 unfold dueL
 cases decide (k∈bs)with
 |true=>exact sl_from (j:=0) (Nat.zero_le _)
 |false=>exact sl_from (j:=1) (by rw[length_append];exact Nat.le_add_right _ _)
variable (O:m.Ok) (B:m.Bs)
include O B
theorem send_r (F:FnH2 m "_law_send") (Fq:FnH2 m "quotedata") (Fd:FnH2 m "_law_dots") (Q:QdH m) (g:GlT m) (T:TokOK m tokN) (P:SendP ds cs mk) (hd:∀k∈bs,1≤ds.getD k 0):
 FnR m (k+2) hs "_law_send" [.lst (nats ds),.lst (vstrs cs),.lst (nats bs),.int t,.str (S [mk])] (.f (nats (sendF ds bs 3))) hs:=by
 have hb:(P2 "_law_send").body=(P2 "_law_send").body:=rfl
 conv at hb=>rhs;whnf
 have hn:(P2 "_law_send").scope.names=(P2 "_law_send").scope.names:=rfl
 conv at hn=>rhs;whnf
 refine z_def (nm:=["dots","signs","bare","turn","mark","ends","text","due","town","row","sent","rows"]) (sl0:=[.any,.any,.any,.any,.any,.any,.any,.any,.any,.any,.any,.any]) (ps:=["dots","signs","bare","turn","mark"]) O F (by kernel_rfl!) hb hn rfl (z_par (i:=0) (by kernel_rfl!) (z_par (i:=1) (by kernel_rfl!) (z_par (i:=2) (by kernel_rfl!) (z_par (i:=3) (by kernel_rfl!) (z_par (i:=4) (by kernel_rfl!) .nil))))) (pv_map 8 _ _ fun ux ux=>rfl) ?_ (by kernel_rfl!)
 clear hb hn
 have hc:∀k,∀c∈cs.getD k [],c≠10∧c≠13:=fun k c h=>⟨(P.c k c h).1,(P.c k c h).2.1⟩
 have hm:=P.m
 have fr:BiR m "range" [.int 3] (.p (.rng 0 3 1)):=range1 B.range (by decide)
 refine' e_cons (by exists z_asn (i:=5) kk (ev_list (ar_cons (ev_strS (y:=S [10]) (by rfl) (by kernel_rfl!)) (ar_cons (ev_strS (y:=S [13]) (by rfl) (by kernel_rfl!)) (ar_cons (ev_strS (y:=S [13,10]) (by rfl) (by kernel_rfl!)) ar_nil rfl rfl) rfl rfl) rfl rfl) kk) rfl .f) ?_
 refine' e_cons (by exists z_asn (i:=6) kk (ev_strS (y:=S []) (by rfl) (by kernel_rfl!)) rfl .p) ?_
 refine' e_cons (by exists z_asn (i:=7) kk (ev_strS (y:=S []) (by rfl) (by kernel_rfl!)) rfl .p) ?_
 refine z_forj 8 (fun(j:Nat)=>V.int j) (fun sl (j:Slot) (s:List Nat×List Nat)=>[.p (.lst (nats ds)),.p (.lst (vstrs cs)),.p (.lst (nats bs)),.p (.int t),.p (.str (S [mk])),.p (.lst endsV),.p (.str (S s.1)),.p (.str (S s.2)),sl,j,.any,.any]) (sendS ds bs cs mk t) (fun i s=>s.1.length≤97*i∧s.2.length≤97*i) (List.range 3) .any .any ([],[])
  (by kernel_rfl!) rfl (by exists z_bi kk O (ws_cons (ev_int _ _) ws_nil rfl) (.cons rfl .nil) fr) rfl (its_rng _) (fun ux ux ux ux=>rfl) ⟨Nat.le_refl _,Nat.le_refl _⟩ (fun i k hk j s hp=>?_) (fun sl j hp=>?_)
 ·have hi:i<3:=by
   have:=(List.getElem?_eq_some_iff.mp hk).1
   rw[length_range]at this;exact this
  have hk:=mem_range.mp (mem_of_getElem? hk)
  obtain⟨r1,r2,r3⟩:=row_len (bs:=bs) P k
  have r4:=eL_len (t+k)
  obtain⟨b1,b2⟩:=bif_len (decide (k∈bs)) mk
  have hd90:=P.d k
  have hl3:=P.l k
  obtain⟨p1,p2⟩:=hp
  have s1:SubR m (.lst (nats ds)) (.int k) (.int (ds.getD k 0:Nat)):=sub_d (m:=m) (φ:=fun(j:Nat)=>V.int j) 0 (by rw[P.n3];exact hk)
  have s2:SubR m (.lst (vstrs cs)) (.int k) (.str (S (cs.getD k []))):=sub_d (m:=m) (φ:=fun c=>V.str (S c)) [] (by rw[P.n];exact hk)
  have l1:(segL ds bs cs mk k++eL (t+k)).length≤97:=by rw[length_append];lia
  have l2:(dueL ds bs cs mk k++[13,10]).length≤97:=by rw[length_append];simp only[length_cons,length_nil];lia
  refine⟨⟨.p (.str (S (rowL ds cs k))),?_⟩,?_,?_⟩
  ·refine x_cons (hs1:=hs) (Γ1:=Gz ["dots","signs","bare","turn","mark","ends","text","due","town","row","sent","rows"] [.p (.lst (nats ds)),.p (.lst (vstrs cs)),.p (.lst (nats bs)),.p (.int t),.p (.str (S [mk])),.p (.lst endsV),.p (.str (S s.1)),.p (.str (S s.2)),.p (.int k),.p (.str (S (rowL ds cs k))),.any,.any]) (by exists z_asn (i:=9) kk (ev_bin (ev_bin (ev_bin (ev_strS (y:=S [46]) (by rfl) (by kernel_rfl!)) (ev_sub (z_v 0) (z_v 8) rfl rfl s1) rfl rfl (dotsM (by lia))) (ev_strS (y:=S [32]) (by rfl) (by kernel_rfl!)) rfl rfl (addS (by rw[length_replicate];simp only[length_singleton];lia))) (ev_sub (z_v 1) (z_v 8) rfl rfl s2) rfl rfl (addS (by rw[length_append,length_replicate];simp only[length_singleton];lia))) rfl .p) ?_
   refine x_cons (hs1:=hs) (Γ1:=Gz ["dots","signs","bare","turn","mark","ends","text","due","town","row","sent","rows"] [.p (.lst (nats ds)),.p (.lst (vstrs cs)),.p (.lst (nats bs)),.p (.int t),.p (.str (S [mk])),.p (.lst endsV),.p (.str (S (s.1++(segL ds bs cs mk k++eL (t+k))))),.p (.str (S s.2)),.p (.int k),.p (.str (S (rowL ds cs k))),.any,.any]) (by exists z_aug (i:=6) kk rfl (ev_bin (ev_bin (z_ite (fun b=> .p (.str (S (bif b then[]else[mk])))) (by exists ts_cmp rfl (z_v 8) (z_v 2) rfl rfl ((in_nats _ _).1)) (ev_strS (y:=S []) (by rfl) (by kernel_rfl!)) (by exact(z_v 4))) (z_v 9) rfl rfl (addS (by lia))) (ev_sub (z_v 5) (ev_bin (ev_bin (z_v 3) (z_v 8) rfl rfl add_r) (ev_int _ _) rfl rfl (mod3 _)) rfl rfl (ends_r _)) rfl rfl (addS (by unfold segL at r2;lia))) (iaddS (by unfold segL at l1;lia))) ?_
   exact x_cons (by exists z_aug (i:=7) kk rfl (ev_bin (ev_bin (z_ite (fun b=> .p (.str (S (bif b then[46]else[mk])))) (by exists ts_cmp rfl (z_v 8) (z_v 2) rfl rfl ((in_nats _ _).1)) (ev_strS (y:=S [46]) (by rfl) (by kernel_rfl!)) (by exact(z_v 4))) (z_v 9) rfl rfl (addS (by lia))) (ev_strS (y:=S [13,10]) (by rfl) (by kernel_rfl!)) rfl rfl (addS (by unfold dueL at r3;simp only[length_cons,length_nil];lia))) (iaddS (by unfold dueL at l2;lia))) x_nil
  ·show(s.1++_).length≤_;rw[length_append];lia
  ·show(s.2++_).length≤_;rw[length_append];lia
 ·rw[length_range]at hp
  obtain⟨p1,p2⟩:=hp
  have ef:=fold2 (fun(k:Nat)=>segL ds bs cs mk k++eL (t+k)) (fun k=>dueL ds bs cs mk k++[13,10]) (List.range 3) [] []
  rw[nil_append,nil_append]at ef
  rw[ef]at p1 p2 ⊢
  have p1:((List.range 3).flatMap fun(k:Nat)=>segL ds bs cs mk k++eL (t+k)).length≤97*3:=p1
  have p2:((List.range 3).flatMap fun(k:Nat)=>dueL ds bs cs mk k++[13,10]).length≤97*3:=p2
  have n1:=eL_len t
  have n2:=eL_len (t+1)
  have n3:=eL_len (t+2)
  have et:(List.range 3).flatMap (fun(k:Nat)=>segL ds bs cs mk k++eL (t+k))++(eL t++eL t++[46]++eL (t+1)++[97]++[mk]++[46]++eL (t+2)++[46])=mailL ds bs cs mk t:=by
   unfold mailL tailL
   simp only[append_assoc,cons_append,nil_append]
  have l9:(eL t++eL t++[46]++eL (t+1)++[97]++[mk]++[46]++eL (t+2)++[46]).length≤16:=by
   simp only[length_append,length_cons,length_nil];lia
  have lm:(mailL ds bs cs mk t).length≤97*3+16:=by rw[←et,length_append];lia
  have fq:FnR m (k+1) hs "quotedata" [.str (S (mailL ds bs cs mk t))] (.p (.str (S (sentL ds bs cs mk)))) hs:=by
   have:=quote_r (k:=k) (hs:=hs) O B Fq Q (x:=S (mailL ds bs cs mk t)) (by rw[S_len];lia)
   rw[show qd (S (mailL ds bs cs mk t))=S (sentL ds bs cs mk) by
    rw[←sent_ok ⟨hm.1,hm.2.1,hm.2.2.1⟩ hc hd];unfold qd;rw[S_list];rfl]at this
   exact this
  have es:(List.range 3).flatMap (fun(k:Nat)=>dueL ds bs cs mk k++[13,10])++[13,10,13,10,46,46,13,10,97]++[mk]++[46,13,10,46,46]=sentL ds bs cs mk:=by
   unfold sentL
   simp only[append_assoc,cons_append,nil_append]
  have a9:=iaddS (m:=m) (a:=(List.range 3).flatMap fun(k:Nat)=>segL ds bs cs mk k++eL (t+k)) (b:=eL t++eL t++[46]++eL (t+1)++[97]++[mk]++[46]++eL (t+2)++[46]) (by lia)
  rw[et]at a9
  have a8:=addS (m:=m) (a:=(List.range 3).flatMap (fun(k:Nat)=>dueL ds bs cs mk k++[13,10])++[13,10,13,10,46,46,13,10,97]++[mk]) (b:=[46,13,10,46,46]) (by simp only[length_append,length_cons,length_nil];lia)
  rw[es]at a8
  refine e_cons (hs1:=hs) (Γ1:=Gz ["dots","signs","bare","turn","mark","ends","text","due","town","row","sent","rows"] [.p (.lst (nats ds)),.p (.lst (vstrs cs)),.p (.lst (nats bs)),.p (.int t),.p (.str (S [mk])),.p (.lst endsV),.p (.str (S (mailL ds bs cs mk t))),.p (.str (S ((List.range 3).flatMap fun(k:Nat)=>dueL ds bs cs mk k++[13,10]))),sl,j,.any,.any]) (by exists z_aug (i:=6) kk rfl (ev_bin (ev_bin (ev_bin (ev_bin (ev_bin (ev_bin (ev_bin (ev_bin (ev_sub (z_v 5) (ev_bin (z_v 3) (ev_int _ _) rfl rfl (mod3 _)) rfl rfl (ends_r _)) (ev_int _ _) rfl rfl (mul2 n1)) (ev_strS (y:=S [46]) (by rfl) (by kernel_rfl!)) rfl rfl (addS (by simp only[length_append,length_cons,length_nil];lia))) (ev_sub (z_v 5) (ev_bin (ev_bin (z_v 3) (ev_int _ _) rfl rfl add_r) (ev_int _ _) rfl rfl (mod3 _)) rfl rfl (ends_r _)) rfl rfl (addS (by simp only[length_append,length_cons,length_nil];lia))) (ev_strS (y:=S [97]) (by rfl) (by kernel_rfl!)) rfl rfl (addS (by simp only[length_append,length_cons,length_nil];lia))) (z_v 4) rfl rfl (addS (by simp only[length_append,length_cons,length_nil];lia))) (ev_strS (y:=S [46]) (by rfl) (by kernel_rfl!)) rfl rfl (addS (by simp only[length_append,length_cons,length_nil];lia))) (ev_sub (z_v 5) (ev_bin (ev_bin (z_v 3) (ev_int _ _) rfl rfl add_r) (ev_int _ _) rfl rfl (mod3 _)) rfl rfl (ends_r _)) rfl rfl (addS (by simp only[length_append,length_cons,length_nil];lia))) (ev_strS (y:=S [46]) (by rfl) (by kernel_rfl!)) rfl rfl (addS (by simp only[length_append,length_cons,length_nil];lia))) a9) ?_
  refine' e_cons (by exists z_asn (i:=10) kk (z_fn kk O (ar_cons (z_v 6) ar_nil rfl rfl) fq) rfl .p) ?_
  refine' e_iff (by exists ts_cmp rfl (z_v 10) (ev_bin (ev_bin (ev_bin (z_v 7) (ev_strS (y:=S [13,10,13,10,46,46,13,10,97]) (by rfl) (by kernel_rfl!)) rfl rfl (addS (by simp only[length_append,length_cons,length_nil];lia))) (z_v 4) rfl rfl (addS (by simp only[length_append,length_cons,length_nil];lia))) (ev_strS (y:=S [46,13,10,46,46]) (by rfl) (by kernel_rfl!)) rfl rfl a8) rfl rfl (neS (sent_small P))) ?_
  have sp:=sent_split (ds:=ds) (cs:=cs) (bs:=bs) (mk:=mk) hm.2.1 hc
  have fs:MeR m "split" (.str (S (sentL ds bs cs mk))) [.str (S [13,10])] (.f (vstrs ((List.range 3).map (dueL ds bs cs mk)++endL mk))):=by
   have:=split_r (m:=m) (x:=S (sentL ds bs cs mk)) (y:=S [13,10]) (by rw[S_len];rfl) (by rw[sp,length_map,length_append,length_map,length_range];exact room_of (by show _+5≤_;lia)) (by
    rw[sp,all_eq_true]
    intro p hp
    obtain⟨q,hq,rfl⟩:=mem_map.mp hp
    refine room_of ?_
    rw[S_len]
    rcases mem_append.mp hq with hq|hq
    ·obtain⟨k,_,rfl⟩:=mem_map.mp hq
     have:=(row_len (bs:=bs) P k).2.2
     lia
    ·unfold endL at hq
     simp only[mem_cons,not_mem_nil,or_false]at hq
     rcases hq with rfl|rfl|rfl|rfl|rfl<;>(simp only[length_cons,length_nil];lia))
   rw[sp,map_map]at this
   exact this
  refine' e_cons (by exists z_asn (i:=11) kk (ev_me rfl rfl dd (z_v 10) (ws_cons (ev_strS (y:=S [13,10]) (by rfl) (by kernel_rfl!)) ws_nil rfl) rfl (.cons rfl .nil) fs) rfl .f) ?_
  have sr:∀k:Nat,k<3→SubR m (.lst (vstrs ((List.range 3).map (dueL ds bs cs mk)++endL mk))) (.int k) (.str (S (dueL ds bs cs mk k))):=fun k hk=>sub_v (m:=m) (φ:=fun x=>V.str (S x)) (by
   rw[List.getElem?_append_left (by rw[length_map,length_range];exact hk),getElem?_map,List.getElem?_range hk];rfl)
  have d91:∀k,(bif decide (k∈bs)then ds.getD k 0+1 else ds.getD k 0)≤91:=fun k=>by
   have:=P.d k
   cases decide (k∈bs)
   ·show ds.getD k 0≤91;lia
   ·show ds.getD k 0+1≤91;lia
  have en:nats (sendF ds bs 3)=(List.range 3).map fun k=>V.int (bif decide (k∈bs)then ds.getD k 0+1 else ds.getD k 0:Nat):=map_map
  rw[en]
  exact e_ret (by exists st_ret (ev_comp (c_one (fun(k:Nat)=>V.int k) _ (List.range 3) ⟨by kernel_rfl!,by kernel_rfl!,.inl (by kernel_rfl!),by kernel_rfl!,by kernel_rfl!,rfl⟩ rfl (by exists z_bi kk O (ws_cons (ev_int _ _) ws_nil rfl) (.cons rfl .nil) fr) (its_rng _) (fun x hx=>⟨_,(by exists z_fn kk O (ar_cons (ev_sub (ev_me rfl rfl dd (ev_slice (ev_sub (z_v 13) (z_v 1) rfl rfl (sr x (mem_range.mp hx))) (op_some (z_ite (fun b=> .p (.int (bif b then 0 else 1))) (by exists ts_cmp rfl (z_v 1) (z_v 4) rfl rfl ((in_nats _ _).1)) (by exact(ev_int _ _)) (by exact(ev_int _ _)))) op_none rfl (due_slice P x)) (ws_cons (ev_strS (y:=S [32]) (by rfl) (by kernel_rfl!)) ws_nil rfl) rfl (.cons rfl .nil) (row_split P _ (d91 x) x)) (ev_int _ _) rfl rfl (sub_l (by decide) rfl)) ar_nil rfl rfl) (dots_r O B Fd g T (Nat.le_trans (d91 x) (by decide)))),rfl⟩) (by rw[length_range];lia))) .f)
end
theorem its_down (a b:Int):ItsR (.p (.rng a b (-1))) ((List.range (a-b).toNat).map fun(j:Nat)=>V.int (a-j)):= .r (by
 show(if(-1:Int)=1 then _ else _)=_
 rw[if_neg (by decide),if_pos rfl])
noncomputable def hiF (l:List Int):Int:=(maxI l).getD 0
noncomputable def loF (l:List Int):Int:=(minI l).getD 0
theorem hi_ok (a b c:Int):maxI [a,b,c]=some (hiF [a,b,c]):=rfl
theorem lo_ok (a b c:Int):minI [a,b,c]=some (loF [a,b,c]):=rfl
noncomputable def outF1 (tie:Nat→Nat→Nat) (c:Nat→Bool) (t:Nat):Nat:=if c t then((List.range 3).map fun u=>if c u then 0 else tie t u).sum else 0
noncomputable def dueF1 (tie:Nat→Nat→Nat) (c:Nat→Bool) (t:Nat):Nat:=if c t then 0 else((List.range 3).map fun u=>if c u then tie u t else 0).sum
noncomputable def giveF (tie:Nat→Nat→Nat) (c:Nat→Bool) (t:Nat) (s:List Int×List Int) (o:Nat):List Int×List Int:=if c t&& !c o then(s.1.set t (s.1.getD t 0-tie t o),s.2.set o (s.2.getD o 0+tie t o))else s
theorem give_all (tie:Nat→Nat→Nat) (c:Nat→Bool) (a b e:Int):(List.range 3).foldl (fun s t=>(List.range 3).foldl (giveF tie c t) s) ([a,b,e],[0,0,0])=([a-outF1 tie c 0,b-outF1 tie c 1,e-outF1 tie c 2],[(dueF1 tie c 0:Int),(dueF1 tie c 1:Int),(dueF1 tie c 2:Int)]):=by
 unfold outF1 dueF1
 rw[show List.range 3=[0,1,2]from rfl]
 simp only[foldl_cons,List.foldl_nil,map_cons,List.map_nil,List.sum_cons,List.sum_nil]
 cases h0:c 0<;>cases h1:c 1<;>cases h2:c 2<;>simp only[giveF,h0,h1,h2,Bool.not_true,Bool.not_false,Bool.and_true,Bool.and_false,Bool.true_and,Bool.false_and,if_true,if_false,Bool.false_eq_true,List.set_cons_zero,List.set_cons_succ,List.getD_cons_zero,List.getD_cons_succ]<;>simp<;>lia
noncomputable def cutF (fire:List Int) (lv:Int) (t:Nat):Bool:=decide (fire.getD t 0≥lv)
noncomputable def newF (tie:Nat→Nat→Nat) (c:Nat→Bool) (d:List Nat):List Nat:=(List.range 3).map fun t=>d.getD t 0-outF1 tie c t+dueF1 tie c t
noncomputable def fitF (tie:Nat→Nat→Nat) (c:Nat→Bool) (d:List Nat):Bool:=(List.range 3).all fun t=>decide (outF1 tie c t+1≤d.getD t 0)&&decide (d.getD t 0+dueF1 tie c t≤80)
noncomputable def levF (tie:Nat→Nat→Nat) (fire:List Int) (d:List Nat) (lv:Int):Option (List Nat):=if fitF tie (cutF fire lv) d then some (newF tie (cutF fire lv) d)else none
noncomputable def chainF (tie:Nat→Nat→Nat) (fire:List Int) (d:List Nat):Nat→Option (List Nat)
 |0=>some d
 |i+1=>(chainF tie fire d i).bind fun d=>levF tie fire d (hiF fire-i)
theorem chain_le {tie:Nat→Nat→Nat} {fire:List Int} {d e:List Nat} {n:Nat} (h:chainF tie fire d n=some e):∀i,i≤n→∃d',chainF tie fire d i=some d':=by
 induction n generalizing e with
 |zero=>intro i hi;rw[Nat.le_zero.mp hi];exact⟨_,rfl⟩
 |succ n ih=>
  intro i hi
  obtain⟨d',h1,h2⟩:=Option.bind_eq_some_iff.mp h
  rcases Nat.lt_or_ge i (n+1)with q|q
  ·exact ih h1 i (Nat.le_of_lt_succ q)
  ·rw[Nat.le_antisymm hi q];exact⟨_,h⟩
noncomputable def stepF (need:List Nat) (d:List Nat) (i:Nat):List Nat:=(List.range 3).map fun t=>d.getD t 0+min i (need.getD t 0)
noncomputable def bareF (need:List Nat) (i:Nat):List Nat:=(List.range 3).filter fun t=>decide (i<need.getD t 0)
theorem get3 (f:Nat→Nat) {t:Nat} (h:t<3):((List.range 3).map f).getD t 0=f t:=by
 rw[getD_eq_getElem?_getD,getElem?_map,List.getElem?_range h];rfl
theorem step_send (need d:List Nat) (i:Nat):sendF (stepF need d i) (bareF need i) 3=stepF need d (i+1):=by
 unfold sendF
 refine map_congr_left fun t ht=>?_
 have ht3:=mem_range.mp ht
 rw[show(stepF need d i).getD t 0=d.getD t 0+min i (need.getD t 0)from get3 _ ht3]
 by_cases h:i<need.getD t 0
 ·rw[show decide (t∈bareF need i)=true from decide_eq_true (mem_filter.mpr ⟨ht,decide_eq_true h⟩)]
  show d.getD t 0+min i (need.getD t 0)+1=d.getD t 0+min (i+1) (need.getD t 0)
  rw[Nat.min_eq_left (Nat.le_of_lt h),Nat.min_eq_left h];rfl
 ·rw[show decide (t∈bareF need i)=false from decide_eq_false fun q=>h (of_decide_eq_true (mem_filter.mp q).2)]
  show d.getD t 0+min i (need.getD t 0)=d.getD t 0+min (i+1) (need.getD t 0)
  rw[Nat.min_eq_right (Nat.le_of_not_lt h),Nat.min_eq_right (Nat.le_succ_of_le (Nat.le_of_not_lt h))]
theorem step_fold (need d:List Nat) (tu:Int) (n:Nat):(List.range n).foldl (fun(q:List Nat×Int) i=>(stepF need d (i+1),q.2+1)) (stepF need d 0,tu)=(stepF need d n,tu+n):=by
 induction n with
 |zero=>rw[Int.natCast_zero,Int.add_zero];rfl
 |succ n ih=>
  rw[List.range_succ,List.foldl_append,ih,foldl_cons,List.foldl_nil]
  exact congrArg (Prod.mk _) (by rw[Int.natCast_succ,Int.add_assoc])
theorem len3 {α:Type} {l:List α} (h:l.length=3):∃a b c,l=[a,b,c]:=by
 cases l with
 |nil=>cases h
 |cons a l=>
  cases l with
  |nil=>cases h
  |cons b l=>
   cases l with
   |nil=>cases h
   |cons c l=>
    cases l with
    |nil=>exact⟨a,b,c,rfl⟩
    |cons d l=>simp at h
noncomputable def midF (tie:Nat→Nat→Nat) (c:Nat→Bool) (d:List Nat):List Nat:=(List.range 3).map fun t=>d.getD t 0-outF1 tie c t
noncomputable def needF (tie:Nat→Nat→Nat) (c:Nat→Bool):List Nat:=(List.range 3).map (dueF1 tie c)
noncomputable def topF (need:List Nat):Nat:=max (max (need.getD 0 0) (need.getD 1 0)) (need.getD 2 0)
theorem max_top (a b c:Nat):maxI ([(a:Int),b,c])=some ((topF [a,b,c]:Nat):Int):=by
 show some (if(c:Int)>(if(b:Int)>a then(b:Int)else a)then(c:Int)else(if(b:Int)>a then(b:Int)else a))=some ((max (max a b) c:Nat):Int)
 congr 1
 split<;>split<;>lia
theorem mid_step (tie:Nat→Nat→Nat) (c:Nat→Bool) (d:List Nat):midF tie c d=stepF (needF tie c) (midF tie c d) 0:=by
 show _=(List.range 3).map _
 unfold midF
 refine map_congr_left fun t ht=>?_
 rw[get3 _ (mem_range.mp ht),Nat.zero_min,Nat.add_zero]
theorem le_top {l:List Nat} {t:Nat} (h:t<3):l.getD t 0≤topF l:=by
 unfold topF
 have:t=0∨t=1∨t=2:=by lia
 rcases this with rfl|rfl|rfl<;>lia
theorem new_step (tie:Nat→Nat→Nat) (c:Nat→Bool) (d:List Nat):stepF (needF tie c) (midF tie c d) (topF (needF tie c))=newF tie c d:=by
 unfold stepF newF
 refine map_congr_left fun t ht=>?_
 have h:=mem_range.mp ht
 rw[Nat.min_eq_right (le_top h),show(midF tie c d).getD t 0=_ from get3 _ h,show(needF tie c).getD t 0=_ from get3 _ h]
theorem step_bd {tie:Nat→Nat→Nat} {c:Nat→Bool} {d:List Nat} (h:fitF tie c d=true) (i k:Nat):(stepF (needF tie c) (midF tie c d) i).getD k 0≤80∧(k<3→1≤(stepF (needF tie c) (midF tie c d) i).getD k 0):=by
 by_cases hk:k<3
 ·have h1:=all_eq_true.mp h k (mem_range.mpr hk)
  rw[Bool.and_eq_true]at h1
  have h2:=of_decide_eq_true h1.1
  have h3:=of_decide_eq_true h1.2
  rw[show(stepF (needF tie c) (midF tie c d) i).getD k 0=_ from get3 _ hk,show(midF tie c d).getD k 0=_ from get3 _ hk,show(needF tie c).getD k 0=_ from get3 _ hk]
  have:=Nat.min_le_right i (dueF1 tie c k)
  exact⟨by lia,fun ux=>by lia⟩
 ·refine⟨?_,fun q=>absurd q hk⟩
  rw[getD_eq_getElem?_getD,List.getElem?_eq_none (by show 3≤k;lia)]
  exact Nat.zero_le _
theorem top_bd {tie:Nat→Nat→Nat} {c:Nat→Bool} {d:List Nat} (h:fitF tie c d=true):topF (needF tie c)≤80:=by
 have q:∀t,t<3→(needF tie c).getD t 0≤80:=fun t ht=>by
  have h1:=all_eq_true.mp h t (mem_range.mpr ht)
  rw[Bool.and_eq_true]at h1
  have h3:=of_decide_eq_true h1.2
  rw[show(needF tie c).getD t 0=_ from get3 _ ht];lia
 have a:=q 0 (by decide);have b:=q 1 (by decide);have c:=q 2 (by decide)
 unfold topF;lia
noncomputable abbrev tieL (l:List (List Nat)) (i j:Nat):Nat:=(l.getD i []).getD j 0
section
variable {m:Mod} {k:Nat} {ns:Names} {Γ:Gam} {hs:HS} {pos:Pos}
theorem z_no {t:Expr} {b:List Stmt} (h1:TsR m k ns Γ hs t false hs):StR m k ns Γ hs (.If t b [] pos) .nx Γ hs:=st_if h1 x_nil
end
section
variable {m:Mod} {k:Nat} {hs:HS} (O:m.Ok) (B:m.Bs) {cs:List (List Nat)} {mk:Nat}
include O B
theorem way_r (F:FnH2 m "_law_way") (F1:FnH2 m "_law_send") (Ft:FnH2 m "ISTERMINAL") (gt:GlI m "NT_OFFSET" 256) (Fq:FnH2 m "quotedata") (Fd:FnH2 m "_law_dots") (Q:QdH m) (g:GlT m) (T:TokOK m tokN)
 (PS:∀ds:List Nat,ds.length=3→(∀k,ds.getD k 0≤90)→SendP ds cs mk) {start goal:List Nat} {f0 f1 f2 t:Int} {ties:List (List Nat)} (h3:start.length=3) (g3:goal.length=3) (gb:∀k,goal.getD k 0≤80) (t3:ties.length=3) (r3:∀i,i<3→(ties.getD i []).length=3)
 (sm1:small (hiF [f0,f1,f2])=true) (sm2:small (loF [f0,f1,f2])=true)
 (hc:chainF (tieL ties) [f0,f1,f2] (start.map (· +1)) (hiF [f0,f1,f2]-loF [f0,f1,f2]).toNat=some (goal.map (· +1))):
 FnR m (k+3) hs "_law_way" [.lst (nats start),.lst (nats goal),.lst (vints [f0,f1,f2]),.lst (vnn ties),.lst (vstrs cs),.int t,.str (S [mk])] (.p (.bool true)) hs:=by
 have hb:(P2 "_law_way").body=(P2 "_law_way").body:=rfl
 conv at hb=>rhs;whnf
 have hn:(P2 "_law_way").scope.names=(P2 "_law_way").scope.names:=rfl
 conv at hn=>rhs;whnf
 refine z_def (nm:=["start","goal","fire","ties","signs","turn","mark","dots","level","need","town","other","step","bare"]) (sl0:=[.any,.any,.any,.any,.any,.any,.any,.any,.any,.any,.any,.any,.any,.any]) (ps:=["start","goal","fire","ties","signs","turn","mark"]) O F (by kernel_rfl!) hb hn rfl (z_par (i:=0) (by kernel_rfl!) (z_par (i:=1) (by kernel_rfl!) (z_par (i:=2) (by kernel_rfl!) (z_par (i:=3) (by kernel_rfl!) (z_par (i:=4) (by kernel_rfl!) (z_par (i:=5) (by kernel_rfl!) (z_par (i:=6) (by kernel_rfl!) .nil))))))) rfl ?_ (by kernel_rfl!)
 clear hb hn
 have c1:∀x:Nat,BinR m .Add (.int 1) (.int x) (.p (.int ((x+1:Nat):Int))):=fun x=>by
  have:=add_r (m:=m) (a:=1) (b:=(x:Int))
  rw[show(1+(x:Int))=((x+1:Nat):Int) by lia]at this
  exact this
 have emap:∀l:List Nat,nats (l.map (· +1))=l.map fun x=>V.int ((x+1:Nat):Int):=fun l=>map_map
 have fmax:=max_r (m:=m) (f:="max") B.max (hi_ok f0 f1 f2)
 have fmin:=min_r (m:=m) (f:="min") B.min (lo_ok f0 f1 f2)
 refine e_cons (hs1:=hs) (Γ1:=Gz ["start","goal","fire","ties","signs","turn","mark","dots","level","need","town","other","step","bare"] [.p (.lst (nats start)),.p (.lst (nats goal)),.p (.lst (vints [f0,f1,f2])),.p (.lst (vnn ties)),.p (.lst (vstrs cs)),.p (.int t),.p (.str (S [mk])),.o (nats (start.map (· +1))),.any,.any,.any,.any,.any,.any]) (by
  rw[emap]
  exact(by exists z_asnc (i:=7) kk (c_one (fun(x:Nat)=>V.int x) (fun x=>V.int ((x+1:Nat):Int)) start ⟨by kernel_rfl!,by kernel_rfl!,.inl (by kernel_rfl!),by kernel_rfl!,by kernel_rfl!,rfl⟩ rfl (by exact(z_v 0)) .l (fun x hx=>⟨_,(by exists ev_bin (ev_int _ _) (z_v 1) rfl rfl (c1 x)),rfl⟩) (by lia)) .o)) ?_
 refine z_forj 8 (fun(i:Nat)=>V.int (hiF [f0,f1,f2]-i)) (fun sl (j:Slot×Slot×Slot×Slot×Slot) (s:List Nat×Int)=>[.p (.lst (nats start)),.p (.lst (nats goal)),.p (.lst (vints [f0,f1,f2])),.p (.lst (vnn ties)),.p (.lst (vstrs cs)),.p (.int s.2),.p (.str (S [mk])),.o (nats s.1),sl,j.1,j.2.1,j.2.2.1,j.2.2.2.1,j.2.2.2.2])
  (fun s i=>(newF (tieL ties) (cutF [f0,f1,f2] (hiF [f0,f1,f2]-i)) s.1,s.2+(topF (needF (tieL ties) (cutF [f0,f1,f2] (hiF [f0,f1,f2]-i))):Int))) (fun i s=>chainF (tieL ties) [f0,f1,f2] (start.map (· +1)) i=some s.1∧s.1.length=3) (List.range (hiF [f0,f1,f2]-loF [f0,f1,f2]).toNat) .any (.any,.any,.any,.any,.any) (start.map (· +1),t)
  (by kernel_rfl!) rfl (by exists z_bi kk O (ws_cons (z_bi kk O (ws_cons (z_v 2) ws_nil rfl) (.cons rfl .nil) fmax) (ws_cons (z_bi kk O (ws_cons (z_v 2) ws_nil rfl) (.cons rfl .nil) fmin) (ws_cons (ev_neg (ev_int _ _)) ws_nil rfl) rfl) rfl) (.cons rfl (.cons rfl (.cons rfl .nil))) (range3 B.range sm1 sm2)) rfl (its_down _ _) (fun ux ux ux ux=>rfl) ⟨rfl,by rw[length_map];exact h3⟩ (fun n i hi j s hp=>?_) (fun sl j hp=>?_)
 ·have hn:=(List.getElem?_eq_some_iff.mp hi).1
  rw[length_range]at hn
  have hin:i=n:=by rw[List.getElem?_range hn]at hi;exact(Option.some.inj hi).symm
  subst hin
  obtain⟨d,tu⟩:=s
  obtain⟨p1,p2⟩:=hp
  have p1:chainF (tieL ties) [f0,f1,f2] (start.map (· +1)) i=some d:=p1
  have p2:d.length=3:=p2
  obtain⟨d',e1⟩:=chain_le hc (i+1) hn
  have e2:levF (tieL ties) [f0,f1,f2] d (hiF [f0,f1,f2]-i)=some d':=by
   have:(chainF (tieL ties) [f0,f1,f2] (start.map (· +1)) i).bind (fun d=>levF (tieL ties) [f0,f1,f2] d (hiF [f0,f1,f2]-i))=some d':=e1
   rw[p1]at this;exact this
  have e3:fitF (tieL ties) (cutF [f0,f1,f2] (hiF [f0,f1,f2]-i)) d=true∧d'=newF (tieL ties) (cutF [f0,f1,f2] (hiF [f0,f1,f2]-i)) d:=by
   unfold levF at e2
   by_cases q:fitF (tieL ties) (cutF [f0,f1,f2] (hiF [f0,f1,f2]-i)) d=true
   ·rw[if_pos q]at e2;exact⟨q,(Option.some.inj e2).symm⟩
   ·rw[if_neg q]at e2;cases e2
  obtain⟨fit,e4⟩:=e3
  rw[e4]at e1
  clear e4 e2 d' hc p1
  have hfin:chainF (tieL ties) [f0,f1,f2] (start.map (· +1)) (i+1)=some (newF (tieL ties) (cutF [f0,f1,f2] (hiF [f0,f1,f2]-i)) d)∧(newF (tieL ties) (cutF [f0,f1,f2] (hiF [f0,f1,f2]-i)) d).length=3:=⟨e1,rfl⟩
  clear e1
  show(∃j',XR _ _ _ (Gz _ [_,_,_,_,_,.p (.int tu),_,.o (nats d),_,_,_,_,_,_]) _ _ _ (Gz _ [_,_,_,_,_,_,_,_,_,_,_,_,_,_]) _)∧(chainF (tieL ties) [f0,f1,f2] (start.map (· +1)) (i+1)=some (newF (tieL ties) (cutF [f0,f1,f2] (hiF [f0,f1,f2]-i)) d)∧(newF (tieL ties) (cutF [f0,f1,f2] (hiF [f0,f1,f2]-i)) d).length=3)
  have sf:∀u:Nat,u<3→SubR m (.lst (vints [f0,f1,f2])) (.int u) (.int ([f0,f1,f2].getD u 0)):=fun u hu=>sub_d (φ:=V.int) 0 hu
  obtain⟨lv,hlv⟩:∃lv,lv=hiF [f0,f1,f2]-i:=⟨_,rfl⟩
  rw[←hlv]at fit hfin ⊢
  clear hlv hi hn
  refine xj_cons (by exists z_asn (i:=9) kk (ev_list (ar_cons (ev_int _ _) (ar_cons (ev_int _ _) (ar_cons (ev_int _ _) ar_nil rfl rfl) rfl rfl) rfl rfl) kk) rfl .o) ?_
  rw[nats_vints d]
  refine x_forj (J:=Slot) 10 (fun(u:Nat)=>V.int u) (fun sl j' (q:List Int×List Int)=>[.p (.lst (nats start)),.p (.lst (nats goal)),.p (.lst (vints [f0,f1,f2])),.p (.lst (vnn ties)),.p (.lst (vstrs cs)),.p (.int tu),.p (.str (S [mk])),.o (vints q.1),.p (.int lv),.o (vints q.2),sl,j',j.2.2.2.1,j.2.2.2.2]) (fun q u=>(List.range 3).foldl (giveF (tieL ties) (cutF [f0,f1,f2] lv) u) q) (fun ux q=>q.1.length=3∧q.2.length=3) (List.range 3) j.2.1 j.2.2.1 (d.map Int.ofNat,[0,0,0])
   (by kernel_rfl!) rfl (by exists z_bi kk O (ws_cons (ev_int _ _) ws_nil rfl) (.cons rfl .nil) (range1 B.range (by decide))) rfl (its_rng 3) (fun ux ux ux ux=>rfl) ⟨by rw[length_map];exact p2,rfl⟩ (fun n u hu j' q hq=>?_) (fun sl j' hq=>?_)
  ·have hu:=mem_range.mp (mem_of_getElem? hu)
   refine x_forj (J:=Unit) 11 (fun(u:Nat)=>V.int u) (fun sl ux (q:List Int×List Int)=>[.p (.lst (nats start)),.p (.lst (nats goal)),.p (.lst (vints [f0,f1,f2])),.p (.lst (vnn ties)),.p (.lst (vstrs cs)),.p (.int tu),.p (.str (S [mk])),.o (vints q.1),.p (.int lv),.o (vints q.2),.p (.int u),sl,j.2.2.2.1,j.2.2.2.2]) (giveF (tieL ties) (cutF [f0,f1,f2] lv) u) (fun ux q=>q.1.length=3∧q.2.length=3) (List.range 3) j' () q
    (by kernel_rfl!) rfl (by exists z_bi kk O (ws_cons (ev_int _ _) ws_nil rfl) (.cons rfl .nil) (range1 B.range (by decide))) rfl (its_rng 3) (fun ux ux ux ux=>rfl) hq (fun n o ho ux q hq=>?_) (fun sl ux hq=>⟨⟨sl,x_nil⟩,hq⟩)
   have ho:=mem_range.mp (mem_of_getElem? ho)
   obtain⟨q1,q2⟩:=q
   obtain⟨hq1,hq2⟩:=hq
   have hq1:q1.length=3:=hq1
   have hq2:q2.length=3:=hq2
   have st1:SubR m (.lst (vnn ties)) (.int u) (.lst (nats (ties.getD u []))):=sub_d (φ:=fun a=>V.lst (nats a)) [] (by rw[t3];exact hu)
   have st2:SubR m (.lst (nats (ties.getD u []))) (.int o) (.int (tieL ties u o:Nat)):=sub_d (φ:=fun(j:Nat)=>V.int j) 0 (by rw[r3 u hu];exact ho)
   refine⟨⟨(),x_cons (z_if (c:=cutF [f0,f1,f2] lv u&& !cutF [f0,f1,f2] lv o) (ts_and (by exists ts_cmp rfl (ev_sub (z_v 2) (z_v 10) rfl rfl (sf u hu)) (z_v 8) rfl rfl ge_r) (fun ux=>?_)) (fun h=>?_) (fun h=>?_)) x_nil⟩,?_⟩
   ·rw[show(!cutF [f0,f1,f2] lv o)=decide ([f0,f1,f2].getD o 0<lv) by unfold cutF;rw[←decide_not,decide_eq_decide];exact Int.not_le]
    exact(by exists ts_cmp rfl (ev_sub (z_v 2) (z_v 11) rfl rfl (sf o ho)) (z_v 8) rfl rfl lt_r)
   ·unfold giveF
    rw[if_pos h]
    have v1:(vints q1)[((u:Nat):Int).toNat]? =some (.int (q1.getD u 0)):=by
     (simp only[Int.toNat_natCast,getElem?_map,getD_eq_getElem?_getD];rw[getElem?_eq_getElem (by rw[hq1];exact hu)]);rfl
    have v2:(vints q2)[((o:Nat):Int).toNat]? =some (.int (q2.getD o 0)):=by
     (simp only[Int.toNat_natCast,getElem?_map,getD_eq_getElem?_getD];rw[getElem?_eq_getElem (by rw[hq2];exact ho)]);rfl
    show XR _ _ _ _ _ _ _ (Gz _ [_,_,_,_,_,_,_,.o (vints (q1.set u (q1.getD u 0-(tieL ties u o:Int)))),_,.o (vints (q2.set o (q2.getD o 0+(tieL ties u o:Int)))),_,_,_,_]) _
    rw[show vints (q1.set u (q1.getD u 0-(tieL ties u o:Int)))=(vints q1).set ((u:Nat):Int).toNat (.int (q1.getD u 0-(tieL ties u o:Int))) by rw[Int.toNat_natCast];exact List.map_set,show vints (q2.set o (q2.getD o 0+(tieL ties u o:Int)))=(vints q2).set ((o:Nat):Int).toNat (.int (q2.getD o 0+(tieL ties u o:Int))) by rw[Int.toNat_natCast];exact List.map_set]
    refine x_cons (by exists z_augs (i:=7) kk rfl (z_v 10) rfl (Int.natCast_nonneg _) v1 (ev_sub (ev_sub (z_v 3) (z_v 10) rfl rfl st1) (z_v 11) rfl rfl st2) isub_r) ?_
    exact x_cons (by exists z_augs (i:=9) kk rfl (z_v 11) rfl (Int.natCast_nonneg _) v2 (ev_sub (ev_sub (z_v 3) (z_v 10) rfl rfl st1) (z_v 11) rfl rfl st2) iadd_r) x_nil
   ·unfold giveF
    rw[if_neg (by rw[h];exact Bool.false_ne_true)]
    exact x_nil
   ·unfold giveF
    split
    ·exact⟨by show(List.set _ _ _).length=3;rw[length_set];exact hq1,by show(List.set _ _ _).length=3;rw[length_set];exact hq2⟩
    ·exact⟨hq1,hq2⟩
  ·have hsum:(List.range 3).foldl (fun q u=>(List.range 3).foldl (giveF (tieL ties) (cutF [f0,f1,f2] lv) u) q) (d.map Int.ofNat,[0,0,0])=((midF (tieL ties) (cutF [f0,f1,f2] lv) d).map Int.ofNat,(needF (tieL ties) (cutF [f0,f1,f2] lv)).map Int.ofNat):=by
    obtain⟨a,b,e,rfl⟩:=len3 p2
    have h1:=fun u hu=>of_decide_eq_true (Bool.and_eq_true _ _▸all_eq_true.mp fit u (mem_range.mpr hu)).1
    have e0:=h1 0 (by decide);have e1:=h1 1 (by decide);have e2:=h1 2 (by decide)
    have e0:outF1 (tieL ties) (cutF [f0,f1,f2] lv) 0+1≤a:=e0
    have e1:outF1 (tieL ties) (cutF [f0,f1,f2] lv) 1+1≤b:=e1
    have e2:outF1 (tieL ties) (cutF [f0,f1,f2] lv) 2+1≤e:=e2
    refine(give_all (tieL ties) (cutF [f0,f1,f2] lv) a b e).trans ?_
    show _=([((a-outF1 (tieL ties) (cutF [f0,f1,f2] lv) 0:Nat):Int),((b-outF1 (tieL ties) (cutF [f0,f1,f2] lv) 1:Nat):Int),((e-outF1 (tieL ties) (cutF [f0,f1,f2] lv) 2:Nat):Int)],_)
    rw[Int.ofNat_sub (Nat.le_of_succ_le e0),Int.ofNat_sub (Nat.le_of_succ_le e1),Int.ofNat_sub (Nat.le_of_succ_le e2)]
    rfl
   rw[hsum]
   show(∃j2,XR _ _ _ (Gz _ [_,_,_,_,_,_,_,.o (vints ((midF (tieL ties) (cutF [f0,f1,f2] lv) d).map Int.ofNat)),_,.o (vints ((needF (tieL ties) (cutF [f0,f1,f2] lv)).map Int.ofNat)),_,_,_,_]) _ _ _ _ _)∧_
   rw[←nats_vints,←nats_vints,mid_step]
   have bd:=step_bd fit
   have tb:=top_bd fit
   have hnew:=new_step (tieL ties) (cutF [f0,f1,f2] lv) d
   have hn3:(needF (tieL ties) (cutF [f0,f1,f2] lv)).length=3:=rfl
   have hmx:BiR m "max" [.lst (nats (needF (tieL ties) (cutF [f0,f1,f2] lv)))] (.p (.int (topF (needF (tieL ties) (cutF [f0,f1,f2] lv)):Nat))):=by
    rw[nats_vints]
    exact max_r B.max (max_top _ _ _)
   have hfold:=step_fold (needF (tieL ties) (cutF [f0,f1,f2] lv)) (midF (tieL ties) (cutF [f0,f1,f2] lv) d) tu (topF (needF (tieL ties) (cutF [f0,f1,f2] lv)))
   generalize newF (tieL ties) (cutF [f0,f1,f2] lv) d=nw at hfin hnew ⊢
   generalize needF (tieL ties) (cutF [f0,f1,f2] lv)=nd at*
   generalize midF (tieL ties) (cutF [f0,f1,f2] lv) d=md at*
   clear fit hsum hq
   refine x_forj (J:=Slot) 12 (fun(u:Nat)=>V.int u) (fun sl' jb (q:List Nat×Int)=>[.p (.lst (nats start)),.p (.lst (nats goal)),.p (.lst (vints [f0,f1,f2])),.p (.lst (vnn ties)),.p (.lst (vstrs cs)),.p (.int q.2),.p (.str (S [mk])),.o (nats q.1),.p (.int lv),.o (nats nd),sl,j',sl',jb]) (fun q i=>(stepF nd md (i+1),q.2+1)) (fun i q=>q.1=stepF nd md i) (List.range (topF nd)) j.2.2.2.1 j.2.2.2.2 (stepF nd md 0,tu)
    (by kernel_rfl!) rfl (by exists z_bi kk O (ws_cons (z_bi kk O (ws_cons (z_v 9) ws_nil rfl) (.cons rfl .nil) hmx) ws_nil rfl) (.cons rfl .nil) (range1 B.range (small_nat (by lia)))) rfl (its_rng _) (fun ux ux ux ux=>rfl) rfl (fun n i hi jb q hq=>⟨⟨.p (.lst (nats (bareF nd i))),?_⟩,?_⟩) (fun sl' jb hq=>?_)
   ·have hin:i=n:=by
     have h:=(List.getElem?_eq_some_iff.mp hi).1
     rw[length_range]at h
     rw[List.getElem?_range h]at hi;exact(Option.some.inj hi).symm
    subst hin
    obtain⟨q1,q2⟩:=q
    have hq:q1=stepF nd md i:=hq
    subst hq
    have f1:∀x:Nat,x<3→FnR m (k+2) hs "ISTERMINAL" [.int (256-(nd.getD x 0:Nat)+(i:Int))] (.p (.bool (decide (i<nd.getD x 0)))) hs:=fun x hx=>by
     have:=isterm_r (k:=k+1) (hs:=hs) O B Ft gt (256-(nd.getD x 0:Nat)+(i:Int))
     rw[show decide (256-(nd.getD x 0:Int)+(i:Int)<256)=decide (i<nd.getD x 0) by rw[decide_eq_decide];lia]at this
     exact this
    have sn:∀x:Nat,x<3→SubR m (.lst (nats nd)) (.int x) (.int (nd.getD x 0:Nat)):=fun x hx=>sub_d (φ:=fun(j:Nat)=>V.int j) 0 (by rw[hn3];exact hx)
    have f6:=send_r (k:=k) (hs:=hs) (t:=q2) (bs:=bareF nd i) O B F1 Fq Fd Q g T (PS (stepF nd md i) rfl fun k=>Nat.le_trans (bd i k).1 (by decide)) fun k hk=>(bd i k).2 (mem_range.mp (mem_filter.mp hk).1)
    rw[step_send]at f6
    have f7:CmpR m .Eq (.lst (nats (stepF nd md (i+1)))) (.lst []) false:=(eq_nil_nats (m:=m) (stepF nd md (i+1))).1
    refine x_cons (by exists z_asnc (i:=13) kk (c_if (fun(u:Nat)=>V.int u) (fun(u:Nat)=>V.int u) (fun u=>decide (i<nd.getD u 0)) (List.range 3) ⟨by kernel_rfl!,by kernel_rfl!,.inl (by kernel_rfl!),by kernel_rfl!,by kernel_rfl!,rfl⟩ rfl (by exists z_bi kk O (ws_cons (ev_int _ _) ws_nil rfl) (.cons rfl .nil) (range1 B.range (by decide))) (its_rng 3) (fun x hx=>⟨(by exists ts_cmp rfl (z_fn kk O (ar_cons (ev_bin (ev_bin (ev_int _ _) (ev_sub (z_v 11) (z_v 1) rfl rfl (sn x (mem_range.mp hx))) rfl rfl sub_r) (z_v 14) rfl rfl add_r) ar_nil rfl rfl) (f1 x (mem_range.mp hx))) (ev_bool _ _) rfl rfl (is_tt _)),fun ux=>⟨_,(by exact(z_v 1)),rfl⟩⟩) (by decide)) .f) ?_
    refine x_cons (by exists z_frz (x:="dots") (i:=7) kk rfl (z_asn (i:=7) kk (z_fn kk O (ar_cons (z_v 7) (ar_cons (z_v 4) (ar_cons (z_v 13) (ar_cons (z_v 5) (ar_cons (z_v 6) ar_nil rfl rfl) rfl rfl) rfl rfl) rfl rfl) rfl rfl) f6) rfl .o)) ?_
    refine x_cons (z_no (by exists ts_cmp rfl (z_v 7) (ev_list ar_nil kk) rfl rfl f7)) ?_
    exact x_cons (by exists z_aug (i:=5) kk rfl (ev_int _ _) iadd_r) x_nil
   ·have hin:i=n:=by
     have h:=(List.getElem?_eq_some_iff.mp hi).1
     rw[length_range]at h
     rw[List.getElem?_range h]at hi;exact(Option.some.inj hi).symm
    rw[hin]
   ·rw[hfold,hnew]
    exact⟨⟨(.o (nats nd),sl,j',sl',jb),x_nil⟩,hfin⟩
 ·rw[length_range,hc]at hp
  generalize List.foldl _ (start.map (· +1),t) _=sN at hp ⊢
  obtain⟨dN,tN⟩:=sN
  have e:dN=goal.map (· +1):=(Option.some.inj hp.1).symm
  subst e
  clear hp
  have c2:∀x:Nat,BinR m .Add (.int 2) (.int x) (.p (.int ((x+2:Nat):Int))):=fun x=>by
   have:=add_r (m:=m) (a:=2) (b:=(x:Int))
   rw[show(2+(x:Int))=((x+2:Nat):Int) by lia]at this
   exact this
  have emap2:∀l:List Nat,nats (l.map (· +2))=l.map fun x=>V.int ((x+2:Nat):Int):=fun l=>map_map
  have eqn:∀l:List Nat,CmpR m .NotEq (.lst (nats l)) (.lst (nats l)) false∧CmpR m .Eq (.lst (nats l)) (.lst (nats l)) true:=fun l=>by
   have:=eq_r (m:=m) (beq_ints (l.map Int.ofNat) (l.map Int.ofNat))
   rw[decide_eq_true rfl,←nats_vints]at this
   exact⟨this.2,this.1⟩
  have f1:=(eqn (goal.map (· +1))).1
  have f8:=(eqn (goal.map (· +2))).2
  have hsnd:sendF (goal.map (· +1)) [0,1,2] 3=goal.map (· +2):=by
   obtain⟨a,b,c,rfl⟩:=len3 g3
   rfl
  have gb1:∀k,(goal.map (· +1)).getD k 0≤81:=fun k=>by
   rcases Nat.lt_or_ge k goal.length with h|h
   ·rw[getD_eq_getElem?_getD,getElem?_map,getElem?_eq_getElem h]
    have:=gb k
    rw[getD_eq_getElem?_getD,getElem?_eq_getElem h]at this
    exact Nat.succ_le_succ this
   ·rw[getD_eq_getElem?_getD,List.getElem?_eq_none (by rw[length_map];exact h)];exact Nat.zero_le _
  have f6:=send_r (k:=k) (hs:=hs) (t:=tN) (bs:=[0,1,2]) O B F1 Fq Fd Q g T (PS (goal.map (· +1)) (by rw[length_map];exact g3) fun k=>Nat.le_trans (gb1 k) (by decide)) fun k hk=>by
   have hk3:k<3:=by simp at hk;lia
   rw[getD_eq_getElem?_getD,getElem?_map,getElem?_eq_getElem (by rw[g3];exact hk3)]
   exact Nat.succ_le_succ (Nat.zero_le _)
  rw[hsnd]at f6
  rw[emap]at f1
  rw[emap2]at f8
  rw[emap2]at f6
  show XE _ _ _ (Gz _ [_,_,_,_,_,.p (.int tN),_,.o (nats (goal.map (· +1))),_,_,_,_,_,_]) _ _ _ _
  rw[emap goal]
  refine e_iff (by exists ts_cmp rfl (z_v 7) (ev_comp (c_one (fun(x:Nat)=>V.int x) (fun x=>V.int ((x+1:Nat):Int)) goal ⟨by kernel_rfl!,by kernel_rfl!,.inl (by kernel_rfl!),by kernel_rfl!,by kernel_rfl!,rfl⟩ rfl (by exact(z_v 1)) .l (fun x hx=>⟨_,(by exists ev_bin (ev_int _ _) (z_v 1) rfl rfl (c1 x)),rfl⟩) (by lia))) rfl rfl f1) ?_
  rw[←emap goal]
  refine' e_ret (z_frz (x:="dots") (i:=7) (by kernel_rfl!) rfl ?zz)
  case zz=>exact(by exists st_ret (ev_cmp rfl (z_fn kk O (ar_cons (z_v 7) (ar_cons (z_v 4) (ar_cons (ev_list (ar_cons (ev_int _ _) (ar_cons (ev_int _ _) (ar_cons (ev_int _ _) ar_nil rfl rfl) rfl rfl) rfl rfl) kk) (ar_cons (z_v 5) (ar_cons (z_v 6) ar_nil rfl rfl) rfl rfl) rfl rfl) rfl rfl) rfl rfl) f6) (ev_comp (c_one (fun(x:Nat)=>V.int x) (fun x=>V.int ((x+2:Nat):Int)) goal ⟨by kernel_rfl!,by kernel_rfl!,.inl (by kernel_rfl!),by kernel_rfl!,by kernel_rfl!,rfl⟩ rfl (by exact(z_v 1)) .l (fun x hx=>⟨_,(by exists ev_bin (ev_int _ _) (z_v 1) rfl rfl (c2 x)),rfl⟩) (by lia))) rfl rfl f8) .p)
end
section
variable {m:Mod} {k:Nat} {ns:Names} {hs:HS} {x y:Str} {nm:List Str} {sl:List Slot} {px py tp:Pos} {tc:Nat} {elt:Expr}
theorem turn_tup {K:Gam→HS→List V→HS→Prop} {u v ψ:V} {w:W} (n1:(x==(".0":Str))=false) (n2:(y==(".0":Str))=false) (n3:(y==x)=false) (hK:K=GenR m k ns elt []) (h:EvR m k ns (Gz (cn2 x y nm) (cs2 (.p u) (.p v) sl)) hs elt w hs) (hw:w.esc=some ψ):
 TurnR m k ns (.Tuple [.Name x px,.Name y py] tc tp) [] K (Gz (cn2 x y nm) (cs2 .any .any sl)) (.tup [u,v]) hs [ψ] hs:=by
 subst hK
 have ix:Ix x (cn2 x y nm) 1:= .miss n1 (.hit (by simp))
 have iy:Ix y (cn2 x y nm) 2:= .miss n2 (.miss n3 (.hit (by simp)))
 refine⟨Gz (cn2 x y nm) (cs2 (.p u) (.p v) sl),true,hs,?_,ifs_nil,⟨w,_,h,hw,rfl⟩⟩
 refine .tup (.cons ?_)
 rw[gz_set ix]
 refine .cons ?_
 rw[gz_set iy]
 exact .nil
theorem any_two (n1:(x==(".0":Str))=false) (n2:(y==(".0":Str))=false) (n3:(y==x)=false):anyT (Gz (cn2 x y nm) (cs2 .any .any sl)) (.Tuple [.Name x px,.Name y py] tc tp):=fun z hz=>by
 have ix:Ix x (cn2 x y nm) 1:= .miss n1 (.hit (by simp))
 have iy:Ix y (cn2 x y nm) 2:= .miss n2 (.miss n3 (.hit (by simp)))
 have hz:z∈[x,y]:=hz
 rcases mem_cons.mp hz with rfl|hz
 ·exact gz_lookup ix rfl
 ·cases mem_singleton.mp hz;exact gz_lookup iy rfl
end
section
variable {m:Mod} {k:Nat} {hs:HS} {K:Frag} {fc:Addr}
theorem keys_hm (O:m.Ok) (F:ClsRec m.h₀ K m.C "_convert_string_type" fc) {a:Addr} {fd:FuncData} (FR:FnRec m.h₀ a (PC "keys") fd) (hx:findIn K (.ref m.C) "keys"=some (some (.ref a))) (ht:typeIn K (.ref a)=some (.type "function"))
 {r:Nat} {l:List (Str×Str)} (hr:hs[r]? =some l) (hlen:l.length≤100000):
 HmR m (k+1) "keys" r [] hs (.f (l.map fun p=>V.str p.1)) hs:=by
 obtain⟨o,ho,hd⟩:=FR.at_
 have hb:(PC "keys").body=(PC "keys").body:=rfl
 conv at hb=>rhs;whnf
 have hn:(PC "keys").scope.names=(PC "keys").scope.names:=rfl
 conv at hn=>rhs;whnf
 have key:FnOK m (k+1) hs (.ref a) [.hdr r] (.f (l.map fun p=>V.str p.1)) hs:=by
  have:=fn_core (k:=k) (hs:=hs) (hs2:=hs) O FR (args:=[.hdr r]) (Γ:=Gz ["self"] [.p (.hdr r)]) (Γ':=Gz ["self"] [.p (.hdr r)]) (fl:= .rt (.f (l.map fun p=>V.str p.1))) (r:= .f (l.map fun p=>V.str p.1)) ?z1 (by kernel_rfl!) ?z2 (.inl ⟨rfl,pv_map 8 _ _ fun ux ux=>rfl⟩)
  ·simp only[List.take_length]at this;exact this
  case z1=>
   show BindP ["self"] _ (Gz ["self"] [.any]) _
   exact z_par (i:=0) (by kernel_rfl!) .nil
  case z2=>
   rw[hb]
   refine x_stop (st_ret ?y2 .f) (by simp)
   case y2=>
    refine' ev_hcomp F ?d1 (gz_lookup (ix_of (i:=0) (by kernel_rfl!)) rfl) ?d2 hr ?d3 ?d4 ?d5 ?d6 ?em (pv_map 8 _ _ fun ux ux=>rfl) ?d8
    case d1=>kernel_rfl!
    case d2=>kernel_rfl!
    case d3=>
     intro z hz
     have hz:z∈[Str.ofString "k",Str.ofString "v"]:=hz
     rcases mem_cons.mp hz with rfl|hz
     ·exact isV_of (by kernel_rfl!)
     ·cases mem_singleton.mp hz;exact isV_of (by kernel_rfl!)
    case d4=>exact scOk_ok (by kernel_rfl!)
    case d5=>exact any_two (x:="k") (y:="v") (nm:=["self"]) (sl:=[.any]) (by kernel_rfl!) (by kernel_rfl!) (by kernel_rfl!)
    case d6=>exact gz_none (nm:=cn2 "k" "v" ["self"]) (sl:=cs2 .any .any [.any]) (by kernel_rfl!)
    case em=>
     rw[←flat_one]
     refine' map_of (fun(p:Str×Str)=>V.tup [.str p.1,.str p.2]) (fun p=>[V.str p.1]) l (fun p hp=>?_)
     exact turn_tup (x:="k") (y:="v") (nm:=["self"]) (sl:=[.any]) (by kernel_rfl!) (by kernel_rfl!) (by kernel_rfl!) rfl (by exact z_v 1) rfl
    case d8=>
     rw[length_map,sizeLine_eq]
     exact Nat.le_trans hlen (by decide)
 refine⟨a,o,fd,ho,hd,hm_get F hx ht (by decide +kernel),fun A s R i b vals hA hB H hρ hv=>key A s R _ hA hB H ?_⟩
 cases hv
 exact⟨_,_,rfl,⟨i,b,hρ,rfl⟩,rfl⟩
end
noncomputable def metF {K:Type} [DecidableEq K] (val:Nat→K):Nat→List K
 |0=>[]
 |i+1=>if val i∈metF val i then metF val i else metF val i++[val i]
theorem metF_le {K:Type} [DecidableEq K] (val:Nat→K) (i:Nat):(metF val i).length≤i:=by
 induction i with
 |zero=>exact Nat.le_refl _
 |succ i ih=>
  show(if val i∈metF val i then metF val i else metF val i++[val i]).length≤_
  by_cases h:val i∈metF val i
  ·rw[if_pos h];exact Nat.le_succ_of_le ih
  ·rw[if_neg h,length_append];exact Nat.succ_le_succ ih
theorem metF_mem {K:Type} [DecidableEq K] (val:Nat→K) (i:Nat) (q:K):decide (q∈metF val (i+1))=(decide (q∈metF val i)||decide (q=val i)):=by
 show decide (q∈(if val i∈metF val i then metF val i else metF val i++[val i]))=_
 rw[←Bool.decide_or,decide_eq_decide]
 by_cases h:val i∈metF val i
 ·rw[if_pos h]
  exact⟨.inl,fun e=>e.elim id fun e=>e▸h⟩
 ·rw[if_neg h,mem_append,mem_singleton]
theorem metF_len {K:Type} [DecidableEq K] (val:Nat→K) (i:Nat):(metF val (i+1)).length=if decide (val i∈metF val i)=true then(metF val i).length else(metF val i).length+1:=by
 show(if val i∈metF val i then metF val i else metF val i++[val i]).length=_
 by_cases h:val i∈metF val i
 ·rw[if_pos h,if_pos (decide_eq_true h)]
 ·rw[if_neg h,if_neg (by rw[decide_eq_false h];exact Bool.false_ne_true),length_append];rfl
section
variable {prog:Program} {w:World} {A:Around} {R:Result→Shared→Prop} {I:Addr} {fp wr:List Addr} {G:Array GenState→Array GenState→Prop} {n:Nat} {P:Nat→Value→Prop} {St:Nat→Shared→Prop} {K:Type} [DecidableEq K] {knd:KeyKind prog w K}
theorem set_of {h:Heap} {a:Addr} {p p':K→Bool} {n n':Nat} (hS:h.SetOf knd a p n) (e:∀k,p k=p' k) (en:n=n'):h.SetOf knd a p' n':=by
 cases funext e;cases en;exact hS
theorem set_at {h h':Heap} {a:Addr} {p:K→Bool} {n:Nat} (hS:h.SetOf knd a p n) (e:∀o,h.get? a=some o→h'.get? a=some o):h'.SetOf knd a p n:=by
 obtain⟨o,es,ep,t,ho,q⟩:=hS
 exact⟨o,es,ep,t,e o ho,q⟩
theorem set_loop (W:WalksS prog w A.in1 I fp wr G n P St) (a:Addr) (ha:a∉fp) (val:Nat→K) (hval:∀i v,P i v→knd.is (val i) v=true∧v.scannable=true) (hb:n+1<scanBound):
 ∀(j i:Nat) (s:Shared),i+j=n→St i s→s.heap.SetOf knd a (fun q=>decide (q∈metF val i)) (metF val i).length→
  (∀s',Moved (a::wr) G s s'→s'.heap.SetOf knd a (fun q=>decide (q∈metF val n)) (metF val n).length→R (.ok (.ret .none)) s')→
  codeAny (model prog w) A (.builtin "set.update.loop" ⟨[.ref a,.ref I],[]⟩) R s:=by
 have haw:a∉wr:=fun h=>ha (W.sub _ h)
 intro j
 induction j with
 |zero=>
  intro i s hi hst hS hR
  cases hi
  refine codeAny_builtin F.entry_set_update_loop ?_
  rw[Around.under_plainId F.plain_set_update_loop _]
  refine wpAny_bind (W.done s _ _ hst fun s' hm=>?_)
  exact wpAny_pure (hR s' (hm.mono fun b hb=>mem_cons_of_mem _ hb) (set_at hS fun o ho=>hm.heap a o haw ho))
 |succ j ih=>
  intro i s hi hst hS hR
  have hlt:i<n:=by lia
  refine codeAny_builtin F.entry_set_update_loop ?_
  rw[Around.under_plainId F.plain_set_update_loop _]
  refine wpAny_bind (W.item i s _ _ hlt hst fun v s' hP hst' hm=>?_)
  obtain⟨hv1,hv2⟩:=hval i v hP
  have hS':=set_at hS fun o ho=>hm.heap a o haw ho
  show wpAny _ A.in1 (holding [v] (setAdd a v)>>=_) _ _ s'
  refine wpAny_bind (wpAny_holding ?_)
  unfold setAdd
  refine wpAny_holding (wpAny_bind (knd.pyHash hv1 ?_))
  have hroom:(metF val i).length+1<scanBound:=Nat.lt_of_le_of_lt (Nat.succ_le_succ (metF_le val i)) (Nat.lt_of_le_of_lt (Nat.succ_le_succ (Nat.le_of_lt hlt)) hb)
  refine wpAny_setAddHashed_of hv1 hv2 hS' hroom fun h' hsb hS2=>?_
  refine wpAny_pure ⟨plainId_quiet F.plain_set_update_loop _,ih (i+1) _ (by lia) (W.frame _ s' _ _ hst' (Nat.le_succ _) fun b hb o e=>?_) (set_of hS2 (fun q=>(metF_mem val i q).symm) (metF_len val i).symm) fun s2 hm2 hS3=>?_⟩
  ·exact(hsb.2 b fun h=>ha (h▸hb)).trans e
  ·exact hR s2 (Moved.trans W.gtrans ((hm.mono fun b hb=>mem_cons_of_mem _ hb).then_heap (Nat.le_succ _) fun b o hb e=>(hsb.2 b fun h=>hb (h▸mem_cons_self)).trans e) hm2) hS3
end
section
variable {prog:Program} {w:World} {A:Around} {E:Value→Shared→Prop} {s:Shared} {K:Type} [DecidableEq K] {knd:KeyKind prog w K}
noncomputable abbrev newSetO (led:Bool):Obj:={ cls:= .type "set",dict:=none,data:= .set #[] 0 (.fresh 0 0 led) }
set_option maxHeartbeats 4000000 in
theorem call_set_keys {l:Addr} {items:Array Value} (val:Nat→K) (hval:∀i v,items[i]? =some v→knd.is (val i) v=true∧v.scannable=true) {Q:Value→Shared→Prop} (hh:A.handled=none) (hl:s.heap.IsList l items) (hb:items.size+1<scanBound)
 (h:∀(h':Heap) (tk:Nat),h'.SetOf knd s.heap.objs.size (fun q=>decide (q∈metF val items.size)) (metF val items.size).length→
  (∀b o,b<s.heap.objs.size→s.heap.get? b=some o→h'.get? b=some o)→Q (.ref s.heap.objs.size) { s with heap:=h',toks:=tk }):
 wpAny (model prog w) A (call (.type "set") [.ref l]) Q E s:=by
 have⟨c,tl,hmro⟩:=F.called_set.mro
 have hmade:=F.called_set.made
 have hsub:=F.called_set.sub
 have h1:=F.called_set.notType
 have h2:=F.called_set.canCreate
 have hct:=F.typeCall_set_1 (.ref l)
 refine wpAny_call (codeAny_of_tree ?_)
 show wpAny _ _ (callAny (.type "set") _) _ _ _
 refine wpAny_pure ⟨Code.quiet_builtin _ (by decide +kernel),codeAny_builtin F.entry_type_call ?_⟩
 rw[Around.under_plain (weight_type_call_type "set" [.ref l] []) rfl]
 repeat (any_goals (first|assumption|wp_step))
 refine codeAny_mono (code_set_new_1 (.ref l) (E:=E) (Q₁:=fun obj s1=>∃led:Bool,obj= .ref s.heap.objs.size∧s1={ s with heap:=s.heap.push (newSetO led) }) fun led=>⟨led,rfl,rfl⟩) fun r s1 hr=>?_
 cases r with
 |error e=>exact hr
 |ok fl=>
  cases fl with
  |ret obj=>
   obtain⟨led,rfl,rfl⟩:=hr
   have hS:(s.heap.push (newSetO led)).get? s.heap.objs.size=some (newSetO led):=Heap.get?_push_size _ rfl
   have hT:Shared.TypeIs { s with heap:=s.heap.push (newSetO led) } (.ref s.heap.objs.size) "set":=⟨_,hS,rfl⟩
   have hli:=F.called_set.init.lookup
   have hbi:=F.called_set.init.bind (.ref s.heap.objs.size)
   repeat (any_goals (first|assumption|wp_step))
   have hlS:l<s.heap.objs.size:=by obtain⟨ol,hol,_⟩:=hl;exact Heap.lt_size hol
   have hl1:(s.heap.push (newSetO led)).IsList l items:=hl.push _
   refine codeAny_mono (codeAny_call_builtin (R:=wants (fun r s2=>r= .none∧∃h' tk,s2={ s with heap:=h',toks:=tk }∧h'.SetOf knd s.heap.objs.size (fun q=>decide (q∈metF val items.size)) (metF val items.size).length∧
    (∀b o,b<s.heap.objs.size→s.heap.get? b=some o→h'.get? b=some o)) E) F.called_set.init.plain F.entry_set_init (check_set_init_1 hT ?_)) fun r2 s2 hr2=>?_
   ·obtain⟨ol,hol,hcl,nl,hdl⟩:=hl1
    obtain⟨ocls,odict,odata,oslots⟩:=ol
    dsimp only at hcl hdl
    subst hcl hdl
    have hl2:(s.heap.push (newSetO led)).IsList l items:=⟨_,hol,rfl,nl,rfl⟩
    have q1:=F.sub_list_set
    have q2:=F.sub_list_frozenset
    have q3:(Value.type "list"==Value.type "dict")=false:=by decide
    unfold Builtin.«set.__init__» noKeywords Builtin.Frozenset.updateFrom
    generalize hPI:pyIter=PI
    wp_walk
    subst hPI
    refine wpAny_pyIter_list hl2 ?_
    refine wpAny_bind (wpAny_runValue ?_)
    have hne:l≠(s.heap.push (newSetO led)).objs.size:=by rw[Heap.size_push];exact Nat.ne_of_lt (Nat.lt_succ_of_lt hlS)
    have hSf:s.heap.objs.size∉[(s.heap.push (newSetO led)).objs.size,l]:=fun q=>by
     rcases mem_cons.mp q with q|q
     ·rw[Heap.size_push]at q;exact absurd q (Nat.ne_of_lt (Nat.lt_succ_self _))
     ·exact absurd (mem_singleton.mp q) (Nat.ne_of_gt hlS)
    refine set_loop ((Walks.list (by simp[hh]) _ l hne items).toS) s.heap.objs.size hSf val hval hb items.size 0 _ (Nat.zero_add _) ⟨⟨_,Heap.get?_push_size _ rfl,rfl,rfl⟩,hl2.push _⟩ ?_ fun s2 hm hS2=>?_
    ·exact set_of ((setObjOf_fresh (knd:=knd) led).setOf (Heap.get?_push_of_some _ hS) (by unfold scanBound;decide)) (fun ux=>rfl) rfl
    ·obtain⟨h',g',d',tk,os⟩:=s2
     obtain rfl:g'=s.gens:=hm.gens
     obtain rfl:d'=s.drawn:=hm.drawn
     obtain rfl:os=s.os:=hm.os
     show wpAny _ _ _ _ _ _
     refine wpAny_pure ?_
     show wpAny _ _ (ret Value.none) _ _ _
     refine wpAny_pure ⟨rfl,h',tk,rfl,hS2,fun b o hb e=>hm.heap b o (fun q=>?_) (Heap.get?_push_of_some _ (Heap.get?_push_of_some _ e))⟩
     rcases mem_cons.mp q with q|q
     ·exact absurd q (Nat.ne_of_lt hb)
     ·rw[mem_singleton.mp q,Heap.size_push]at hb
      exact absurd hb (Nat.not_lt_of_le (Nat.le_succ _))
   ·cases r2 with
    |error e=>exact hr2
    |ok fl2=>
     cases fl2 with
     |ret r=>
      obtain⟨rfl,h',tk,rfl,hS',hk'⟩:=hr2
      repeat (any_goals (first|assumption|wp_step))
      exact h _ _ hS' hk'
     |_=>exact hr2.elim
  |_=>exact hr.elim
end
noncomputable def manyS (xs:List Str):Nat:=(metF (fun i=>xs.getD i ⟨#[]⟩) xs.length).length
section
variable {m:Mod} {k:Nat} {ns:Names} {Γ:Gam} {hs hs1:HS} {A:Around} {s:Shared} {R:RC}
theorem strs_key {l:List (Str×Tok)} (i:Nat) (v:Value) (h:(strValues l).toArray[i]? =some v):(strKind m.prog m.w).is ((l.map (·.1)).getD i ⟨#[]⟩) v=true∧v.scannable=true:=by
 have h:(strValues l)[i]? =some v:=by simpa using h
 unfold strValues at h
 rw[getElem?_map]at h
 obtain⟨p,hp,rfl⟩:=Option.map_eq_some_iff.mp h
 rw[getD_eq_getElem?_getD,getElem?_map,hp]
 exact⟨strKind_is _ _ _ _,rfl⟩
theorem set_go {xs:List Str} {val:Value} (hA:AOK k A) (H:HsR m.C s.heap R hs) (hv:RR s.heap R (.lst (xs.map .str)) val) (hlen:xs.length≤4000) {Q:Value→Shared→Prop}
 (h:∀(h':Heap) (tk:Nat) (a:Addr),h'.SetOf (strKind m.prog m.w) a (fun q=>decide (q∈metF (fun i=>xs.getD i ⟨#[]⟩) xs.length)) (manyS xs)→Kept [] s.heap h'→Q (.ref a) { s with heap:=h',toks:=tk }):
 wpAny m.M A (call (.type "set") [val]) Q NoE s:=by
 obtain⟨n,a,vs,rfl,_,hl,hv⟩:=hv
 obtain⟨l,rfl,rfl⟩:=strsValues (strsAre hv)
 have hz:(strValues l).toArray.size=(l.map (·.1)).length:=by rw[size_toArray];unfold strValues;rw[length_map,length_map]
 refine call_set_keys (knd:=strKind m.prog m.w) (fun i=>(l.map (·.1)).getD i ⟨#[]⟩) strs_key hA.hd hl.isList (by rw[hz];exact Nat.lt_of_le_of_lt (Nat.succ_le_succ hlen) (by unfold scanBound;decide)) fun h' tk hS hk=>h h' tk _ (by rw[hz]at hS;exact hS) fun b o ux e=>hk b o (Heap.lt_size e) e
theorem len_set {h:Heap} {a:Addr} {p:Str→Bool} {n:Nat} (hS:h.SetOf (strKind m.prog m.w) a p n) (hn:n≤4000) (e:s.heap=h):wpAny m.M A (call (.builtin "len") [.ref a]) (PostO s R (.p (.int n))) NoE s:=by
 subst e
 obtain⟨o,es,ep,t,ho,hex,hd,_,_,_,hf,rfl⟩:=hS
 exact call_len_set ho hex hd hf (by lia) (int_post (Kept.refl _ _))
theorem ev_lenset {e:Expr} {wv:W} {xs:List Str} {q1 q2 p1 p2:Pos} (O:m.Ok) (hl1:gok ns "len"=true) (hl2:gok ns "set"=true) (n1:BName m "len" (.builtin "len")) (n2:BName m "set" (.type "set")) (hst:isSt e=false) (h1:EvR m k ns Γ hs e wv hs1) (hw:wv.rd=some (.lst (xs.map .str))) (hlen:xs.length≤4000):
 EvR m k ns Γ hs (.Call (.Name "len" q1) [.Call (.Name "set" q2) [e] [] p2] [] p1) (.p (.int (manyS xs:Nat))) hs1:=by
 intro A env R s hA t S
 have hm:manyS xs≤4000:=Nat.le_trans (metF_le _ _) hlen
 refine wpAny_Call_NameR (glob_go O (gok_of hl1).1 (gok_of hl1).2 S (.inr n1) (callB rfl (args_cons ?_ rfl)))
 refine wpAny_Call_NameR (glob_go O (gok_of hl2).1 (gok_of hl2).2 S (.inr n2) (callT (ws_cons h1 ws_nil hst).1 (noE ((ws_cons h1 ws_nil hst).2 p2 A env R s hA t S) fun vals s1 hp=>?_)))
 obtain⟨R1,t1,v,vr,rfl,r1,rfl⟩:=hp
 refine set_go hA t1.hd (r1.rd t1.hd.nod hw) hlen fun h' tk a hS hk=>args_nil ?_
 have t2:Tr m.C s1 R1 { s1 with heap:=h',toks:=tk } R1 hs1:=Tr.own t1.hd ⟨_,_,rfl⟩ hk
 exact noE (len_set hS hm rfl) fun v s2 p=>p.end (t1.trans t2)
end
abbrev Hd:=List (Str×Str)
noncomputable def AddH (m:Mod):Prop:=∀(k:Nat) (hs:HS) (r:Nat) (n v:Str) (l:Hd),hs[r]? =some l→okText n false=true→okText v true=true→JoinOk ("; ":Str) [v]=true→room (l.length+1)=true→HmR m (k+1) "add_header" r [.str n,.str v] hs (.p .none) (setHs hs r (l++[(n,v)]))
theorem okS {l:List Nat} {b:Bool} (h:∀c∈l,31<c∧c<127):okText (S l) b=true:=by
 unfold okText
 rw[S_list,all_eq_true]
 intro c hc
 have:=h c hc
 rw[decide_eq_true (.inl ⟨this.1,by lia⟩),decide_eq_true (by lia)];rfl
theorem join1 {v:Str} (h:v.length≤1000):JoinOk ("; ":Str) [v]=true:=by
 have e:JoinOk ("; ":Str) [v]= !decide (0+v.length+("; ":Str).length>2^24):=rfl
 rw[e,decide_eq_false (by rw[show("; ":Str).length=2 from rfl];lia)];rfl
theorem set_set (hs:HS) (r:Nat) (a b:Hd):setHs (setHs hs r a) r b=setHs hs r b:=List.set_set _
theorem set_get {hs:HS} {r:Nat} (a:Hd) (h:r<hs.length):(setHs hs r a)[r]? =some a:=List.getElem?_set_self h
noncomputable def rowT (l:List Nat):List Nat:=dts (l.getD 0 0+1)++[32]++dts (l.getD 1 0+1)++[32]++dts (l.getD 2 0+1)
theorem join_three (a b c:List Nat):Txt.join (S [32]) [S a,S b,S c]=S (a++[32]++b++[32]++c):=by
 unfold Txt.join
 rw[StrLaws.glued_eq_join]
 show S a++S [32]++(S b++S [32]++S c)=_
 rw[S_app,S_app,S_app,S_app]
 exact congrArg S (by simp only[append_assoc])
theorem joinOk3 {a b c:List Nat} (h:a.length+b.length+c.length≤1000):JoinOk (S [32]) [S a,S b,S c]=true:=by
 have e:JoinOk (S [32]) [S a,S b,S c]= !decide (0+(S a).length+(S [32]).length+((S b).length+(S [32]).length)+((S c).length+(S [32]).length)>2^24):=rfl
 rw[e,S_len,S_len,S_len,S_len,decide_eq_false (by rw[length_singleton];lia)];rfl
theorem row_ok {l:List Nat} (h:∀k,l.getD k 0≤90):okText (S (rowT l)) true=true∧(rowT l).length≤300:=by
 constructor
 ·refine okS fun c hc=>?_
  unfold rowT at hc
  simp only[mem_append,mem_singleton,List.mem_replicate]at hc
  rcases hc with(((⟨_,rfl⟩|rfl)|⟨_,rfl⟩)|rfl)|⟨_,rfl⟩
  ·decide
  ·decide
  ·decide
  ·decide
  ·decide
 ·unfold rowT
  simp only[length_append,length_replicate,length_singleton]
  have:=h 0;have:=h 1;have:=h 2
  lia
theorem name_ok {a b:Nat} (o:Bool) (ha:a<16) (hb:b<16):okText (S (ltF o a b)) false=true:=by
 refine okS fun c hc=>?_
 unfold ltF at hc
 cases o
 ·rw[if_neg (by decide)]at hc;simp at hc;lia
 ·rw[if_pos rfl]at hc;simp at hc;lia
theorem fold1 {α β:Type} (f:α→β) (l:List α):∀a:List β,l.foldl (fun s k=>s++[f k]) a=a++l.map f:=by
 induction l with
 |nil=>intro a;rw[List.map_nil,append_nil];rfl
 |cons x l ih=>intro a;rw[foldl_cons,ih,map_cons,append_assoc];rfl
theorem parts_nat {d0 d1 x c0 c1:Int} {T:Nat} (hT:0<T) (hT2:T<16):∃q1 q2:Int,∃r1 r2:Nat,r1<16∧r2<16∧partsF d0 d1 x T c0 c1=[(q1,(r1:Int)),(q2,(r2:Int))]:=by
 have hp:(0:Int)<T:=Int.ofNat_lt.mpr hT
 have b:∀z:Int,∃r:Nat,r<16∧z% (T:Int)=r:=fun z=>⟨(z%T).toNat,by have:=Int.emod_lt_of_pos z hp;have:=Int.emod_nonneg z (Ne.symm (Int.ne_of_lt hp));lia,(Int.toNat_of_nonneg (Int.emod_nonneg z (Ne.symm (Int.ne_of_lt hp)))).symm⟩
 obtain⟨r1,h1,e1⟩:=b (num1 d1 x c0 c1)
 obtain⟨r2,h2,e2⟩:=b (num2 d0 x c0 c1)
 exact⟨_,_,r1,r2,h1,h2,by unfold partsF;rw[e1,e2]⟩
noncomputable def hdF (d0 d1 x T:Nat) (l:List Nat):Str×Str:=(S (nameF (partsF d0 d1 x T (l.getD 0 0:Nat) (l.getD 1 0:Nat)) false),S (rowT l))
theorem sps_row (d:Nat) (r:List Nat):sps (dts d++[32]++r)=dts d::sps r:=by
 induction d with
 |zero=>rfl
 |succ d ih=>
  show sps (46::(dts d++[32]++r))=_
  rw[sps,if_neg (by decide),ih];rfl
theorem sps_dts (d:Nat):sps (dts d)=[dts d]:=sps_one _ fun h=>by have:=List.eq_of_mem_replicate h;lia
theorem split_rowT (l:List Nat):Txt.split (S (rowT l)) (S [32])=[S (dts (l.getD 0 0+1)),S (dts (l.getD 1 0+1)),S (dts (l.getD 2 0+1))]:=by
 unfold rowT
 rw[show dts (l.getD 0 0+1)++[32]++dts (l.getD 1 0+1)++[32]++dts (l.getD 2 0+1)=dts (l.getD 0 0+1)++[32]++(dts (l.getD 1 0+1)++[32]++dts (l.getD 2 0+1)) by simp only[append_assoc],split_row,sps_row,sps_dts]
 rfl
theorem low_ok:∀a,a<16→∀b,b<16→∀o,Txt.lower (S (ltF o a b))=S [97+a,97+b]∧tooLong (Txt.lower (S (ltF o a b))).length=false:=by
 intro a ha b hb o
 have h1:=(by decide +kernel:∀a,a<16→∀b,b<16→Txt.lower (S [97+a,97+b])=S [97+a,97+b]∧tooLong (Txt.lower (S [97+a,97+b])).length=false) a ha b hb
 have h2:=(by decide +kernel:∀a,a<16→∀b,b<16→Txt.lower (S [65+a,65+b])=S [97+a,97+b]∧tooLong (Txt.lower (S [65+a,65+b])).length=false) a ha b hb
 cases o
 ·exact h1
 ·exact h2
section
variable {m:Mod} {k:Nat} {hs:HS}
theorem split_r3 {l:List Nat} (h:∀k,l.getD k 0≤90):MeR m "split" (.str (S (rowT l))) [.str (S [32])] (.f [.str (S (dts (l.getD 0 0+1))),.str (S (dts (l.getD 1 0+1))),.str (S (dts (l.getD 2 0+1)))]):=by
 have e:=split_rowT l
 have h0:=h 0;have h1:=h 1;have h2:=h 2
 have:=split_r (m:=m) (x:=S (rowT l)) (y:=S [32]) (by rw[S_len];rfl) (by rw[e];exact room_of (show 3≤16777216 by decide)) (by
  rw[e,all_eq_true]
  intro p hp
  rcases mem_cons.mp hp with rfl|hp
  ·exact room_of (by rw[S_len,length_replicate];lia)
  ·rcases mem_cons.mp hp with rfl|hp
   ·exact room_of (by rw[S_len,length_replicate];lia)
   ·rw[mem_singleton.mp hp];exact room_of (by rw[S_len,length_replicate];lia))
 rw[e]at this
 exact this
end
noncomputable def colL (n a:Nat):List (List Nat):=(List.range (n+1-a)).map fun b=>[a,b,n-a-b]
noncomputable def colsF (n:Nat):List (List Nat):=(List.range (n+1)).flatMap (colL n)
noncomputable def gaF (l:Hd) (y:Str):List Str:=(l.filter fun p=>decide (Txt.lower p.1=y)).map (·.2)
noncomputable def GetH (m:Mod):Prop:=∀(k:Nat) (hs:HS) (r:Nat) (x y:Str) (l:Hd),hs[r]? =some l→Txt.lower x=y→tooLong y.length=false→okText y false=true→PyData.strOk y=true→(∀p∈l,tooLong (Txt.lower p.1).length=false∧PyData.strOk (Txt.lower p.1)=true)→l.length≤100000→HmR m (k+1) "get_all" r [.str x] hs (.f ((gaF l y).map V.str)) hs
noncomputable def KeysH (m:Mod):Prop:=∀(k:Nat) (hs:HS) (r:Nat) (l:Hd),hs[r]? =some l→l.length≤100000→HmR m (k+1) "keys" r [] hs (.f (l.map fun p=>V.str p.1)) hs
theorem fold_flat {α β γ:Type} (f:β→γ) (g:α→List β) (l:List α):∀s:List γ,l.foldl (fun s a=>s++(g a).map f) s=s++(l.flatMap g).map f:=by
 induction l with
 |nil=>intro s;rw[List.flatMap_nil,List.map_nil,append_nil];rfl
 |cons a l ih=>intro s;rw[foldl_cons,ih,flatMap_cons,map_append,append_assoc]
theorem cols_mem {n:Nat} {l:List Nat} (h:l∈colsF n):∃a b c,l=[a,b,c]∧a≤n∧b≤n∧c≤n:=by
 obtain⟨a,ha,h⟩:=List.mem_flatMap.mp h
 obtain⟨b,hb,rfl⟩:=mem_map.mp h
 have ha:=mem_range.mp ha
 have hb:=mem_range.mp hb
 exact⟨a,b,n-a-b,rfl,by lia,by lia,by lia⟩
theorem hd_low {d0 d1 x T:Nat} (hT:0<T) (hT2:T<16) (l:List Nat):∃r1 r2:Nat,r1<16∧r2<16∧Txt.lower (hdF d0 d1 x T l).1=S [97+r1,97+r2]∧tooLong (Txt.lower (hdF d0 d1 x T l).1).length=false:=by
 obtain⟨q1,q2,r1,r2,h1,h2,ep⟩:=parts_nat (d0:=d0) (d1:=d1) (x:=x) (c0:=(l.getD 0 0:Nat)) (c1:=(l.getD 1 0:Nat)) hT hT2
 have e:(hdF d0 d1 x T l).1=S (ltF (decide (q1%2=1) != false) r1 r2):=by
  show S (nameF (partsF d0 d1 x T _ _) false)=_
  rw[ep];rfl
 rw[e]
 exact⟨r1,r2,h1,h2,(low_ok r1 h1 r2 h2 _).1,(low_ok r1 h1 r2 h2 _).2⟩
theorem two_ok {a b:Nat} (ha:a<16) (hb:b<16):PyData.strOk (S [97+a,97+b])=true∧okText (S [97+a,97+b]) false=true∧tooLong (S [97+a,97+b]).length=false:=by
 refine⟨S_ok fun c hc=>?_,okS fun c hc=>?_,rfl⟩<;>(simp at hc;lia)
section
variable {m:Mod} {k:Nat} {ns:Names} {Γ:Gam} {hs:HS}
theorem ts_f {t:Expr} {b:Bool} (h:TsR m k ns Γ hs t b hs) (e:b=false):TsR m k ns Γ hs t false hs:=e▸h
end
section
variable {m:Mod} {k:Nat} {hs:HS} (O:m.Ok) (B:m.Bs)
include O B
theorem loads_r (F:FnH2 m "_law_loads") (Fp:FnH2 m "_law_parts") (Fm:FnH2 m "_law_name") (H:DivH m) (N:NewR m) (AH:AddH m) {c:List Int} {d:List Nat} {x T g:Nat} (hc3:c.length=3) (hd3:d.length=3)
 (hd0:d.getD 0 0<256) (hd1:d.getD 1 0<256) (hx:x<256) (hT:0<T) (hT2:T<16) {n:Nat} (hn:c.sum=n) (hn2:n≤20) (hc0:(c.getD 0 0).natAbs<256) (hc1:(c.getD 1 0).natAbs<256)
 (nset:BName m "set" (.type "set")) (KH:KeysH m) (GH:GetH m) (Fd:FnH2 m "_law_dots") (gT:GlT m) (TO:TokOK m tokN) (hmany:g≤n→manyS ((colsF n).map fun l=>Txt.lower (hdF (d.getD 0 0) (d.getD 1 0) x T l).1)=T):
 FnR m (k+32) hs "_law_loads" [.lst (vints c),.lst (nats d),.int x,.int T,.int g] (.f (vnn ((colsF n).filter fun l=>decide (Txt.lower (hdF (d.getD 0 0) (d.getD 1 0) x T l).1=Txt.lower (S (nameF (partsF (d.getD 0 0:Nat) (d.getD 1 0:Nat) x T (c.getD 0 0) (c.getD 1 0)) true)))))) hs:=by
 have hb:(P2 "_law_loads").body=(P2 "_law_loads").body:=rfl
 conv at hb=>rhs;whnf
 have hn_:(P2 "_law_loads").scope.names=(P2 "_law_loads").scope.names:=rfl
 conv at hn_=>rhs;whnf
 refine fz_rt (hs2:=setHs (hs++[[]]) hs.length ((colsF n).map (hdF (d.getD 0 0) (d.getD 1 0) x T))) (nm:=["chips","sums","cross","trees","genus","size","book","first","second","load","name","told"]) (sl0:=[.any,.any,.any,.any,.any,.any,.any,.any,.any,.any,.any,.any]) (ps:=["chips","sums","cross","trees","genus"]) O F (by kernel_rfl!) hb hn_ rfl (z_par (i:=0) (by kernel_rfl!) (z_par (i:=1) (by kernel_rfl!) (z_par (i:=2) (by kernel_rfl!) (z_par (i:=3) (by kernel_rfl!) (z_par (i:=4) (by kernel_rfl!) .nil))))) (by kernel_rfl!) (pv_map 8 (fun a=>V.lst (nats a)) _ fun a ux=>pv_map 7 (fun(i:Nat)=>V.int i) a fun ux ux=>rfl) (by unfold setHs;rw[List.set_append_right _ _ (Nat.le_refl _),List.take_left]) ?_
 clear hb hn_
 have fsum:BiR m "sum" [.lst (vints c)] (.p (.int n)):=hn▸sum_r B.sum
 refine e_cons (by exists z_asn (i:=5) kk (z_bi kk O (ws_cons (z_v 0) ws_nil rfl) (.cons rfl .nil) fsum) rfl .p) ?_
 refine e_cons (hs1:=hs++[[]]) (Γ1:=Gz ["chips","sums","cross","trees","genus","size","book","first","second","load","name","told"] [.p (.lst (vints c)),.p (.lst (nats d)),.p (.int x),.p (.int T),.p (.int g),.p (.int n),.p (.hdr hs.length),.any,.any,.any,.any,.any]) (by exists z_asn (i:=6) kk (ev_new O N (by kernel_rfl!)) rfl .p) ?_
 have hr:hs.length<(hs++[([]:Hd)]).length:=by rw[length_append];exact Nat.lt_succ_self _
 have e0:hs++[[]]=setHs (hs++[[]]) hs.length []:=by
  unfold setHs
  rw[List.set_append_right _ _ (Nat.le_refl _),Nat.sub_self];rfl
 refine Eq.mp (congrArg (fun q=>XE _ _ _ _ q _ _ _) e0.symm) ?_
 clear e0
 generalize hs++[([]:Hd)]=h0 at hr ⊢
 have sm:∀q:Nat,q≤1000→small (q:Int)=true:=fun q h=>small_nat (by lia)
 have e1:BinR m .Add (.int n) (.int 1) (.p (.int ((n+1:Nat):Int))):=Int.natCast_add n 1▸add_r
 refine z_forh 7 (fun(a:Nat)=>V.int a) (fun sl (j:Slot×Slot×Slot) (s:Hd)=>[.p (.lst (vints c)),.p (.lst (nats d)),.p (.int x),.p (.int T),.p (.int g),.p (.int n),.p (.hdr hs.length),sl,j.1,j.2.1,j.2.2,.any]) (fun s=>setHs h0 hs.length s) (fun s a=>s++(colL n a).map (hdF (d.getD 0 0) (d.getD 1 0) x T)) (fun i s=>s.length≤81*i) (List.range (n+1)) .any (.any,.any,.any) []
  (by kernel_rfl!) rfl (by exists z_bi kk O (ws_cons (ev_bin (z_v 5) (ev_int _ _) rfl rfl e1) ws_nil rfl) (.cons rfl .nil) (range1 B.range (sm _ (by lia)))) rfl (its_rng _) (fun ux ux ux ux=>rfl) (Nat.le_refl _) (fun i a ha j s hp=>?_) (fun sl j hp=>?_)
 ·have hi:i<n+1:=by
   have h:=(List.getElem?_eq_some_iff.mp ha).1
   rw[length_range]at h;exact h
  have ha:=mem_range.mp (mem_of_getElem? ha)
  have e2:BinR m .Sub (.int ((n+1:Nat):Int)) (.int a) (.p (.int ((n+1-a:Nat):Int))):=Int.ofNat_sub (Nat.le_of_lt ha)▸sub_r
  rw[show s++(colL n a).map (hdF (d.getD 0 0) (d.getD 1 0) x T)=(List.range (n+1-a)).foldl (fun s b=>s++[hdF (d.getD 0 0) (d.getD 1 0) x T [a,b,n-a-b]]) s by rw[fold1];unfold colL;rw[map_map];rfl]
  refine x_forh 8 (fun(b:Nat)=>V.int b) (fun sl (j:Slot×Slot) (s:Hd)=>[.p (.lst (vints c)),.p (.lst (nats d)),.p (.int x),.p (.int T),.p (.int g),.p (.int n),.p (.hdr hs.length),.p (.int a),sl,j.1,j.2,.any]) (fun s=>setHs h0 hs.length s) (fun s b=>s++[hdF (d.getD 0 0) (d.getD 1 0) x T [a,b,n-a-b]]) (fun i s'=>s'.length≤s.length+i) (List.range (n+1-a)) j.1 j.2 s
   (by kernel_rfl!) rfl (by exists z_bi kk O (ws_cons (ev_bin (ev_bin (z_v 5) (ev_int _ _) rfl rfl e1) (z_v 7) rfl rfl e2) ws_nil rfl) (.cons rfl .nil) (range1 B.range (sm _ (by lia)))) rfl (its_rng _) (fun ux ux ux ux=>rfl) (Nat.le_refl _) (fun i2 b hb j s' hp'=>?_) (fun sl j hp'=>⟨⟨(sl,j.1,j.2),x_nil⟩,?_⟩)
  ·have hi2:i2<n+1-a:=by
    have h:=(List.getElem?_eq_some_iff.mp hb).1
    rw[length_range]at h;exact h
   have hb:=mem_range.mp (mem_of_getElem? hb)
   have hss:s'.length≤81*i+i2:=Nat.le_trans hp' (Nat.add_le_add_right hp _)
   have e3:BinR m .Sub (.int n) (.int a) (.p (.int ((n-a:Nat):Int))):=Int.ofNat_sub (Nat.le_of_lt_succ ha)▸sub_r
   have e4:BinR m .Sub (.int ((n-a:Nat):Int)) (.int b) (.p (.int ((n-a-b:Nat):Int))):=Int.ofNat_sub (show b≤n-a by lia)▸sub_r
   obtain⟨q1,q2,r1,r2,h1,h2,ep⟩:=parts_nat (d0:=(d.getD 0 0:Nat)) (d1:=(d.getD 1 0:Nat)) (x:=x) (c0:=(a:Nat)) (c1:=(b:Nat)) hT hT2
   have an:((a:Nat):Int).natAbs<256:=by rw[Int.natAbs_natCast];lia
   have bn:((b:Nat):Int).natAbs<256:=by rw[Int.natAbs_natCast];lia
   have fp:FnR m (k+31) (setHs h0 hs.length s') "_law_parts" [.lst (nats [a,b,n-a-b]),.lst (nats d),.int x,.int T,.bool (decide ((b:Int)%2=1))] (.p (.lst (vqr [(q1,(r1:Int)),(q2,(r2:Int))]))) (setHs h0 hs.length s'):=by
    have:FnR m (k+1+30) (setHs h0 hs.length s') "_law_parts" [.lst (vints [(a:Int),(b:Int),((n-a-b:Nat):Int)]),.lst (nats d),.int x,.int T,.bool (decide ((b:Int)%2=1))] (.p (.lst (vqr (partsF (d.getD 0 0:Nat) (d.getD 1 0:Nat) x T (a:Nat) (b:Nat))))) (setHs h0 hs.length s'):=parts_r (c:=[(a:Int),(b:Int),((n-a-b:Nat):Int)]) O B Fp H rfl hd3 an bn hd0 hd1 hx hT (Nat.lt_trans hT2 (by decide)) _
    rw[ep]at this
    exact this
   have fn:=name_r (k:=k+30) (hs:=setHs h0 hs.length s') O B Fm (q1:=q1) (q2:=q2) h1 h2 false
   have e5:BinR m .Mod (.int b) (.int 2) (.p (.int ((b:Int)%2))):=Int.fmod_eq_emod_of_nonneg b (show(0:Int)≤2 by decide)▸mod_r (by decide)
   have e6:=(eq_r (m:=m) (beq_int ((b:Int)%2) 1)).1
   have hnm:(hdF (d.getD 0 0) (d.getD 1 0) x T [a,b,n-a-b])=(S (nameF [(q1,(r1:Int)),(q2,(r2:Int))] false),S (rowT [a,b,n-a-b])):=by
    show(S (nameF (partsF (d.getD 0 0:Nat) (d.getD 1 0:Nat) x T (a:Nat) (b:Nat)) false),_)=_
    rw[ep]
   have hrow:=row_ok (l:=[a,b,n-a-b]) fun q=>by
    rcases q with _|_|_|q
    ·show a≤90;lia
    ·show b≤90;lia
    ·show n-a-b≤90;lia
    ·exact Nat.zero_le _
   have c1:∀q:Nat,BinR m .Add (.int 1) (.int q) (.p (.int ((q+1:Nat):Int))):=fun q=>by
    have:=add_r (m:=m) (a:=1) (b:=(q:Int))
    rw[show(1+(q:Int))=((q+1:Nat):Int) by lia]at this
    exact this
   have hq80:∀q∈[a,b,n-a-b],q≤80:=fun q hq=>by
    rcases mem_cons.mp hq with rfl|hq
    ·lia
    ·rcases mem_cons.mp hq with rfl|hq
     ·lia
     ·rw[mem_singleton.mp hq];lia
   have fj:MeR m "join" (.str (S [32])) [.lst ([a,b,n-a-b].map fun q=>V.str (S (dts (q+1))))] (.p (.str (S (rowT [a,b,n-a-b])))):=by
    have:=join_r (m:=m) (x:=S [32]) (ss:=[S (dts (a+1)),S (dts (b+1)),S (dts (n-a-b+1))]) (joinOk3 (by simp only[length_replicate];lia))
    rw[join_three]at this
    exact this
   have f9:=AH (k+30) (setHs h0 hs.length s') hs.length (S (nameF [(q1,(r1:Int)),(q2,(r2:Int))] false)) (S (rowT [a,b,n-a-b])) s' (set_get s' hr) (name_ok _ h1 h2) hrow.1 (join1 (by rw[S_len];exact Nat.le_trans hrow.2 (by decide))) (room_of (by lia))
   rw[set_set]at f9
   refine⟨⟨(.p (.lst (nats [a,b,n-a-b])),.p (.str (S (nameF [(q1,(r1:Int)),(q2,(r2:Int))] false)))),?_⟩,by rw[length_append,length_singleton];lia⟩
   dsimp only
   rw[hnm]
   refine x_cons (by exists z_asn (i:=9) kk (ev_list (ar_cons (z_v 7) (ar_cons (z_v 8) (ar_cons (ev_bin (ev_bin (z_v 5) (z_v 7) rfl rfl e3) (z_v 8) rfl rfl e4) ar_nil rfl rfl) rfl rfl) rfl rfl) kk) rfl .f) ?_
   refine x_cons (by exists z_asn (i:=10) kk (z_fn kk O (ar_cons (z_fn kk O (ar_cons (z_v 9) (ar_cons (z_v 1) (ar_cons (z_v 2) (ar_cons (z_v 3) (ar_cons (ev_cmp rfl (ev_bin (z_v 8) (ev_int _ _) rfl rfl e5) (ev_int _ _) rfl rfl e6) ar_nil rfl rfl) rfl rfl) rfl rfl) rfl rfl) rfl rfl) fp) (ar_cons (ev_bool _ _) ar_nil rfl rfl) rfl rfl) fn) rfl .p) ?_
   exact x_cons (st_call (by exists ev_hm rfl rfl dd (z_v 6) (ws_cons (z_v 10) (ws_cons (ev_me rfl rfl dd (ev_strS (y:=S [32]) (by rfl) (by kernel_rfl!)) (ws_cons (ev_comp (c_one (fun(q:Nat)=>V.int q) (fun q=>V.str (S (dts (q+1)))) [a,b,n-a-b] ⟨by kernel_rfl!,by kernel_rfl!,.inl (by kernel_rfl!),by kernel_rfl!,by kernel_rfl!,rfl⟩ rfl (by exact(z_v 9)) .l (fun q hq=>⟨_,(by exists ev_bin (ev_strS (y:=S [46]) (by rfl) (by kernel_rfl!)) (ev_bin (ev_int _ _) (z_v 1) rfl rfl (c1 q)) rfl rfl (dotsM (Nat.lt_of_le_of_lt (Nat.succ_le_succ (hq80 q hq)) (by decide)))),rfl⟩) (show 3≤16777216 by decide))) ws_nil rfl) rfl (.cons rfl .nil) fj) ws_nil rfl) rfl) (.cons rfl (.cons rfl .nil)) f9)) x_nil
  ·rw[length_range]at hp'
   exact Nat.le_trans hp' (by lia)
 ·rw[fold_flat,nil_append]
  rw[fold_flat,nil_append,length_range]at hp
  have hp:((colsF n).map (hdF (d.getD 0 0) (d.getD 1 0) x T)).length≤81*(n+1):=hp
  show XE _ _ _ _ (setHs h0 hs.length ((colsF n).map (hdF (d.getD 0 0) (d.getD 1 0) x T))) _ _ _
  have hgot:=set_get (hs:=h0) (r:=hs.length) ((colsF n).map (hdF (d.getD 0 0) (d.getD 1 0) x T)) hr
  have hclen:(colsF n).length≤1701:=by rw[length_map]at hp;lia
  have fk:=KH (k+30) _ _ _ hgot (Nat.le_trans hp (by lia))
  have hm:∀p∈(colsF n).map (hdF (d.getD 0 0) (d.getD 1 0) x T),tooLong (Txt.lower p.1).length=false∧PyData.strOk (Txt.lower p.1)=true:=fun p hp=>by
   obtain⟨l,_,rfl⟩:=mem_map.mp hp
   obtain⟨r1,r2,h1,h2,e,e'⟩:=hd_low (d0:=d.getD 0 0) (d1:=d.getD 1 0) (x:=x) hT hT2 l
   exact⟨e',e▸(two_ok h1 h2).1⟩
  have ekeys:(((colsF n).map (hdF (d.getD 0 0) (d.getD 1 0) x T)).map fun p=>V.str (Txt.lower p.1))=((colsF n).map fun l=>Txt.lower (hdF (d.getD 0 0) (d.getD 1 0) x T l).1).map V.str:=by
   rw[map_map,map_map];rfl
  refine e_iff (ts_f (b:=decide ((n:Int)≥(g:Int))&& !decide (((manyS ((colsF n).map fun l=>Txt.lower (hdF (d.getD 0 0) (d.getD 1 0) x T l).1):Nat):Int)=(T:Int))) (ts_and (by exists ts_cmp rfl (z_v 5) (z_v 4) rfl rfl ge_r) (fun ux=>(by exists ts_cmp rfl (ev_lenset (xs:=(colsF n).map fun l=>Txt.lower (hdF (d.getD 0 0) (d.getD 1 0) x T l).1) O (by kernel_rfl!) (by kernel_rfl!) B.len nset rfl (by exists ev_comp (c_one (fun(p:Str×Str)=>V.str p.1) (fun p=>V.str (Txt.lower p.1)) ((colsF n).map (hdF (d.getD 0 0) (d.getD 1 0) x T)) ⟨by kernel_rfl!,by kernel_rfl!,.inl (by kernel_rfl!),by kernel_rfl!,by kernel_rfl!,rfl⟩ rfl (by exists ev_hm rfl rfl dd (z_v 6) ws_nil .nil fk) .f (fun p hp=>⟨_,(by exists ev_me rfl rfl dd (z_v 1) ws_nil rfl .nil (lower_r (hm p hp).1)),rfl⟩) (Nat.le_trans hp (by lia)))) (by rw[ekeys];rfl) (by rw[length_map];lia)) (z_v 3) rfl rfl ((eq_r (beq_int _ _)).2)))) ?_) ?_
  ·by_cases q:g≤n
   ·rw[hmany q,decide_eq_true (rfl:(T:Int)=T)];exact Bool.and_false _
   ·rw[decide_eq_false (by lia)];rfl
  obtain⟨q1,q2,r1,r2,h1,h2,ep⟩:=parts_nat (d0:=(d.getD 0 0:Nat)) (d1:=(d.getD 1 0:Nat)) (x:=x) (c0:=c.getD 0 0) (c1:=c.getD 1 0) hT hT2
  have fp:FnR m (k+31) (setHs h0 hs.length ((colsF n).map (hdF (d.getD 0 0) (d.getD 1 0) x T))) "_law_parts" [.lst (vints c),.lst (nats d),.int x,.int T,.bool (decide ((n:Int)%2=1))] (.p (.lst (vqr [(q1,(r1:Int)),(q2,(r2:Int))]))) (setHs h0 hs.length ((colsF n).map (hdF (d.getD 0 0) (d.getD 1 0) x T))):=by
   have:FnR m (k+1+30) (setHs h0 hs.length ((colsF n).map (hdF (d.getD 0 0) (d.getD 1 0) x T))) "_law_parts" [.lst (vints c),.lst (nats d),.int x,.int T,.bool (decide ((n:Int)%2=1))] (.p (.lst (vqr (partsF (d.getD 0 0:Nat) (d.getD 1 0:Nat) x T (c.getD 0 0) (c.getD 1 0))))) (setHs h0 hs.length ((colsF n).map (hdF (d.getD 0 0) (d.getD 1 0) x T))):=parts_r O B Fp H hc3 hd3 hc0 hc1 hd0 hd1 hx hT (Nat.lt_trans hT2 (by decide)) _
   rw[ep]at this
   exact this
  have fn:=name_r (k:=k+30) (hs:=setHs h0 hs.length ((colsF n).map (hdF (d.getD 0 0) (d.getD 1 0) x T))) O B Fm (q1:=q1) (q2:=q2) h1 h2 true
  have e5:BinR m .Mod (.int n) (.int 2) (.p (.int ((n:Int)%2))):=Int.fmod_eq_emod_of_nonneg n (show(0:Int)≤2 by decide)▸mod_r (by decide)
  have e6:=(eq_r (m:=m) (beq_int ((n:Int)%2) 1)).1
  rw[ep]
  have hlw:Txt.lower (S (nameF [(q1,(r1:Int)),(q2,(r2:Int))] true))=S [97+r1,97+r2]:=(low_ok r1 h1 r2 h2 (decide (q1%2=1) != true)).1
  rw[hlw]
  have fg:=GH (k+30) _ _ (S (nameF [(q1,(r1:Int)),(q2,(r2:Int))] true)) _ _ hgot hlw (two_ok h1 h2).2.2 (two_ok h1 h2).2.1 (two_ok h1 h2).1 hm (Nat.le_trans hp (by lia))
  have eg:((gaF ((colsF n).map (hdF (d.getD 0 0) (d.getD 1 0) x T)) (S [97+r1,97+r2])).map V.str)=((colsF n).filter fun l=>decide (Txt.lower (hdF (d.getD 0 0) (d.getD 1 0) x T l).1=S [97+r1,97+r2])).map fun l=>V.str (S (rowT l)):=by
   unfold gaF
   rw[List.filter_map,map_map,map_map];rfl
  rw[eg]at fg
  have hLF:∀l∈(colsF n).filter (fun l=>decide (Txt.lower (hdF (d.getD 0 0) (d.getD 1 0) x T l).1=S [97+r1,97+r2])),∃a b c,l=[a,b,c]∧a≤n∧b≤n∧c≤n:=fun l hl=>cols_mem (mem_filter.mp hl).1
  have hLn:((colsF n).filter fun l=>decide (Txt.lower (hdF (d.getD 0 0) (d.getD 1 0) x T l).1=S [97+r1,97+r2])).length≤16777216:=Nat.le_trans (length_filter_le _ _) (by lia)
  generalize (colsF n).filter (fun l=>decide (Txt.lower (hdF (d.getD 0 0) (d.getD 1 0) x T l).1=S [97+r1,97+r2]))=LF at fg hLF hLn ⊢
  generalize setHs h0 hs.length ((colsF n).map (hdF (d.getD 0 0) (d.getD 1 0) x T))=h9 at*
  refine' e_cons (by exists z_asn (i:=11) kk (ev_hm rfl rfl dd (z_v 6) (ws_cons (z_fn kk O (ar_cons (z_fn kk O (ar_cons (z_v 0) (ar_cons (z_v 1) (ar_cons (z_v 2) (ar_cons (z_v 3) (ar_cons (ev_cmp rfl (ev_bin (z_v 5) (ev_int _ _) rfl rfl e5) (ev_int _ _) rfl rfl e6) ar_nil rfl rfl) rfl rfl) rfl rfl) rfl rfl) rfl rfl) fp) (ar_cons (ev_bool _ _) ar_nil rfl rfl) rfl rfl) fn) ws_nil rfl) (.cons rfl .nil) fg) rfl .f) ?_
  have spl:∀l∈LF,MeR m "split" (.str (S (rowT l))) [.str (S [32])] (.f (l.map fun q=>V.str (S (dts (q+1))))):=fun l hl=>by
   obtain⟨a,b,e,rfl,ha,hb,he⟩:=hLF l hl
   exact split_r3 fun q=>by
    rcases q with _|_|_|q
    ·show a≤90;lia
    ·show b≤90;lia
    ·show e≤90;lia
    ·exact Nat.zero_le _
  have lb:∀l∈LF,l.length≤16777216∧∀q∈l,q+1≤100:=fun l hl=>by
   obtain⟨a,b,e,rfl,ha,hb,he⟩:=hLF l hl
   refine⟨show 3≤16777216 by decide,fun q hq=>?_⟩
   rcases mem_cons.mp hq with rfl|hq
   ·lia
   ·rcases mem_cons.mp hq with rfl|hq
    ·lia
    ·rw[mem_singleton.mp hq];lia
  have s1:∀q:Nat,BinR m .Sub (.int ((q+1:Nat):Int)) (.int 1) (.p (.int (q:Int))):=fun q=>by
   have:=sub_r (m:=m) (a:=((q+1:Nat):Int)) (b:=1)
   rw[show((q+1:Nat):Int)-1=(q:Int) by lia]at this
   exact this
  exact e_ret (by
   refine' st_ret ?a1 ?a2
   case a2=>exact .f
   case a1=>
    refine' ev_comp ?a3
    case a3=>
     refine' c_one (fun(l:List Nat)=>V.str (S (rowT l))) (fun l=>V.lst (nats l)) LF ⟨by kernel_rfl!,by kernel_rfl!,.inl (by kernel_rfl!),by kernel_rfl!,by kernel_rfl!,rfl⟩ rfl (by exact z_v 11) .l ?a4 hLn
     case a4=>
      intro l hl
      refine⟨.f (nats l),?_,rfl⟩
      refine' ev_comp ?a5
      case a5=>
       refine' c_one (fun(q:Nat)=>V.str (S (dts (q+1)))) (fun(q:Nat)=>V.int q) l ⟨by kernel_rfl!,by kernel_rfl!,.inl (by kernel_rfl!),by kernel_rfl!,by kernel_rfl!,rfl⟩ rfl (by exists ev_me rfl rfl dd (z_v 1) (ws_cons (ev_strS (y:=S [32]) (by rfl) (by kernel_rfl!)) ws_nil rfl) rfl (.cons rfl .nil) (spl l hl)) .f ?a6 (lb l hl).1
       case a6=>
        intro q hq
        exact⟨_,(by exists ev_bin (z_fn kk O (ar_cons (z_v 1) ar_nil rfl rfl) (dots_r (k:=k+30) O B Fd gT TO ((lb l hl).2 q hq))) (ev_int _ _) rfl rfl (s1 q)),rfl⟩)
end
section
variable {m:Mod} {k:Nat} {hs:HS} (O:m.Ok) (B:m.Bs)
include O B
theorem loads_m (F:FnH2 m "_law_loads") (Fp:FnH2 m "_law_parts") (Fm:FnH2 m "_law_name") (H:DivH m) (N:NewR m) {c:List Int} {d:List Nat} {x T g:Nat} (hc3:c.length=3) (hd3:d.length=3)
 (hd0:d.getD 0 0<256) (hd1:d.getD 1 0<256) (hx:x<256) (hT:0<T) (hT2:T<16) {n:Int} (hn:c.sum=n) (hn2:n= -1∨n= -2) (hc0:(c.getD 0 0).natAbs<256) (hc1:(c.getD 1 0).natAbs<256) (GH:GetH m):
 FnR m (k+32) hs "_law_loads" [.lst (vints c),.lst (nats d),.int x,.int T,.int g] (.f []) hs:=by
 have hb:(P2 "_law_loads").body=(P2 "_law_loads").body:=rfl
 conv at hb=>rhs;whnf
 have hn_:(P2 "_law_loads").scope.names=(P2 "_law_loads").scope.names:=rfl
 conv at hn_=>rhs;whnf
 refine fz_rt (hs2:=hs++[[]]) (nm:=["chips","sums","cross","trees","genus","size","book","first","second","load","name","told"]) (sl0:=[.any,.any,.any,.any,.any,.any,.any,.any,.any,.any,.any,.any]) (ps:=["chips","sums","cross","trees","genus"]) O F (by kernel_rfl!) hb hn_ rfl (z_par (i:=0) (by kernel_rfl!) (z_par (i:=1) (by kernel_rfl!) (z_par (i:=2) (by kernel_rfl!) (z_par (i:=3) (by kernel_rfl!) (z_par (i:=4) (by kernel_rfl!) .nil))))) (by kernel_rfl!) rfl (by rw[List.take_left]) ?_
 clear hb hn_
 have fsum:BiR m "sum" [.lst (vints c)] (.p (.int n)):=hn▸sum_r B.sum
 refine e_cons (by exists z_asn (i:=5) kk (z_bi kk O (ws_cons (z_v 0) ws_nil rfl) (.cons rfl .nil) fsum) rfl .p) ?_
 refine e_cons (hs1:=hs++[[]]) (Γ1:=Gz ["chips","sums","cross","trees","genus","size","book","first","second","load","name","told"] [.p (.lst (vints c)),.p (.lst (nats d)),.p (.int x),.p (.int T),.p (.int g),.p (.int n),.p (.hdr hs.length),.any,.any,.any,.any,.any]) (by exists z_asn (i:=6) kk (ev_new O N (by kernel_rfl!)) rfl .p) ?_
 have hgot:(hs++[([]:Hd)])[hs.length]? =some []:=by rw[List.getElem?_append_right (Nat.le_refl _),Nat.sub_self];rfl
 generalize hs++[([]:Hd)]=h9 at hgot ⊢
 have e1:BinR m .Add (.int n) (.int 1) (.p (.int (n+1))):=add_r
 refine z_forj 7 (fun(a:Nat)=>V.int a) (fun sl (j:Slot×Slot×Slot) (ux:Unit)=>[.p (.lst (vints c)),.p (.lst (nats d)),.p (.int x),.p (.int T),.p (.int g),.p (.int n),.p (.hdr hs.length),sl,j.1,j.2.1,j.2.2,.any]) (fun s ux=>s) (fun i s=>True) (List.range 0) .any (.any,.any,.any) ()
  (by kernel_rfl!) rfl (by exists z_bi kk O (ws_cons (ev_bin (z_v 5) (ev_int _ _) rfl rfl e1) ws_nil rfl) (.cons rfl .nil) (range1 B.range (by rcases hn2 with rfl|rfl<;>decide))) rfl (.r (by rcases hn2 with rfl|rfl<;>rfl)) (fun ux ux ux ux=>rfl) trivial (fun i a ha j s hp=>absurd ha (by simp)) (fun sl j hp=>?_)
 refine e_iff (ts_f (b:=decide (n≥(g:Int))&&false) (ts_and (by exists ts_cmp rfl (z_v 5) (z_v 4) rfl rfl ge_r) (fun q=>absurd (of_decide_eq_true q) (by lia))) (Bool.and_false _)) ?_
 obtain⟨q1,q2,r1,r2,h1,h2,ep⟩:=parts_nat (d0:=(d.getD 0 0:Nat)) (d1:=(d.getD 1 0:Nat)) (x:=x) (c0:=c.getD 0 0) (c1:=c.getD 1 0) hT hT2
 have fp:FnR m (k+31) h9 "_law_parts" [.lst (vints c),.lst (nats d),.int x,.int T,.bool (decide (n%2=1))] (.p (.lst (vqr [(q1,(r1:Int)),(q2,(r2:Int))]))) h9:=by
  have:FnR m (k+1+30) h9 "_law_parts" [.lst (vints c),.lst (nats d),.int x,.int T,.bool (decide (n%2=1))] (.p (.lst (vqr (partsF (d.getD 0 0:Nat) (d.getD 1 0:Nat) x T (c.getD 0 0) (c.getD 1 0))))) h9:=parts_r O B Fp H hc3 hd3 hc0 hc1 hd0 hd1 hx hT (Nat.lt_trans hT2 (by decide)) _
  rw[ep]at this
  exact this
 have fn:=name_r (k:=k+30) (hs:=h9) O B Fm (q1:=q1) (q2:=q2) h1 h2 true
 have e5:BinR m .Mod (.int n) (.int 2) (.p (.int (n%2))):=Int.fmod_eq_emod_of_nonneg n (show(0:Int)≤2 by decide)▸mod_r (by decide)
 have e6:=(eq_r (m:=m) (beq_int (n%2) 1)).1
 have hlw:Txt.lower (S (nameF [(q1,(r1:Int)),(q2,(r2:Int))] true))=S [97+r1,97+r2]:=(low_ok r1 h1 r2 h2 (decide (q1%2=1) != true)).1
 have fg:HmR m (k+31) "get_all" hs.length [.str (S (nameF [(q1,(r1:Int)),(q2,(r2:Int))] true))] h9 (.f []) h9:=GH (k+30) _ _ (S (nameF [(q1,(r1:Int)),(q2,(r2:Int))] true)) _ _ hgot hlw (two_ok h1 h2).2.2 (two_ok h1 h2).2.1 (two_ok h1 h2).1 (fun p hp=>by cases hp) (Nat.zero_le _)
 refine' e_cons (by exists z_asn (i:=11) kk (ev_hm rfl rfl dd (z_v 6) (ws_cons (z_fn kk O (ar_cons (z_fn kk O (ar_cons (z_v 0) (ar_cons (z_v 1) (ar_cons (z_v 2) (ar_cons (z_v 3) (ar_cons (ev_cmp rfl (ev_bin (z_v 5) (ev_int _ _) rfl rfl e5) (ev_int _ _) rfl rfl e6) ar_nil rfl rfl) rfl rfl) rfl rfl) rfl rfl) rfl rfl) fp) (ar_cons (ev_bool _ _) ar_nil rfl rfl) rfl rfl) fn) ws_nil rfl) (.cons rfl .nil) fg) rfl .f) ?_
 exact e_ret (by
  refine' st_ret ?a1 ?a2
  case a2=>exact .f
  case a1=>
   refine' ev_comp ?a3
   case a3=>exact c_one (fun(l:List Nat)=>V.lst (nats l)) (fun l=>V.lst (nats l)) [] ⟨by kernel_rfl!,by kernel_rfl!,.inl (by kernel_rfl!),by kernel_rfl!,by kernel_rfl!,rfl⟩ rfl (by exact z_v 11) .l (fun l hl=>by cases hl) (Nat.zero_le _))
end
noncomputable def effs (n:Int):List (List Nat):=(List.range (n+1).toNat).flatMap fun a=>(List.range ((n+1).toNat-a)).map fun b=>[a,b,(n+1).toNat-1-a-b]
noncomputable def clsF (d0 d1 x:Int) (T:Nat) (c0 c1:Int):Int×Int:=(num1 d1 x c0 c1%T,num2 d0 x c0 c1%T)
noncomputable def loadsF (d0 d1 x:Nat) (T:Nat) (n c0 c1:Int):List (List Nat):=(effs n).filter fun l=>decide (clsF d0 d1 x T (l.getD 0 0:Nat) (l.getD 1 0:Nat)=clsF d0 d1 x T c0 c1)
noncomputable def dist (l:List (Int×Int)):Nat:=(l.foldl (fun s a=>if s.contains a then s else a::s) []).length
noncomputable def manyF (d0 d1 x:Nat) (T:Nat) (n:Int):Nat:=dist ((effs n).map fun l=>clsF d0 d1 x T (l.getD 0 0:Nat) (l.getD 1 0:Nat))
noncomputable def wayF (ties:Nat→Nat→Nat) (fire:List Int) (start goal:List Nat):Bool:=small (hiF fire)&&small (loF fire)&&chainF ties fire (start.map (· +1)) (hiF fire-loF fire).toNat==some (goal.map (· +1))
noncomputable def okF (a b c:Nat) (n c0 c1:Int):Bool:=
 let d0:=a+b;let d1:=a+c;let d2:=b+c
 let T:=d0*d1-a*a
 let g:Int:=((a+b+c:Nat):Int)-2
 let here:=loadsF d0 d1 a T n c0 c1
 let n':=2*g-2-n
 let there:=loadsF d0 d1 a T n' (d0-2-c0) (d1-2-c1)
 let loads:=if there.length≤here.length then here else there
 let start:=loads.headD [0,0,0]
 let goal:=loads.getLastD [0,0,0]
 let f (l:List Nat):=(num1 d1 a (l.getD 0 0:Nat) (l.getD 1 0:Nat)/T,num2 d0 a (l.getD 0 0:Nat) (l.getD 1 0:Nat)/T)
 decide (spareF here-spareF there=n+1-g)&&wayF (tieL [[0,a,b],[a,0,c],[b,c,0]]) [(f start).1-(f goal).1,(f start).2-(f goal).2,0] start goal
noncomputable def netOk (a b c:Nat):Bool:=
 let d0:=a+b;let d1:=a+c
 let T:=d0*d1-a*a
 let g:=a+b+c-2
 (List.range (2*g+2)).all fun i=>let n:Int:=(i:Int)-1
  ((decide (n<g)||manyF d0 d1 a T n==T))&&(List.range 4).all fun u=>(List.range 4).all fun v=>okF a b c n ((u:Int)-1) ((v:Int)-1)
theorem net_000:netOk 0 1 1=true:=by decide +kernel
theorem net_001:netOk 0 1 2=true:=by decide +kernel
theorem net_002:netOk 0 1 3=true:=by decide +kernel
theorem net_003:netOk 0 1 4=true:=by decide +kernel
theorem net_010:netOk 0 2 1=true:=by decide +kernel
theorem net_011:netOk 0 2 2=true:=by decide +kernel
theorem net_012:netOk 0 2 3=true:=by decide +kernel
theorem net_020:netOk 0 3 1=true:=by decide +kernel
theorem net_021:netOk 0 3 2=true:=by decide +kernel
theorem net_030:netOk 0 4 1=true:=by decide +kernel
theorem net_100:netOk 1 1 1=true:=by decide +kernel
theorem net_101:netOk 1 1 2=true:=by decide +kernel
theorem net_102:netOk 1 1 3=true:=by decide +kernel
theorem net_110:netOk 1 2 1=true:=by decide +kernel
theorem net_111:netOk 1 2 2=true:=by decide +kernel
theorem net_120:netOk 1 3 1=true:=by decide +kernel
theorem net_200:netOk 2 1 1=true:=by decide +kernel
theorem net_201:netOk 2 1 2=true:=by decide +kernel
theorem net_210:netOk 2 2 1=true:=by decide +kernel
theorem net_300:netOk 3 1 1=true:=by decide +kernel
noncomputable def netsL:List (Nat×Nat×Nat):=[(0,0,0),(0,0,1),(0,0,2),(0,0,3),(0,1,0),(0,1,1),(0,1,2),(0,2,0),(0,2,1),(0,3,0),(1,0,0),(1,0,1),(1,0,2),(1,1,0),(1,1,1),(1,2,0),(2,0,0),(2,0,1),(2,1,0),(3,0,0)]
theorem netsL_ok:∀p∈netsL,netOk p.1 (p.2.1+1) (p.2.2+1)=true:=List.forall_mem_cons.mpr ⟨net_000,List.forall_mem_cons.mpr ⟨net_001,List.forall_mem_cons.mpr ⟨net_002,List.forall_mem_cons.mpr ⟨net_003,List.forall_mem_cons.mpr ⟨net_010,List.forall_mem_cons.mpr ⟨net_011,List.forall_mem_cons.mpr ⟨net_012,List.forall_mem_cons.mpr ⟨net_020,List.forall_mem_cons.mpr ⟨net_021,List.forall_mem_cons.mpr ⟨net_030,List.forall_mem_cons.mpr ⟨net_100,List.forall_mem_cons.mpr ⟨net_101,List.forall_mem_cons.mpr ⟨net_102,List.forall_mem_cons.mpr ⟨net_110,List.forall_mem_cons.mpr ⟨net_111,List.forall_mem_cons.mpr ⟨net_120,List.forall_mem_cons.mpr ⟨net_200,List.forall_mem_cons.mpr ⟨net_201,List.forall_mem_cons.mpr ⟨net_210,List.forall_mem_cons.mpr ⟨net_300,List.forall_mem_nil _⟩⟩⟩⟩⟩⟩⟩⟩⟩⟩⟩⟩⟩⟩⟩⟩⟩⟩⟩⟩
theorem netsL_in:∀a,a<4→∀b,b<4-a→∀c,c<4-a-b→netsL.contains (a,b,c)=true:=by decide +kernel
theorem nets_ok (a:Nat) (ha:a<4) (b:Nat) (hb:b<4-a) (c:Nat) (hc:c<4-a-b):netOk a (b+1) (c+1)=true:=netsL_ok _ (List.contains_iff_mem.mp (netsL_in a ha b hb c hc))
theorem effs_cols (n:Nat):effs (n:Int)=colsF n:=by
 unfold effs colsF colL
 rw[show((n:Int)+1).toNat=n+1 by lia]
 rfl
theorem low_parts {d0 d1 x c0 c1:Int} {T:Nat} (hT:0<T) (hT2:T<16) (o:Bool):Txt.lower (S (nameF (partsF d0 d1 x T c0 c1) o))=S [97+(clsF d0 d1 x T c0 c1).1.toNat,97+(clsF d0 d1 x T c0 c1).2.toNat]:=by
 have hp:(0:Int)<T:=Int.ofNat_lt.mpr hT
 have b:∀z:Int,(z% (T:Int)).toNat<16:=fun z=>by have:=Int.emod_lt_of_pos z hp;have:=Int.emod_nonneg z (Ne.symm (Int.ne_of_lt hp));lia
 exact(low_ok _ (b (num1 d1 x c0 c1)) _ (b (num2 d0 x c0 c1)) _).1
theorem low_iff {d0 d1 x a0 a1 c0 c1:Int} {T:Nat} (hT:0<T) (hT2:T<16) (o q:Bool):decide (Txt.lower (S (nameF (partsF d0 d1 x T a0 a1) o))=Txt.lower (S (nameF (partsF d0 d1 x T c0 c1) q)))=decide (clsF d0 d1 x T a0 a1=clsF d0 d1 x T c0 c1):=by
 rw[low_parts hT hT2,low_parts hT hT2,decide_eq_decide]
 have hp:(0:Int)<T:=Int.ofNat_lt.mpr hT
 have nn:∀z:Int,0≤z% (T:Int):=fun z=>Int.emod_nonneg z (Ne.symm (Int.ne_of_lt hp))
 constructor
 ·intro h
  have h:=S_inj.mp h
  have h1:=(List.cons.inj h).1
  have h2:=(List.cons.inj (List.cons.inj h).2).1
  refine Prod.ext ?_ ?_
  ·have:=nn (num1 d1 x a0 a1);have:=nn (num1 d1 x c0 c1)
   show num1 d1 x a0 a1%T=num1 d1 x c0 c1%T
   have h1:97+(num1 d1 x a0 a1%T).toNat=97+(num1 d1 x c0 c1%T).toNat:=h1
   lia
  ·have:=nn (num2 d0 x a0 a1);have:=nn (num2 d0 x c0 c1)
   show num2 d0 x a0 a1%T=num2 d0 x c0 c1%T
   have h2:97+(num2 d0 x a0 a1%T).toNat=97+(num2 d0 x c0 c1%T).toNat:=h2
   lia
 ·intro h;rw[h]
theorem loads_is {d0 d1 x T n:Nat} {c0 c1:Int} (hT:0<T) (hT2:T<16):((colsF n).filter fun l=>decide (Txt.lower (hdF d0 d1 x T l).1=Txt.lower (S (nameF (partsF (d0:Nat) (d1:Nat) x T c0 c1) true))))=loadsF d0 d1 x T n c0 c1:=by
 unfold loadsF
 rw[effs_cols]
 congr 1
 funext l
 exact low_iff hT hT2 false true
theorem met_fold {α:Type} [DecidableEq α] (xs:List α) (d:α) (n:Nat) (hn:n≤xs.length):metF (fun i=>xs.getD i d) n=(xs.take n).foldl (fun s a=>if a∈s then s else s++[a]) []:=by
 induction n with
 |zero=>rfl
 |succ n ih=>
  have e:xs.take (n+1)=xs.take n++[xs.getD n d]:=by
   rw[List.take_succ,getElem?_eq_getElem hn,getD_eq_getElem?_getD,getElem?_eq_getElem hn];rfl
  rw[e,List.foldl_append,←ih (Nat.le_of_succ_le hn)]
  rfl
theorem fold_same {α β γ:Type} [DecidableEq β] [BEq γ] [LawfulBEq γ] (f:α→β) (g:α→γ) (h:∀a b,f a=f b↔g a=g b) (ls:List α):∀us:List α,((ls.map f).foldl (fun s a=>if a∈s then s else s++[a]) (us.map f)).length=((ls.map g).foldl (fun s a=>if s.contains a then s else a::s) (us.reverse.map g)).length:=by
 induction ls with
 |nil=>intro us;simp
 |cons a ls ih=>
  intro us
  rw[map_cons,map_cons,foldl_cons,foldl_cons]
  have e:f a∈us.map f↔(us.reverse.map g).contains (g a)=true:=by
   rw[List.contains_iff_mem,mem_map,mem_map]
   constructor
   ·intro⟨b,hb,q⟩;exact⟨b,List.mem_reverse.mpr hb,(h b a).mp q⟩
   ·intro⟨b,hb,q⟩;exact⟨b,List.mem_reverse.mp hb,(h b a).mpr q⟩
  by_cases q:f a∈us.map f
  ·rw[if_pos q,if_pos (e.mp q)];exact ih us
  ·rw[if_neg q,if_neg fun w=>q (e.mpr w)]
   have:=ih (us++[a])
   rw[map_append,List.reverse_append]at this
   exact this
theorem many_is {d0 d1 x T n:Nat} (hT:0<T) (hT2:T<16):manyS ((colsF n).map fun l=>Txt.lower (hdF d0 d1 x T l).1)=manyF d0 d1 x T n:=by
 unfold manyS manyF dist
 rw[met_fold _ _ _ (Nat.le_refl _),List.take_length,effs_cols]
 refine fold_same (fun l=>Txt.lower (hdF d0 d1 x T l).1) (fun l:List Nat=>clsF d0 d1 x T (l.getD 0 0:Nat) (l.getD 1 0:Nat)) (fun a b=>?_) (colsF n) []
 exact decide_eq_decide.mp (low_iff hT hT2 false false)
noncomputable def nmL (p:Nat):List Nat:=if p%2=0 then[97,98,99]else[65,66,67]
noncomputable def letF (p o:Nat):Nat:=(nmL p).getD o 0
noncomputable abbrev swap2 (r:Nat×Nat):List (Nat×Nat):=[r,(r.2,r.1)]
noncomputable def rdH (cs:List (List Nat)) (p:Nat) (q:Nat×Nat):Str×Str:=(S [letF p q.1],S (cs.getD q.2 []))
noncomputable def toldH (rs:List (Nat×Nat)) (cs:List (List Nat)):Hd:=(List.range rs.length).flatMap fun p=>(swap2 (rs.getD p (0,0))).map (rdH cs p)
noncomputable def toldT (rs:List (Nat×Nat)) (cs:List (List Nat)):Hd:=toldH rs cs++[(S [97,66,99],S [46])]
noncomputable def sgnF (ps:List Int):List (List Nat):=ps.map fun p=>ops.getD p.toNat []
noncomputable def endsF (rs:List (Nat×Nat)) (t:Nat):List Nat:=rs.flatMap fun r=>((swap2 r).filter fun q=>decide (q.1=t)).map (·.2)
noncomputable def toldN (rs:List (Nat×Nat)) (ps:List Int):List (List Int):=[0,1,2].map fun t=>(endsF rs t).map fun u=>7+ps.getD u 0
noncomputable abbrev RdOK (rs:List (Nat×Nat)):Prop:=rs.length≤5∧∀r∈rs,r.1<3∧r.2<3
theorem let_ok (p:Nat):∀o,o<3→(nmL p)[o]? =some (letF p o)∧Txt.lower (S [letF p o])=S [97+o]∧64<letF p o∧letF p o<127:=by
 unfold letF nmL
 by_cases h:p%2=0
 ·rw[if_pos h];decide +kernel
 ·rw[if_neg h];decide +kernel
theorem range_flat {α β:Type} (rs:List α) (d:α) (h:α→List β):(List.range rs.length).flatMap (fun p=>h (rs.getD p d))=rs.flatMap h:=by
 have e:(List.range rs.length).map (fun p=>rs.getD p d)=rs:=by
  refine List.ext_getElem (by rw[length_map,length_range]) fun i h1 h2=>?_
  rw[List.getElem_map,List.getElem_range,getD_eq_getElem?_getD,getElem?_eq_getElem h2];rfl
 have e2:=congrArg (fun l=>l.flatMap h) e
 rw[←show((List.range rs.length).map (fun p=>rs.getD p d)).flatMap h=rs.flatMap h from e2,List.flatMap_def,List.flatMap_def,map_map];rfl
theorem flat_congr {α β:Type} {f g:α→List β} {l:List α} (h:∀a∈l,f a=g a):l.flatMap f=l.flatMap g:=by
 rw[List.flatMap_def,List.flatMap_def,map_congr_left h]
theorem get_mem {α:Type} {l:List α} {p:Nat} (d:α) (h:p<l.length):l.getD p d∈l:=by
 rw[getD_eq_getElem?_getD,getElem?_eq_getElem h];exact getElem_mem _
theorem swap_ok {rs:List (Nat×Nat)} (R:RdOK rs) {r:Nat×Nat} (h:r∈rs) {q:Nat×Nat} (hq:q∈swap2 r):q.1<3∧q.2<3:=by
 obtain⟨h1,h2⟩:=R.2 r h
 rcases mem_cons.mp hq with rfl|hq
 ·exact⟨h1,h2⟩
 ·cases mem_singleton.mp hq;exact⟨h2,h1⟩
theorem told_mem {rs:List (Nat×Nat)} (R:RdOK rs) {cs:List (List Nat)} {p:Str×Str} (h:p∈toldH rs cs):∃i q,q.1<3∧q.2<3∧p=rdH cs i q:=by
 obtain⟨i,hi,h⟩:=List.mem_flatMap.mp h
 obtain⟨q,hq,rfl⟩:=mem_map.mp h
 have hr:=get_mem (0,0) (mem_range.mp hi)
 exact⟨i,q,(swap_ok R hr hq).1,(swap_ok R hr hq).2,rfl⟩
theorem low_abc:Txt.lower (S [97,66,99])=S [97,98,99]∧Txt.lower (S [65,98,99])=S [97,98,99]:=by decide +kernel
theorem low_name:∀t,t<3→Txt.lower (S [[65,98,67].getD t 0])=S [97+t]:=by decide +kernel
theorem one_ok {a:Nat} (ha:a<120) (hb:31<a):PyData.strOk (S [a])=true∧okText (S [a]) false=true∧tooLong (S [a]).length=false:=
 ⟨S_ok fun c hc=>by rw[mem_singleton.mp hc];lia,okS fun c hc=>by rw[mem_singleton.mp hc];lia,rfl⟩
theorem told_low {rs:List (Nat×Nat)} (R:RdOK rs) {cs:List (List Nat)}:∀p∈toldT rs cs,tooLong (Txt.lower p.1).length=false∧PyData.strOk (Txt.lower p.1)=true:=fun p hp=>by
 rcases mem_append.mp hp with hp|hp
 ·obtain⟨i,q,h1,h2,rfl⟩:=told_mem R hp
  show tooLong (Txt.lower (S [letF i q.1])).length=false∧PyData.strOk (Txt.lower (S [letF i q.1]))=true
  rw[(let_ok i q.1 h1).2.1]
  have:=one_ok (a:=97+q.1) (by lia) (by lia)
  exact⟨this.2.2,this.1⟩
 ·cases mem_singleton.mp hp
  show tooLong (Txt.lower (S [97,66,99])).length=false∧PyData.strOk (Txt.lower (S [97,66,99]))=true
  rw[low_abc.1];exact⟨rfl,S_ok fun c hc=>by simp at hc;lia⟩
theorem ga_abc {rs:List (Nat×Nat)} (R:RdOK rs) {cs:List (List Nat)}:gaF (toldT rs cs) (S [97,98,99])=[S [46]]:=by
 unfold gaF toldT
 rw[List.filter_append,show(toldH rs cs).filter (fun p=>decide (Txt.lower p.1=S [97,98,99]))=[]from List.filter_eq_nil_iff.mpr fun p hp=>by
  obtain⟨i,q,h1,h2,rfl⟩:=told_mem R hp
  show¬decide (Txt.lower (S [letF i q.1])=_)=true
  rw[(let_ok i q.1 h1).2.1,decide_eq_true_eq,S_inj]
  simp]
 rw[nil_append,List.filter_cons_of_pos (by rw[low_abc.1];exact decide_eq_true rfl)]
 rfl
theorem seg_told {cs:List (List Nat)} {t:Nat} (ht:t<3) (i:Nat) {l:List (Nat×Nat)} (hl:∀q∈l,q.1<3):((l.map (rdH cs i)).filter fun p=>decide (Txt.lower p.1=S [97+t])).map (·.2)=((l.filter fun q=>decide (q.1=t)).map (·.2)).map fun u=>S (cs.getD u []):=by
 rw[List.filter_map,map_map,map_map]
 have e:l.filter ((fun p:Str×Str=>decide (Txt.lower p.1=S [97+t]))∘rdH cs i)=l.filter fun q=>decide (q.1=t):=List.filter_congr fun q hq=>by
  show decide (Txt.lower (S [letF i q.1])=S [97+t])=_
  rw[(let_ok i q.1 (hl q hq)).2.1,decide_eq_decide,S_inj]
  constructor
  ·intro h;have:=(List.cons.inj h).1;lia
  ·intro h;rw[h]
 rw[e]
 exact map_congr_left fun q ux=>rfl
theorem abc_ne (t:Nat):[((S [97,66,99],S [46]):Str×Str)].filter (fun p=>decide (Txt.lower p.1=S [97+t]))=[]:=List.filter_eq_nil_iff.mpr fun p hp=>by
 cases mem_singleton.mp hp
 rw[decide_eq_true_eq,low_abc.1,S_inj]
 intro h
 exact absurd (congrArg List.length h) (by show¬(3=1);decide)
theorem ga_told {rs:List (Nat×Nat)} (R:RdOK rs) {cs:List (List Nat)} {t:Nat} (ht:t<3):gaF (toldT rs cs) (S [97+t])=(endsF rs t).map fun u=>S (cs.getD u []):=by
 unfold gaF toldT
 rw[List.filter_append,abc_ne,append_nil]
 unfold toldH endsF
 rw[List.filter_flatMap,List.map_flatMap,List.map_flatMap,←range_flat rs (0,0)]
 refine flat_congr fun i hi=>?_
 exact seg_told ht i fun q hq=>(swap_ok R (get_mem (0,0) (mem_range.mp hi)) hq).1
theorem ends_lt {rs:List (Nat×Nat)} (R:RdOK rs) {t:Nat}:∀u∈endsF rs t,u<3:=fun u hu=>by
 obtain⟨r,hr,h⟩:=List.mem_flatMap.mp hu
 obtain⟨q,hq,rfl⟩:=mem_map.mp h
 exact(swap_ok R hr (mem_filter.mp hq).1).2
theorem ends_len {rs:List (Nat×Nat)} {t:Nat}:(endsF rs t).length≤2*rs.length:=by
 unfold endsF
 induction rs with
 |nil=>exact Nat.le_refl _
 |cons r rs ih=>
  rw[flatMap_cons,length_append,length_map,length_cons]
  have:=length_filter_le (fun q:Nat×Nat=>decide (q.1=t)) (swap2 r)
  have e:(swap2 r).length=2:=rfl
  lia
theorem told_len (rs:List (Nat×Nat)) (cs:List (List Nat)):(toldH rs cs).length=2*rs.length:=by
 have:∀l:List Nat,(l.flatMap fun p=>(swap2 (rs.getD p (0,0))).map (rdH cs p)).length=2*l.length:=fun l=>by
  induction l with
  |nil=>rfl
  |cons a l ih=>rw[flatMap_cons,length_append,ih,length_cons];show 2+_=_;lia
 unfold toldH
 rw[this,length_range]
theorem tok_op {p:Int} (h:0≤p∧p<48):tokN (S (ops.getD p.toNat []))=some (7+p):=by
 have h1:p.toNat<ops.length:=by rw[ops_ok.2.1];lia
 have h2:ops.findIdx? (fun o=>o==ops.getD p.toNat [])=some p.toNat:=by
  rw[getD_eq_getElem?_getD,getElem?_eq_getElem h1]
  refine Iff.mpr (List.findIdx?_eq_some_iff_getElem) ?_
  refine⟨h1,by simp,fun j hj=>?_⟩
  have hne:ops[j]≠ops[p.toNat]:=List.pairwise_iff_getElem.mp ops_ok.2.2.2 j p.toNat (Nat.lt_trans hj h1) h1 hj
  simpa using hne
 unfold tokN
 rw[S_list,h2]
 show some (7+(p.toNat:Int))=_
 rw[Int.toNat_of_nonneg h.1]
noncomputable abbrev PlOK (ps:List Int):Prop:=ps.length=3∧∀p∈ps,0≤p∧p<48
theorem sgn_get {ps:List Int} {u:Nat} (h:u<ps.length):(sgnF ps).getD u []=ops.getD (ps.getD u 0).toNat []:=by
 unfold sgnF
 rw[getD_eq_getElem?_getD,getElem?_map,getD_eq_getElem?_getD (l:=ps),getElem?_eq_getElem h];rfl
theorem sgn_ok {ps:List Int} (P:PlOK ps) {u:Nat} (h:u<3):((sgnF ps).getD u []).length≤3∧(∀c∈(sgnF ps).getD u [],32<c∧c<127)∧tokN (S ((sgnF ps).getD u []))=some (7+ps.getD u 0):=by
 have hu:u<ps.length:=by rw[P.1];exact h
 rw[sgn_get hu]
 have hp:=P.2 _ (get_mem 0 hu)
 refine⟨?_,?_,tok_op hp⟩
 all_goals
  have hm:ops.getD (ps.getD u 0).toNat []∈ops:=get_mem [] (by rw[ops_ok.2.1];lia)
  have:=all_eq_true.mp ops_ok.2.2.1 _ hm
  rw[Bool.and_eq_true,Bool.and_eq_true]at this
 ·exact of_decide_eq_true this.1.1
 ·intro c hc
  have:=all_eq_true.mp this.2 c hc
  rw[Bool.and_eq_true,Bool.and_eq_true,Bool.and_eq_true]at this
  exact⟨of_decide_eq_true this.1.1.2,of_decide_eq_true this.1.1.1⟩
section
variable {m:Mod} {k:Nat} {ns:Names} {nm:List Str} {hs hs1:HS} {x y:Str} {pos px py tp:Pos} {tc:Nat} {wv w:W}
theorem z_noh {Γ:Gam} {t:Expr} {b:List Stmt} (h1:TsR m k ns Γ hs t false hs1):StR m k ns Γ hs (.If t b [] pos) .nx Γ hs1:=st_if h1 x_nil
theorem ts_or2 {Γ:Gam} {a b:Expr} (h1:TsR m k ns Γ hs a false hs) (h2:TsR m k ns Γ hs b false hs):TsR m k ns Γ hs (.BoolOp .Or [a,b] pos) false hs:=ts_or h1 fun ux=>h2
theorem x_forth (i j:Nat) {it:Expr} {b r:List Stmt} {α σ J2:Type} {fl:Fl} {Q:J2→Gam} {Rr:Prop} (φ1 φ2:α→V) (G:Slot→Slot→σ→List Slot) (H:σ→HS) (st:σ→α→σ) (P:Nat→σ→Prop) (l:List α) (sl1 sl2:Slot) (s:σ) (hx:zok ns nm x i=true) (hy:zok ns nm y j=true)
 (hset:NSet it) (h1:EvR m k ns (Gz nm (G sl1 sl2 s)) (H s) it wv (H s)) (ho:isO wv=false) (ei:ItsR wv (l.map fun a=>V.tup [φ1 a,φ2 a])) (hG:∀a b s u v,((G a b s).set i (.p u)).set j (.p v)=G (.p u) (.p v) s) (hp:P 0 s)
 (body:∀n a,l[n]? =some a→∀s,P n s→XR m k ns (Gz nm (G (.p (φ1 a)) (.p (φ2 a)) s)) (H s) b .nx (Gz nm (G (.p (φ1 a)) (.p (φ2 a)) (st s a))) (H (st s a))∧P (n+1) (st s a))
 (rest:∀sl1 sl2,P l.length (l.foldl st s)→(∃j2,XR m k ns (Gz nm (G sl1 sl2 (l.foldl st s))) (H (l.foldl st s)) r fl (Q j2) hs1)∧Rr):(∃j2,XR m k ns (Gz nm (G sl1 sl2 s)) (H s) (.For (.Tuple [.Name x px,.Name y py] tc tp) it b [] pos::r) fl (Q j2) hs1)∧Rr:=by
 refine hid fun G_ k_=>?_
 obtain⟨sl',j',h5,h6⟩:=for_ofh (B:=TurnS m k ns (.Tuple [.Name x px,.Name y py] tc tp) b) (fun a=>V.tup [φ1 a,φ2 a]) (fun _ (j:Slot×Slot) s=>Gz nm (G j.1 j.2 s)) H st l P .any (sl1,sl2) s hp fun n a ha sl jj s hs=>by
  refine⟨⟨(.p (φ1 a),.p (φ2 a)),Gz nm (G (.p (φ1 a)) (.p (φ2 a)) s),?_,(body n a ha s hs).1⟩,(body n a ha s hs).2⟩
  refine .tup (.cons ?_)
  rw[gz_set (zok_of hx).2.2]
  refine .cons ?_
  rw[gz_set (zok_of hy).2.2,hG]
  exact .nil
 obtain⟨⟨j2,h7⟩,h8⟩:=rest j'.1 j'.2 h6
 refine k_ ?_
 refine⟨⟨j2,x_cons (st_for hset (fun z hz=>?_) h1 ho ei h5) h7⟩,h8⟩
 have hz:z∈[x,y]:=hz
 rcases mem_cons.mp hz with rfl|hz
 ·exact(zok_of hx).1
 ·cases mem_singleton.mp hz;exact(zok_of hy).1
end
section
variable {m:Mod} {k:Nat} {hs:HS}
theorem ne_strs {l:List Str} (h:∀v∈l,PyData.strOk v=true):CmpR m .NotEq (.lst (l.map V.str)) (.lst (l.map V.str)) false:=by
 have:=(eq_r (m:=m) (beq_strs h h)).2
 rw[decide_eq_true rfl]at this
 exact this
variable (O:m.Ok) (B:m.Bs)
include O B
theorem told_r (F:FnH2 m "_law_told") (N:NewR m) (AH:AddH m) (KH:KeysH m) (GH:GetH m) (gT:GlT m) (TO:TokOK m tokN) {rs:List (Nat×Nat)} (R:RdOK rs) {ps:List Int} (P:PlOK ps):
 FnR m (k+2) hs "_law_told" [.lst (vroads rs),.lst (vstrs (sgnF ps))] (.f (vii (toldN rs ps))) hs:=by
 have hb:(P2 "_law_told").body=(P2 "_law_told").body:=rfl
 conv at hb=>rhs;whnf
 have hn_:(P2 "_law_told").scope.names=(P2 "_law_told").scope.names:=rfl
 conv at hn_=>rhs;whnf
 refine fz_rt (hs2:=setHs (hs++[[]]) hs.length (toldT rs (sgnF ps))) (nm:=["roads","signs","table","laid","place","names","one","two","here","there"]) (sl0:=[.any,.any,.any,.any,.any,.any,.any,.any,.any,.any]) (ps:=["roads","signs"]) O F (by kernel_rfl!) hb hn_ rfl (z_par (i:=0) (by kernel_rfl!) (z_par (i:=1) (by kernel_rfl!) .nil)) (by kernel_rfl!) (pv_map 8 (fun a=>V.lst (vints a)) _ fun a ux=>pv_map 7 (fun(i:Int)=>V.int i) a fun ux ux=>rfl) (by unfold setHs;rw[List.set_append_right _ _ (Nat.le_refl _),List.take_left]) ?_
 clear hb hn_
 refine e_cons (hs1:=hs++[[]]) (Γ1:=Gz ["roads","signs","table","laid","place","names","one","two","here","there"] [.p (.lst (vroads rs)),.p (.lst (vstrs (sgnF ps))),.p (.hdr hs.length),.any,.any,.any,.any,.any,.any,.any]) (by exists z_asn (i:=2) kk (ev_new O N (by kernel_rfl!)) rfl .p) ?_
 have hr:hs.length<(hs++[([]:Hd)]).length:=by rw[length_append];exact Nat.lt_succ_self _
 have e0:hs++[[]]=setHs (hs++[[]]) hs.length []:=by
  unfold setHs
  rw[List.set_append_right _ _ (Nat.le_refl _),Nat.sub_self];rfl
 refine Eq.mp (congrArg (fun q=>XE _ _ _ _ q _ _ _) e0.symm) ?_
 clear e0
 generalize hs++[([]:Hd)]=h0 at hr ⊢
 refine e_cons (by exists z_asn (i:=3) kk (ev_list ar_nil kk) rfl .o) ?_
 have hr5:=R.1
 have fl:BiR m "len" [.lst (vroads rs)] (.p (.int rs.length)):=by
  have:=len_l (m:=m) (f:="len") B.len (l:=vroads rs)
  rw[length_map]at this
  exact this
 refine z_forh 4 (fun(p:Nat)=>V.int p) (fun sl (j:Slot×Slot×Slot×Slot×Slot) (s:Hd)=>[.p (.lst (vroads rs)),.p (.lst (vstrs (sgnF ps))),.p (.hdr hs.length),.o (s.map fun p=>V.str p.1),sl,j.1,j.2.1,j.2.2.1,j.2.2.2.1,j.2.2.2.2]) (fun s=>setHs h0 hs.length s) (fun s p=>s++(swap2 (rs.getD p (0,0))).map (rdH (sgnF ps) p)) (fun i s=>s.length≤2*i) (List.range rs.length) .any (.any,.any,.any,.any,.any) []
  (by kernel_rfl!) rfl (by exists z_bi kk O (ws_cons (z_bi kk O (ws_cons (z_v 0) ws_nil rfl) (.cons rfl .nil) fl) ws_nil rfl) (.cons rfl .nil) (range1 B.range (small_nat (by lia)))) rfl (its_rng _) (fun ux ux ux ux=>rfl) (Nat.le_refl _) (fun i p hp j s hl=>?_) (fun sl j ux=>?_)
 ·have hi:i<rs.length:=by
   have h:=(List.getElem?_eq_some_iff.mp hp).1
   rw[length_range]at h;exact h
  have hp:=mem_range.mp (mem_of_getElem? hp)
  have hmem:=get_mem (0,0) hp
  have s1:SubR m (.lst (vroads rs)) (.int p) (.tup [.int (rs.getD p (0,0)).1,.int (rs.getD p (0,0)).2]):=sub_d (m:=m) (φ:=fun p:Nat×Nat=>V.tup [.int p.1,.int p.2]) (0,0) hp
  have hsw:=fun q hq=>swap_ok R hmem (q:=q) hq
  obtain⟨⟨o,t⟩,hrd⟩:∃r,r=rs.getD p (0,0):=⟨_,rfl⟩
  rw[←hrd]at s1 hsw ⊢
  clear hrd hmem
  have e1:BinR m .Mod (.int p) (.int 2) (.p (.int ((p%2:Nat):Int))):=fmod_nat p 2▸mod_r (by decide)
  have s2:SubR m (.lst [.str (S [97,98,99]),.str (S [65,66,67])]) (.int ((p%2:Nat):Int)) (.str (S (nmL p))):=by
   have h2:=Nat.mod_lt p (show 2>0 by decide)
   have:=sub_d (m:=m) (φ:=fun x=>V.str (S x)) (l:=[[97,98,99],[65,66,67]]) (j:=p%2) [] h2
   unfold nmL
   by_cases q:p%2=0
   ·rw[if_pos q];rw[q]at this ⊢;exact this
   ·have q:p%2=1:=by lia
    rw[if_neg (by lia)];rw[q]at this ⊢;exact this
  refine xj_cons (by exists z_asn (i:=5) kk (ev_sub (ev_list (ar_cons (ev_strS (y:=S [97,98,99]) (by rfl) (by kernel_rfl!)) (ar_cons (ev_strS (y:=S [65,66,67]) (by rfl) (by kernel_rfl!)) ar_nil rfl rfl) rfl rfl) kk) (ev_bin (z_v 4) (ev_int _ _) rfl rfl e1) rfl rfl s2) rfl .p) ?_
  refine xj_cons (by exists z_tup2 (i:=6) (j:=7) kk kk rfl (ev_sub (z_v 0) (z_v 4) rfl rfl s1)) ?_
  rw[show s++(swap2 (o,t)).map (rdH (sgnF ps) p)=(swap2 (o,t)).foldl (fun s q=>s++[rdH (sgnF ps) p q]) s by rw[fold1]]
  refine x_forth 8 9 (fun(q:Nat×Nat)=>V.int q.1) (fun q=>V.int q.2) (fun sl1 sl2 (s:Hd)=>[.p (.lst (vroads rs)),.p (.lst (vstrs (sgnF ps))),.p (.hdr hs.length),.o (s.map fun p=>V.str p.1),.p (.int p),.p (.str (S (nmL p))),.p (.int o),.p (.int t),sl1,sl2]) (fun s=>setHs h0 hs.length s) (fun s q=>s++[rdH (sgnF ps) p q]) (fun i s'=>s'.length≤s.length+i) (swap2 (o,t)) j.2.2.2.1 j.2.2.2.2 s
   (by kernel_rfl!) (by kernel_rfl!) rfl (by exists ev_tup (ar_cons (ev_tup (ar_cons (z_v 6) (ar_cons (z_v 7) ar_nil rfl rfl) rfl rfl) kk) (ar_cons (ev_tup (ar_cons (z_v 7) (ar_cons (z_v 6) ar_nil rfl rfl) rfl rfl) kk) ar_nil rfl rfl) rfl rfl) kk) rfl .t (fun ux ux ux ux ux=>rfl) (Nat.le_refl _) (fun n q hq s' hl'=>?_) (fun sl1 sl2 hl'=>⟨⟨(.p (.str (S (nmL p))),.p (.int o),.p (.int t),sl1,sl2),x_nil⟩,?_⟩)
  ·have hn2:n<2:=(List.getElem?_eq_some_iff.mp hq).1
   obtain⟨q1,q2⟩:=hsw q (mem_of_getElem? hq)
   obtain⟨l1,l2,l3,l4⟩:=let_ok p q.1 q1
   have hl'':s'.length≤s.length+n:=hl'
   have n3:(nmL p).length≤16777216:=by unfold nmL;split<;>decide
   have s3:SubR m (.str (S (nmL p))) (.int q.1) (.str (S [letF p q.1])):=sub_S l1 n3
   have s4:SubR m (.lst (vstrs (sgnF ps))) (.int q.2) (.str (S ((sgnF ps).getD q.2 []))):=sub_d (m:=m) (φ:=fun x=>V.str (S x)) [] (by unfold sgnF;rw[length_map,P.1];exact q2)
   obtain⟨c1,c2,c3⟩:=sgn_ok P q2
   have f9:=AH (k+1-1) (setHs h0 hs.length s') hs.length (S [letF p q.1]) (S ((sgnF ps).getD q.2 [])) s' (set_get s' hr) (okS fun c hc=>by rw[mem_singleton.mp hc];lia) (okS fun c hc=>by have:=c2 c hc;lia) (join1 (by rw[S_len];lia)) (room_of (by lia))
   rw[set_set]at f9
   refine⟨?_,by rw[length_append,length_singleton];lia⟩
   show XR _ _ _ _ _ _ _ (Gz _ [_,_,_,.o ((s'++[rdH (sgnF ps) p q]).map fun p=>V.str p.1),_,_,_,_,_,_]) _
   rw[map_append]
   refine x_cons (by exists z_app (i:=3) kk rfl (ar_cons (ev_sub (z_v 5) (z_v 8) rfl rfl s3) ar_nil rfl rfl) kk dd (room_of (by rw[length_map];lia))) ?_
   exact x_cons (z_noh (by exists ts_cmp rfl (ev_hm rfl rfl dd (z_v 2) (ws_cons (ev_sub (z_v 5) (z_v 8) rfl rfl s3) (ws_cons (ev_sub (z_v 1) (z_v 9) rfl rfl s4) ws_nil rfl) rfl) (.cons rfl (.cons rfl .nil)) f9) (ev_none _) rfl rfl (is_nn.2))) x_nil
  ·exact Nat.le_trans hl' (by show s.length+2≤_;lia)
 ·have efold:(List.range rs.length).foldl (fun s p=>s++(swap2 (rs.getD p (0,0))).map (rdH (sgnF ps) p)) ([]:Hd)=toldH rs (sgnF ps):=by
   have:∀(l:List Nat) (s:Hd),l.foldl (fun s p=>s++(swap2 (rs.getD p (0,0))).map (rdH (sgnF ps) p)) s=s++l.flatMap fun p=>(swap2 (rs.getD p (0,0))).map (rdH (sgnF ps) p):=fun l=>by
    induction l with
    |nil=>intro s;rw[List.flatMap_nil,append_nil];rfl
    |cons a l ih=>intro s;rw[foldl_cons,ih,flatMap_cons,append_assoc]
   rw[this,nil_append];rfl
  rw[efold]
  have hlen:=told_len rs (sgnF ps)
  have hlow:=told_low R (cs:=sgnF ps)
  have hgab:=ga_abc R (cs:=sgnF ps)
  have hgt:=fun t ht=>ga_told R (cs:=sgnF ps) (t:=t) ht
  have hmem:=fun p hp=>told_mem R (cs:=sgnF ps) (p:=p) hp
  unfold toldT at hlow hgab hgt
  show XE _ _ _ _ _ _ _ (setHs h0 hs.length (toldH rs (sgnF ps)++[(S [97,66,99],S [46])]))
  generalize toldH rs (sgnF ps)=th at hlen hlow hgab hgt hmem ⊢
  have f9:=AH (k+1-1) (setHs h0 hs.length th) hs.length (S [97,66,99]) (S [46]) th (set_get th hr) (okS fun c hc=>by simp at hc;lia) (okS fun c hc=>by rw[mem_singleton.mp hc];decide) (join1 (by decide)) (room_of (by lia))
  rw[set_set]at f9
  refine e_cons (st_call (by exists ev_hm rfl rfl dd (z_v 2) (ws_cons (ev_strS (y:=S [97,66,99]) (by rfl) (by kernel_rfl!)) (ws_cons (ev_strS (y:=S [46]) (by rfl) (by kernel_rfl!)) ws_nil rfl) rfl) (.cons rfl (.cons rfl .nil)) f9)) ?_
  have hg9:=set_get (hs:=h0) (r:=hs.length) (th++[(S [97,66,99],S [46])]) hr
  have hl9:(th++[((S [97,66,99],S [46]):Str×Str)]).length≤100000:=by rw[length_append,length_singleton];lia
  have fk:=KH (k+1-1) _ _ _ hg9 hl9
  have fa:=GH (k+1-1) _ _ (S [65,98,99]) (S [97,98,99]) _ hg9 low_abc.2 rfl (okS fun c hc=>by simp at hc;lia) (S_ok fun c hc=>by simp at hc;lia) hlow hl9
  rw[hgab]at fa
  have fN:CmpR m .NotEq (.lst ((th++[(S [97,66,99],S [46])]).map fun p=>V.str p.1)) (.lst ((th.map fun p=>V.str p.1)++[.str (S [97,66,99])])) false:=by
   have:=ne_strs (m:=m) (l:=(th++[(S [97,66,99],S [46])]).map (·.1)) fun v hv=>by
    obtain⟨p,hp,rfl⟩:=mem_map.mp hv
    rcases mem_append.mp hp with hp|hp
    ·obtain⟨i,q,h1,h2,rfl⟩:=hmem p hp
     obtain⟨l1,l2,l3,l4⟩:=let_ok i q.1 h1
     exact S_ok fun c hc=>by rw[mem_singleton.mp hc];lia
    ·cases mem_singleton.mp hp
     exact S_ok fun c hc=>by simp at hc;lia
   rw[map_map]at this
   have e:(th++[(S [97,66,99],S [46])]).map (fun p=>V.str p.1)=(th.map fun p=>V.str p.1)++[V.str (S [97,66,99])]:=map_append
   rw[←e]
   exact this
  have fM:CmpR m .NotEq (.lst ([S [46]].map V.str)) (.lst [.str (S [46])]) false:=ne_strs (m:=m) (l:=[S [46]]) fun v hv=>by
   rw[mem_singleton.mp hv];exact S_ok fun c hc=>by rw[mem_singleton.mp hc];decide
  have hth:th.length≤10:=by lia
  have fg:∀t,t<3→HmR m (k+1) "get_all" hs.length [.str (S [[65,98,67].getD t 0])] (setHs h0 hs.length (th++[(S [97,66,99],S [46])])) (.f ((endsF rs t).map fun u=>V.str (S ((sgnF ps).getD u [])))) (setHs h0 hs.length (th++[(S [97,66,99],S [46])])):=fun t ht=>by
   have h1:=one_ok (a:=97+t) (by lia) (by lia)
   have:=GH k _ _ (S [[65,98,67].getD t 0]) (S [97+t]) _ hg9 (low_name t ht) h1.2.2 h1.2.1 h1.1 hlow hl9
   rw[hgt t ht,map_map]at this
   exact this
  generalize setHs h0 hs.length (th++[(S [97,66,99],S [46])])=h9 at*
  refine e_cons (z_noh (ts_or2 (by exists ts_cmp rfl (ev_hm rfl rfl dd (z_v 2) ws_nil .nil fk) (ev_bin (z_v 3) (ev_list (ar_cons (ev_strS (y:=S [97,66,99]) (by rfl) (by kernel_rfl!)) ar_nil rfl rfl) kk) rfl rfl (addl_r (room_of (by rw[length_map];show th.length+1≤_;lia)))) rfl rfl fN) (by exists ts_cmp rfl (ev_hm rfl rfl dd (z_v 2) (ws_cons (ev_strS (y:=S [65,98,99]) (by rfl) (by kernel_rfl!)) ws_nil rfl) (.cons rfl .nil) fa) (ev_list (ar_cons (ev_strS (y:=S [46]) (by rfl) (by kernel_rfl!)) ar_nil rfl rfl) kk) rfl rfl fM))) ?_
  have eV:vii (toldN rs ps)=[0,1,2].map fun t=>V.lst (vints ((endsF rs t).map fun u=>7+ps.getD u 0)):=map_map
  rw[eV]
  exact e_ret (by
   refine' st_ret ?a1 ?a2
   case a2=>exact .f
   case a1=>
    refine' ev_comp ?a3
    case a3=>
     refine' c_one (fun(t:Nat)=>V.str (S [[65,98,67].getD t 0])) (fun t=>V.lst (vints ((endsF rs t).map fun u=>7+ps.getD u 0))) [0,1,2] ⟨by kernel_rfl!,by kernel_rfl!,.inl (by kernel_rfl!),by kernel_rfl!,by kernel_rfl!,rfl⟩ rfl (by exists ev_tup (ar_cons (ev_strS (y:=S [65]) (by rfl) (by kernel_rfl!)) (ar_cons (ev_strS (y:=S [98]) (by rfl) (by kernel_rfl!)) (ar_cons (ev_strS (y:=S [67]) (by rfl) (by kernel_rfl!)) ar_nil rfl rfl) rfl rfl) rfl rfl) kk) .t ?a4 (show 3≤16777216 by decide)
     case a4=>
      intro t ht
      have ht:t<3:=by simp at ht;lia
      refine⟨.f (vints ((endsF rs t).map fun u=>7+ps.getD u 0)),?_,rfl⟩
      rw[show vints ((endsF rs t).map fun u=>7+ps.getD u 0)=(endsF rs t).map fun u=>V.int (7+ps.getD u 0)from map_map]
      refine' ev_comp ?a5
      case a5=>
       refine' c_one (fun(u:Nat)=>V.str (S ((sgnF ps).getD u []))) (fun(u:Nat)=>V.int (7+ps.getD u 0)) (endsF rs t) ⟨by kernel_rfl!,by kernel_rfl!,.inl (by kernel_rfl!),by kernel_rfl!,by kernel_rfl!,rfl⟩ rfl (by exists ev_hm rfl rfl dd (z_v 4) (ws_cons (z_v 1) ws_nil rfl) (.cons rfl .nil) (fg t ht)) .f ?a6 (Nat.le_trans ends_len (by lia))
       case a6=>
        intro u hu
        exact⟨_,(by exists ev_sub (z_tok O gT (by kernel_rfl!)) (z_v 1) rfl rfl (sub_tok TO O.tkd (sgn_ok P (ends_lt R u hu)).2.2)),rfl⟩)
end
section
variable {m:Mod} {k:Nat} {hs:HS} (O:m.Ok) (B:m.Bs)
include O B
theorem loads_z (F:FnH2 m "_law_loads") (Fp:FnH2 m "_law_parts") (Fm:FnH2 m "_law_name") (H:DivH m) (N:NewR m) (AH:AddH m) {c:List Int} {d:List Nat} {x T g:Nat} (hc3:c.length=3) (hd3:d.length=3)
 (hd0:d.getD 0 0<256) (hd1:d.getD 1 0<256) (hx:x<256) (hT:0<T) (hT2:T<16) {n:Int} (hn:c.sum=n) (hn1: -2≤n) (hn2:n≤20) (hc0:(c.getD 0 0).natAbs<256) (hc1:(c.getD 1 0).natAbs<256)
 (nset:BName m "set" (.type "set")) (KH:KeysH m) (GH:GetH m) (Fd:FnH2 m "_law_dots") (gT:GlT m) (TO:TokOK m tokN) (hmany:g≤n→manyF (d.getD 0 0) (d.getD 1 0) x T n=T):
 FnR m (k+32) hs "_law_loads" [.lst (vints c),.lst (nats d),.int x,.int T,.int g] (.f (vnn (loadsF (d.getD 0 0) (d.getD 1 0) x T n (c.getD 0 0) (c.getD 1 0)))) hs:=by
 by_cases h0:0≤n
 ·obtain⟨n',rfl⟩:=Int.eq_ofNat_of_zero_le h0
  rw[←loads_is hT hT2]
  exact loads_r O B F Fp Fm H N AH hc3 hd3 hd0 hd1 hx hT hT2 hn (by lia) hc0 hc1 nset KH GH Fd gT TO fun q=>by rw[many_is hT hT2];exact hmany (Int.ofNat_le.mpr q)
 ·have e:loadsF (d.getD 0 0) (d.getD 1 0) x T n (c.getD 0 0) (c.getD 1 0)=[]:=by
   unfold loadsF effs
   rw[show(n+1).toNat=0 by lia];rfl
  rw[e]
  exact loads_m O B F Fp Fm H N hc3 hd3 hd0 hd1 hx hT hT2 hn (by lia) hc0 hc1 GH
end
theorem pow_r {m:Mod} {a n:Int} (h1:0≤n) (h2:(Builtin.Int.intBits a:Int)*n≤2^27):BinR m .Pow (.int a) (.int n) (.p (.int (a^n.toNat))):= .ints fun ux ux ux ux ux=>pow_int h1 h2 (PostO.toks _ ⟨_,rfl⟩)
noncomputable abbrev lawN:List Str:=["script","cells","roads","places","signs","told","ties","sums","cross","trees","genus","size","chips","here","there","loads","start","goal","begin","end","apart","k","more","fire","mark","unit","far","number","many","coin","beside","great"]
noncomputable def unitF (c9:Int):Int:=2^(4200+c9%200).toNat+2^(2210:Int).toNat-1
noncomputable def farF (T:Nat) (c9:Int):Int:=2^((Builtin.Int.intBits ((T:Int)*unitF c9):Nat):Int).toNat-200-c9%1000
theorem pow_le {a b:Nat} (h:a≤b):(2:Int)^a≤2^b:=by
 rw[←kbt_cast,←kbt_cast]
 exact Int.ofNat_le.mpr (Nat.pow_le_pow_right (by decide) h)
theorem unit_ok (c9:Int) {A B:Nat} (hA:A≤4200) (hB:4400≤B):(2:Int)^A≤unitF c9∧unitF c9<2^B:=by
 unfold unitF
 obtain⟨a,ha⟩:∃a,a=(4200+c9%200).toNat:=⟨_,rfl⟩
 obtain⟨b,hb⟩:∃b,b=(2210:Int).toNat:=⟨_,rfl⟩
 rw[←ha,←hb]
 have hb:b=2210:=hb
 have h1:=pow_le (show A≤a by lia)
 have h2:=pow_le (show b≤a by lia)
 have h3:=pow_le (show a+1≤B by lia)
 have h4:=kbt_pos b
 rw[Int.pow_succ]at h3
 generalize (2:Int)^A=p at*
 generalize (2:Int)^B=q at*
 generalize (2:Int)^a=r at*
 generalize (2:Int)^b=s at*
 clear hb ha hA hB
 constructor<;>lia
structure StepOK (T:Nat) (N many coin:Int):Prop where
 m1:∃j,j≤4500∧many.natAbs<2^j
 c0:0<coin
 c1:∃j,j≤4500∧coin.natAbs<2^j
 b1:Builtin.Int.intBits ((T:Int)*coin)≤7999
 b2:∀b,0≤b→b<coin→(many*T*coin+N*coin+b).natAbs<2^(Builtin.Int.intBits ((T:Int)*coin)*24)
theorem step_math {T N many coin b:Int} (hT:0<T) (hc:0<coin) (h0:0≤b) (h1:b<coin):(many*T*coin+N*coin+b)/(T*coin)=many+N/T∧(many*T*coin+N*coin+b)% (T*coin)=N%T*coin+b:=by
 have e:=Int.emod_add_mul_ediv N T
 have r0:=Int.emod_nonneg N (show T≠0 by lia)
 have r1:=Int.emod_lt_of_pos N hT
 generalize N/T=q at*
 generalize N%T=r at*
 subst e
 refine kbt_unique (Int.mul_pos hT hc) (by grind) (Int.add_nonneg (Int.mul_nonneg r0 (Int.le_of_lt hc)) h0) ?_
 have:=Int.mul_le_mul_of_nonneg_right (show r≤T-1 by lia) (Int.le_of_lt hc)
 rw[Int.sub_mul,Int.one_mul]at this
 lia
theorem step_one {T:Nat} {N:Int} (hT:0<T) (hT2:T<16) (hN:N.natAbs<2^20):StepOK T N (10^(5:Int).toNat) 1:=by
 have e:(10:Int)^(5:Int).toNat=100000:=by decide
 rw[e]
 refine⟨⟨20,by decide,by decide⟩,Int.one_pos,⟨20,by decide,by decide⟩,?_,fun b h0 h1=>?_⟩
 ·rw[Int.mul_one]
  exact Nat.le_trans (intBits_le (n:=100) (by rw[Int.natAbs_natCast];exact Nat.lt_trans hT2 (by decide))) (by decide)
 ·clear e
  rw[Int.mul_one,Int.mul_one,Int.mul_one]
  refine Nat.lt_of_lt_of_le (m:=2^24) (by lia) (Nat.pow_le_pow_right (by decide) ?_)
  have:=two_bits hT
  lia
theorem bits_mul {T B:Nat} {U:Int} (hT:0<T) (hT2:T<16) {A:Nat} (hA:(2:Int)^A≤U) (hU:U<2^B):∃n:Nat,Builtin.Int.intBits ((T:Int)*U)=n∧A<n∧n≤B+4∧(T:Int)*U<2^n:=by
 have hp:=kbt_pos A
 have u0:0<U:=Int.lt_of_lt_of_le hp hA
 have hY:0<(T:Int)*U:=Int.mul_pos (Int.ofNat_lt.mpr hT) u0
 have hU1:U≤(T:Int)*U:=by
  have:=Int.mul_le_mul_of_nonneg_right (show(1:Int)≤(T:Int) by lia) (Int.le_of_lt u0)
  rw[Int.one_mul]at this;exact this
 have hup:(T:Int)*U<2^(B+4):=by
  have h:=Int.mul_le_mul_of_nonneg_right (show(T:Int)≤16 by lia) (Int.le_of_lt u0)
  have e4:(2:Int)^4=16:=by decide
  rw[Int.pow_add,e4]
  generalize (2:Int)^B=q at*
  generalize (T:Int)*U=z at*
  clear hA hp e4
  lia
 generalize (T:Int)*U=z at*
 obtain⟨Y,rfl⟩:∃Y:Nat,z=Y:=⟨z.toNat,(Int.toNat_of_nonneg (Int.le_of_lt hY)).symm⟩
 have q1:=lt_bits Y
 refine⟨_,rfl,Nat.lt_of_not_le fun h=>?_,intBits_le (abs_pow (Int.le_of_lt hY) hup),?_⟩
 ·have h2:=pow_le h
  have h3:=Int.ofNat_lt.mpr q1
  rw[kbt_cast]at h3
  exact absurd (Int.lt_of_lt_of_le h3 h2) (Int.not_lt.mpr (Int.le_trans hA hU1))
 ·rw[←kbt_cast];exact Int.ofNat_lt.mpr q1
theorem far_bd {T:Nat} {N U F q z b:Int} (u0:0<U) (hz:0<z) (hY:0<T*U) (hY1:T*U<q) (hU1:U<q) (hF0:0≤F) (hF:F<q) (hN:(N.natAbs:Int)<q) (hz2:q*q*16≤z) (h0:0≤b) (h1:b<U):((F*T*U+N*U+b).natAbs:Int)<z:=by
 have hp:0<q:=Int.lt_trans u0 hU1
 have a1:F*T*U≤q*q:=by
  rw[Int.mul_assoc];exact Int.mul_le_mul (Int.le_of_lt hF) (Int.le_of_lt hY1) (Int.le_of_lt hY) (Int.le_of_lt hp)
 have a0:0≤F*T*U:=by rw[Int.mul_assoc];exact Int.mul_nonneg hF0 (Int.le_of_lt hY)
 have a2:(N.natAbs:Int)*U≤q*q:=Int.mul_le_mul (Int.le_of_lt hN) (Int.le_of_lt hU1) (Int.le_of_lt u0) (Int.le_of_lt hp)
 have a3:((N*U).natAbs:Int)=(N.natAbs:Int)*U:=by
  rw[Int.natAbs_mul,Int.natCast_mul,Int.natAbs_of_nonneg (Int.le_of_lt u0)]
 have a4:q≤q*q:=by
  have:=Int.mul_le_mul_of_nonneg_right (show(1:Int)≤q by lia) (Int.le_of_lt hp)
  rw[Int.one_mul]at this;exact this
 have a6:0<q*q:=Int.mul_pos hp hp
 rw[←a3]at a2
 generalize F*T*U=v at*
 generalize N*U=w at*
 generalize q*q=y at*
 generalize (T:Int)*U=x at*
 clear a3 hF hF0 hN hY hY1
 lia
theorem step_gen {T B:Nat} {N U v:Int} (hT:0<T) (hT2:T<16) (hN:N.natAbs<2^20) {A:Nat} (h20:20≤A) (hA:(2:Int)^A≤U) (hU:U<2^B) (hB:B≤4490) (hv0:0≤v) (hv:v<1000):StepOK T N (2^((Builtin.Int.intBits ((T:Int)*U):Nat):Int).toNat-200-v) U:=by
 obtain⟨n,hn,n1,n2,n3⟩:=bits_mul hT hT2 hA hU
 have u0:0<U:=Int.lt_of_lt_of_le (kbt_pos A) hA
 have hY:0<(T:Int)*U:=Int.mul_pos (Int.ofNat_lt.mpr hT) u0
 rw[hn,Int.toNat_natCast]
 have hU1:U<2^n:=by
  have:=Int.mul_le_mul_of_nonneg_right (show(1:Int)≤(T:Int) by lia) (Int.le_of_lt u0)
  rw[Int.one_mul]at this;exact Int.lt_of_le_of_lt this n3
 have hfar:(2:Int)^n-200-v<2^n∧0≤(2:Int)^n-200-v:=by
  have h2:=pow_le (show 12≤n by lia)
  have e12:(2:Int)^12=4096:=by decide
  rw[e12]at h2
  generalize (2:Int)^n=q at*
  clear hA hU n3 e12
  constructor<;>lia
 have hN2:(N.natAbs:Int)<2^n:=Int.lt_of_lt_of_le (by rw[←kbt_cast];exact Int.ofNat_lt.mpr hN) (pow_le (show 20≤n by lia))
 have e4:(2:Int)^n*2^n*16≤2^(n*24):=by
  have e:n*24=n+n+n*22:=by lia
  rw[e,Int.pow_add,Int.pow_add]
  have h22:=pow_le (show 4≤n*22 by lia)
  have e16:(2:Int)^4=16:=by decide
  rw[e16]at h22
  exact Int.mul_le_mul_of_nonneg_left h22 (Int.le_of_lt (Int.mul_pos (kbt_pos n) (kbt_pos n)))
 refine⟨⟨n,by lia,abs_pow hfar.2 hfar.1⟩,u0,⟨B,by lia,abs_pow (Int.le_of_lt u0) hU⟩,by rw[hn];lia,fun b h0 h1=>?_⟩
 rw[hn]
 have key:=far_bd u0 (kbt_pos (n*24)) hY n3 hU1 hfar.2 hfar.1 hN2 e4 h0 h1
 rw[←kbt_cast]at key
 exact Int.ofNat_lt.mp key
theorem step_far {T:Nat} {N c9:Int} (hT:0<T) (hT2:T<16) (hN:N.natAbs<2^20):StepOK T N (farF T c9) (unitF c9):=by
 obtain⟨A,hA0,hA⟩:∃A:Nat,20≤A∧A≤4200:=⟨20,by decide,by decide⟩
 obtain⟨B,hB,hB2⟩:∃B:Nat,4400≤B∧B≤4490:=⟨4400,by decide,by decide⟩
 obtain⟨u1,u2⟩:=unit_ok c9 hA hB
 exact step_gen hT hT2 hN hA0 u1 u2 hB2 (Int.emod_nonneg _ (by decide)) (Int.emod_lt_of_pos _ (by decide))
section
variable {m:Mod} {k:Nat} {hs:HS} (O:m.Ok) (B:m.Bs)
include O B
theorem step_dm (H:DivH m) {T:Nat} (hT:0<T) {N many coin b:Int} (K:StepOK T N many coin) (h0:0≤b) (h1:b<coin):FnR m (k+28) hs "int_divmod" [.int (many*T*coin+N*coin+b),.int ((T:Int)*coin)] (.p (.tup [.int (many+N/T),.int (N%T*coin+b)])) hs:=by
 obtain⟨F0,F,I,D,F2,F3,g⟩:=H
 have hp:(0:Int)<T:=Int.ofNat_lt.mpr hT
 have hY:0<(T:Int)*coin:=Int.mul_pos hp K.c0
 obtain⟨e1,e2⟩:=step_math (N:=N) (many:=many) hp K.c0 h0 h1
 have k2:=K.b2 b h0 h1
 have k1:=K.b1
 rw[←e1,←e2]
 obtain⟨Y,eY⟩:∃Y:Nat,(T:Int)*coin=Y:=⟨((T:Int)*coin).toNat,(Int.toNat_of_nonneg (Int.le_of_lt hY)).symm⟩
 rw[eY]at hY k1 k2 ⊢
 exact idm_up O B F0 F I D F2 F3 g (Int.ofNat_lt.mp hY) rfl k1 k2
end
section
variable {m:Mod} {k:Nat} {ns:Names} {nm:List Str} {Γ:Gam} {hs hs1:HS} {pos px py:Pos} {x y:Str} {wv w:W}
theorem z_fort (i j:Nat) {it:Expr} {b r:List Stmt} {tc:Nat} {tp:Pos} {α σ:Type} (φ1 φ2:α→V) (G:Slot→Slot→σ→List Slot) (st:σ→α→σ) (l:List α) (sl1 sl2:Slot) (s:σ) (hx:zok ns nm x i=true) (hy:zok ns nm y j=true)
 (hset:NSet it) (h1:EvR m k ns (Gz nm (G sl1 sl2 s)) hs it wv hs) (ho:isO wv=false) (ei:ItsR wv (l.map fun a=>V.tup [φ1 a,φ2 a])) (hG:∀a b s u v,((G a b s).set i (.p u)).set j (.p v)=G (.p u) (.p v) s)
 (body:∀a,a∈l→∀s,XR m k ns (Gz nm (G (.p (φ1 a)) (.p (φ2 a)) s)) hs b .nx (Gz nm (G (.p (φ1 a)) (.p (φ2 a)) (st s a))) hs)
 (rest:∀sl1 sl2,XE m k ns (Gz nm (G sl1 sl2 (l.foldl st s))) hs r w hs1):XE m k ns (Gz nm (G sl1 sl2 s)) hs (.For (.Tuple [.Name x px,.Name y py] tc tp) it b [] pos::r) w hs1:=by
 obtain⟨sl',j',h5,_⟩:=for_ofj (B:=TurnS m k ns (.Tuple [.Name x px,.Name y py] tc tp) b) (hs:=hs) (fun a=>V.tup [φ1 a,φ2 a]) (fun _ (j:Slot×Slot) s=>Gz nm (G j.1 j.2 s)) st l (fun ux ux=>True) .any (sl1,sl2) s trivial fun n a ha sl j s ux=>⟨⟨(.p (φ1 a),.p (φ2 a)),Gz nm (G (.p (φ1 a)) (.p (φ2 a)) s),by
  refine .tup (.cons ?_)
  rw[gz_set (zok_of hx).2.2]
  refine .cons ?_
  rw[gz_set (zok_of hy).2.2,hG]
  exact .nil,body a (mem_of_getElem? ha) s⟩,trivial⟩
 refine e_cons (st_for hset (fun z hz=>?_) h1 ho ei h5) (rest j'.1 j'.2)
 have hz:z∈[x,y]:=hz
 rcases mem_cons.mp hz with rfl|hz
 ·exact(zok_of hx).1
 ·cases mem_singleton.mp hz;exact(zok_of hy).1
theorem eq_pair (a b:Int):CmpR m .Eq (.tup [.int a,.int b]) (.tup [.int a,.int b]) true∧CmpR m .NotEq (.tup [.int a,.int b]) (.tup [.int a,.int b]) false:=by
 have:=eq_r (m:=m) (beq_pair a b a b)
 rw[decide_eq_true ⟨rfl,rfl⟩]at this
 exact this
theorem ne_int (a:Int):CmpR m .NotEq (.int a) (.int a) false:=by
 have:=(eq_r (m:=m) (beq_int a a)).2
 rw[decide_eq_true rfl]at this
 exact this
theorem mod_e {a b:Int} (hb:0<b):BinR m .Mod (.int a) (.int b) (.p (.int (a%b))):=by
 have:=mod_r (m:=m) (a:=a) (b:=b) (by lia)
 rw[Int.fmod_eq_emod_of_nonneg _ (Int.le_of_lt hb)]at this
 exact this
theorem mul_big {a b:Int} (ha:∃j,j≤9000∧a.natAbs<2^j) (hb:∃j,j≤9000∧b.natAbs<2^j):BinR m .Mult (.int a) (.int b) (.p (.int (a*b))):=by
 obtain⟨i,hi,ha⟩:=ha
 obtain⟨j,hj,hb⟩:=hb
 exact mul_r (mulOk_of ha hb (by lia))
theorem mul_bits {a b:Int} {i j:Nat} (ha:a.natAbs<2^i) (hb:b.natAbs<2^j):(a*b).natAbs<2^(i+j):=by
 rw[Int.natAbs_mul,Nat.pow_add]
 exact Nat.mul_lt_mul'' ha hb
variable (O:m.Ok) (B:m.Bs)
include O B
theorem law_D (H:DivH m) {c ch:List Int} {d:List Nat} {x T:Nat} (hc:c.length=10) (hch:ch.length=3) (hd:d.length=3) (hc0:(ch.getD 0 0).natAbs<256) (hc1:(ch.getD 1 0).natAbs<256) (hd1:d.getD 1 0<256) (hx:x<256) (hT:0<T) (hT2:T<16)
 {s0 s2 s3 s4 s5 s6 s10 s11 s13 s14 s15 s16 s17 s18 s19 s20 s21 s22 s23 s24 s25 s26 s27 s28 s29 s30 s31:Slot}:
 XE m (k+28) (P2 "law").scope.names (Gz lawN [s0,.p (.lst (vints c)),s2,s3,s4,s5,s6,.p (.lst (nats d)),.p (.int x),.p (.int T),s10,s11,.p (.lst (vints ch)),s13,s14,s15,s16,s17,s18,s19,s20,s21,s22,s23,s24,s25,s26,s27,s28,s29,s30,s31]) hs ((P2 "law").body.drop 25) (.p (.bool true)) hs:=by
 have hb:(P2 "law").body.drop 25=(P2 "law").body.drop 25:=rfl
 conv at hb=>rhs;whnf
 have hn:(P2 "law").scope.names=(P2 "law").scope.names:=rfl
 conv at hn=>rhs;whnf
 rw[hb,hn]
 clear hb hn
 have c8:SubR m (.lst (vints c)) (.int 8) (.int (c.getD 8 0)):=sub_d (m:=m) (φ:=V.int) (j:=8) 0 (by rw[hc];decide)
 have c9:SubR m (.lst (vints c)) (.int 9) (.int (c.getD 9 0)):=sub_d (m:=m) (φ:=V.int) (j:=9) 0 (by rw[hc];decide)
 have g0:SubR m (.lst (vints ch)) (.int 0) (.int (ch.getD 0 0)):=sub_d (m:=m) (φ:=V.int) (j:=0) 0 (by rw[hch];decide)
 have g1:SubR m (.lst (vints ch)) (.int 1) (.int (ch.getD 1 0)):=sub_d (m:=m) (φ:=V.int) (j:=1) 0 (by rw[hch];decide)
 have u1:SubR m (.lst (nats d)) (.int 1) (.int (d.getD 1 0:Nat)):=sub_d (m:=m) (φ:=fun(j:Nat)=>V.int j) (j:=1) 0 (by rw[hd];decide)
 generalize c.getD 8 0=z8 at*
 generalize c.getD 9 0=z9 at*
 generalize ch.getD 0 0=h0 at*
 generalize ch.getD 1 0=h1 at*
 generalize d.getD 1 0=d1 at*
 have e9:BinR m .Mod (.int z9) (.int 200) (.p (.int (z9%200))):=mod_e (by decide)
 have e9b:BinR m .Mod (.int z9) (.int 1000) (.p (.int (z9%1000))):=mod_e (by decide)
 have v0:=Int.emod_nonneg z9 (show(200:Int)≠0 by decide)
 have v1:=Int.emod_lt_of_pos z9 (show(0:Int)<200 by decide)
 have p1:BinR m .Pow (.int 2) (.int (4200+z9%200)) (.p (.int (2^(4200+z9%200).toNat))):=pow_r (by lia) (by
  have:Builtin.Int.intBits (2:Int)=2:=by decide +kernel
  rw[this];lia)
 have p2:BinR m .Pow (.int 2) (.int 2210) (.p (.int (2^(2210:Int).toNat))):=pow_r (by decide) (by decide +kernel)
 have p3:BinR m .Pow (.int 10) (.int 5) (.p (.int (10^(5:Int).toNat))):=pow_r (by decide) (by decide +kernel)
 have eu:unitF z9=2^(4200+z9%200).toNat+2^(2210:Int).toNat-1:=by unfold unitF;rfl
 generalize (2:Int)^(2210:Int).toNat=P at p2 eu
 generalize (2:Int)^(4200+z9%200).toNat=P0 at p1 eu
 have ub:∃j,j≤4490∧(unitF z9).natAbs<2^j:=by
  obtain⟨B,hB,hB2⟩:∃B:Nat,4400≤B∧B≤4490:=⟨4400,by decide,by decide⟩
  obtain⟨u1,u2⟩:=unit_ok z9 (Nat.zero_le 4200) hB
  exact⟨B,hB2,abs_pow (Int.le_of_lt (Int.lt_of_lt_of_le (kbt_pos 0) u1)) u2⟩
 have hTb:(T:Int).natAbs<2^4:=by rw[Int.natAbs_natCast];exact hT2
 have sN:((d1:Int)*h0+x*h1).natAbs<2^20:=by
  have e1:((d1:Int)*h0).natAbs≤256*256:=by rw[Int.natAbs_mul,Int.natAbs_natCast];exact Nat.mul_le_mul (Nat.le_of_lt hd1) (Nat.le_of_lt hc0)
  have e2:((x:Int)*h1).natAbs≤256*256:=by rw[Int.natAbs_mul,Int.natAbs_natCast];exact Nat.mul_le_mul (Nat.le_of_lt hx) (Nat.le_of_lt hc1)
  exact Nat.lt_of_le_of_lt (Int.natAbs_add_le _ _) (Nat.lt_of_le_of_lt (Nat.add_le_add e1 e2) (by decide))
 have sm:∀{i:Int},i.natAbs<256→i.natAbs<2^20:=fun h=>Nat.lt_of_lt_of_le h (by decide)
 have sn:∀{i:Nat},i<256→(i:Int).natAbs<2^20:=fun h=>Nat.lt_of_lt_of_le h (by decide)
 have m1:=mul_sm (m:=m) (sn hd1) (sm hc0)
 have m2:=mul_sm (m:=m) (sn hx) (sm hc1)
 have K1:=step_one (T:=T) (N:=(d1:Int)*h0+x*h1) hT hT2 sN
 have K2:=step_far (T:=T) (N:=(d1:Int)*h0+x*h1) (c9:=z9) hT hT2 sN
 have tU:BinR m .Mult (.int T) (.int (unitF z9)) (.p (.int ((T:Int)*unitF z9))):=mul_big ⟨4,by decide,hTb⟩ (by obtain⟨j,h1,h2⟩:=ub;exact⟨j,by lia,h2⟩)
 have fB:MeR m "bit_length" (.int ((T:Int)*unitF z9)) [] (.p (.int ((Builtin.Int.intBits ((T:Int)*unitF z9):Nat):Int))):=bits_r
 have nb:Builtin.Int.intBits ((T:Int)*unitF z9)≤7999:=K2.b1
 have p4:BinR m .Pow (.int 2) (.int ((Builtin.Int.intBits ((T:Int)*unitF z9):Nat):Int)) (.p (.int (2^((Builtin.Int.intBits ((T:Int)*unitF z9):Nat):Int).toNat))):=pow_r (Int.natCast_nonneg _) (by
  have:Builtin.Int.intBits (2:Int)=2:=by decide +kernel
  rw[this];lia)
 have ef:farF T z9=2^((Builtin.Int.intBits ((T:Int)*unitF z9):Nat):Int).toNat-200-z9%1000:=rfl
 refine' e_cons (by exists z_asn (i:=25) kk (ev_bin (ev_bin (ev_bin (ev_int _ _) (ev_bin (ev_int _ _) (ev_bin (ev_sub (z_v 1) (ev_int _ _) rfl rfl c9) (ev_int _ _) rfl rfl e9) rfl rfl add_r) rfl rfl p1) (ev_bin (ev_int _ _) (ev_int _ _) rfl rfl p2) rfl rfl add_r) (ev_int _ _) rfl rfl sub_r) rfl .p) ?_
 rw[←eu]
 clear eu p1 p2
 refine' e_cons (by exists z_asn (i:=26) kk (ev_bin (ev_bin (ev_bin (ev_int _ _) (ev_me rfl rfl dd (ev_bin (z_v 9) (z_v 25) rfl rfl tU) ws_nil rfl .nil fB) rfl rfl p4) (ev_int _ _) rfl rfl sub_r) (ev_bin (ev_sub (z_v 1) (ev_int _ _) rfl rfl c9) (ev_int _ _) rfl rfl e9b) rfl rfl sub_r) rfl .p) ?_
 rw[←ef]
 clear ef p4 fB nb tU
 refine' e_cons (by exists z_asn (i:=27) kk (ev_bin (ev_bin (ev_sub (z_v 7) (ev_int _ _) rfl rfl u1) (ev_sub (z_v 12) (ev_int _ _) rfl rfl g0) rfl rfl m1) (ev_bin (z_v 8) (ev_sub (z_v 12) (ev_int _ _) rfl rfl g1) rfl rfl m2) rfl rfl add_r) rfl .p) ?_
 obtain⟨N,hN⟩:∃N,N=(d1:Int)*h0+x*h1:=⟨_,rfl⟩
 rw[←hN]at K1 K2 sN
 show XE m (k+28) _ (Gz lawN [_,_,_,_,_,_,_,_,_,_,_,_,_,_,_,_,_,_,_,_,_,_,_,_,_,_,_,.p (.int ((d1:Int)*h0+x*h1)),_,_,_,_]) _ _ _ _
 rw[←hN]
 have KA:∀a∈[((10:Int)^(5:Int).toNat,(1:Int)),(farF T z9,unitF z9)],StepOK T N a.1 a.2:=fun a ha=>by
  rcases mem_cons.mp ha with h|ha
  ·rw[h];exact K1
  ·rw[mem_singleton.mp ha];exact K2
 generalize farF T z9=far at*
 generalize unitF z9=un at*
 generalize (10:Int)^(5:Int).toNat=ten at*
 clear K1 K2 hN
 refine z_fort 28 29 (fun(a:Int×Int)=>V.int a.1) (fun a=>V.int a.2) (fun sl1 sl2 (s:Slot×Slot)=>[s0,.p (.lst (vints c)),s2,s3,s4,s5,s6,.p (.lst (nats d)),.p (.int x),.p (.int T),s10,s11,.p (.lst (vints ch)),s13,s14,s15,s16,s17,s18,s19,s20,s21,s22,s23,s24,.p (.int un),.p (.int far),.p (.int N),sl1,sl2,s.1,s.2])
  (fun ux a=>(.p (.int (-z8%a.2)),.p (.tup [.int (a.1+N/T),.int (N%T*a.2+ -z8%a.2)]))) [(ten,1),(far,un)] s28 s29 (s30,s31)
  (by kernel_rfl!) (by kernel_rfl!) rfl (by exists ev_tup (ar_cons (ev_tup (ar_cons (ev_bin (ev_int _ _) (ev_int _ _) rfl rfl p3) (ar_cons (ev_int _ _) ar_nil rfl rfl) rfl rfl) kk) (ar_cons (ev_tup (ar_cons (z_v 26) (ar_cons (z_v 25) ar_nil rfl rfl) rfl rfl) kk) ar_nil rfl rfl) rfl rfl) kk) rfl .t (fun ux ux ux ux ux=>rfl) (fun a ha s=>?_) (fun sl1 sl2=>e_ret (by exists st_ret (ev_bool _ _) .p))
 have K:=KA a ha
 obtain⟨many,coin⟩:=a
 have q0:=K.c0
 have q1:=Int.emod_nonneg (-z8) (show coin≠0 by have:0<coin:=q0;lia)
 have q2:=Int.emod_lt_of_pos (-z8) (show 0<coin from q0)
 have fD:=step_dm (k:=k) (hs:=hs) O B H hT K q1 q2
 have e8:BinR m .Mod (.int (-z8)) (.int coin) (.p (.int (-z8%coin))):=mod_e q0
 have hTp:(0:Int)<T:=Int.ofNat_lt.mpr hT
 obtain⟨j1,j2,j3⟩:=K.m1
 obtain⟨i1,i2,i3⟩:=K.c1
 have j3:many.natAbs<2^j1:=j3
 have i3:coin.natAbs<2^i1:=i3
 have n1:BinR m .Mult (.int many) (.int T) (.p (.int (many*T))):=mul_big ⟨j1,by lia,j3⟩ ⟨4,by decide,hTb⟩
 have n2:BinR m .Mult (.int (many*T)) (.int coin) (.p (.int (many*T*coin))):=mul_big ⟨j1+4,by lia,mul_bits j3 hTb⟩ ⟨i1,by lia,i3⟩
 have n3:BinR m .Mult (.int N) (.int coin) (.p (.int (N*coin))):=mul_big ⟨20,by decide,sN⟩ ⟨i1,by lia,i3⟩
 have n4:BinR m .Mult (.int T) (.int coin) (.p (.int (T*coin))):=mul_big ⟨4,by decide,hTb⟩ ⟨i1,by lia,i3⟩
 have n5:BinR m .FloorDiv (.int N) (.int T) (.p (.int (N/T))):=by
  have:=div_r (m:=m) (a:=N) (b:=T) (by lia) (goes_of (m:=4) hTb (by decide))
  rw[Int.fdiv_eq_ediv_of_nonneg _ (Int.le_of_lt hTp)]at this
  exact this
 have n6:BinR m .Mod (.int N) (.int T) (.p (.int (N%T))):=mod_e hTp
 have hr0:=Int.emod_nonneg N (show(T:Int)≠0 by lia)
 have hr1:=Int.emod_lt_of_pos N hTp
 have n7:BinR m .Mult (.int (N%T)) (.int coin) (.p (.int (N%T*coin))):=mul_big ⟨4,by decide,Nat.lt_trans (show(N% (T:Int)).natAbs<T by lia) hT2⟩ ⟨i1,by lia,i3⟩
 refine' x_cons (by exists z_asn (i:=30) kk (ev_bin (ev_neg (ev_sub (z_v 1) (ev_int _ _) rfl rfl c8)) (z_v 29) rfl rfl e8) rfl .p) ?_
 refine' x_cons (by exists z_asn (i:=31) kk (z_fn kk O (ar_cons (ev_bin (ev_bin (ev_bin (ev_bin (z_v 28) (z_v 9) rfl rfl n1) (z_v 29) rfl rfl n2) (ev_bin (z_v 27) (z_v 29) rfl rfl n3) rfl rfl add_r) (z_v 30) rfl rfl add_r) (ar_cons (ev_bin (z_v 9) (z_v 29) rfl rfl n4) ar_nil rfl rfl) rfl rfl) fD) rfl .p) ?_
 exact x_cons (z_no (by exists ts_cmp rfl (z_v 31) (ev_tup (ar_cons (ev_bin (z_v 28) (ev_bin (z_v 27) (z_v 9) rfl rfl n5) rfl rfl add_r) (ar_cons (ev_bin (ev_bin (ev_bin (z_v 27) (z_v 9) rfl rfl n6) (z_v 29) rfl rfl n7) (z_v 30) rfl rfl add_r) ar_nil rfl rfl) rfl rfl) kk) rfl rfl ((eq_pair _ _).2))) x_nil
end
noncomputable def marksL:List Nat:=[32,9,11,12,28,29,30,133,8232,8233]
noncomputable def markG (x:Int):Nat:=marksL.getD (x/4%10).toNat 0
theorem mark_ok (x:Int):(x/4%10).toNat<10∧(markG x≠10∧markG x≠13∧markG x≠46∧markG x<10000):=by
 have h:(x/4%10).toNat<10:=by lia
 refine⟨h,?_⟩
 have:=all_eq_true.mp (show(marksL.all fun c=>decide (c≠10)&&decide (c≠13)&&decide (c≠46)&&decide (c<10000))=true by decide) (markG x) (by
  rw[markG,getD_eq_getElem?_getD,getElem?_eq_getElem (by exact h)]
  exact getElem_mem _)
 rw[Bool.and_eq_true,Bool.and_eq_true,Bool.and_eq_true]at this
 exact⟨of_decide_eq_true this.1.1.1,of_decide_eq_true this.1.1.2,of_decide_eq_true this.1.2,of_decide_eq_true this.2⟩
theorem same_dm {a b T:Int} (hT:0<T) (h:a%T=b%T):(a-b)/T=a/T-b/T∧(a-b)%T=0:=by
 have h1:=Int.emod_add_mul_ediv a T
 have h2:=Int.emod_add_mul_ediv b T
 refine kbt_unique hT ?_ (Int.le_refl _) hT
 rw[Int.mul_sub];lia
theorem num_sub (d x a b e f:Int):num1 d x (a-b) (e-f)=num1 d x a e-num1 d x b f∧num2 d x (a-b) (e-f)=num2 d x a e-num2 d x b f:=by
 unfold num1 num2
 rw[Int.mul_sub,Int.mul_sub,Int.mul_sub,Int.mul_sub]
 constructor<;>lia
section
variable {m:Mod} {k:Nat} {hs:HS} (O:m.Ok) (B:m.Bs) {cs:List (List Nat)}
include O B
theorem law_C (H:DivH m) (Fp:FnH2 m "_law_parts") (Fe:FnH2 m "ISEOF") (ge:GlI m "ENDMARKER" 0) (F:FnH2 m "_law_way") (F1:FnH2 m "_law_send") (Ft:FnH2 m "ISTERMINAL") (gt:GlI m "NT_OFFSET" 256) (Fq:FnH2 m "quotedata") (Fd:FnH2 m "_law_dots") (Q:QdH m) (g:GlT m) (TO:TokOK m tokN)
 {c ch:List Int} {d:List Nat} {x T:Nat} (hc:c.length=10) (hch:ch.length=3) (hd:d.length=3) (hc0:(ch.getD 0 0).natAbs<256) (hc1:(ch.getD 1 0).natAbs<256) (hd0:d.getD 0 0<256) (hd1:d.getD 1 0<256) (hx:x<256) (hT:0<T) (hT2:T<16)
 (PS:∀ds:List Nat,ds.length=3→(∀k,ds.getD k 0≤90)→SendP ds cs (markG (c.getD 7 0))) {a0 a1 a2 b0 b1 b2:Nat} (ha:a0≤80∧a1≤80∧a2≤80) (hb80:b0≤80∧b1≤80∧b2≤80) {ties:List (List Nat)} (t3:ties.length=3) (r3:∀i,i<3→(ties.getD i []).length=3)
 (c1:num1 (d.getD 1 0:Nat) x a0 a1%T=num1 (d.getD 1 0:Nat) x b0 b1%T) (c2:num2 (d.getD 0 0:Nat) x a0 a1%T=num2 (d.getD 0 0:Nat) x b0 b1%T)
 (sw:wayF (tieL ties) [num1 (d.getD 1 0:Nat) x a0 a1/T-num1 (d.getD 1 0:Nat) x b0 b1/T,num2 (d.getD 0 0:Nat) x a0 a1/T-num2 (d.getD 0 0:Nat) x b0 b1/T,0] [a0,a1,a2] [b0,b1,b2]=true)
 {s0 s2 s3 s5 s10 s11 s13 s14 s15 s18 s19 s20 s21 s22 s23 s24 s25 s26 s27 s28 s29 s30 s31:Slot}:
 XE m (k+32) (P2 "law").scope.names (Gz lawN [s0,.p (.lst (vints c)),s2,s3,.p (.lst (vstrs cs)),s5,.p (.lst (vnn ties)),.p (.lst (nats d)),.p (.int x),.p (.int T),s10,s11,.p (.lst (vints ch)),s13,s14,s15,.p (.lst (nats [a0,a1,a2])),.p (.lst (nats [b0,b1,b2])),s18,s19,s20,s21,s22,s23,s24,s25,s26,s27,s28,s29,s30,s31]) hs ((P2 "law").body.drop 18) (.p (.bool true)) hs:=by
 have hb:(P2 "law").body.drop 18=(P2 "law").body.drop 18:=rfl
 conv at hb=>rhs;whnf
 have hn:(P2 "law").scope.names=(P2 "law").scope.names:=rfl
 conv at hn=>rhs;whnf
 rw[hb]
 have hD:=fun{s3 s5 s18 s19 s20 s21 s22 s23 s24:Slot}=>law_D (k:=k+4) (hs:=hs) (s0:=s0) (s2:=s2) (s3:=s3) (s4:= .p (.lst (vstrs cs))) (s5:=s5) (s6:= .p (.lst (vnn ties))) (s10:=s10) (s11:=s11) (s13:=s13) (s14:=s14) (s15:=s15) (s16:= .p (.lst (nats [a0,a1,a2]))) (s17:= .p (.lst (nats [b0,b1,b2]))) (s18:=s18) (s19:=s19) (s20:=s20) (s21:=s21) (s22:=s22) (s23:=s23) (s24:=s24) (s25:=s25) (s26:=s26) (s27:=s27) (s28:=s28) (s29:=s29) (s30:=s30) (s31:=s31) O B H hc hch hd hc0 hc1 hd1 hx hT hT2
 rw[hn]at hD ⊢
 clear hb hn
 have c7:SubR m (.lst (vints c)) (.int 7) (.int (c.getD 7 0)):=sub_d (m:=m) (φ:=V.int) (j:=7) 0 (by rw[hc];decide)
 have c8:SubR m (.lst (vints c)) (.int 8) (.int (c.getD 8 0)):=sub_d (m:=m) (φ:=V.int) (j:=8) 0 (by rw[hc];decide)
 have hTp:(0:Int)<T:=Int.ofNat_lt.mpr hT
 have hT100:T<2^100:=Nat.lt_trans hT2 (by decide)
 have bn:∀{q:Nat},q≤80→((q:Nat):Int).natAbs<256:=fun h=>by rw[Int.natAbs_natCast];lia
 have bs:∀{p q:Nat},p≤80→q≤80→((p:Int)-q).natAbs<256:=fun h1 h2=>by lia
 have fb:FnR m (k+32) hs "_law_parts" [.lst (nats [a0,a1,a2]),.lst (nats d),.int x,.int T,.bool true] (.p (.lst (vqr (partsF (d.getD 0 0:Nat) (d.getD 1 0:Nat) x T a0 a1)))) hs:=parts_r (k:=k+2) (c:=[(a0:Int),a1,a2]) O B Fp H rfl hd (bn ha.1) (bn ha.2.1) hd0 hd1 hx hT hT100 true
 have fe:FnR m (k+32) hs "_law_parts" [.lst (nats [b0,b1,b2]),.lst (nats d),.int x,.int T,.bool false] (.p (.lst (vqr (partsF (d.getD 0 0:Nat) (d.getD 1 0:Nat) x T b0 b1)))) hs:=parts_r (k:=k+2) (c:=[(b0:Int),b1,b2]) O B Fp H rfl hd (bn hb80.1) (bn hb80.2.1) hd0 hd1 hx hT hT100 false
 have fa:FnR m (k+32) hs "_law_parts" [.lst ((List.range 3).map fun t=>V.int (([a0,a1,a2].getD t 0:Nat)-([b0,b1,b2].getD t 0:Nat))),.lst (nats d),.int x,.int T,.bool false] (.p (.lst (vqr (partsF (d.getD 0 0:Nat) (d.getD 1 0:Nat) x T (a0-b0) (a1-b1))))) hs:=parts_r (k:=k+2) (c:=[(a0:Int)-b0,(a1:Int)-b1,(a2:Int)-b2]) O B Fp H rfl hd (bs ha.1 hb80.1) (bs ha.2.1 hb80.2.1) hd0 hd1 hx hT hT100 false
 unfold partsF at fb fe fa
 rw[(num_sub _ _ _ _ _ _).1,(num_sub _ _ _ _ _ _).2,(same_dm hTp c1).1,(same_dm hTp c1).2,(same_dm hTp c2).1,(same_dm hTp c2).2]at fa
 rw[c1,c2]at fb
 generalize num1 (d.getD 1 0:Nat) x a0 a1/(T:Int)=p0 at*
 generalize num2 (d.getD 0 0:Nat) x a0 a1/(T:Int)=p1 at*
 generalize num1 (d.getD 1 0:Nat) x b0 b1/(T:Int)=q0 at*
 generalize num2 (d.getD 0 0:Nat) x b0 b1/(T:Int)=q1 at*
 generalize num1 (d.getD 1 0:Nat) x b0 b1% (T:Int)=r0 at*
 generalize num2 (d.getD 0 0:Nat) x b0 b1% (T:Int)=r1 at*
 refine' e_cons (by exists z_asn (i:=18) kk (z_fn kk O (ar_cons (z_v 16) (ar_cons (z_v 7) (ar_cons (z_v 8) (ar_cons (z_v 9) (ar_cons (ev_bool _ _) ar_nil rfl rfl) rfl rfl) rfl rfl) rfl rfl) rfl rfl) fb) rfl .p) ?_
 refine' e_cons (by exists z_asn (i:=19) kk (z_fn kk O (ar_cons (z_v 17) (ar_cons (z_v 7) (ar_cons (z_v 8) (ar_cons (z_v 9) (ar_cons (ev_bool _ _) ar_nil rfl rfl) rfl rfl) rfl rfl) rfl rfl) rfl rfl) fe) rfl .p) ?_
 have y1:∀t:Nat,t<3→SubR m (.lst (nats [a0,a1,a2])) (.int t) (.int ([a0,a1,a2].getD t 0:Nat)):=fun t ht=>sub_d (m:=m) (φ:=fun(j:Nat)=>V.int j) 0 ht
 have y2:∀t:Nat,t<3→SubR m (.lst (nats [b0,b1,b2])) (.int t) (.int ([b0,b1,b2].getD t 0:Nat)):=fun t ht=>sub_d (m:=m) (φ:=fun(j:Nat)=>V.int j) 0 ht
 refine' e_cons (by exists z_asn (i:=20) kk (z_fn kk O (ar_cons (ev_comp (c_one (fun(t:Nat)=>V.int t) (fun(t:Nat)=>V.int (([a0,a1,a2].getD t 0:Nat)-([b0,b1,b2].getD t 0:Nat))) (List.range 3) ⟨by kernel_rfl!,by kernel_rfl!,.inl (by kernel_rfl!),by kernel_rfl!,by kernel_rfl!,rfl⟩ rfl (by exists z_bi kk O (ws_cons (ev_int _ _) ws_nil rfl) (.cons rfl .nil) (range1 B.range (by decide))) (its_rng 3) (fun t ht=>⟨_,(by exists ev_bin (ev_sub (z_v 18) (z_v 1) rfl rfl (y1 t (mem_range.mp ht))) (ev_sub (z_v 19) (z_v 1) rfl rfl (y2 t (mem_range.mp ht))) rfl rfl sub_r),rfl⟩) (by decide))) (ar_cons (z_v 7) (ar_cons (z_v 8) (ar_cons (z_v 9) (ar_cons (ev_bool _ _) ar_nil rfl rfl) rfl rfl) rfl rfl) rfl rfl) rfl rfl) fa) rfl .p) ?_
 have two:∀(l:List (Int×Int)) (j:Nat),j<l.length→SubR m (.lst (vqr l)) (.int j) (.tup [.int (l.getD j (0,0)).1,.int (l.getD j (0,0)).2]):=fun l j h=>sub_d (m:=m) (φ:=fun p:Int×Int=>V.tup [.int p.1,.int p.2]) (0,0) h
 have t0:∀p q:Int,SubR m (.tup [.int p,.int q]) (.int 0) (.int p):=fun p q=>sub_t (by decide) (show 2≤100 by decide) rfl
 have t1:∀p q:Int,SubR m (.tup [.int p,.int q]) (.int 1) (.int q):=fun p q=>sub_t (by decide) (show 2≤100 by decide) rfl
 refine z_forj (J:=Slot) 21 (fun(j:Nat)=>V.int j) (fun sl j (ux:Unit)=>[s0,.p (.lst (vints c)),s2,s3,.p (.lst (vstrs cs)),s5,.p (.lst (vnn ties)),.p (.lst (nats d)),.p (.int x),.p (.int T),s10,s11,.p (.lst (vints ch)),s13,s14,s15,.p (.lst (nats [a0,a1,a2])),.p (.lst (nats [b0,b1,b2])),.p (.lst (vqr [(p0,r0),(p1,r1)])),.p (.lst (vqr [(q0,r0),(q1,r1)])),.p (.lst (vqr [(p0-q0,0),(p1-q1,0)])),sl,j,s23,s24,s25,s26,s27,s28,s29,s30,s31]) (fun s ux=>s) (fun ux ux=>True) [0,1] s21 s22 ()
  (by kernel_rfl!) rfl (by exists ev_tup (ar_cons (ev_int _ _) (ar_cons (ev_int _ _) ar_nil rfl rfl) rfl rfl) kk) rfl .t (fun ux ux ux ux=>rfl) trivial (fun n j hj js ux ux=>?_) (fun sl js ux=>?_)
 ·have hj:j<2:=by
   have:=mem_of_getElem? hj
   simp at this;lia
  have e1:=two [(p0,r0),(p1,r1)] j hj
  have e2:=two [(q0,r0),(q1,r1)] j hj
  have e3:=two [(p0-q0,0),(p1-q1,0)] j hj
  have e4:([(p0-q0,(0:Int)),(p1-q1,0)].getD j (0,0)).1=([(p0,r0),(p1,r1)].getD j (0,0)).1-([(q0,r0),(q1,r1)].getD j (0,0)).1∧([(p0-q0,(0:Int)),(p1-q1,0)].getD j (0,0)).2=0:=by
   rcases j with _|_|j
   ·exact⟨rfl,rfl⟩
   ·exact⟨rfl,rfl⟩
   ·lia
  rw[e4.1,e4.2]at e3
  have fE:∀more:Int,FnR m (k+32) hs "ISEOF" [.int (0+more)] (.p (.bool (decide (more=0)))) hs:=fun more=>by
   have:=iseof_r (k:=k+31) (hs:=hs) O B Fe ge (0+more)
   rw[Int.zero_add]at this ⊢
   exact this
  have fQ:∀more:Int,CmpR m .IsNot (.bool (decide (more=0))) (.bool (decide (more=0))) false:=fun more=>by
   have:=(is_bb (m:=m) (a:=decide (more=0)) (b:=decide (more=0))).2
   rw[show(!(decide (more=0)==decide (more=0)))=false by cases decide (more=0)<;>rfl]at this
   exact this
  refine xj_cons (z_no (by exists ts_cmp rfl (ev_sub (ev_sub (z_v 20) (z_v 21) rfl rfl e3) (ev_int _ _) rfl rfl (t0 _ _)) (ev_bin (ev_sub (ev_sub (z_v 18) (z_v 21) rfl rfl e1) (ev_int _ _) rfl rfl (t0 _ _)) (ev_sub (ev_sub (z_v 19) (z_v 21) rfl rfl e2) (ev_int _ _) rfl rfl (t0 _ _)) rfl rfl sub_r) rfl rfl (ne_int _))) ?_
  refine x_forj (J:=Unit) 22 V.int (fun sl ux (ux:Unit)=>[s0,.p (.lst (vints c)),s2,s3,.p (.lst (vstrs cs)),s5,.p (.lst (vnn ties)),.p (.lst (nats d)),.p (.int x),.p (.int T),s10,s11,.p (.lst (vints ch)),s13,s14,s15,.p (.lst (nats [a0,a1,a2])),.p (.lst (nats [b0,b1,b2])),.p (.lst (vqr [(p0,r0),(p1,r1)])),.p (.lst (vqr [(q0,r0),(q1,r1)])),.p (.lst (vqr [(p0-q0,0),(p1-q1,0)])),.p (.int j),sl,s23,s24,s25,s26,s27,s28,s29,s30,s31]) (fun s ux=>s) (fun ux ux=>True) [-1,0,1] js () ()
   (by kernel_rfl!) rfl (by exists ev_tup (ar_cons (ev_neg (ev_int _ _)) (ar_cons (ev_int _ _) (ar_cons (ev_int _ _) ar_nil rfl rfl) rfl rfl) rfl rfl) kk) rfl .t (fun ux ux ux ux=>rfl) trivial (fun n more hm ux ux ux=>⟨⟨(),?_⟩,trivial⟩) (fun sl ux ux=>⟨⟨sl,x_nil⟩,trivial⟩)
  exact x_cons (z_no (by exists ts_cmp rfl (z_fn kk O (ar_cons (ev_bin (ev_sub (ev_sub (z_v 20) (z_v 21) rfl rfl e3) (ev_int _ _) rfl rfl (t1 _ _)) (z_v 22) rfl rfl add_r) ar_nil rfl rfl) (fE more)) (ev_cmp rfl (z_v 22) (ev_int _ _) rfl rfl ((eq_r (beq_int more 0)).1)) rfl rfl (fQ more))) x_nil
 ·have e3:=two [(p0-q0,0),(p1-q1,0)] 0 (show 0<2 by decide)
  have e4:=two [(p0-q0,0),(p1-q1,0)] 1 (show 1<2 by decide)
  refine' e_cons (Γ1:=Gz lawN [s0,.p (.lst (vints c)),s2,s3,.p (.lst (vstrs cs)),s5,.p (.lst (vnn ties)),.p (.lst (nats d)),.p (.int x),.p (.int T),s10,s11,.p (.lst (vints ch)),s13,s14,s15,.p (.lst (nats [a0,a1,a2])),.p (.lst (nats [b0,b1,b2])),.p (.lst (vqr [(p0,r0),(p1,r1)])),.p (.lst (vqr [(q0,r0),(q1,r1)])),.p (.lst (vqr [(p0-q0,0),(p1-q1,0)])),sl,js,.p (.lst (vints [p0-q0,p1-q1,0])),s24,s25,s26,s27,s28,s29,s30,s31]) (by exists z_asn (i:=23) kk (ev_list (ar_cons (ev_sub (ev_sub (z_v 20) (ev_int _ _) rfl rfl e3) (ev_int _ _) rfl rfl (t0 _ _)) (ar_cons (ev_sub (ev_sub (z_v 20) (ev_int _ _) rfl rfl e4) (ev_int _ _) rfl rfl (t0 _ _)) (ar_cons (ev_int _ _) ar_nil rfl rfl) rfl rfl) rfl rfl) kk) rfl .f) ?_
  have mk:=(mark_ok (c.getD 7 0)).1
  have d4:BinR m .FloorDiv (.int (c.getD 7 0)) (.int 4) (.p (.int (c.getD 7 0/4))):=by
   have:=div_r (m:=m) (a:=c.getD 7 0) (b:=4) (by decide) (goes_of (m:=3) (by decide) (by decide))
   rw[Int.fdiv_eq_ediv_of_nonneg _ (by decide)]at this
   exact this
  have m10:BinR m .Mod (.int (c.getD 7 0/4)) (.int 10) (.p (.int ((c.getD 7 0/4%10).toNat:Nat))):=by
   have:=mod_e (m:=m) (a:=c.getD 7 0/4) (b:=10) (by decide)
   rw[←Int.toNat_of_nonneg (show 0≤c.getD 7 0/4%10 by lia)]at this
   exact this
  have sM:SubR m (.lst (marksL.map fun c=>V.str (S [c]))) (.int ((c.getD 7 0/4%10).toNat:Nat)) (.str (S [markG (c.getD 7 0)])):=sub_d (m:=m) (φ:=fun c=>V.str (S [c])) 0 mk
  refine' e_cons (by exists z_asn (i:=24) kk (ev_sub (ev_list (ar_cons (ev_strS (y:=S [32]) (by rfl) (by kernel_rfl!)) (ar_cons (ev_strS (y:=S [9]) (by rfl) (by kernel_rfl!)) (ar_cons (ev_strS (y:=S [11]) (by rfl) (by kernel_rfl!)) (ar_cons (ev_strS (y:=S [12]) (by rfl) (by kernel_rfl!)) (ar_cons (ev_strS (y:=S [28]) (by rfl) (by kernel_rfl!)) (ar_cons (ev_strS (y:=S [29]) (by rfl) (by kernel_rfl!)) (ar_cons (ev_strS (y:=S [30]) (by rfl) (by kernel_rfl!)) (ar_cons (ev_strS (y:=S [133]) (by rfl) (by kernel_rfl!)) (ar_cons (ev_strS (y:=S [8232]) (by rfl) (by kernel_rfl!)) (ar_cons (ev_strS (y:=S [8233]) (by rfl) (by kernel_rfl!)) ar_nil rfl rfl) rfl rfl) rfl rfl) rfl rfl) rfl rfl) rfl rfl) rfl rfl) rfl rfl) rfl rfl) rfl rfl) kk) (ev_bin (ev_bin (ev_sub (z_v 1) (ev_int _ _) rfl rfl c7) (ev_int _ _) rfl rfl d4) (ev_int _ _) rfl rfl m10) rfl rfl sM) rfl .p) ?_
  have sw2:=sw
  unfold wayF at sw2
  rw[Bool.and_eq_true,Bool.and_eq_true,beq_iff_eq]at sw2
  obtain⟨⟨w1,w2⟩,w3⟩:=sw2
  have fw:=way_r (k:=k+29) (hs:=hs) (t:=c.getD 8 0) (start:=[a0,a1,a2]) (goal:=[b0,b1,b2]) O B F F1 Ft gt Fq Fd Q g TO PS rfl rfl (fun j=>by
   rcases j with _|_|_|j
   ·exact hb80.1
   ·exact hb80.2.1
   ·exact hb80.2.2
   ·exact Nat.zero_le _) t3 r3 w1 w2 w3
  refine' e_cons (z_no (ts_not (b:=true) (ts_b rfl (by exists z_fn kk O (ar_cons (z_v 16) (ar_cons (z_v 17) (ar_cons (z_v 23) (ar_cons (z_v 6) (ar_cons (z_v 4) (ar_cons (ev_sub (z_v 1) (ev_int _ _) rfl rfl c8) (ar_cons (z_v 24) ar_nil rfl rfl) rfl rfl) rfl rfl) rfl rfl) rfl rfl) rfl rfl) rfl rfl) fw)))) ?_
  exact hD
end
theorem last_ix {α:Type}:∀(l:List α) (x:α),(x::l)[l.length]? =some (l.getLastD x):=by
 intro l
 induction l with
 |nil=>intro x;rfl
 |cons a l ih=>intro x;rw[length_cons,List.getElem?_cons_succ,ih,List.getLastD_cons]
theorem last_mem {α:Type}:∀(l:List α) (x:α),l.getLastD x∈x::l:=fun l x=>mem_of_getElem? (last_ix l x)
theorem flatb_len {α β:Type} {f:α→List β} {b:Nat}:∀l:List α,(∀a∈l,(f a).length≤b)→(l.flatMap f).length≤b*l.length:=by
 intro l
 induction l with
 |nil=>intro ux;exact Nat.le_refl _
 |cons a l ih=>
  intro h
  have h1:=h a mem_cons_self
  have h2:=ih fun c hc=>h c (mem_cons_of_mem _ hc)
  rw[flatMap_cons,length_append,length_cons,Nat.mul_succ];lia
theorem effs_ok {n:Int} (hn:n≤20):(effs n).length≤441∧∀l∈effs n,∃a b c,l=[a,b,c]∧a≤20∧b≤20∧c≤20:=by
 refine⟨?_,fun l hl=>?_⟩
 ·refine Nat.le_trans (flatb_len (b:=21) _ fun a ha=>?_) ?_
  ·rw[length_map,length_range];lia
  ·rw[length_range];lia
 ·obtain⟨a,ha,h⟩:=List.mem_flatMap.mp hl
  obtain⟨b,hb,rfl⟩:=mem_map.mp h
  have ha:=mem_range.mp ha
  have hb:=mem_range.mp hb
  exact⟨_,_,_,rfl,by lia,by lia,by lia⟩
theorem loads_ok {d0 d1 x T:Nat} {n c0 c1:Int} (hn:n≤20):(loadsF d0 d1 x T n c0 c1).length≤441∧∀l∈loadsF d0 d1 x T n c0 c1,(∃a b c,l=[a,b,c]∧a≤20∧b≤20∧c≤20)∧clsF d0 d1 x T (l.getD 0 0:Nat) (l.getD 1 0:Nat)=clsF d0 d1 x T c0 c1:=by
 obtain⟨h1,h2⟩:=effs_ok hn
 refine⟨Nat.le_trans (length_filter_le _ _) h1,fun l hl=>?_⟩
 obtain⟨h3,h4⟩:=mem_filter.mp hl
 exact⟨h2 l h3,of_decide_eq_true h4⟩
section
variable {m:Mod} {k:Nat} {ns:Names} {Γ:Gam} {hs:HS} {pos:Pos}
theorem is_ln (l:List V):CmpR m .Is (.lst l) .none false:=fun ux ux ux ux ux ux ux ux ra rb=>by
 obtain⟨le,a,vs,rfl,_,_,_⟩:=ra
 cases rb
 exact wpAny_is_plain rfl .same
theorem ts_or3 {a b c:Expr} (h1:TsR m k ns Γ hs a false hs) (h2:TsR m k ns Γ hs b false hs) (h3:TsR m k ns Γ hs c false hs):TsR m k ns Γ hs (.BoolOp .Or [a,b,c] pos) false hs:=
 ts_bool (all_cons h1 (show AllR m k ns Γ hs .Or [b,c] false hs from all_cons h2 (show AllR m k ns Γ hs .Or [c] false hs from all_cons h3 all_nil)))
end
section
variable {m:Mod} {k:Nat} {hs:HS} (O:m.Ok) (B:m.Bs) {cs:List (List Nat)}
include O B
theorem law_B (H:DivH m) (Fp:FnH2 m "_law_parts") (Fe:FnH2 m "ISEOF") (ge:GlI m "ENDMARKER" 0) (F:FnH2 m "_law_way") (F1:FnH2 m "_law_send") (Ft:FnH2 m "ISTERMINAL") (gt:GlI m "NT_OFFSET" 256) (Fq:FnH2 m "quotedata") (Fd:FnH2 m "_law_dots") (Q:QdH m) (g:GlT m) (TO:TokOK m tokN)
 (Fl:FnH2 m "_law_loads") (Fm:FnH2 m "_law_name") (N:NewR m) (AH:AddH m) (nset:BName m "set" (.type "set")) (KH:KeysH m) (GH:GetH m) (Fs:FnH2 m "_law_spare") (Fh:FnH2 m "_law_has") (Fn:FnH2 m "ISNONTERMINAL")
 {c:List Int} {a b e T G:Nat} {n c0 c1 c2:Int} (hc:c.length=10) (hab:a+b≤8∧a+e≤8∧b+e≤8) (hT:0<T) (hT2:T<16) (hTe:T=(a+b)*(a+e)-a*a) (hG:a+b+e=G+2) (hG2:G≤8) (hn:c0+c1+c2=n) (hn1: -1≤n) (hn2:n≤2*G) (h0:c0.natAbs<10) (h1:c1.natAbs<10)
 (PS:∀ds:List Nat,ds.length=3→(∀k,ds.getD k 0≤90)→SendP ds cs (markG (c.getD 7 0))) (hmany:∀j:Int,G≤j→j≤2*G→manyF (a+b) (a+e) a T j=T) (ok:okF a b e n c0 c1=true)
 {s0 s2 s3 s5 s13 s14 s15 s16 s17 s18 s19 s20 s21 s22 s23 s24 s25 s26 s27 s28 s29 s30 s31:Slot}:
 XE m (k+32) (P2 "law").scope.names (Gz lawN [s0,.p (.lst (vints c)),s2,s3,.p (.lst (vstrs cs)),s5,.p (.lst (vnn [[0,a,b],[a,0,e],[b,e,0]])),.p (.lst (nats [a+b,a+e,b+e])),.p (.int a),.p (.int T),.p (.int G),.p (.int n),.p (.lst (vints [c0,c1,c2])),s13,s14,s15,s16,s17,s18,s19,s20,s21,s22,s23,s24,s25,s26,s27,s28,s29,s30,s31]) hs ((P2 "law").body.drop 13) (.p (.bool true)) hs:=by
 have hb:(P2 "law").body.drop 13=(P2 "law").body.drop 13:=rfl
 conv at hb=>rhs;whnf
 have hn_:(P2 "law").scope.names=(P2 "law").scope.names:=rfl
 conv at hn_=>rhs;whnf
 rw[hb]
 have ok:=ok
 unfold okF at ok
 dsimp only at ok
 rw[←hTe,Bool.and_eq_true]at ok
 obtain⟨ok1,ok2⟩:=ok
 have ok1:=of_decide_eq_true ok1
 have eg:((a+b+e:Nat):Int)-2=G:=by omega
 rw[eg]at ok1 ok2
 have d0:a+b<256:=by omega
 have d1:a+e<256:=by omega
 have fh:FnR m (k+32) hs "_law_loads" [.lst (vints [c0,c1,c2]),.lst (nats [a+b,a+e,b+e]),.int a,.int T,.int G] (.f (vnn (loadsF (a+b) (a+e) a T n c0 c1))) hs:=loads_z (k:=k) (c:=[c0,c1,c2]) (d:=[a+b,a+e,b+e]) O B Fl Fp Fm H N AH rfl rfl d0 d1 (by omega) hT hT2 (by show c0+(c1+(c2+0))=n;omega) (by omega) (by omega) (Nat.lt_trans h0 (by decide)) (Nat.lt_trans h1 (by decide)) nset KH GH Fd g TO fun q=>hmany n q hn2
 have ft:FnR m (k+32) hs "_law_loads" [.lst ((List.range 3).map fun t=>V.int (([a+b,a+e,b+e].getD t 0:Nat)-2-[c0,c1,c2].getD t 0)),.lst (nats [a+b,a+e,b+e]),.int a,.int T,.int G] (.f (vnn (loadsF (a+b) (a+e) a T (2*G-2-n) ((a+b:Nat)-2-c0) ((a+e:Nat)-2-c1)))) hs:=loads_z (k:=k) (c:=[((a+b:Nat):Int)-2-c0,((a+e:Nat):Int)-2-c1,((b+e:Nat):Int)-2-c2]) (d:=[a+b,a+e,b+e]) (n:=2*G-2-n) O B Fl Fp Fm H N AH rfl rfl d0 d1 (by omega) hT hT2 (by show((a+b:Nat):Int)-2-c0+(((a+e:Nat):Int)-2-c1+(((b+e:Nat):Int)-2-c2+0))=_;omega) (by omega) (by omega) (by show(((a+b:Nat):Int)-2-c0).natAbs<256;omega) (by show(((a+e:Nat):Int)-2-c1).natAbs<256;omega) nset KH GH Fd g TO fun q=>hmany _ q (by omega)
 have l1:=loads_ok (d0:=a+b) (d1:=a+e) (x:=a) (T:=T) (n:=n) (c0:=c0) (c1:=c1) (by omega)
 have l2:=loads_ok (d0:=a+b) (d1:=a+e) (x:=a) (T:=T) (n:=2*G-2-n) (c0:=(a+b:Nat)-2-c0) (c1:=(a+e:Nat)-2-c1) (by omega)
 generalize loadsF (a+b) (a+e) a T n c0 c1=H1 at*
 generalize loadsF (a+b) (a+e) a T (2*G-2-n) ((a+b:Nat)-2-c0) ((a+e:Nat)-2-c1)=H2 at*
 have three:∀{H:List (List Nat)} {u0 u1:Int},(∀l∈H,(∃a b c,l=[a,b,c]∧a≤20∧b≤20∧c≤20)∧clsF ((a+b:Nat):Int) ((a+e:Nat):Int) a T (l.getD 0 0:Nat) (l.getD 1 0:Nat)=clsF ((a+b:Nat):Int) ((a+e:Nat):Int) a T u0 u1)→∀x∈H,x.length=3:=fun h x hx=>by
  obtain⟨⟨_,_,_,rfl,_⟩,_⟩:=h x hx;rfl
 have f1:=spare_r (k:=k+29) (hs:=hs) (loads:=H1) O B Fs Fh Fn gt (three l1.2) (Nat.le_trans l1.1 (by decide))
 have f2:=spare_r (k:=k+29) (hs:=hs) (loads:=H2) O B Fs Fh Fn gt (three l2.2) (Nat.le_trans l2.1 (by decide))
 have x1:∀t:Nat,t<3→SubR m (.lst (nats [a+b,a+e,b+e])) (.int t) (.int ([a+b,a+e,b+e].getD t 0:Nat)):=fun t ht=>sub_d (m:=m) (φ:=fun(j:Nat)=>V.int j) 0 ht
 have x2:∀t:Nat,t<3→SubR m (.lst (vints [c0,c1,c2])) (.int t) (.int ([c0,c1,c2].getD t 0)):=fun t ht=>sub_d (m:=m) (φ:=V.int) 0 ht
 have hC:=fun{a0 a1 a2 b0 b1 b2:Nat}=>law_C (k:=k) (hs:=hs) (c:=c) (ch:=[c0,c1,c2]) (d:=[a+b,a+e,b+e]) (x:=a) (T:=T) (cs:=cs) (a0:=a0) (a1:=a1) (a2:=a2) (b0:=b0) (b1:=b1) (b2:=b2) (ties:=[[0,a,b],[a,0,e],[b,e,0]]) (s0:=s0) (s2:=s2) (s3:=s3) (s5:=s5) (s10:= .p (.int G)) (s11:= .p (.int n)) (s13:= .p (.lst (vnn H1))) (s14:= .p (.lst (vnn H2))) (s15:= .p (.lst (vnn (bif decide ((H2.length:Int)≤(H1.length:Int))then H1 else H2)))) (s18:=s18) (s19:=s19) (s20:=s20) (s21:=s21) (s22:=s22) (s23:=s23) (s24:=s24) (s25:=s25) (s26:=s26) (s27:=s27) (s28:=s28) (s29:=s29) (s30:=s30) (s31:=s31) O B H Fp Fe ge F F1 Ft gt Fq Fd Q g TO hc rfl rfl (Nat.lt_trans h0 (by decide)) (Nat.lt_trans h1 (by decide)) d0 d1 (show a<256 by omega) hT hT2 PS
 rw[hn_]at hC ⊢
 clear hb hn_
 have lenM:∀H:List (List Nat),BiR m "len" [.lst (vnn H)] (.p (.int H.length)):=fun H=>by
  have:=len_l (m:=m) (f:="len") B.len (l:=vnn H)
  rw[length_map]at this
  exact this
 refine' e_cons (by exists z_asn (i:=13) kk (z_fn kk O (ar_cons (z_v 12) (ar_cons (z_v 7) (ar_cons (z_v 8) (ar_cons (z_v 9) (ar_cons (z_v 10) ar_nil rfl rfl) rfl rfl) rfl rfl) rfl rfl) rfl rfl) fh) rfl .f) ?_
 refine' e_cons (by exists z_asn (i:=14) kk (z_fn kk O (ar_cons (ev_comp (c_one (fun(t:Nat)=>V.int t) (fun(t:Nat)=>V.int (([a+b,a+e,b+e].getD t 0:Nat)-2-[c0,c1,c2].getD t 0)) (List.range 3) ⟨by kernel_rfl!,by kernel_rfl!,.inl (by kernel_rfl!),by kernel_rfl!,by kernel_rfl!,rfl⟩ rfl (by exists z_bi kk O (ws_cons (ev_int _ _) ws_nil rfl) (.cons rfl .nil) (range1 B.range (by decide))) (its_rng 3) (fun t ht=>⟨_,(by exists ev_bin (ev_bin (ev_sub (z_v 9) (z_v 1) rfl rfl (x1 t (mem_range.mp ht))) (ev_int _ _) rfl rfl sub_r) (ev_sub (z_v 14) (z_v 1) rfl rfl (x2 t (mem_range.mp ht))) rfl rfl sub_r),rfl⟩) (by decide))) (ar_cons (z_v 7) (ar_cons (z_v 8) (ar_cons (z_v 9) (ar_cons (z_v 10) ar_nil rfl rfl) rfl rfl) rfl rfl) rfl rfl) rfl rfl) ft) rfl .f) ?_
 have fN:CmpR m .NotEq (.int (spareF H1-spareF H2)) (.int (n+1-G)) false:=ok1▸ne_int _
 refine' e_cons (z_no (ts_or3 (by exists ts_cmp rfl (z_v 13) (ev_none _) rfl rfl (is_ln _)) (by exists ts_cmp rfl (z_v 14) (ev_none _) rfl rfl (is_ln _)) (by exists ts_cmp rfl (ev_bin (z_fn kk O (ar_cons (z_v 13) ar_nil rfl rfl) f1) (z_fn kk O (ar_cons (z_v 14) ar_nil rfl rfl) f2) rfl rfl sub_r) (ev_bin (ev_bin (z_v 11) (ev_int _ _) rfl rfl add_r) (z_v 10) rfl rfl sub_r) rfl rfl fN))) ?_
 refine' e_cons (by exists z_asn (i:=15) kk (z_ite (fun q=> .p (.lst (vnn (bif q then H1 else H2)))) (by exists ts_cmp rfl (z_bi kk O (ws_cons (z_v 13) ws_nil rfl) (.cons rfl .nil) (lenM _)) (z_bi kk O (ws_cons (z_v 14) ws_nil rfl) (.cons rfl .nil) (lenM _)) rfl rfl ge_r) (by exact(z_v 13)) (by exact(z_v 14))) rfl .p) ?_
 have hL:(∃u0 u1:Int,∀l∈(bif decide ((H2.length:Int)≤(H1.length:Int))then H1 else H2),(∃a b c,l=[a,b,c]∧a≤20∧b≤20∧c≤20)∧clsF ((a+b:Nat):Int) ((a+e:Nat):Int) a T (l.getD 0 0:Nat) (l.getD 1 0:Nat)=clsF ((a+b:Nat):Int) ((a+e:Nat):Int) a T u0 u1)∧(if H2.length≤H1.length then H1 else H2)=(bif decide ((H2.length:Int)≤(H1.length:Int))then H1 else H2):=by
  by_cases q:H2.length≤H1.length
  ·rw[decide_eq_true (Int.ofNat_le.mpr q),if_pos q];exact⟨⟨_,_,l1.2⟩,rfl⟩
  ·rw[decide_eq_false (fun w=>q (Int.ofNat_le.mp w)),if_neg q];exact⟨⟨_,_,l2.2⟩,rfl⟩
 obtain⟨⟨u0,u1,hL⟩,eL⟩:=hL
 rw[eL]at ok2
 generalize (bif decide ((H2.length:Int)≤(H1.length:Int))then H1 else H2)=L at*
 show XE m (k+32) _ (Gz lawN [_,_,_,_,_,_,_,_,_,_,_,_,_,_,_,.p (.lst (vnn L)),_,_,_,_,_,_,_,_,_,_,_,_,_,_,_,_]) _ _ _ _
 cases L with
 |nil=>
  refine' e_cons (by exists z_tup2 (i:=16) (j:=17) kk kk rfl (ev_ite (ts_cmp rfl (z_v 15) (ev_list ar_nil kk) rfl rfl ((eq_nil_nn _).2)) (ev_tup (ar_cons (ev_list (ar_cons (ev_int _ _) (ar_cons (ev_int _ _) (ar_cons (ev_int _ _) ar_nil rfl rfl) rfl rfl) rfl rfl) kk) (ar_cons (ev_list (ar_cons (ev_int _ _) (ar_cons (ev_int _ _) (ar_cons (ev_int _ _) ar_nil rfl rfl) rfl rfl) rfl rfl) kk) ar_nil rfl rfl) rfl rfl) kk))) ?_
  exact hC (a0:=0) (a1:=0) (a2:=0) (b0:=0) (b1:=0) (b2:=0) (by decide) (by decide) rfl (fun i hi=>by
   rcases i with _|_|_|i
   ·rfl
   ·rfl
   ·rfl
   ·omega) rfl rfl ok2
 |cons f r=>
  obtain⟨⟨a0,a1,a2,rfl,ha⟩,hcl⟩:=hL f mem_cons_self
  obtain⟨⟨b0,b1,b2,he,hb⟩,hcl2⟩:=hL _ (last_mem r [a0,a1,a2])
  have y1:SubR m (.lst (vnn ([a0,a1,a2]::r))) (.int 0) (.lst (nats [a0,a1,a2])):=sub_l (by decide) rfl
  have y2:SubR m (.lst (vnn ([a0,a1,a2]::r))) (.int (-1)) (.lst (nats [b0,b1,b2])):=by
   have hl:(vnn ([a0,a1,a2]::r)).length=r.length+1:=by rw[length_map,length_cons]
   refine sub_neg (by decide) (by rw[hl];omega) ?_
   rw[hl,show(-1+((r.length+1:Nat):Int)).toNat=r.length by omega,getElem?_map,last_ix,he];rfl
  refine' e_cons (by exists z_tup2 (i:=16) (j:=17) kk kk rfl (ev_ite (ts_cmp rfl (z_v 15) (ev_list ar_nil kk) rfl rfl ((eq_nil_nn _).2)) (ev_tup (ar_cons (ev_sub (z_v 15) (ev_int _ _) rfl rfl y1) (ar_cons (ev_sub (z_v 15) (ev_neg (ev_int _ _)) rfl rfl y2) ar_nil rfl rfl) rfl rfl) kk))) ?_
  have ok3:wayF (tieL [[0,a,b],[a,0,e],[b,e,0]]) [num1 ((a+e:Nat):Int) a (([a0,a1,a2]:List Nat).getD 0 0:Nat) (([a0,a1,a2]:List Nat).getD 1 0:Nat)/T-num1 ((a+e:Nat):Int) a ((r.getLastD [a0,a1,a2]).getD 0 0:Nat) ((r.getLastD [a0,a1,a2]).getD 1 0:Nat)/T,num2 ((a+b:Nat):Int) a (([a0,a1,a2]:List Nat).getD 0 0:Nat) (([a0,a1,a2]:List Nat).getD 1 0:Nat)/T-num2 ((a+b:Nat):Int) a ((r.getLastD [a0,a1,a2]).getD 0 0:Nat) ((r.getLastD [a0,a1,a2]).getD 1 0:Nat)/T,0] [a0,a1,a2] (r.getLastD [a0,a1,a2])=true:=by
   rw[List.getLastD_cons]at ok2
   exact ok2
  rw[he]at ok3 hcl2
  have hcc:=hcl.trans hcl2.symm
  unfold clsF at hcc
  exact hC (a0:=a0) (a1:=a1) (a2:=a2) (b0:=b0) (b1:=b1) (b2:=b2) ⟨by omega,by omega,by omega⟩ ⟨by omega,by omega,by omega⟩ rfl (fun i hi=>by
   rcases i with _|_|_|i
   ·rfl
   ·rfl
   ·rfl
   ·omega) (congrArg Prod.fst hcc) (congrArg Prod.snd hcc) ok3
end
noncomputable abbrev tiesM (a b e:Nat):List (List Nat):=[[0,a,b],[a,0,e],[b,e,0]]
noncomputable def rN (j:Nat):List (Nat×Nat):=if 0<j then[[(0,1),(0,2),(1,2)].getD (j-1) (0,0)]else[]
theorem road_n (x:Int):∃j,j<4∧roadF x=rN j:=by
 have h0:=Int.fmod_nonneg_of_pos x (show(0:Int)<4 by decide)
 have h1:=Int.fmod_lt_of_pos x (show(0:Int)<4 by decide)
 refine⟨(x.fmod 4).toNat,by lia,?_⟩
 unfold roadF rN
 by_cases q:x.fmod 4>0
 ·rw[if_pos q,if_pos (by lia),show(x.fmod 4-1).toNat=(x.fmod 4).toNat-1 by lia]
 ·rw[if_neg q,if_neg (by lia)]
noncomputable def netB (rs:List (Nat×Nat)) (a b e:Nat):Bool:=decide (rs.length=a+b+e)&&decide (rs.length≤5)&&decide (1≤b)&&decide (1≤e)&&decide (0<(a+b)*(a+e)-a*a)&&decide ((a+b)*(a+e)-a*a<16)&&decide (a*a≤(a+b)*(a+e))&&
 (rs.all fun r=>decide (r.1<3)&&decide (r.2<3)&&decide (r.1≠r.2))&&(List.range 3).all fun t=>decide ((endsF rs t).length=[a+b,a+e,b+e].getD t 0)&&(List.range 3).all fun u=>decide ((endsF rs t).count u=tieL (tiesM a b e) t u)
structure NetOK (rs:List (Nat×Nat)) (a b e:Nat):Prop where
 len:rs.length=a+b+e
 l5:rs.length≤5
 hb:1≤b
 he:1≤e
 T0:0<(a+b)*(a+e)-a*a
 T1:(a+b)*(a+e)-a*a<16
 T2:a*a≤(a+b)*(a+e)
 r:∀r∈rs,r.1<3∧r.2<3∧r.1≠r.2
 l:∀t,t<3→(endsF rs t).length=[a+b,a+e,b+e].getD t 0
 c:∀t,t<3→∀u,u<3→(endsF rs t).count u=tieL (tiesM a b e) t u
theorem net_of {rs:List (Nat×Nat)} {a b e:Nat} (h:netB rs a b e=true):NetOK rs a b e:=by
 unfold netB at h
 simp only[Bool.and_eq_true,decide_eq_true_eq,all_eq_true,mem_range]at h
 obtain⟨⟨⟨⟨⟨⟨⟨⟨h1,h2⟩,h3⟩,h4⟩,h5⟩,h6⟩,h7⟩,h8⟩,h9⟩:=h
 exact⟨h1,h2,h3,h4,h5,h6,h7,fun r hr=>⟨(h8 r hr).1.1,(h8 r hr).1.2,(h8 r hr).2⟩,fun t ht=>(h9 t ht).1,fun t ht u hu=>(h9 t ht).2 u hu⟩
theorem all_nets:∀i,i<4→∀j,j<4→∀k,k<4→netB ([(0,2),(1,2)]++rN i++rN j++rN k) (([(0,2),(1,2)]++rN i++rN j++rN k).count (0,1)) (([(0,2),(1,2)]++rN i++rN j++rN k).count (0,2)) (([(0,2),(1,2)]++rN i++rN j++rN k).count (1,2))=true:=by decide +kernel
theorem roads_ok {c:List Int} (hc:c.length=10):∃a b e,NetOK (roadsF c) a b e:=by
 obtain⟨x,y,z,r,rfl⟩:∃x y z r,c=x::y::z::r:=by
  rcases c with _|⟨x,_|⟨y,_|⟨z,r⟩⟩⟩
  ·cases hc
  ·cases hc
  ·cases hc
  ·exact⟨x,y,z,r,rfl⟩
 obtain⟨i,hi,ei⟩:=road_n x
 obtain⟨j,hj,ej⟩:=road_n y
 obtain⟨k,hk,ek⟩:=road_n z
 have e:roadsF (x::y::z::r)=[(0,2),(1,2)]++rN i++rN j++rN k:=by
  rw[←ei,←ej,←ek];rfl
 rw[e]
 exact⟨_,_,_,net_of (all_nets i hi j hj k hk)⟩
noncomputable def stepN (x:Int):Nat:=[1,5,7,11].getD (x%4).toNat 0
noncomputable def plcG (c:List Int):List Int:=(List.range 3).map fun t=>(c.getD 6 0+(stepN (c.getD 7 0):Int)*(t:Nat))%48
theorem step_free:∀s∈[1,5,7,11],∀t,t<3→∀u,u<3→((s:Nat)*(t:Nat)-(s:Nat)*(u:Nat):Int)%48=0→t=u:=by decide
theorem step_in (x:Int):(x%4).toNat<4∧stepN x∈[1,5,7,11]:=by
 have h:(x%4).toNat<4:=by lia
 refine⟨h,?_⟩
 unfold stepN
 exact get_mem 0 h
theorem plc_get (c:List Int) {t:Nat} (ht:t<3):(plcG c).getD t 0=(c.getD 6 0+(stepN (c.getD 7 0):Int)*(t:Nat))%48:=by
 unfold plcG
 rw[getD_eq_getElem?_getD,getElem?_map,List.getElem?_range ht];rfl
theorem plc_ok (c:List Int):PlOK (plcG c)∧∀t,t<3→∀u,u<3→(plcG c).getD t 0=(plcG c).getD u 0→t=u:=by
 refine⟨⟨rfl,fun p hp=>?_⟩,fun t ht u hu h=>?_⟩
 ·obtain⟨t,_,rfl⟩:=mem_map.mp hp
  exact⟨Int.emod_nonneg _ (by decide),Int.emod_lt_of_pos _ (by decide)⟩
 ·rw[plc_get c ht,plc_get c hu]at h
  have h:=Int.emod_eq_emod_iff_emod_sub_eq_zero.mp h
  refine step_free _ (step_in (c.getD 7 0)).2 t ht u hu ?_
  refine Eq.trans (congrArg (· %48) ?_) h
  omega
theorem count_inj {f:Nat→Int} {l:List Nat} {u:Nat} (hu:u<3) (hl:∀v∈l,v<3) (hf:∀t,t<3→∀u,u<3→f t=f u→t=u):(l.map f).count (f u)=l.count u:=by
 induction l with
 |nil=>rfl
 |cons a l ih=>
  have ih:=ih fun v hv=>hl v (mem_cons_of_mem _ hv)
  have ha:=hl a mem_cons_self
  rw[map_cons,List.count_cons,List.count_cons,ih]
  by_cases q:a=u
  ·rw[q];simp
  ·have:f a≠f u:=fun h=>q (hf a ha u hu h)
   rw[if_neg (by simpa using this),if_neg (by simpa using q)]
noncomputable def tiesN (rs:List (Nat×Nat)) (ps:List Int):List (List Nat):=(toldN rs ps).map fun l=>ps.map fun p=>l.count (7+p)
theorem ps3 {α:Type} {ps:List Int} (h:ps.length=3) (f:Int→α):ps.map f=[f (ps.getD 0 0),f (ps.getD 1 0),f (ps.getD 2 0)]:=by
 obtain⟨a,b,c,rfl⟩:=len3 h;rfl
theorem ties_is {rs:List (Nat×Nat)} {a b e:Nat} (K:NetOK rs a b e) {ps:List Int} (P:PlOK ps) (hp:∀t,t<3→∀u,u<3→ps.getD t 0=ps.getD u 0→t=u):tiesN rs ps=tiesM a b e:=by
 have R:RdOK rs:=⟨K.l5,fun r hr=>⟨(K.r r hr).1,(K.r r hr).2.1⟩⟩
 have key:∀t,t<3→∀u,u<3→((endsF rs t).map fun u=>7+ps.getD u 0).count (7+ps.getD u 0)=tieL (tiesM a b e) t u:=fun t ht u hu=>by
  rw[←K.c t ht u hu]
  exact count_inj (f:=fun u=>7+ps.getD u 0) hu (ends_lt R) fun t ht u hu h=>hp t ht u hu (Int.add_left_cancel h)
 unfold tiesN toldN
 have k0:=fun u hu=>key 0 (by decide) u hu
 have k1:=fun u hu=>key 1 (by decide) u hu
 have k2:=fun u hu=>key 2 (by decide) u hu
 rw[map_map]
 show[ps.map _,ps.map _,ps.map _]=_
 rw[ps3 P.1,ps3 P.1,ps3 P.1,k0 0 (by decide),k0 1 (by decide),k0 2 (by decide),k1 0 (by decide),k1 1 (by decide),k1 2 (by decide),k2 0 (by decide),k2 1 (by decide),k2 2 (by decide)]
 rfl
theorem sums_is {rs:List (Nat×Nat)} {a b e:Nat} (K:NetOK rs a b e) (ps:List Int):(toldN rs ps).map (fun l=>l.length)=[a+b,a+e,b+e]:=by
 unfold toldN
 rw[map_map]
 show[(List.map _ _).length,(List.map _ _).length,(List.map _ _).length]=_
 rw[length_map,length_map,length_map,K.l 0 (by decide),K.l 1 (by decide),K.l 2 (by decide)];rfl
noncomputable def farE (t:Nat) (r:Nat×Nat):Bool:=decide (t=r.1∨t=r.2)
theorem told_is {rs:List (Nat×Nat)} (h:∀r∈rs,r.1<3∧r.2<3∧r.1≠r.2) (ps:List Int) (t:Nat):(endsF rs t).map (fun u=>7+ps.getD u 0)=(rs.filter (farE t)).map fun r=>7+ps.getD (r.1+r.2-t) 0:=by
 unfold endsF
 induction rs with
 |nil=>rfl
 |cons r rs ih=>
  have ih:=ih fun q hq=>h q (mem_cons_of_mem _ hq)
  obtain⟨h1,h2,h3⟩:=h r mem_cons_self
  rw[flatMap_cons,map_append,ih]
  obtain⟨o,u⟩:=r
  have h3:o≠u:=h3
  by_cases q1:o=t
  ·have q2:u≠t:=fun w=>h3 (q1.trans w.symm)
   rw[List.filter_cons_of_pos (show farE t (o,u)=true from decide_eq_true (.inl q1.symm)),map_cons]
   have e:((swap2 (o,u)).filter fun q=>decide (q.1=t))=[(o,u)]:=by simp[swap2,q1,q2]
   rw[e,show o+u-t=u by lia];rfl
  ·by_cases q2:u=t
   ·rw[List.filter_cons_of_pos (show farE t (o,u)=true from decide_eq_true (.inr q2.symm)),map_cons]
    have e:((swap2 (o,u)).filter fun q=>decide (q.1=t))=[(u,o)]:=by simp[swap2,q1,q2]
    rw[e,show o+u-t=o by lia];rfl
   ·rw[List.filter_cons_of_neg (show¬farE t (o,u)=true by unfold farE;rw[decide_eq_true_eq];exact fun w=>w.elim (fun z=>q1 z.symm) (fun z=>q2 z.symm))]
    have e:((swap2 (o,u)).filter fun q=>decide (q.1=t))=[]:=by simp[swap2,q1,q2]
    rw[e];rfl
theorem net_says {rs:List (Nat×Nat)} {a b e:Nat} (K:NetOK rs a b e) {G:Nat} (hG:a+b+e=G+2) {n:Int} (hn1: -1≤n) (hn2:n≤2*G):((G:Int)≤n→manyF (a+b) (a+e) a ((a+b)*(a+e)-a*a) n=(a+b)*(a+e)-a*a)∧∀u v:Int,okF a b e n (u%4-1) (v%4-1)=true:=by
 have h5:=K.l5;have hl:=K.len;have hb:=K.hb;have he:=K.he
 have h:=nets_ok a (by lia) (b-1) (by lia) (e-1) (by lia)
 rw[show b-1+1=b by lia,show e-1+1=e by lia]at h
 unfold netOk at h
 have h:=all_eq_true.mp h (n+1).toNat (mem_range.mpr (by show(n+1).toNat<2*(a+b+e-2)+2;lia))
 have en:(((n+1).toNat:Nat):Int)-1=n:=by lia
 rw[Bool.and_eq_true]at h
 obtain⟨h1,h2⟩:=h
 rw[en]at h1 h2
 refine⟨fun q=>?_,fun u v=>?_⟩
 ·rw[Bool.or_eq_true,decide_eq_true_eq,beq_iff_eq]at h1
  rcases h1 with w|w
  ·exfalso
   have w:n<((a+b+e-2:Nat):Int):=w
   lia
  ·exact w
 ·have h3:=all_eq_true.mp (all_eq_true.mp h2 (u%4).toNat (mem_range.mpr (by lia))) (v%4).toNat (mem_range.mpr (by lia))
  rw[show(((u%4).toNat:Nat):Int)=u%4 by lia,show(((v%4).toNat:Nat):Int)=v%4 by lia]at h3
  exact h3
theorem cellsG_len (xs:List Int):(cellsG xs).length=10:=by
 have:∀(l:List Nat) (c:List Int),c.length=10→(l.foldl (fun c k=>c.set (k%10) (c.getD (k%10) 0+xs.getD k 0)) c).length=10:=by
  intro l
  induction l with
  |nil=>intro c h;exact h
  |cons a l ih=>intro c h;exact ih _ (by rw[length_set];exact h)
 exact this _ _ rfl
theorem stepN_sm (x:Int):(stepN x:Int).natAbs<2^20:=by
 have h:∀s∈[1,5,7,11],((s:Nat):Int).natAbs<2^20:=by decide
 exact h _ (step_in x).2
theorem stepN_get (x:Int):[V.int 1,.int 5,.int 7,.int 11][(x%4).toNat]? =some (.int (stepN x:Nat)):=by
 have h:∀j,j<4→[V.int 1,.int 5,.int 7,.int 11][j]? =some (.int (([1,5,7,11].getD j 0:Nat):Int)):=fun j hj=>by
  rcases j with _|_|_|_|j
  ·rfl
  ·rfl
  ·rfl
  ·rfl
  ·omega
 exact h _ (step_in x).1
theorem sgn_send {ps:List Int} (P:PlOK ps) {mk:Nat} (hm:mk≠10∧mk≠13∧mk≠46∧mk<10000):∀ds:List Nat,ds.length=3→(∀k,ds.getD k 0≤90)→SendP ds (sgnF ps) mk:=fun ds h3 hd=>by
 have hl:(sgnF ps).length=3:=by unfold sgnF;rw[length_map];exact P.1
 have out:∀k,¬k<3→(sgnF ps).getD k []=[]:=fun k hk=>by
  rw[getD_eq_getElem?_getD,List.getElem?_eq_none (by lia)];rfl
 refine⟨hl,h3,hd,fun k c hc=>?_,fun k=>?_,hm⟩
 ·by_cases hk:k<3
  ·have:=(sgn_ok P hk).2.1 c hc;lia
  ·rw[out k hk]at hc;cases hc
 ·by_cases hk:k<3
  ·exact(sgn_ok P hk).1
  ·rw[out k hk];exact Nat.zero_le _
section
variable {m:Mod} {k:Nat} {hs:HS}
theorem ne_ii (l:List (List Int)):CmpR m .NotEq (.lst (vii l)) (.lst (vii l)) false:=by
 have:=(eq_r (m:=m) (beq_ii l l)).2
 rw[decide_eq_true rfl]at this
 exact this
theorem in_pair (t o u:Nat):CmpR m .In (.int t) (.tup [.int o,.int u]) (decide (t=o∨t=u)):=by
 have:=(in_r (m:=m) (inL_ints (t:Int) [(o:Int),(u:Int)]) (b:= .tup [.int o,.int u]) (.inr rfl)).1
 rw[show decide ((t:Int)∈[(o:Int),(u:Int)])=decide (t=o∨t=u) by rw[decide_eq_decide];simp only[mem_cons,not_mem_nil,or_false];exact⟨fun h=>h.imp Int.ofNat.inj Int.ofNat.inj,fun h=>h.imp (congrArg _) (congrArg _)⟩]at this
 exact this
variable (O:m.Ok) (B:m.Bs)
include O B
set_option maxHeartbeats 1000000 in
theorem law_r (F0:FnH2 m "law") (Fce:FnH2 m "_law_cells") (Frd:FnH2 m "_law_roads") (Fop:FnH2 m "_law_operators") (Fto:FnH2 m "_law_told") (H:DivH m) (Fp:FnH2 m "_law_parts") (Fe:FnH2 m "ISEOF") (ge:GlI m "ENDMARKER" 0) (F:FnH2 m "_law_way") (F1:FnH2 m "_law_send") (Ft:FnH2 m "ISTERMINAL") (gt:GlI m "NT_OFFSET" 256) (Fq:FnH2 m "quotedata") (Fd:FnH2 m "_law_dots") (Q:QdH m) (g:GlT m) (TO:TokOK m tokN)
 (Fl:FnH2 m "_law_loads") (Fm:FnH2 m "_law_name") (N:NewR m) (AH:AddH m) (nset:BName m "set" (.type "set")) (KH:KeysH m) (GH:GetH m) (Fs:FnH2 m "_law_spare") (Fh:FnH2 m "_law_has") (Fn:FnH2 m "ISNONTERMINAL")
 {script:List Int} (h63:script.length≤63):FnR m (k+33) hs "law" [.lst (vints script)] (.p (.bool true)) hs:=by
 have hB:=fun{c:List Int} {a b e T G:Nat} {n c0 c1 c2:Int} {cs:List (List Nat)} {s2 s3 s5:Slot}=>law_B (k:=k) (hs:=hs) (c:=c) (a:=a) (b:=b) (e:=e) (T:=T) (G:=G) (n:=n) (c0:=c0) (c1:=c1) (c2:=c2) (cs:=cs) (s0:= .p (.lst (vints script))) (s2:=s2) (s3:=s3) (s5:=s5) (s13:= .any) (s14:= .any) (s15:= .any) (s16:= .any) (s17:= .any) (s18:= .any) (s19:= .any) (s20:= .any) (s21:= .any) (s22:= .any) (s23:= .any) (s24:= .any) (s25:= .any) (s26:= .any) (s27:= .any) (s28:= .any) (s29:= .any) (s30:= .any) (s31:= .any) O B H Fp Fe ge F F1 Ft gt Fq Fd Q g TO Fl Fm N AH nset KH GH Fs Fh Fn
 have hbd:(P2 "law").body=(P2 "law").body:=rfl
 conv at hbd=>rhs;whnf
 have hn_:(P2 "law").scope.names=(P2 "law").scope.names:=rfl
 conv at hn_=>rhs;whnf
 refine z_def (nm:=lawN) (sl0:=[.any,.any,.any,.any,.any,.any,.any,.any,.any,.any,.any,.any,.any,.any,.any,.any,.any,.any,.any,.any,.any,.any,.any,.any,.any,.any,.any,.any,.any,.any,.any,.any]) (ps:=["script"]) O F0 (by kernel_rfl!) hbd hn_ rfl (z_par (i:=0) (by kernel_rfl!) .nil) rfl ?_ (by kernel_rfl!)
 rw[hn_]at hB
 clear hbd hn_
 have hlen:=cellsG_len script
 have fce:=cells_g (k:=k+31) (hs:=hs) O B Fce h63
 generalize cellsG script=c at*
 obtain⟨a,b,e,K⟩:=roads_ok hlen
 have frd:=roads_r (k:=k+31) (hs:=hs) O B Frd hlen
 have fop:=operators_r (k:=k+31) (hs:=hs) O B Fop
 obtain⟨P,hpi⟩:=plc_ok c
 have R:RdOK (roadsF c):=⟨K.l5,fun r hr=>⟨(K.r r hr).1,(K.r r hr).2.1⟩⟩
 have fto:=told_r (k:=k+30) (hs:=hs) O B Fto N AH KH GH g TO R P
 have cI:∀j:Nat,j<10→SubR m (.lst (vints c)) (.int j) (.int (c.getD j 0)):=fun j hj=>sub_d (m:=m) (φ:=V.int) 0 (by rw[hlen];exact hj)
 have m4:∀x:Int,BinR m .Mod (.int x) (.int 4) (.p (.int (x%4))):=fun x=>mod_e (by decide)
 have sT:SubR m (.tup [.int 1,.int 5,.int 7,.int 11]) (.int (c.getD 7 0%4)) (.int (stepN (c.getD 7 0):Nat)):=sub_t (Int.emod_nonneg _ (by decide)) (by decide) (by
  exact stepN_get _)
 have mT:∀t:Nat,t<3→BinR m .Mult (.int (stepN (c.getD 7 0):Nat)) (.int t) (.p (.int ((stepN (c.getD 7 0):Int)*(t:Nat)))):=fun t ht=>mul_sm (stepN_sm _) (by omega)
 refine' e_cons (by exists z_asn (i:=1) kk (z_fn kk O (ar_cons (z_v 0) ar_nil rfl rfl) fce) rfl .p) ?_
 refine' e_cons (by exists z_asn (i:=2) kk (z_fn kk O (ar_cons (z_v 1) ar_nil rfl rfl) frd) rfl .p) ?_
 refine' e_cons (Γ1:=Gz lawN [.p (.lst (vints script)),.p (.lst (vints c)),.p (.lst (vroads (roadsF c))),.p (.lst (vints (plcG c))),.any,.any,.any,.any,.any,.any,.any,.any,.any,.any,.any,.any,.any,.any,.any,.any,.any,.any,.any,.any,.any,.any,.any,.any,.any,.any,.any,.any]) (by exists z_asnc (i:=3) kk (c_one (fun(t:Nat)=>V.int t) (fun(t:Nat)=>V.int ((c.getD 6 0+(stepN (c.getD 7 0):Int)*(t:Nat))%48)) (List.range 3) ⟨by kernel_rfl!,by kernel_rfl!,.inl (by kernel_rfl!),by kernel_rfl!,by kernel_rfl!,rfl⟩ rfl (by exists z_bi kk O (ws_cons (ev_int _ _) ws_nil rfl) (.cons rfl .nil) (range1 B.range (by decide))) (its_rng 3) (fun t ht=>⟨_,(by exists ev_bin (ev_bin (ev_sub (z_v 3) (ev_int _ _) rfl rfl (cI 6 (by decide))) (ev_bin (ev_sub (ev_tup (ar_cons (ev_int _ _) (ar_cons (ev_int _ _) (ar_cons (ev_int _ _) (ar_cons (ev_int _ _) ar_nil rfl rfl) rfl rfl) rfl rfl) rfl rfl) kk) (ev_bin (ev_sub (z_v 3) (ev_int _ _) rfl rfl (cI 7 (by decide))) (ev_int _ _) rfl rfl (m4 _)) rfl rfl sT) (z_v 1) rfl rfl (mT t (mem_range.mp ht))) rfl rfl add_r) (ev_int _ _) rfl rfl (mod_e (by decide))),rfl⟩) (by decide)) .f) ?_
 generalize plcG c=ps at*
 have hrs:=K.r
 have told2:=fun t=>told_is hrs ps t
 have tis:=ties_is K P hpi
 have sis:=sums_is K ps
 generalize roadsF c=rs at*
 have sop:∀p:Int,0≤p∧p<48→SubR m (.lst (vstrs ops)) (.int p) (.str (S (ops.getD p.toNat []))):=fun p hp=>by
  have:=sub_d (m:=m) (φ:=fun x=>V.str (S x)) (j:=p.toNat) (l:=ops) [] (by rw[ops_ok.2.1];omega)
  rw[Int.toNat_of_nonneg hp.1]at this
  exact this
 have eP:vstrs (sgnF ps)=ps.map fun p=>V.str (S (ops.getD p.toNat [])):=by
  show List.map _ (List.map _ _)=_
  rw[map_map];rfl
 have p3:ps.length≤16777216:=by rw[P.1];decide
 refine' e_cons (by exists z_asnc (i:=4) kk (c_one (fun(p:Int)=>V.int p) (fun(p:Int)=>V.str (S (ops.getD p.toNat []))) ps ⟨by kernel_rfl!,by kernel_rfl!,.inl (by kernel_rfl!),by kernel_rfl!,by kernel_rfl!,rfl⟩ rfl (by exact(z_v 3)) .l (fun p hp=>⟨_,(by exists ev_sub (z_fn kk O ar_nil fop) (z_v 1) rfl rfl (sop p (P.2 p hp))),rfl⟩) p3) .f) ?_
 rw[←eP]
 refine' e_cons (by exists z_asn (i:=5) kk (z_fn kk O (ar_cons (z_v 2) (ar_cons (z_v 4) ar_nil rfl rfl) rfl rfl) fto) rfl .f) ?_
 have eT:vii (toldN rs ps)=(List.range 3).map fun t=>V.lst ((rs.filter (farE t)).map fun r=>V.int (7+ps.getD (r.1+r.2-t) 0)):=by
  have:∀t,V.lst (vints ((endsF rs t).map fun u=>7+ps.getD u 0))=V.lst ((rs.filter (farE t)).map fun r=>V.int (7+ps.getD (r.1+r.2-t) 0)):=fun t=>by
   rw[told2 t]
   exact congrArg V.lst map_map
  show[V.lst (vints _),V.lst (vints _),V.lst (vints _)]=[_,_,_]
  rw[this 0,this 1,this 2]
 have fN:CmpR m .NotEq (.lst (vii (toldN rs ps))) (.lst ((List.range 3).map fun t=>V.lst ((rs.filter (farE t)).map fun r=>V.int (7+ps.getD (r.1+r.2-t) 0)))) false:=by
  rw[←eT];exact ne_ii _
 have sP:∀(t:Nat) (r:Nat×Nat),r∈rs→farE t r=true→SubR m (.lst (vints ps)) (.int ((r.1:Int)+(r.2:Nat)-(t:Nat))) (.int (ps.getD (r.1+r.2-t) 0)):=fun t r hr h=>by
  have h:=of_decide_eq_true h
  have h3:=hrs r hr
  have e1:((r.1:Int)+(r.2:Nat)-(t:Nat))=((r.1+r.2-t:Nat):Int):=by omega
  rw[e1]
  exact sub_d (m:=m) (φ:=V.int) 0 (by rw[P.1];omega)
 have rl:rs.length≤16777216:=by have:=K.l5;omega
 refine' e_cons (z_no (by exists ts_cmp rfl (z_v 5) (ev_comp (c_one (fun(t:Nat)=>V.int t) (fun(t:Nat)=>V.lst ((rs.filter (farE t)).map fun r=>V.int (7+ps.getD (r.1+r.2-t) 0))) (List.range 3) ⟨by kernel_rfl!,by kernel_rfl!,.inr (by kernel_rfl!),by kernel_rfl!,by kernel_rfl!,rfl⟩ rfl (by exists z_bi kk O (ws_cons (ev_int _ _) ws_nil rfl) (.cons rfl .nil) (range1 B.range (by decide))) (its_rng 3) (fun t ht=>⟨_,(by exists ev_comp (c_tup (fun(r:Nat×Nat)=>V.int r.1) (fun r=>V.int r.2) (fun r=>V.int (7+ps.getD (r.1+r.2-t) 0)) (farE t) rs (.mk' (by kernel_rfl!) (by kernel_rfl!) (by kernel_rfl!) (by kernel_rfl!) (by kernel_rfl!) (by kernel_rfl!) (by kernel_rfl!) (by kernel_rfl!) rfl) rfl (by exact(z_v 4)) .l (fun r hr=>⟨(by exists ts_cmp rfl (z_v 4) (ev_tup (ar_cons (z_v 1) (ar_cons (z_v 2) ar_nil rfl rfl) rfl rfl) kk) rfl rfl (in_pair _ _ _)),fun w=>⟨_,(by exists ev_bin (ev_int _ _) (ev_sub (z_v 8) (ev_bin (ev_bin (z_v 1) (z_v 2) rfl rfl add_r) (z_v 4) rfl rfl sub_r) rfl rfl (sP t r hr w)) rfl rfl add_r),rfl⟩⟩) rl)),rfl⟩) (by decide))) rfl rfl fN)) ?_
 have eI:vnn (tiesN rs ps)=(toldN rs ps).map fun l=>V.lst (ps.map fun p=>V.int ((l.count (7+p):Nat):Int)):=by
  show List.map _ (List.map _ _)=_
  rw[map_map]
  exact map_congr_left fun l ux=>congrArg V.lst map_map
 refine' e_cons (by exists z_asnc (i:=6) kk (c_one (fun(l:List Int)=>V.lst (vints l)) (fun l=>V.lst (ps.map fun p=>V.int ((l.count (7+p):Nat):Int))) (toldN rs ps) ⟨by kernel_rfl!,by kernel_rfl!,.inr (by kernel_rfl!),by kernel_rfl!,by kernel_rfl!,rfl⟩ rfl (by exact(z_v 5)) .l (fun l hl=>⟨_,(by exists ev_comp (c_one (fun(p:Int)=>V.int p) (fun(p:Int)=>V.int ((l.count (7+p):Nat):Int)) ps ⟨by kernel_rfl!,by kernel_rfl!,.inl (by kernel_rfl!),by kernel_rfl!,by kernel_rfl!,rfl⟩ rfl (by exact(z_v 5)) .l (fun p hp=>⟨_,(by exists ev_me rfl rfl dd (z_v 3) (ws_cons (ev_bin (ev_int _ _) (z_v 1) rfl rfl add_r) ws_nil rfl) rfl (.cons rfl .nil) count_r),rfl⟩) p3)),rfl⟩) (show 3≤16777216 by decide)) .f) ?_
 rw[←eI,tis]
 have eS:(toldN rs ps).map (fun l=>V.int ((l.length:Nat):Int))=nats [a+b,a+e,b+e]:=by
  rw[←sis];exact map_map.symm
 have lenV:∀l:List Int,BiR m "len" [.lst (vints l)] (.p (.int ((l.length:Nat):Int))):=fun l=>by
  have:=len_l (m:=m) (f:="len") B.len (l:=vints l)
  rw[length_map]at this
  exact this
 refine' e_cons (by exists z_asnc (i:=7) kk (c_one (fun(l:List Int)=>V.lst (vints l)) (fun l=>V.int ((l.length:Nat):Int)) (toldN rs ps) ⟨by kernel_rfl!,by kernel_rfl!,.inl (by kernel_rfl!),by kernel_rfl!,by kernel_rfl!,rfl⟩ rfl (by exact(z_v 5)) .l (fun l hl=>⟨_,(by exists z_bi kk O (ws_cons (z_v 1) ws_nil rfl) (.cons rfl .nil) (lenV l)),rfl⟩) (show 3≤16777216 by decide)) .f) ?_
 rw[eS]
 have t0:SubR m (.lst (vnn (tiesM a b e))) (.int 0) (.lst (nats [0,a,b])):=sub_l (by decide) rfl
 have t1:SubR m (.lst (nats [0,a,b])) (.int 1) (.int a):=sub_l (by decide) rfl
 have w0:SubR m (.lst (nats [a+b,a+e,b+e])) (.int 0) (.int (a+b:Nat)):=sub_l (by decide) rfl
 have w1:SubR m (.lst (nats [a+b,a+e,b+e])) (.int 1) (.int (a+e:Nat)):=sub_l (by decide) rfl
 refine' e_cons (by exists z_asn (i:=8) kk (ev_sub (ev_sub (z_v 6) (ev_int _ _) rfl rfl t0) (ev_int _ _) rfl rfl t1) rfl .p) ?_
 have hl5:=K.l5;have hl:=K.len;have hb1:=K.hb;have he1:=K.he
 have g1:BinR m .Mult (.int (a+b:Nat)) (.int (a+e:Nat)) (.p (.int (((a+b)*(a+e):Nat):Int))):=by
  rw[Int.natCast_mul];exact mul_sm (by omega) (by omega)
 have g2:BinR m .Mult (.int a) (.int a) (.p (.int ((a*a:Nat):Int))):=by
  rw[Int.natCast_mul];exact mul_sm (by omega) (by omega)
 have g3:BinR m .Sub (.int (((a+b)*(a+e):Nat):Int)) (.int ((a*a:Nat):Int)) (.p (.int (((a+b)*(a+e)-a*a:Nat):Int))):=by
  rw[Int.ofNat_sub K.T2];exact sub_r
 refine' e_cons (by exists z_asn (i:=9) kk (ev_bin (ev_bin (ev_sub (z_v 7) (ev_int _ _) rfl rfl w0) (ev_sub (z_v 7) (ev_int _ _) rfl rfl w1) rfl rfl g1) (ev_bin (z_v 8) (z_v 8) rfl rfl g2) rfl rfl g3) rfl .p) ?_
 obtain⟨G,hG⟩:∃G,a+b+e=G+2:=⟨a+b+e-2,by omega⟩
 have fl:BiR m "len" [.lst (vroads rs)] (.p (.int rs.length)):=by
  have:=len_l (m:=m) (f:="len") B.len (l:=vroads rs)
  rw[length_map]at this
  exact this
 have g4:BinR m .Sub (.int rs.length) (.int 2) (.p (.int G)):=by
  have:=sub_r (m:=m) (a:=(rs.length:Int)) (b:=2)
  rw[show(rs.length:Int)-2=G by omega]at this
  exact this
 refine' e_cons (by exists z_asn (i:=10) kk (ev_bin (z_bi kk O (ws_cons (z_v 2) ws_nil rfl) (.cons rfl .nil) fl) (ev_int _ _) rfl rfl g4) rfl .p) ?_
 have g5:BinR m .Mult (.int 2) (.int G) (.p (.int (2*(G:Int)))):=mul_sm (by decide) (by omega)
 have g6:BinR m .Mod (.int (c.getD 5 0)) (.int (2*(G:Int)+2)) (.p (.int (c.getD 5 0% (2*(G:Int)+2)))):=mod_e (by omega)
 refine' e_cons (by exists z_asn (i:=11) kk (ev_bin (ev_bin (ev_sub (z_v 1) (ev_int _ _) rfl rfl (cI 5 (by decide))) (ev_bin (ev_bin (ev_int _ _) (z_v 10) rfl rfl g5) (ev_int _ _) rfl rfl add_r) rfl rfl g6) (ev_int _ _) rfl rfl sub_r) rfl .p) ?_
 have n0:=Int.emod_nonneg (c.getD 5 0) (show 2*(G:Int)+2≠0 by omega)
 have n1:=Int.emod_lt_of_pos (c.getD 5 0) (show 0<2*(G:Int)+2 by omega)
 obtain⟨n,hn⟩:∃n,n=c.getD 5 0% (2*(G:Int)+2)-1:=⟨_,rfl⟩
 show XE m (k+32) _ (Gz lawN [_,_,_,_,_,_,_,_,_,_,_,.p (.int (c.getD 5 0% (2*(G:Int)+2)-1)),_,_,_,_,_,_,_,_,_,_,_,_,_,_,_,_,_,_,_,_]) _ _ _ _
 rw[←hn]
 have h1: -1≤n:=by omega
 have h2:n≤2*G:=by omega
 clear hn n0 n1 g4 g5 g6 fl g1 g2 g3
 refine' e_cons (by exists z_asn (i:=12) kk (ev_list (ar_cons (ev_bin (ev_bin (ev_sub (z_v 1) (ev_int _ _) rfl rfl (cI 3 (by decide))) (ev_int _ _) rfl rfl (m4 _)) (ev_int _ _) rfl rfl sub_r) (ar_cons (ev_bin (ev_bin (ev_sub (z_v 1) (ev_int _ _) rfl rfl (cI 4 (by decide))) (ev_int _ _) rfl rfl (m4 _)) (ev_int _ _) rfl rfl sub_r) (ar_cons (ev_bin (ev_bin (ev_bin (z_v 11) (ev_bin (ev_sub (z_v 1) (ev_int _ _) rfl rfl (cI 3 (by decide))) (ev_int _ _) rfl rfl (m4 _)) rfl rfl sub_r) (ev_bin (ev_sub (z_v 1) (ev_int _ _) rfl rfl (cI 4 (by decide))) (ev_int _ _) rfl rfl (m4 _)) rfl rfl sub_r) (ev_int _ _) rfl rfl add_r) ar_nil rfl rfl) rfl rfl) rfl rfl) kk) rfl .f) ?_
 have NS:=fun(j:Int) (q1: -1≤j) (q2:j≤2*G)=>net_says K hG (n:=j) q1 q2
 have z1:a+b≤8∧a+e≤8∧b+e≤8:=by clear fce fto NS hB;exact⟨by omega,by omega,by omega⟩
 have z2:(c.getD 3 0%4-1)+(c.getD 4 0%4-1)+(n-c.getD 3 0%4-c.getD 4 0%4+2)=n:=by clear fce fto NS hB;omega
 have z3:∀z:Int,(z%4-1).natAbs<10:=fun z=>by clear fce fto NS hB;omega
 exact hB (c:=c) (a:=a) (b:=b) (e:=e) (T:=(a+b)*(a+e)-a*a) (G:=G) (n:=n) (c0:=c.getD 3 0%4-1) (c1:=c.getD 4 0%4-1) (c2:=n-c.getD 3 0%4-c.getD 4 0%4+2) (cs:=sgnF ps) hlen z1 K.T0 K.T1 rfl hG (by omega) z2 h1 h2 (z3 _) (z3 _) (sgn_send P (mark_ok _).2) (fun j q1 q2=>(NS j (Int.le_trans (by decide) (Int.le_trans (Int.natCast_nonneg G) q1)) q2).1 q1) ((NS n h1 h2).2 _ _)
end
theorem ref_of {v:Value} {a:Addr} (h:refOf v=some a):v= .ref a:=got (o:=refP v) h
theorem str_of {v:Value} {x:Str} (h:strOfV v=some x):∃t,v= .str x t:=got (o:=strP v) h
theorem int_of {v:Value} {i:Int} (h:intOfV v=some i):∃t,v= .int i t:=got (o:=intP v) h
theorem func_of {d:Data} {fd:FuncData} (h:funcOf d=some fd):d= .func fd:=got (o:=funcP d) h
theorem fld_of {d:Data} {vs:Array Value} (h:fldOf d=some vs):d= .fields vs:=got (o:=fldP d) h
theorem seq_of {d:Data} {vs:Array Value} (h:seqOf d=some vs):∃n,d= .seq vs n:=got (o:=seqP d) h
theorem dict_of {d:Data} {es:Array DictEntry} (h:dictOfD d=some es):∃n,d= .dict es n:=got (o:=dictP d) h
theorem none_of {v:Value} (h:isNoneV v=true):v= .none:=(Option.isSome_iff_exists.mp h).elim fun p ux=>p.1
theorem bool_of {v:Value} (h:isBoolV v=true):∃b,v= .bool b:=(Option.isSome_iff_exists.mp h).elim fun p ux=>⟨p.1,p.2⟩
theorem plain_of {d:Data} (h:isPlain d=true):d= .plain:=(Option.isSome_iff_exists.mp h).elim fun p ux=>p.1
theorem obj_of {h:Heap} {v:Option Value} {p:Addr×Obj} (e:objAt h v=some p):v=some (.ref p.1)∧h.get? p.1=some p.2:=by
 refine hid fun G_ k_=>?_
 obtain⟨a,h1,h2⟩:=Option.bind_eq_some_iff.mp e
 obtain⟨x,h3,h4⟩:=Option.bind_eq_some_iff.mp h1
 obtain⟨o,h5,rfl⟩:=Option.map_eq_some_iff.mp h2
 refine k_ ?_
 exact⟨by(rw[h3];exact congrArg _ (ref_of h4)),h5⟩
theorem fd_of {h:Heap} {v:Option Value} {fd:FuncData} (e:fdAt h v=some fd):∃a o,v=some (.ref a)∧h.get? a=some o∧o.data= .func fd:=by
 refine hid fun G_ k_=>?_
 obtain⟨p,h1,h2⟩:=Option.bind_eq_some_iff.mp e
 obtain⟨h3,h4⟩:=obj_of h1
 refine k_ ?_
 exact⟨p.1,p.2,h3,h4,func_of h2⟩
theorem tab_no {o:Obj} (h:fldOf o.data=none):isTab o=false:=by unfold isTab;rw[h];rfl
theorem tab_no2 {o:Obj} {vs:Array Value} (h:o.data= .fields vs) (hs:vs.size≠0):isTab o=false:=by
 unfold isTab
 rw[h]
 show(vs.size==0)=false
 exact beq_eq_false_iff_ne.mpr hs
theorem tab_func {o:Obj} {fd:FuncData} (h:o.data= .func fd):isTab o=false:=tab_no (by rw[h];rfl)
theorem size_of {vs:Array Value} {i:Nat} {v:Value} (h:vs[i]? =some v):vs.size≠0:=by
 have:=(Array.getElem?_eq_some_iff.mp h).1
 exact Nat.ne_zero_of_lt this
noncomputable def dropA (h:Heap) (X:List Addr):Heap:={ h with objs:=h.objs.mapIdx fun i o=>bif X.contains i then{ o with data:= .freed }else o }
theorem drop_get {h:Heap} {X:List Addr} {b:Addr} {o:Obj}:(dropA h X).get? b=some o↔b∉X∧h.get? b=some o:=by
 unfold dropA Heap.get?
 dsimp only
 rw[Array.getElem?_mapIdx]
 by_cases hb:b∈X
 ·rw[List.contains_iff_mem.mpr hb]
  cases h.objs[b]? with
  |none=>exact⟨fun e=>(by cases e),fun e=>absurd hb e.1⟩
  |some x=>exact⟨fun e=>(by cases e),fun e=>absurd hb e.1⟩
 ·rw[show X.contains b=false by simpa using hb]
  cases h.objs[b]? with
  |none=>exact⟨fun e=>(by cases e),fun e=>(by cases e.2)⟩
  |some x=>exact⟨fun e=>⟨hb,e⟩,fun e=>e.2⟩
theorem lookup_in {α β:Type} [BEq α] [LawfulBEq α] {a:α} {b:β}:∀{l:List (α×β)},l.lookup a=some b→(a,b)∈l:=by
 intro v0_
 induction v0_ with
 |nil=>
  intro h
  cases h
 |cons p_ l ih_=>
  obtain⟨c,d⟩:=p_
  intro h
  simp only[lookup_cons]at h
  cases e:a==c with
  |true=>
   rw[e]at h
   cases h
   rw[eq_of_beq e]
   exact mem_cons_self
  |false=>rw[e]at h;exact mem_cons_of_mem _ (ih_ h)
theorem KH_in {h:Heap} {C a:Addr} {o:Obj} (e:(KH h C).lookup a=some o):h.get? a=some o∧isTab o=false:=by
 have hm:=lookup_in e
 unfold KH at hm
 split at hm
 ·refine hid fun G_ k_=>?_
  obtain⟨x,_,h2⟩:=List.mem_filterMap.mp hm
  obtain⟨o',h3,h4⟩:=Option.bind_eq_some_iff.mp h2
  refine k_ ?_
  cases ht:isTab o' with
  |true=>rw[ht]at h4;cases h4
  |false=>rw[ht]at h4;cases h4;exact⟨h3,ht⟩
 ·cases hm
theorem map_at {α β:Type} {f g:α→β} {l:List α} (h:l.map f=l.map g) {a:α} (ha:a∈l):f a=g a:=List.map_inj_left.mp h a ha
theorem code_of {h h':Heap} {fd:FuncData} (e:codeT h fd=some true) (hk:∀b o,h.get? b=some o→isTab o=false→h'.get? b=some o):h'.CodeRec fd.code fd.qualname:=by
 refine hid fun G_ k_=>?_
 obtain⟨p,h1,h2⟩:=Option.bind_eq_some_iff.mp e
 obtain⟨vs,h3,h4⟩:=Option.bind_eq_some_iff.mp h2
 obtain⟨v,h5,h6⟩:=Option.bind_eq_some_iff.mp h4
 obtain⟨q,h7,h8⟩:=Option.map_eq_some_iff.mp h6
 obtain⟨h9,h10⟩:=obj_of h1
 obtain⟨t,rfl⟩:=str_of h7
 have h3:=fld_of h3
 rw[eq_of_beq h8]at h5
 refine k_ ?_
 exact⟨p.1,p.2,vs,t,Option.some.inj h9,hk _ _ h10 (tab_no2 h3 (size_of h5)),h3,h5⟩
structure FdIs (h:Heap) (fd:FuncData) (A:Arguments) (D:FD) (b:Bool):Prop where
 par:fd.params=A
 body:fd.body= .stmts D.body
 scope:fd.scope=D.scope
 clo:fd.closure=[]
 glob:fd.globals=mainGlobals
 blt:fd.builtins=builtinsNs
 code:h.CodeRec fd.code fd.qualname
 dfl:isNoneV fd.defaults=b
 kwd:fd.kwdefaults= .none
theorem fn_of {h h':Heap} {fd:FuncData} {A:Arguments} {D:FD} {b:Bool} (e:fnT h fd=fnE D A b) (hk:∀b o,h.get? b=some o→isTab o=false→h'.get? b=some o):FdIs h' fd A D b:=
 ⟨congrArg (·.1) e,congrArg (·.2.1) e,congrArg (·.2.2.1) e,congrArg (·.2.2.2.1) e,congrArg (·.2.2.2.2.1) e,congrArg (·.2.2.2.2.2.1) e,code_of (congrArg (·.2.2.2.2.2.2.1) e) hk,congrArg (·.2.2.2.2.2.2.2.1) e,none_of (congrArg (·.2.2.2.2.2.2.2.2) e)⟩
theorem pat_of {h h':Heap} {v:Option Value} {c:Array Nat} (e:patT h v=patE c) (hk:∀b o,h.get? b=some o→isTab o=false→h'.get? b=some o):∃p,v=some (.ref p)∧PatAt h' p c:=by
 refine hid fun G_ k_=>?_
 obtain⟨p,h1,h2⟩:=Option.bind_eq_some_iff.mp e
 obtain⟨vs,h3,h4⟩:=Option.bind_eq_some_iff.mp h2
 obtain⟨q,h5,h6⟩:=Option.bind_eq_some_iff.mp h4
 obtain⟨its,h7,h8⟩:=Option.map_eq_some_iff.mp h6
 obtain⟨g1,g2⟩:=obj_of h1
 obtain⟨g3,g4⟩:=obj_of h5
 have h3:=fld_of h3
 obtain⟨n,g5⟩:=seq_of h7
 have g3:=Option.some.inj g3
 have hs:vs.size≠0:=fun e=>by
  rw[Array.getD_eq_getD_getElem?,Array.getElem?_eq_none (by omega)]at g3
  cases g3
 refine k_ ?_
 exact⟨p.1,g1,p.2,vs,q.1,q.2,its,n,hk _ _ g2 (tab_no2 h3 hs),congrArg (·.1) h8,congrArg (·.2.1) h8,h3,g3,congrArg (·.2.2.1) h8,congrArg (·.2.2.2.1) h8,hk _ _ g4 (tab_no (by rw[g5];rfl)),g5,congrArg (·.2.2.2.2) h8⟩
theorem of_len:∀(l:List Value),l=(List.range l.length).map fun i=>l.getD i .none:=by
 intro v0_
 induction v0_ with
 |nil=>
  exact rfl
 |cons a l ih_=>
  simp only[length_cons,List.range_succ_eq_map,map_cons,map_map]
  exact congrArg (a::·) (ih_)
noncomputable def BndOk (x:Str):Prop:=∀n q b s g c dc py an cd ct bl (f:Nat→Value),bindArgs ⟨n,q,PA x,b,s,g,c,.none,.none,dc,py,an,cd,ct,bl⟩ ⟨(List.range (P2 x).params.length).map f,[]⟩=pure ((P2 x).params.zip ((List.range (P2 x).params.length).map f))
theorem bnd_all:∀x∈fnL,BndOk x:=by
 unfold fnL
 repeat' first|exact List.forall_mem_nil _|refine List.forall_mem_cons.mpr ⟨fun n q b s g c dc py an cd ct bl f=>by kernel_rfl,?_⟩
theorem bnd_ok {x:Str} (hx:x∈fnL) (fd:FuncData) (h1:fd.params=PA x) (h2:fd.defaults= .none) (h3:fd.kwdefaults= .none) (vals:List Value) (hv:vals.length=(P2 x).params.length):bindArgs fd ⟨vals,[]⟩=pure ((P2 x).params.zip vals):=by
 rw[of_len vals,hv]
 obtain⟨n,q,p,b,s,g,c,d,kd,dc,py,an,cd,ct,bl⟩:=fd
 dsimp only at h1 h2 h3
 subst h1 h2 h3
 exact bnd_all x hx n q b s g c dc py an cd ct bl _
theorem shape_all:(fnL.all fun x=>(P2 x).scope.kind== .function&&(!(P2 x).scope.isCoroutine&&(!(P2 x).scope.isGenerator&&(P2 x).params.all (isVar (P2 x).scope.names))))=true:=by kernel_rfl
theorem rec_of {h:Heap} {x:Str} (hx:x∈fnL) {a:Addr} {o:Obj} {fd:FuncData} (F:FdIs h fd (PA x) (P2 x) true) (ha:h.get? a=some o) (hd:o.data= .func fd):FnRec h a (P2 x) fd:=by
 have hs:=all_eq_true.mp shape_all x hx
 rw[Bool.and_eq_true,Bool.and_eq_true,Bool.and_eq_true,Bool.not_eq_true',Bool.not_eq_true']at hs
 exact⟨⟨o,ha,hd⟩,F.body,F.scope,F.clo,F.glob,F.blt,F.code,fun vals hv=>bnd_ok hx fd F.par (none_of F.dfl) F.kwd vals hv,eq_of_beq hs.1,hs.2.1,hs.2.2.1,hs.2.2.2⟩
structure Mth (m:Mod) (K:Frag) (x:Str) (b:Bool) (a:Addr) (fd:FuncData):Prop where
 find:findIn K (.ref m.C) x=some (some (.ref a))
 type:typeIn K (.ref a)=some (.type "function")
 at_:∃o,m.h₀.get? a=some o∧o.data= .func fd
 is:FdIs m.h₀ fd (PCA x) (PC x) b
section
variable {m:Mod} {h:Heap}
theorem mth_of (hk:∀b o,h.get? b=some o→isTab o=false→m.h₀.get? b=some o) {K:Frag} {x:Str} {b:Bool} (e:mthT h K m.C x=mthE x b):∃a fd,Mth m K x b a fd∧fdAt h (some (.ref a))=some fd:=by
 obtain⟨v,h1,h2⟩:=Option.map_eq_some_iff.mp e
 have e1:v.map (typeIn K)=some (some (.type "function")):=congrArg (·.1) h2
 have e2:(fdAt h v).map (fnT h)=some (fnE (PC x) (PCA x) b):=congrArg (·.2) h2
 obtain⟨fd,h3,h4⟩:=Option.map_eq_some_iff.mp e2
 obtain⟨a,o,rfl,h5,h6⟩:=fd_of h3
 exact⟨a,fd,⟨h1,Option.some.inj e1,⟨o,hk _ _ h5 (tab_func h6),h6⟩,fn_of h4 hk⟩,h3⟩
theorem conv_bind {fd:FuncData} (F:FdIs m.h₀ fd (PCA "_convert_string_type") (PC "_convert_string_type") true):∀v x b,bindArgs fd ⟨[v,x],[(("name":Str),b)]⟩=pure [(("self":Str),v),(("value":Str),x),(("name":Str),b)]:=fun v x bb=>by
 have h1:=F.par
 have h2:=none_of F.dfl
 have h3:=F.kwd
 obtain⟨n,q,p,b,s,g,c,d,kd,dc,py,an,cd,ct,bl⟩:=fd
 dsimp only at h1 h2 h3
 subst h1 h2 h3
 kernel_rfl
theorem get_bind {fd:FuncData} (F:FdIs m.h₀ fd (PCA "get_all") (PC "get_all") true):∀vals:List Value,vals.length=(PC "get_all").params.length→bindArgs fd ⟨vals,[]⟩=pure ((PC "get_all").params.zip vals):=fun vals hv=>by
 have h1:=F.par
 have h2:=none_of F.dfl
 have h3:=F.kwd
 rw[of_len vals,hv]
 obtain⟨n,q,p,b,s,g,c,d,kd,dc,py,an,cd,ct,bl⟩:=fd
 dsimp only at h1 h2 h3
 subst h1 h2 h3
 generalize (fun i=>vals.getD i Value.none)=f
 kernel_rfl
theorem keys_bind {fd:FuncData} (F:FdIs m.h₀ fd (PCA "keys") (PC "keys") true):∀vals:List Value,vals.length=(PC "keys").params.length→bindArgs fd ⟨vals,[]⟩=pure ((PC "keys").params.zip vals):=fun vals hv=>by
 have h1:=F.par
 have h2:=none_of F.dfl
 have h3:=F.kwd
 rw[of_len vals,hv]
 obtain⟨n,q,p,b,s,g,c,d,kd,dc,py,an,cd,ct,bl⟩:=fd
 dsimp only at h1 h2 h3
 subst h1 h2 h3
 generalize (fun i=>vals.getD i Value.none)=f
 kernel_rfl
theorem add_bind {fd:FuncData} (F:FdIs m.h₀ fd (PCA "add_header") (PC "add_header") true):∀v x y,bindArgs fd ⟨[v,x,y],[]⟩=(alloc { cls:= .type "dict",data:= .dict #[] }>>=fun d=>pure [(("self":Str),v),(("_name":Str),x),(("_value":Str),y),(("_params":Str),.ref d)]):=fun v x y=>by
 have h1:=F.par
 have h2:=none_of F.dfl
 have h3:=F.kwd
 obtain⟨n,q,p,b,s,g,c,d,kd,dc,py,an,cd,ct,bl⟩:=fd
 dsimp only at h1 h2 h3
 subst h1 h2 h3
 kernel_rfl
theorem init_bind {fd:FuncData} (F:FdIs m.h₀ fd (PCA "__init__") (PC "__init__") false):∀v,∃kk,bindArgs fd ⟨[v],[]⟩=seqItems? fd.defaults>>=kk∧kk (some #[.none])=pure [(("self":Str),v),(("headers":Str),.none)]:=fun v=>by
 have h1:=F.par
 have h3:=F.kwd
 obtain⟨n,q,p,b,s,g,c,d,kd,dc,py,an,cd,ct,bl⟩:=fd
 dsimp only at h1 h3
 subst h1 h3
 exact⟨_,rfl,by kernel_rfl⟩
theorem get_shape:(PC "get_all").scope.kind= .function∧(PC "get_all").scope.isCoroutine=false∧(PC "get_all").scope.isGenerator=false∧(PC "get_all").params.all (isVar (PC "get_all").scope.names)=true:=by
 refine⟨?_,?_,?_,?_⟩<;>kernel_rfl
theorem get_rec {K:Frag} {a:Addr} {fd:FuncData} (M:Mth m K "get_all" true a fd):FnRec m.h₀ a (PC "get_all") fd:=
 ⟨M.at_,M.is.body,M.is.scope,M.is.clo,M.is.glob,M.is.blt,M.is.code,get_bind M.is,get_shape.1,get_shape.2.1,get_shape.2.2.1,get_shape.2.2.2⟩
theorem keys_shape:(PC "keys").scope.kind= .function∧(PC "keys").scope.isCoroutine=false∧(PC "keys").scope.isGenerator=false∧(PC "keys").params.all (isVar (PC "keys").scope.names)=true:=by
 refine⟨?_,?_,?_,?_⟩<;>kernel_rfl
theorem keys_rec {K:Frag} {a:Addr} {fd:FuncData} (M:Mth m K "keys" true a fd):FnRec m.h₀ a (PC "keys") fd:=
 ⟨M.at_,M.is.body,M.is.scope,M.is.clo,M.is.glob,M.is.blt,M.is.code,keys_bind M.is,keys_shape.1,keys_shape.2.1,keys_shape.2.2.1,keys_shape.2.2.2⟩
theorem conv_rec {K:Frag} {a:Addr} {fd:FuncData} (M:Mth m K "_convert_string_type" true a fd) (t:BName m "type" (.type "type")) (s:BName m "str" (.type "str")) {p1 p2:Addr} (e1:m.mg "_name_disallowed_re"=some (.ref p1)) (e2:m.mg "_value_disallowed_re"=some (.ref p2)) (q1:PatAt m.h₀ p1 nameCode) (q2:PatAt m.h₀ p2 valCode):ConvRec m a fd p1 p2:=by
 have F:=M.is
 exact⟨M.at_,F.code,F.clo,F.glob,F.blt,conv_bind F,t,s,q1,q2,e1,e2,F.scope,F.body⟩
theorem add_rec {K:Frag} {a:Addr} {fd:FuncData} (M:Mth m K "add_header" true a fd):AddRec m.h₀ a fd:=by
 have F:=M.is
 exact⟨M.at_,F.code,F.clo,F.scope,F.body,add_bind F⟩
theorem new_rec {K:Frag} (X:K.In m.h₀) {a:Addr} {fd:FuncData} (M:Mth m K "__init__" false a fd) (t:BName m "type" (.type "type")) (l:BName m "list" (.type "list")) (d:∃tup o n,fd.defaults= .ref tup∧m.h₀.get? tup=some o∧o.data= .seq #[.none] n) (h1:makesIn K m.C=true) (h2:findIn K (.ref m.C) "__setattr__"=some (some (.builtin "object.__setattr__")))
 (h3:plainOver K m.C=true) (h4:takerIn K m.C "_headers"=some none) (h5:hasDictIn K m.C=true) (h6:keepIn K (.ref m.C)=true):NewRec m K a fd:=by
 have F:=M.is
 exact⟨X,h1,M.find,M.type,h2,h3,h4,h5,h6,M.at_,F.code,F.clo,F.glob,F.blt,t,l,d,F.scope,F.body,init_bind F⟩
end
end Mine
section
open PySem PySem.W PyProof.Rows PySem.Calls PySem.Spec PySem.Builtin.Str PySem.Builtin PyProof.V
namespace Mine
theorem tok_chk:(tokL.all fun p=>decide (tokN p.1=some p.2))=true∧(ops.all fun o=>(tokL.lookup (S o)).isSome)=true∧(tokL.map (·.1)).Nodup:=by
 refine⟨?_,?_,?_⟩<;>decide +kernel
theorem tok_is (x:Str):tokL.lookup x=tokN x:=by
 cases e:tokL.lookup x with
 |some i=>
  have:=all_eq_true.mp tok_chk.1 _ (lookup_in e)
  exact(of_decide_eq_true this).symm
 |none=>
  cases e2:tokN x with
  |none=>rfl
  |some i=>
   unfold tokN at e2
   obtain⟨j,h1,_⟩:=Option.map_eq_some_iff.mp e2
   obtain⟨j',h1,_⟩:=Option.bind_eq_some_iff.mp h1
   obtain⟨h2,h3,_⟩:=List.findIdx?_eq_some_iff_getElem.mp h1
   have h4:=all_eq_true.mp tok_chk.2.1 _ (getElem_mem h2)
   rw[eq_of_beq h3,S_of,e]at h4
   cases h4
theorem look_is (x:Str):∀L:List (Str×Int),PySem.Spec.lookup (.str x) (L.map fun p=>(PyData.str p.1,PyData.int p.2))=(L.lookup x).map PyData.int:=by
 intro v0_
 induction v0_ with
 |nil=>
  exact rfl
 |cons p_ L ih_=>
  obtain⟨a,i⟩:=p_
  show(if PySem.Spec.same (.str a) (.str x)=true then _ else _)=_
  rw[lookup_cons,PyProof.V.same_str,ih_]
  by_cases h:a=x
  ·rw[if_pos (decide_eq_true h),show(x==a)=true from beq_iff_eq.mpr h.symm];rfl
  ·rw[if_neg (by rw[decide_eq_false h];exact Bool.false_ne_true),show(x==a)=false from beq_eq_false_iff_ne.mpr (Ne.symm h)]
theorem tok_pairs (w:World):∀(es:List DictEntry) (L:List (Str×Int)),es.map (fun e=>(e.hash,strOfV e.key,intOfV e.val))=L.map (fun p=>(hashStr w p.1,some p.1,some p.2))→
 ∃kvs,(∀e∈es,∃k,(strKind pwL w).is k e.key=true∧e.hash=(strKind pwL w).hash k)∧Pairs (strKind pwL w) es kvs∧kvs.map (·.1)=L.map (·.1)∧FlatPairs PyData.str kvs (L.map fun p=>(PyData.str p.1,PyData.int p.2))
 |[],[],_=>⟨[],fun e h=>(by cases h),.nil,rfl,.nil⟩
 |[],_::_,h=>by cases h
 |_::_,[],h=>by cases h
 |e::es,p::L,h=>by
  refine hid fun G_ k_=>?_
  rw[map_cons,map_cons]at h
  obtain⟨h1,h2⟩:=List.cons.inj h
  obtain⟨kvs,k1,k2,k3,k4⟩:=tok_pairs w es L h2
  obtain⟨t,e1⟩:=str_of (congrArg (·.2.1) h1)
  obtain⟨u,e2⟩:=int_of (congrArg (·.2.2) h1)
  refine k_ ?_
  have hk:(strKind pwL w).is p.1 e.key=true:=by refine Eq.trans (congrArg _ (e1)) ?_;exact strKind_is _ _ _ _
  refine⟨(p.1,e.val)::kvs,fun x hx=>?_,.cons hk rfl k2,by rw[map_cons,k3];rfl,.cons (by rw[e2];exact .int _ _) k4⟩
  rcases mem_cons.mp hx with rfl|hx
  ·exact⟨p.1,hk,congrArg (·.1) h1⟩
  ·exact k1 x hx
theorem tok_ok {m:Mod} {w:World} {h:Heap} {v:Option Value} (hm:m.M=model pwL w) (hk:∀b o,h.get? b=some o→isTab o=false→m.h₀.get? b=some o) (e:tokT h v=tokE w) (hv:v=some (.ref m.tk.a)):TokOK m tokN∧∃o,m.h₀.get? m.tk.a=some o∧o.cls= .type "dict":=by
 refine hid fun G_ k_=>?_
 obtain⟨p,h1,h2⟩:=Option.bind_eq_some_iff.mp e
 obtain⟨es,h3,h4⟩:=Option.map_eq_some_iff.mp h2
 obtain⟨g1,g2⟩:=obj_of h1
 obtain⟨n,h3⟩:=dict_of h3
 rw[hv]at g1
 have g1:m.tk.a=p.1:=by injection Option.some.inj g1
 have e1:(p.1==sysModules)=false:=congrArg (·.1) h4
 have e2:p.2.cls= .type "dict":=congrArg (·.2.1) h4
 have e3:p.2.dict=none:=congrArg (·.2.2.1) h4
 have e4:p.2.slots.size=0:=congrArg (·.2.2.2.1) h4
 obtain⟨kvs,k1,k2,k3,k4⟩:=tok_pairs w es.toList tokL (congrArg (·.2.2.2.2) h4)
 have hd:p.2.IsDictOf (strKind pwL w) kvs:=⟨es,n,⟨e2,e3,Array.eq_empty_of_size_eq_zero e4⟩,h3,fun x hx=>k1 x (Array.mem_toList_iff.mpr hx),k2,by rw[k3];exact tok_chk.2.2⟩
 have g3:=hk _ _ g2 (tab_no (by rw[h3];rfl))
 refine k_ ?_
 rw[g1]
 refine⟨fun A s x t kk=>?_,p.2,g3,e2⟩
 (refine(g1)▸ ?_;refine(hm)▸ ?_)
 have T:TabAt (strKind pwL w) PyData.str s.heap p.1 (tokL.map fun p=>(PyData.str p.1,PyData.int p.2)):=TabAt.ofObj e1 (kk _ _ (g3)) hd k4
 have hl:=look_is x tokL
 rw[tok_is]at hl
 refine⟨fun i hi=>?_,?_⟩
 ·refine getItem_tab PyProof.V.same_str (strKind_is _ _ _ _) T (dv:= .int i) (by rw[hl,hi];rfl) fun v hf=>?_
  have hf:=hf default
  cases hf
  exact⟨⟨_,rfl⟩,⟨_,_,rfl⟩,Kept.refl _ _⟩
 ·refine in_tab PyProof.V.same_str (strKind_is _ _ _ _) T ?_
  rw[hl,Option.isSome_map]
  exact⟨rfl,⟨_,_,rfl⟩,Kept.refl _ _⟩
end Mine
end
namespace Mine
structure ClTxt (D:FD) (dg:Str) (I:Inn):Prop where
 names:D.scope.names.lookup ("inner":Str)=some .cell∧D.scope.names.lookup dg=some .cell∧D.scope.names.lookup ("n":Str)=some .cell
 h0:D.scope.names.lookup ("":Str)=none
 doc:docOf I.body=none
 free:(I.scope.names.all fun x=> !(x.2== .free)||D.scope.names.lookup x.1==some .cell)=true
 has:(dg,NameKind.free)∈I.scope.names∧(("inner":Str),NameKind.free)∈I.scope.names∧(("n":Str),NameKind.free)∈I.scope.names
 d1:I.args.defaults=[]
 d2:I.args.kw_defaults=[]
 ann:∀env,annTrees I.args none env=[]
theorem dig_txt:ClTxt (P2 "_int2digits") "a_digits" I2:=⟨⟨by kernel_rfl,by kernel_rfl,by kernel_rfl⟩,by kernel_rfl,by kernel_rfl,by kernel_rfl,by decide +kernel,by kernel_rfl,by kernel_rfl,fun env=>by kernel_rfl⟩
theorem sum_txt:ClTxt (P2 "_digits2int") "digits" D2:=⟨⟨by kernel_rfl,by kernel_rfl,by kernel_rfl⟩,by kernel_rfl,by kernel_rfl,by kernel_rfl,by decide +kernel,by kernel_rfl,by kernel_rfl,fun env=>by kernel_rfl⟩
structure CdIs (h:Heap) (fd:FuncData) (c P:Addr) (oc:Obj) (vs:Array Value):Prop where
 code:fd.code= .ref c
 at_:h.get? c=some oc
 cls:oc.cls= .type "code"
 data:oc.data= .fields vs
 tab:vs[11]? =some (.ref P)
 file:∃f t,vs.getD 18 .none= .str f t
 flags:∃f t,vs.getD 7 .none= .int f t
 inF:∃b,vs.getD 9 .none= .bool b
 text:∃i t,vs.getD 10 .none= .int i t
 ptab:h.get? P=some { cls:= .none,data:= .fields #[] }
theorem cd_of {h:Heap} {v:Option Value} (e:cdT h v=cdE):∃fd c P oc vs,fdAt h v=some fd∧pAt h v=some P∧CdIs h fd c P oc vs:=by
 refine hid fun G_ k_=>?_
 obtain⟨fd,h1,h2⟩:=Option.bind_eq_some_iff.mp e
 obtain⟨p,h3,h4⟩:=Option.bind_eq_some_iff.mp h2
 obtain⟨vs,h5,h6⟩:=Option.map_eq_some_iff.mp h4
 obtain⟨g1,g2⟩:=obj_of h3
 have e1:p.2.cls= .type "code":=congrArg (·.1) h6
 have e2:(strOfV (vs.getD 18 .none)).isSome=true:=congrArg (·.2.1) h6
 have e3:(intOfV (vs.getD 7 .none)).isSome=true:=congrArg (·.2.2.1) h6
 have e4:isBoolV (vs.getD 9 .none)=true:=congrArg (·.2.2.2.1) h6
 have e5:(intOfV (vs.getD 10 .none)).isSome=true:=congrArg (·.2.2.2.2.1) h6
 obtain⟨q,h7,h8⟩:=Option.map_eq_some_iff.mp (congrArg (·.2.2.2.2.2) h6)
 obtain⟨g3,g4⟩:=obj_of h7
 obtain⟨a,ea⟩:=Option.isSome_iff_exists.mp e2
 obtain⟨b,eb⟩:=Option.isSome_iff_exists.mp e3
 obtain⟨c,ec⟩:=Option.isSome_iff_exists.mp e5
 obtain⟨t1,ea⟩:=str_of ea
 obtain⟨t2,eb⟩:=int_of eb
 obtain⟨t3,ec⟩:=int_of ec
 have q4:(fldOf q.2.data).map (·.size)=some 0:=congrArg (·.2.2.2) h8
 obtain⟨us,h9,h10⟩:=Option.map_eq_some_iff.mp q4
 have q1:q.2.cls= .none:=congrArg (·.1) h8
 have q2:q.2.dict=none:=congrArg (·.2.1) h8
 have q3:q.2.slots.size=0:=congrArg (·.2.2.1) h8
 refine k_ ?_
 refine⟨fd,p.1,q.1,p.2,vs,h1,?_,Option.some.inj g1,g2,e1,fld_of h5,g3,⟨_,_,ea⟩,⟨_,_,eb⟩,bool_of e4,⟨_,_,ec⟩,?_⟩
 ·unfold pAt
  (simp only[h1,Option.bind_some,h3,Option.bind_some,h5,Option.bind_some];rw[g3]);rfl
 ·refine Eq.trans (g4) ?_
  obtain⟨qa,cls,dict,data,slots⟩:=q
  dsimp only at q1 q2 q3 h9
  simp only[q1,q2,fld_of h9,Array.eq_empty_of_size_eq_zero h10,Array.eq_empty_of_size_eq_zero q3]
theorem cl_rec {m:Mod} {h:Heap} (hk:∀b o,h.get? b=some o→isTab o=false→m.h₀.get? b=some o) {D:FD} {dg:Str} (hdg:dg≠("inner":Str)∧dg≠("":Str)∧isDbg dg=false) {fd:FuncData} {c P:Addr} {oc:Obj} {vs:Array Value} (C:CdIs h fd c P oc vs) {I:Inn} (T:ClTxt D dg I)
 (ht:(P,((I.pos.line:Int),(I.pos.col:Int),(fd.qualname++".<locals>.")++("inner":Str)))∈m.tk.X) (bm:BmIn m.h₀ m.mg):ClRec m D fd dg I c P ((fd.qualname++".<locals>.")++("inner":Str)):=by
 refine hid fun G_ k_=>?_
 obtain⟨f1,f2,f3⟩:=C.file
 obtain⟨g1,g2,g3⟩:=C.flags
 obtain⟨b1,b2⟩:=C.inF
 obtain⟨i1,i2,i3⟩:=C.text
 refine k_ ?_
 refine⟨T.names,T.h0,hdg.2.2,⟨hdg.1,hdg.2.1⟩,C.code,⟨oc,vs,f1,f2,g1,g2,b1,i1,i2,hk _ _ C.at_ (tab_no2 C.data (size_of C.tab)),C.cls,C.data,C.tab,?_,f3,g3,b2,i3⟩,ht,rfl,bm,T.doc,fun x hx hf=>?_,T.has,T.d1,T.d2,T.ann⟩
 ·rw[Array.getD_eq_getD_getElem?,C.tab];rfl
 ·have:=all_eq_true.mp T.free x hx
  rw[hf,Bool.or_eq_true]at this
  rcases this with h|h
  ·cases h
  ·exact eq_of_beq h
structure Inst (m:Mod) (w:World) (h:Heap):Prop where
 M:m.M=model pwL w
 h0:m.h₀=dropA h (m.tk.X.map (·.1))
 nod:(m.tk.X.map (·.1)).Nodup
 tabs:∀x∈m.tk.X,h.get? x.1=some { cls:= .none,data:= .fields #[] }
 ct:∀b∈m.tk.X.map (·.1),isCodeTable h b
 g:h.Ns mainGlobals m.mg
 O:m.Ok
 B:m.Bs
 F:∀x∈fnL,FnH2 m x
 gi:∀p∈inL0,GlI m p.1 p.2
 Q:QdH m
 I:I2H m
 D:D2H m
 N:NewR m
 A:AddH m
 G:GetH m
 Ky:KeysH m
 S:BName m "set" (.type "set")
 gT:GlT m
 T:TokOK m tokN
theorem ns_keep {h h':Heap} {a:Addr} (e:h.isNs a=true) (hk:∀b o,h.get? b=some o→isTab o=false→h'.get? b=some o):h'.Ns a (h.nsMap a):=by
 refine hid fun G_ k_=>?_
 obtain⟨o,es,ep,h1,h2,h3⟩:=Heap.Ns.of_isNs e
 refine k_ ?_
 exact⟨o,es,ep,hk _ _ h1 (tab_no (by rw[h2];rfl)),h2,h3⟩
theorem lim_keep {h h':Heap} (e:h.noLimitOk=true) (hk:∀b o,h.get? b=some o→isTab o=false→h'.get? b=some o):h'.NoLimit:=by
 refine hid fun G_ k_=>?_
 obtain⟨mc,⟨o,es,ep,h1,h2,h3⟩,h4⟩:=Heap.NoLimit.of_ok e
 refine k_ ?_
 exact⟨mc,⟨o,es,ep,hk _ _ h1 (tab_no (by rw[h2];rfl)),h2,h3⟩,h4⟩
theorem one_none {vs:Array Value} (p4:(vs.size==1&&vs.all isNoneV)=true):vs= #[.none]:=by
 rw[Bool.and_eq_true]at p4
 have hs:vs.size=1:=eq_of_beq p4.1
 obtain⟨l⟩:=vs
 obtain⟨v,rfl⟩:=List.length_eq_one_iff.mp hs
 have:=Array.all_eq_true.mp p4.2 0 (show 0<1 by decide)
 have e:v= .none:=none_of this
 rw[e]
theorem inst {w:World} {s0:Shared} (hy:Yf s0=Ya w) {h:Heap} (hh:∀b o,s0.heap.get? b=some o→h.get? b=some o):∃m,Inst m w h:=by
 refine hid fun G_ k_=>?_
 have y0:((s0.heap.isNs mainGlobals&&s0.heap.isNs builtinsNs)&&(s0.heap.noLimitOk&&(!(pAt s0.heap (s0.heap.nsMap mainGlobals "_int2digits")==pAt s0.heap (s0.heap.nsMap mainGlobals "_digits2int"))&&(s0.heap.get? sysModules).any fun o=> !isTab o)))=true:=congrArg (·.1) hy
 have y1:(fnL.map fun x=>(fdAt s0.heap (s0.heap.nsMap mainGlobals x)).map (fnT s0.heap))=fnL.map fun x=>some (fnE (P2 x) (PA x) true):=congrArg (·.2.1) hy
 have y2:((s0.heap.nsMap mainGlobals "Headers").bind refOf).map (clsT s0.heap)=some clsE:=congrArg (·.2.2.1) hy
 have y3:(inL0.map fun p=>(s0.heap.nsMap mainGlobals p.1).bind intOfV)=inL0.map fun p=>some p.2:=congrArg (·.2.2.2.1) hy
 have y4:(paL.map fun p=>patT s0.heap (s0.heap.nsMap mainGlobals p.1))=paL.map fun p=>patE p.2:=congrArg (·.2.2.2.2.1) hy
 have y5:(s0.heap.nsMap mainGlobals "CRLF").bind strOfV=some ⟨#[13,10]⟩:=congrArg (·.2.2.2.2.2.1) hy
 have y6:tokT s0.heap (s0.heap.nsMap mainGlobals "EXACT_TOKEN_TYPES")=tokE w:=congrArg (·.2.2.2.2.2.2.1) hy
 have y7:([Str.ofString "_int2digits",Str.ofString "_digits2int"].map fun x=>cdT s0.heap (s0.heap.nsMap mainGlobals x))=[cdE,cdE]:=congrArg (·.2.2.2.2.2.2.2.1) hy
 have y8:bmT s0.heap (s0.heap.nsMap mainGlobals "__builtins__")=some (false,.type "module",some builtinsNs,true):=congrArg (·.2.2.2.2.2.2.2.2.1) hy
 have y9:(biL.map fun p=>(s0.heap.nsMap mainGlobals p.1,s0.heap.nsMap builtinsNs p.1))=biL.map fun p=>(none,some p.2):=congrArg (·.2.2.2.2.2.2.2.2.2) hy
 clear hy
 rw[Bool.and_eq_true,Bool.and_eq_true,Bool.and_eq_true,Bool.and_eq_true,Bool.not_eq_true']at y0
 obtain⟨⟨n1,n2⟩,n3,n4,n5⟩:=y0
 obtain⟨y7a,y7b⟩:=List.cons.inj y7
 have y7b:=(List.cons.inj y7b).1
 obtain⟨fi,ci,Pi,oi,vi,i1,i2,i3⟩:=cd_of y7a
 obtain⟨fd,cd,Pd,od,vd,d1,d2,d3⟩:=cd_of y7b
 have hne:Pi≠Pd:=fun e=>by
  rw[i2,d2,e]at n4
  simp at n4
 obtain⟨C,y2a,y2b⟩:=Option.map_eq_some_iff.mp y2
 obtain⟨vC,c1,c2⟩:=Option.bind_eq_some_iff.mp y2a
 rw[ref_of c2]at c1
 obtain⟨pt,t1,_⟩:=Option.bind_eq_some_iff.mp y6
 obtain⟨t2,_⟩:=obj_of t1
 obtain⟨X,hX⟩:∃X:List (Addr×(Int×Int×Str)),X=[(Pi,((I2.pos.line:Int),(I2.pos.col:Int),(fi.qualname++".<locals>.")++("inner":Str))),(Pd,((D2.pos.line:Int),(D2.pos.col:Int),(fd.qualname++".<locals>.")++("inner":Str)))]:=⟨_,rfl⟩
 obtain⟨m,hm⟩:∃m:Mod,m=⟨pwL,w,C,⟨pt.1,X⟩,dropA h (X.map (·.1)),s0.heap.nsMap mainGlobals,s0.heap.nsMap builtinsNs⟩:=⟨_,rfl⟩
 refine k_ ?_
 have mM:m.M=model pwL w:=by rw[hm];rfl
 have mC:m.C=C:=by exact congrArg _ (hm)
 have mX:m.tk.X=X:=by rw[hm]
 have ma:m.tk.a=pt.1:=by rw[hm]
 have mg:m.mg=s0.heap.nsMap mainGlobals:=by exact congrArg _ (hm)
 have mb:m.mb=s0.heap.nsMap builtinsNs:=by exact congrArg _ (hm)
 have mh:m.h₀=dropA h (m.tk.X.map (·.1)):=by rw[hm]
 clear hm
 have hx1:(X.map (·.1))=[Pi,Pd]:=by rw[hX];rfl
 refine hid fun G_ k_=>?_
 have hk:∀b o,s0.heap.get? b=some o→isTab o=false→m.h₀.get? b=some o:=fun b o hb ht=>by
  rw[mh,mX,hx1]
  refine drop_get.mpr ⟨fun hm=>?_,hh b o hb⟩
  rcases mem_cons.mp hm with rfl|hm
  ·rw[i3.ptab]at hb;cases hb;cases ht
  ·rw[mem_singleton.mp hm,d3.ptab]at hb;cases hb;cases ht
 have hbi:∀p∈biL,BName m p.1 p.2:=fun p hp=>by
  have:=map_at y9 hp
  exact⟨by rw[mg];exact congrArg (·.1) this,by rw[mb];exact congrArg (·.2) this⟩
 have hO:m.Ok:=⟨by rw[mg];exact ns_keep n1 hk,by rw[mb];exact ns_keep n2 hk,lim_keep n3 hk,(tok_ok mM hk y6 (by rw[ma];exact t2)).2⟩
 have hF:∀x∈fnL,FnH2 m x:=fun x hx=>by
  refine hid fun G_ k_=>?_
  obtain⟨f,f1,f2⟩:=Option.map_eq_some_iff.mp (map_at y1 hx)
  obtain⟨a,o,f3,f4,f5⟩:=fd_of f1
  refine k_ ?_
  exact⟨a,f,by rw[mg];exact f3,rec_of hx (fn_of f2 hk) (hk _ _ f4 (tab_func f5)) f5⟩
 have hpa:∀p∈paL,∃a,m.mg p.1=some (.ref a)∧PatAt m.h₀ a p.2:=fun p hp=>by
  obtain⟨a,a1,a2⟩:=pat_of (map_at y4 hp) hk
  exact⟨a,by rw[mg];exact a1,a2⟩
 have hbm:BmIn m.h₀ m.mg:=by
  obtain⟨p,p1,p2⟩:=Option.map_eq_some_iff.mp y8
  obtain⟨p3,p4⟩:=obj_of p1
  have q1:(p.1==builtinsNs)=false:=congrArg (·.1) p2
  have q4:=plain_of (congrArg (·.2.2.2) p2)
  exact⟨p.1,p.2,by rw[mg];exact p3,beq_eq_false_iff_ne.mp q1,hk _ _ p4 (tab_no (by rw[q4];rfl)),congrArg (·.2.1) p2,congrArg (·.2.2.1) p2,q4⟩
 have fnI:∀x∈fnL,∀f,fdAt s0.heap (s0.heap.nsMap mainGlobals x)=some f→∃a,m.mg x=some (.ref a)∧FnRec m.h₀ a (P2 x) f:=fun x hx f hf=>by
  refine hid fun G_ k_=>?_
  obtain⟨f',f1,f2⟩:=Option.map_eq_some_iff.mp (map_at y1 hx)
  rw[hf]at f1
  cases f1
  obtain⟨a,o,f3,f4,f5⟩:=fd_of hf
  refine k_ ?_
  exact⟨a,by rw[mg];exact f3,rec_of hx (fn_of f2 hk) (hk _ _ f4 (tab_func f5)) f5⟩
 have hI:I2H m:=by
  obtain⟨a,a1,a2⟩:=fnI "_int2digits" (by decide +kernel) fi i1
  exact⟨a,fi,ci,Pi,_,a1,a2,cl_rec hk ⟨by decide +kernel,by decide +kernel,by kernel_rfl⟩ i3 dig_txt (by rw[mX,hX];exact mem_cons_self) hbm⟩
 have hD:D2H m:=by
  obtain⟨a,a1,a2⟩:=fnI "_digits2int" (by decide +kernel) fd d1
  exact⟨a,fd,cd,Pd,_,a1,a2,cl_rec hk ⟨by decide +kernel,by decide +kernel,by kernel_rfl⟩ d3 sum_txt (by rw[mX,hX];exact mem_cons_of_mem _ mem_cons_self) hbm⟩
 have hKin:(KH s0.heap C).In m.h₀:=fun a o ha=>hk _ _ (KH_in ha).1 (KH_in ha).2
 have z0:(mthL.map (mthT s0.heap (KH s0.heap C) C))=mthL.map fun x=>mthE x true:=congrArg (·.1) y2b
 have z1:mthT s0.heap (KH s0.heap C) C "__init__"=mthE "__init__" false:=congrArg (·.2.1) y2b
 have z2:((findIn (KH s0.heap C) (.ref C) "__init__").bind fun v=>fdAt s0.heap v).bind (fun fd=>(objAt s0.heap (some fd.defaults)).bind fun p=>(seqOf p.2.data).map fun vs=>vs.size==1&&vs.all isNoneV)=some true:=congrArg (·.2.2.1) y2b
 have z3:findIn (KH s0.heap C) (.ref C) "__getattribute__"=some (some (.builtin "object.__getattribute__")):=congrArg (·.2.2.2.1) y2b
 have z4:findIn (KH s0.heap C) (.ref C) "__getattr__"=some none:=congrArg (·.2.2.2.2.1) y2b
 have z5:hasDictIn (KH s0.heap C) C=true:=congrArg (·.2.2.2.2.2.1) y2b
 have z6:findIn (KH s0.heap C) (.ref C) "_headers"=some none:=congrArg (·.2.2.2.2.2.2.1) y2b
 have z7:makesIn (KH s0.heap C) C=true:=congrArg (·.2.2.2.2.2.2.2.1) y2b
 have z8:findIn (KH s0.heap C) (.ref C) "__setattr__"=some (some (.builtin "object.__setattr__")):=congrArg (·.2.2.2.2.2.2.2.2.1) y2b
 have z9:plainOver (KH s0.heap C) C=true:=congrArg (·.2.2.2.2.2.2.2.2.2.1) y2b
 have z10:takerIn (KH s0.heap C) C "_headers"=some none:=congrArg (·.2.2.2.2.2.2.2.2.2.2.1) y2b
 have z11:(hasDictIn (KH s0.heap C) C&&keepIn (KH s0.heap C) (.ref C))=true:=congrArg (·.2.2.2.2.2.2.2.2.2.2.2) y2b
 rw[z5,Bool.true_and]at z11
 rw[←mC]at z0 z1 z2 z3 z4 z5 z6 z7 z8 z9 z10 z11
 rw[←mC]at hKin
 obtain⟨ac,fc,Mc,_⟩:=mth_of hk (map_at z0 (show("_convert_string_type":Str)∈mthL by decide +kernel))
 obtain⟨ag,fg,Mg,_⟩:=mth_of hk (map_at z0 (show("get_all":Str)∈mthL by decide +kernel))
 obtain⟨ak,fk,Mk,_⟩:=mth_of hk (map_at z0 (show("keys":Str)∈mthL by decide +kernel))
 obtain⟨aa,fa,Ma,_⟩:=mth_of hk (map_at z0 (show("add_header":Str)∈mthL by decide +kernel))
 obtain⟨ai,f0,Mi,hf0⟩:=mth_of hk z1
 have hdf:∃tup o n,f0.defaults= .ref tup∧m.h₀.get? tup=some o∧o.data= .seq #[.none] n:=by
  refine hid fun G_ k_=>?_
  rw[Mi.find,Option.bind_some,hf0,Option.bind_some]at z2
  obtain⟨p,p1,p2⟩:=Option.bind_eq_some_iff.mp z2
  obtain⟨vs,p3,p4⟩:=Option.map_eq_some_iff.mp p2
  obtain⟨p5,p6⟩:=obj_of p1
  obtain⟨n,p7⟩:=seq_of p3
  have e:vs= #[.none]:=one_none p4
  refine k_ ?_
  exact⟨p.1,p.2,n,Option.some.inj p5,hk _ _ p6 (tab_no (by rw[p7];rfl)),by rw[p7,e]⟩
 have hsm:∃o,m.h₀.get? sysModules=some o:=by
  cases e:s0.heap.get? sysModules with
  |none=>rw[e]at n5;cases n5
  |some o=>
   rw[e]at n5
   have n5:(!isTab o)=true:=n5
   rw[Bool.not_eq_true']at n5
   exact⟨o,hk _ _ e n5⟩
 have bi:∀i (h:i<biL.length),BName m (biL[i]).1 (biL[i]).2:=fun i h=>hbi _ (getElem_mem h)
 have bt:=bi 7 (by decide +kernel)
 have bs:=bi 8 (by decide +kernel)
 have bl:=bi 9 (by decide +kernel)
 obtain⟨p1,q1,r1⟩:∃p,m.mg "_name_disallowed_re"=some (.ref p)∧PatAt m.h₀ p nameCode:=hpa paL[2] (getElem_mem (by decide +kernel))
 obtain⟨p2,q2,r2⟩:∃p,m.mg "_value_disallowed_re"=some (.ref p)∧PatAt m.h₀ p valCode:=hpa paL[3] (getElem_mem (by decide +kernel))
 obtain⟨p3,q3,r3⟩:∃p,m.mg "_twin_re_1"=some (.ref p)∧PatAt m.h₀ p dotCode:=hpa paL[0] (getElem_mem (by decide +kernel))
 obtain⟨p4,q4,r4⟩:∃p,m.mg "_twin_re_2"=some (.ref p)∧PatAt m.h₀ p nlCode:=hpa paL[1] (getElem_mem (by decide +kernel))
 have hCl:ClsRec m.h₀ (KH s0.heap m.C) m.C "_convert_string_type" ac:=⟨hKin,z3,z4,z5,z6,Mc.find,Mc.type,by decide +kernel⟩
 have hCv:=conv_rec Mc bt bs q1 q2 r1 r2
 have hNw:=new_rec hKin Mi bt bl hdf z7 z8 z9 z10 z5 z11
 refine k_ ?_
 have hCm:m.mg "Headers"=some (.ref m.C):=by rw[mg,mC];exact c1
 obtain⟨tc,s1,s2⟩:=Option.bind_eq_some_iff.mp y5
 obtain⟨tt,s3⟩:=str_of s2
 refine⟨m,mM,mh,by rw[mX,hx1];exact List.pairwise_cons.mpr ⟨fun b hb=>by rw[mem_singleton.mp hb];exact hne,List.pairwise_singleton _ _⟩,fun x hx=>?_,fun b hb=>?_,by rw[mg];exact(Heap.Ns.of_isNs n1).keeps hh,hO,?_,hF,fun p hp=>?_,⟨p3,p4,tt,q3,r3,q4,r4,by rw[mg,s1,s3]⟩,hI,hD,new_hm hO hNw hCm,
  fun k hs r n v l hr h1 h2 h3 h4=>add_hm hO hsm hCl hCv (add_rec Ma) Ma.find Ma.type hr h1 h2 h3 h4,fun k hs r x y l hr e1 e2 e3 e4 e5 e6=>?_,fun k hs r l hr h1=>keys_hm hO hCl (keys_rec Mk) Mk.find Mk.type hr h1,bi 10 (by decide +kernel),by rw[GlT,mg,ma];exact t2,(tok_ok mM hk y6 (by rw[ma];exact t2)).1⟩
 ·rw[mX,hX]at hx
  rcases mem_cons.mp hx with rfl|hx
  ·exact hh _ _ i3.ptab
  ·rw[mem_singleton.mp hx]
   exact hh _ _ d3.ptab
 ·rw[mX,hx1]at hb
  rcases mem_cons.mp hb with rfl|hb
  ·exact⟨ci,oi,vi,hh _ _ i3.at_,i3.cls,i3.data,i3.tab⟩
  ·rw[mem_singleton.mp hb]
   exact⟨cd,od,vd,hh _ _ d3.at_,d3.cls,d3.data,d3.tab⟩
 ·exact⟨bi 0 (by decide +kernel),bi 1 (by decide +kernel),bi 2 (by decide +kernel),bi 3 (by decide +kernel),bi 4 (by decide +kernel),bi 5 (by decide +kernel),bi 6 (by decide +kernel)⟩
 ·obtain⟨v,v1,v2⟩:=Option.bind_eq_some_iff.mp (map_at y3 hp)
  obtain⟨t,v3⟩:=int_of v2
  exact⟨t,by rw[mg,v1,v3]⟩
 ·have:=get_hm (k:=k) hO hCl hCv (get_rec Mg) Mg.find Mg.type hr e1 e2 e3 e4 e5 e6
  unfold gaF
  rw[map_map]
  exact this
theorem law_fn {m:Mod} {w:World} {h:Heap} (J:Inst m w h) {script:List Int} (hs:script.length≤63):FnR m 33 [] "law" [.lst (vints script)] (.p (.bool true)) []:=by
 have F:=J.F
 have f:∀i (h:i<fnL.length),FnH2 m fnL[i]:=fun i h=>F _ (getElem_mem h)
 have g:∀i (h:i<inL0.length),GlI m inL0[i].1 inL0[i].2:=fun i h=>J.gi _ (getElem_mem h)
 exact law_r (k:=0) J.O J.B (f 0 (by decide)) (f 1 (by decide)) (f 3 (by decide)) (f 2 (by decide)) (f 4 (by decide)) ⟨f 14 (by decide),f 15 (by decide),J.I,J.D,f 16 (by decide),f 17 (by decide),g 2 (by decide)⟩ (f 6 (by decide)) (f 22 (by decide)) (g 1 (by decide)) (f 12 (by decide)) (f 11 (by decide)) (f 20 (by decide)) (g 0 (by decide)) (f 13 (by decide)) (f 5 (by decide)) J.Q J.gT J.T (f 8 (by decide)) (f 7 (by decide)) J.N J.A J.S J.Ky J.G (f 10 (by decide)) (f 9 (by decide)) (f 21 (by decide)) hs
noncomputable def lawD:DefRec:=⟨"law",PA "law",(P2 "law").body,(P2 "law").scope,(PI "law").pos⟩
theorem hdef:defOf qV "law"=some (lawD,[]):=by kernel_rfl
theorem hthe:pwL.theDef "law"=some (lawD.params,lawD.body,lawD.scope):=by kernel_rfl
theorem hkw:kwWritten? lawD.params.kwonlyargs lawD.params.kw_defaults=some []:=by kernel_rfl
theorem vrs_ints {h:Heap} {R:RC}:∀{vs:List Value} {ns:List Int},IntsAre vs ns→VRs h R (vints ns) vs
 |_,_,.nil=>rfl
 |_,_,.cons n t r=>⟨.int n t,_,rfl,⟨t,rfl⟩,vrs_ints r⟩
set_option tactic.hygienic true in
theorem call_ok:WalkO qV looseL (fun ux ux=>True) (fun w h=>∃s0,Yf s0=Ya w∧∀b o,s0.heap.get? b=some o→h.get? b=some o) rwL lawD [] fun f vs=>PySem.call f vs:=by
 intro w s0 s1 mg mb G Y fa o pm cd doc dV kV ho hd hcd hD hmg hg args vals as hpre hlay hrd hwl hlo
 obtain⟨sY,hy,hkeep⟩:=Y
 obtain⟨m,J⟩:=inst hy hkeep
 have T:=G.T
 clear hy hkeep ho hd hcd hD
 wrow_args hpre hlay hrd hwl hlo
 rename_i xs _ _ _ _ _ _ _ a vs _ hL _ W _ hI _ hlen _
 have hlen:xs.length≤63:=by omega
 obtain⟨a',o',fd,e1,_,_,hcall⟩:=law_fn J hlen
 have ea:a'=fa:=by
  have:=Heap.Ns.agree J.g T.g "law"
  have hmg:mg "law"=some (.ref fa):=hmg
  rw[e1,hmg]at this
  injection Option.some.inj this
 rw[ea]at hcall
 have hb:∀x∈m.tk.X.map (·.1),∃ps,s1.heap.get? x=some { cls:= .none,data:= .fields ps }:=fun x hx=>by
  obtain⟨y,hy,rfl⟩:=mem_map.mp hx
  exact⟨#[],J.tabs y hy⟩
 have hbad:(RC.bad ⟨[],[],m.tk⟩)=m.tk.X.map (·.1):=rfl
 have hnb:a∉m.tk.X.map (·.1):=fun hx=>by
  obtain⟨ps,h1⟩:=hb a hx
  obtain⟨o2,h2,h3,_⟩:=hL
  rw[h1]at h2;cases h2;cases h3
 have hpl:s1.heap.PlainList a vs.toArray:=by
  obtain⟨o2,h2,h3,n,h4⟩:=hL
  cases W with
  |list h5 _=>
   rw[h5]at h2
   cases h2
   cases h4
   exact⟨_,h5⟩
 have hk:=hcall callerA s1 ⟨[],[],m.tk⟩ [.ref a] ⟨rfl,by decide,by decide⟩ ⟨fun b o hb=>(drop_get.mp (J.h0▸hb)).2,fun b o hb=>by rw[hbad];exact(drop_get.mp (J.h0▸hb)).1,rfl⟩
  ⟨rfl,fun r i a l h=>by simp at h,by rw[hbad];exact J.nod,fun p hp=>(by cases hp),fun x hx=>⟨#[],J.tabs x hx,.inl rfl⟩⟩ ⟨_,_,rfl,⟨by show(vints xs).length≤_;rw[length_map];exact Nat.le_trans hlen (by decide),a,vs,rfl,by rw[hbad];exact hnb,hpl,vrs_ints hI⟩,rfl⟩
 rw[J.M]at hk
 refine wpAny_mono hk (fun v s' p=>?_) fun ux ux x=>x.elim
 obtain⟨R',T',hv⟩:=p
 obtain⟨h',tk,rfl⟩:=T'.go
 have hv:v= .bool true:=hv
 subst hv
 have hR:R'.tk=m.tk:=T'.st.1
 refine⟨.inl ⟨.bool true,.bool true,[],rfl,fun ux=>rfl,.bool true,by kernel_rfl,fun ux=>⟨List.nodup_nil,fun a ha=>by cases ha⟩⟩,⟨fun b o hbo=>?_,fun b o hbo=>?_⟩,rfl,.of_eq hg⟩
 ·by_cases hx:b∈m.tk.X.map (·.1)
  ·obtain⟨y,hy,rfl⟩:=mem_map.mp hx
   have h1:=J.tabs y hy
   obtain⟨qs,h3,_⟩:=T'.hd.tabs y (by rw[hR];exact hy)
   rw[h1]at hbo
   cases hbo
   exact .inr (.inl ⟨J.ct _ hx,rfl,#[],qs,rfl,by rw[Array.empty_append];exact h3⟩)
  ·exact .inl (T'.kp b o hx hbo)
 ·by_cases hx:b∈m.tk.X.map (·.1)
  ·obtain⟨y,hy,rfl⟩:=mem_map.mp hx
   obtain⟨qs,h3,_⟩:=T'.hd.tabs y (by rw[hR];exact hy)
   exact⟨_,h3⟩
  ·exact⟨o,T'.kp b o hx hbo⟩
end Mine
theorem PySem.Challenge.cw_wc0032_01_holds : PySem.Challenge.rw_wc0032_01.Holds := by
 refine holds_law Mine.said fun k=>?_
 exact holds_open (r:=PySem.Challenge.rw_wc0032_01.row) (XP:=fun ux ux=>True) (YP:=fun w h=>∃s0,Mine.Yf s0=Mine.Ya w∧∀b o,s0.heap.get? b=some o→h.get? b=some o) Mine.left_ok (fun w s e=>⟨s,e,fun ux ux h=>h⟩) (fun w h h' ⟨s,e,k⟩ k'=>⟨s,e,fun b o q=>k' b o (k b o q)⟩) (fun ux ux=>trivial) (fun ux ux ux ux ux=>trivial)
  Mine.hdef Mine.hthe Mine.hkw (fun ux ux=>recFacts_of (by rfl)) rfl k Mine.okk Mine.bare Mine.promised Mine.call_ok
