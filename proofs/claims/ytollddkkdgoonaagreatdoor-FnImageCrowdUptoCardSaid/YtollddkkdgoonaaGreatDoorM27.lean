/- FnImageCrowd answers true, where what it reads is of bulk at most 1048576: the card. No condition but the row's own. -/
import Derived.Test.YtollddkkdgoonaaGreatDoorM26
namespace Go.Proofs.YtollddkkdgoonaaGreatDoor
open Go
set_option linter.unusedVariables false
set_option linter.unusedSimpArgs false
section
open Go Go.ChangeShapes Go.WideShapes Go.RowKit
theorem AHb:ownKnob Tryz.prog.godebug=none:=by kernel_rfl
theorem SF:laidOutB Tryz.prog=true:=by kernel_rfl
theorem AJd:TP.underlying 49=some (.slice 9):=by kernel_rfl
section
variable {K:Type} {enc:TypeId×Value→K} {w:World} {base:Nat} {sp:Nat→Bool} {held:Bool} {fuel:Nat} {t e:TypeId} {v:Value} {d:DataW K} {p:List MemPlace}
theorem AJJ (ht:TP.underlying t=some .string)(h:DataW.trod enc TP w base sp held fuel t [v]=some (d,p)):∃ l:Bs,v=str l∧l.length≤Rows.uptoBulk d:=by
 cases fuel with
 | zero=>simp[DataW.trod] at h
 | succ m=>
  cases v<;>simp[DataW.trod,ht] at h
  rename_i s
  obtain⟨_,rfl,_⟩:=h
  refine⟨s.data.toList,rfl,?_⟩
  simp only[Rows.uptoBulk]
  omega
theorem AJA (ht:TP.underlying t=some (.slice e))(he:TP.cellsOf e=1)(hu:TP.underlying e=some .string)(h:DataW.trod enc TP w base sp held fuel t [v]=some (d,p)) :
  ∃ l:List Bs,RdV 1 v l.length (strs l) (allR w.heap)∧l.length≤Rows.uptoBulk d∧∀ b∈l,b.length≤Rows.uptoBulk d:=by
 obtain⟨vs,ds,r,hl,hg,hb⟩:=Kf ht he h
 obtain⟨l,h1,h2⟩:=Se (P:=fun i (b:Bs)=>vs[i]? = some (str b)∧b.length≤Rows.uptoBulk d) vs.length fun i hi=>by
  obtain⟨di,n,q,h3,h4⟩:=hg i _ (A00 hi)
  obtain⟨bs,h5,h6⟩:=AJJ hu h4
  have:=L5 (A28 h3)
  exact⟨bs,by rw[←h5];exact A00 hi,by omega⟩
 have hvs:vs=strs l:=by
  apply A60
  intro i
  by_cases hi:i<l.length
  ·have hg2:l[i]? = some l[i]:=A00 hi
   rw[(h2 i _ hg2).1,NX hg2]
  ·rw[A40 (by omega),A40 (by unfold strs;rw[A25];omega)]
 have:=OM ds
 refine⟨l,by rw[←hvs,h1];exact r,by omega,fun b hbm=>?_⟩
 obtain⟨i,hi,rfl⟩:=B00 hbm
 exact (h2 i _ (A00 hi)).2
end
set_option maxRecDepth 100000 in
theorem AIt (K:Type)(enc:TypeId×Value→K)(W:World)(base:Nat)(args:Array Value)(ds gs:List (DataW K))(before:List MemPlace)
  (hval:∀ (j:Nat) t v,Tryz.f4.params[j]? = some t→args[j]? = some v→Value.okWide Tryz.prog W .any base t v)
  (hW:DataW.Whole enc Tryz.prog Tryz.f4.params.toList Rows.fnImageCrowdSpec.vars false W args.toList ds gs before) (hk:Rows.uptoSmall K (ds++gs)=true) (hL:laidMetH Tryz.prog Rows.fnImageCrowdRow.laid W) :
  Calls Tryz.prog 4 args W fun e W'=>∃ v,e=.returned v∧Rows.fnImageCrowdSpec.post enc Tryz.prog Tryz.f4 false true false false W args v W':=by
 have hW':=hW
 obtain⟨p,q,hA0,hV,rfl,hfz,hnd⟩:=hW
 have hA:DataW.TrodAll enc Tryz.prog W 0 (fun _=>true) true Tryz.f4.params.toList args.toList ds p:=hA0
 rw[Tryz.params4] at hA hval
 obtain⟨v0,vs0,d0,ds0,p0,q0,hargs,rfl,rfl,h0,r0⟩:=trodAll_cons hA
 obtain⟨v1,vs1,d1,ds1,p1,q1,rfl,rfl,rfl,h1,r1⟩:=trodAll_cons r0
 obtain⟨v2,vs2,d2,ds2,p2,q2,rfl,rfl,rfl,h2,r2⟩:=trodAll_cons r1
 obtain⟨rfl,rfl,rfl⟩:=trodAll_nil r2
 obtain rfl:args=#[v0,v1,v2]:=by cases args;simp_all
 obtain⟨rfl,rfl⟩:=trodVars_none hV
 have h2k:=h2
 obtain⟨inl,rfl,rfl,rfl⟩:=open_bool ty4 (hval 2 4 v2 rfl rfl) h2
 have hk2:Rows.uptoBulkAll ([d0,d1,.lit (.bool inl)]++[])≤1048576:=of_decide_eq_true hk
 have hb0:Rows.uptoBulk d0≤1048576:=by
  have:=L5 (d:=d0) (l:=[d0,d1,DataW.lit (.bool inl)]++[]) (by simp)
  omega
 have hb1:Rows.uptoBulk d1≤1048576:=by
  have:=L5 (d:=d1) (l:=[d0,d1,DataW.lit (.bool inl)]++[]) (by simp)
  omega
 have hc0:v0.cells.toList=[v0]:=by
  have h:=hval 0 49 v0 rfl rfl
  unfold Value.okWide at h
  rw[AJd] at h
  unfold Cell.okWide at h
  cases v0<;>first|rfl|(simp[AJd,Cell.ok] at h)
 have hc1:v1.cells.toList=[v1]:=by
  have h:=hval 1 30 v1 rfl rfl
  unfold Value.okWide at h
  rw[AHe] at h
  unfold Cell.okWide at h
  cases v1<;>first|rfl|(simp[AHe,Cell.ok] at h)
 obtain⟨fuel,hf⟩:=id h0
 rw[hc0] at hf
 obtain⟨fuel1,hf1⟩:=id h1
 rw[hc1] at hf1
 obtain⟨ns,rd,hl,hb⟩:=AJA AJd ce9 ty9 hf
 obtain⟨ks,rk,hkl⟩:=Qk AHe ty5 ce5 hf1
 have walk:=Xr (f:=4) (args:=[v0,v1,.bool inl]) (W:=W) (AJi _ _ _ _ _ (s4 rd rk (by omega) (fun b hb2=>by have:=hb b hb2;omega) (by omega) (ADS hL) (YW W.heap) fun y h w=>⟨rfl,y,w⟩))
 refine walk.mono fun e W' ⟨he,w1,w2,w3⟩=>⟨_,he,?_⟩
 have hlt:=hW'.lt
 have same:=Yd hlt w3
 refine⟨_,_,_,[],_,[],hW',trodAll_cons_mk (shut_bool ty4 _) trodAll_mk0,trodAll_cons_mk (WideElems.Trod_stays SF (by kernel_rfl) (of_decide_eq_true (by kernel_rfl)) h0 (fun x hx=>same x (by simp[hx])) (fun x hx=>by simpa using hlt x (by simp[hx])))
  (trodAll_cons_mk (WideElems.Trod_stays SF (by kernel_rfl) (of_decide_eq_true (by kernel_rfl)) h1 (fun x hx=>same x (by simp[hx])) (fun x hx=>by simpa using hlt x (by simp[hx])))
  (trodAll_cons_mk (WideElems.Trod_stays SF (by kernel_rfl) (of_decide_eq_true (by kernel_rfl)) h2k (fun x hx=>by cases hx) (fun x hx=>by cases hx)) trodAll_mk0)),rfl,Zl w1 w2 w3,fun h=>by cases h⟩
noncomputable def Iz (os:Os):World:=
 {World.holding Tryz.prog os ⟨#[],#[],[]⟩ with heap:=(World.holding Tryz.prog os ⟨#[],#[],[]⟩).heap.modify 4 fun
   | .cells _ t frozen=>.cells ⟨PXc⟩ t frozen
   | o=>o}
theorem AI5 (os:Os):laidMet Tryz.prog Rows.fnImageCrowdUptoRow.laid ((Iz os).forCall (fun _ _=>0) ⟨#[],#[.slice none 0 0,.slice none 0 0,.bool false],[]⟩).memory:=
 laidMet_of_run' 8 (by kernel_rfl) (by kernel_rfl)
theorem AI2 (os:Os){K:Type}(enc:TypeId×Value→K):∃ places,DataW.whole enc Tryz.prog ((Iz os).forCall (fun _ _=>0) ⟨#[],#[.slice none 0 0,.slice none 0 0,.bool false],[]⟩).memory Tryz.f4.params.toList Rows.fnImageCrowdSpec.vars false #[Value.slice none 0 0,Value.slice none 0 0,Value.bool false].toList 8=some ([.nil,.nil,.lit (.bool false)],[],places):=
 ⟨[],by kernel_rfl⟩
set_option maxRecDepth 100000 in
theorem AI1 (os:Os)(started:os.Started)(K:Type)(enc:TypeId×Value→K)(F:Stop.Interp) :
  ReturnsInHanded {} Tryz.checked os 4 .any ((Rows.OpenSpec.upto Rows.fnImageCrowdSpec).preRow enc Tryz.prog Tryz.f4 Rows.fnImageCrowdUptoRow.domain false Rows.fnImageCrowdUptoRow.laid) (((Rows.OpenSpec.upto Rows.fnImageCrowdSpec).at F).post enc Tryz.prog Tryz.f4 false true false false):=by
 obtain⟨places,hx⟩:=AI2 os enc
 refine returnsInHanded_of_row (C:=Tryz.checked) (s:=Rows.OpenSpec.upto Rows.fnImageCrowdSpec) AHb started (by kernel_rfl) Tryz.func4
  (witness_row_at (enc:=enc) (C:=Tryz.checked) false (Iz os) #[.slice none 0 0,.slice none 0 0,.bool false] rfl (by kernel_rfl) (by kernel_rfl) (by kernel_rfl)
   (OpenSpec.preRow_of_cond 8 hx (by kernel_rfl) (fun k hk=>by cases hk;kernel_rfl) (by kernel_rfl) (AI5 os))) ?_
 intro W base args ds gs before hval hW _ hcond _ hL _ _
 exact AIt K enc W base args ds gs before hval hW (hcond _ rfl) hL
theorem AI4:Rows.FnImageCrowdUptoSaid:=
 OpenClaim.holds_of_cond 4 Tryz.f4 rfl rfl rfl rfl rfl rfl rfl ⟨rfl,rfl,rfl,rfl,rfl⟩ rfl rfl rfl rfl rfl (by kernel_rfl) Tryz.func4 (by kernel_rfl)
  (of_decide_eq_true (by kernel_rfl)) (by unfold Func.isWrapper;first|(rw[A03 (by decide +kernel)];kernel_rfl)|(rw[A05 (by decide +kernel)];exact⟨rfl,rfl⟩))
  (fun os started K enc _ F=>by rw[OpenClaim.pre_eq_preRow];exact AI1 os started K enc F)
theorem AI3 (f:FuncId)(fn:Func)(hf : Tryz.pinned.checked.prog.funcNamed "pub-marram/laws.FnImageCrowd" = some f)(hfn:Tryz.pinned.checked.prog.funcs[f]? = some fn) :
  true=Tryz.pinned.checked.prog.looks []∧∀ (j:Nat) t,fn.params[j]? = some t→Tryz.pinned.checked.prog.wantsStandIn t=false:=by
 obtain rfl:f=4:=A14 ((show Tryz.prog.funcNamed "pub-marram/laws.FnImageCrowd" = some 4 by kernel_rfl).symm.trans hf) |>.symm
 obtain rfl:fn=Tryz.f4:=(A14 (Tryz.func4.symm.trans hfn)).symm
 refine⟨by kernel_rfl,fun j t ht=>?_⟩
 rw[Tryz.params4] at ht
 have hm:=B24 ht
 simp only[List.mem_toArray,A32,B45,or_false] at hm
 rcases hm with rfl|rfl|rfl
 ·exact (show Tryz.prog.wantsStandIn 49=false by kernel_rfl)
 ·exact (show Tryz.prog.wantsStandIn 30=false by kernel_rfl)
 ·exact (show Tryz.prog.wantsStandIn 4=false by kernel_rfl)
theorem crowd_card:Rows.FnImageCrowdUptoCardSaid:=
 Claim7.holds_tied_plain_at .later [] _ _ _ _ AI4 (fun _ h=>by cases h) (by kernel_rfl) (fun _ h=>by cases h) fnImageCrowdUpto_row_tie rfl ⟨rfl,rfl⟩ (by kernel_rfl) rfl AI3 (by kernel_rfl)
end
end Go.Proofs.YtollddkkdgoonaaGreatDoor
