/- A part of a proof over images that are written and read. No condition; a step. -/
import Derived.Test.YtollddkkdgoonaaGreatDoorM6
namespace Go.Proofs.YtollddkkdgoonaaGreatDoor
open Go
set_option linter.unusedVariables false
set_option linter.unusedSimpArgs false
set_option maxRecDepth 100000
section
variable {h:H} {k:Value→Prop} {kt Q:Kt} {x y r:Res}
structure Tm where
 set:Bool
 sec:Nat
 ns:Nat
structure FL where
 link:Bs
 size:Nat
 mode:Nat
 uid:Nat
 gid:Nat
 at_:Tm
 ct:Tm
 mt:Tm
 cr:Tm
 dmaj:Nat
 dmin:Nat
abbrev FL.cells (f:FL)(xa:Value):List Value:=[str f.link,.int .i64 f.size,.int .u16 f.mode,.int .u32 f.uid,.int .u32 f.gid,.bool f.at_.set,.int .i64 f.at_.sec,.int .i64 f.at_.ns,.bool f.ct.set,.int .i64 f.ct.sec,.int .i64 f.ct.ns,
 .bool f.mt.set,.int .i64 f.mt.sec,.int .i64 f.mt.ns,.bool f.cr.set,.int .i64 f.cr.sec,.int .i64 f.cr.ns,.int .u32 f.dmaj,.int .u32 f.dmin,xa]
def Tm.ok (t:Tm):Prop:=t.sec<9223372036854775808∧t.ns<1000000000
def Tm.laid (t:Tm):Nat:=Ku t.set t.sec t.ns
def Nd.of (n:Nd)(f:FL)(m:Nat):Nd:={n with mode:=m,uid:=f.uid,gid:=f.gid,flags:=262144,at_:=f.at_.laid,ct:=f.ct.laid,mt:=f.mt.laid,cr:=f.cr.laid,dmaj:=f.dmaj,dmin:=f.dmin,data:=.slice none 0 0}
theorem AEl {n:Nd}{nb fb m:Nat}{f:FL}{v0 v9:Value}(w:AN (pts nb (.cells n.cells 197 (0,0))+(pts fb (.cells ⟨f.cells (.map none)⟩ 191 (0,0))+x)) h)(h1:f.at_.ok)(h2:f.ct.ok)(h3:f.mt.ok)(h4:f.cr.ok)
  (K:∀ fm h,AN (pts nb (.cells (n.of f m).cells 197 (0,0))+(pts fb (.cells ⟨f.cells (.map (some fm))⟩ 191 (0,0))+(pts fm (.map #[] 0)+x))) h→MF Q v0 (Pt fb) (Pt nb) v9 h) :
  K7 Q v0 (Pt fb) (Pt nb) (.int .u16 (m:Int)) v9 h:=by
 unfold K7 Uff Unf Ucl
 simp (disch:=omega) only[go_sem,AF w]
 refine AL w (Nd.cells {n with mode:=m}) rfl rfl (by simp) rfl fun h w=>?_
 simp (disch:=omega) only[go_sem,AF w]
 refine AL w (Nd.cells {n with mode:=m,uid:=f.uid}) rfl rfl (by simp) rfl fun h w=>?_
 simp (disch:=omega) only[go_sem,AF w]
 refine AL w (Nd.cells {n with mode:=m,uid:=f.uid,gid:=f.gid}) rfl rfl (by simp) rfl fun h w=>?_
 refine AL w (Nd.cells {n with mode:=m,uid:=f.uid,gid:=f.gid,flags:=262144}) rfl rfl (by simp) rfl fun h w=>?_
 rw[Am (w.find (b:=fb)) (by simp)]
 refine Je (Zf (set:=f.at_.set) (sec:=f.at_.sec) (ns:=f.at_.ns) w h1.1 h1.2 fun h w=>?_)
 refine AL w (Nd.cells {n with mode:=m,uid:=f.uid,gid:=f.gid,flags:=262144,at_:=f.at_.laid}) rfl rfl (by simp) rfl fun h w=>?_
 rw[Am (w.find (b:=fb)) (by simp)]
 refine Je (Zf (set:=f.ct.set) (sec:=f.ct.sec) (ns:=f.ct.ns) w h2.1 h2.2 fun h w=>?_)
 refine AL w (Nd.cells {n with mode:=m,uid:=f.uid,gid:=f.gid,flags:=262144,at_:=f.at_.laid,ct:=f.ct.laid}) rfl rfl (by simp) rfl fun h w=>?_
 rw[Am (w.find (b:=fb)) (by simp)]
 refine Je (Zf (set:=f.mt.set) (sec:=f.mt.sec) (ns:=f.mt.ns) w h3.1 h3.2 fun h w=>?_)
 refine AL w (Nd.cells {n with mode:=m,uid:=f.uid,gid:=f.gid,flags:=262144,at_:=f.at_.laid,ct:=f.ct.laid,mt:=f.mt.laid}) rfl rfl (by simp) rfl fun h w=>?_
 rw[Am (w.find (b:=fb)) (by simp)]
 refine Je (Zf (set:=f.cr.set) (sec:=f.cr.sec) (ns:=f.cr.ns) w h4.1 h4.2 fun h w=>?_)
 refine AL w (Nd.cells {n with mode:=m,uid:=f.uid,gid:=f.gid,flags:=262144,at_:=f.at_.laid,ct:=f.ct.laid,mt:=f.mt.laid,cr:=f.cr.laid}) rfl rfl (by simp) rfl fun h w=>?_
 simp (disch:=omega) only[go_sem,AF w]
 refine AL w (Nd.cells {n with mode:=m,uid:=f.uid,gid:=f.gid,flags:=262144,at_:=f.at_.laid,ct:=f.ct.laid,mt:=f.mt.laid,cr:=f.cr.laid,dmaj:=f.dmaj}) rfl rfl (by simp) rfl fun h w=>?_
 simp (disch:=omega) only[go_sem,AF w]
 refine AL w (Nd.cells {n with mode:=m,uid:=f.uid,gid:=f.gid,flags:=262144,at_:=f.at_.laid,ct:=f.ct.laid,mt:=f.mt.laid,cr:=f.cr.laid,dmaj:=f.dmaj,dmin:=f.dmin}) rfl rfl (by simp) rfl fun h w=>?_
 refine AL w (n.of f m).cells rfl rfl (by simp) rfl fun h w=>?_
 simp (disch:=omega) only[go_sem,AF w]
 have he:Bq .map true false h (.map none) (.map none)=fun k=>k (.bool true):=by funext k;simp[Bq,GG]
 rw[he]
 simp only[go_sem]
 refine No w fun fm h w=>?_
 refine AL w ⟨f.cells (.map (some fm))⟩ rfl rfl (by simp) rfl fun h w=>?_
 exact K fm h (w.cast (by ac_rfl))
end
section
variable {h:H} {k:Value→Prop} {kt Q:Kt} {x y r:Res}
theorem ZO:AG TP 284=some (.agg ⟨[.slice none 0 0,.slice none 0 0,.int .i64 0,.int .i64 0]⟩):=by kernel_rfl
theorem Ma {kk:IntKind}{b o n c j:Nat}(h2:j≤c):AZ (.slice 1) (.slice (some ⟨b,o,none⟩) n c) none (some (.int kk (j:Int))) k=k (.slice (some ⟨b,o,none⟩) j c):=by
 have hv:A6 (.slice 1) (.slice (some ⟨b,o,none⟩) n c) none (some (.int kk (j:Int)))=some (.slice (some ⟨b,o,none⟩) j c):=by
  simp only[A6,Dp]
  simp only[Ay]
  rw[A03 ⟨A39 _,h2⟩]
  by_cases hc:c=0
  ·rw[A03 hc];simp[hc]
  ·rw[A05 hc];simp[Addr.add]
 exact propext ⟨fun⟨v,a,b⟩=>by rw[hv] at a;cases a;exact b,fun a=>⟨_,hv,a⟩⟩
def AA9:Bs:=[115,121,115,116,101,109,46,100,97,116,97]
theorem UF:DB AA9 PX=(7,[100,97,116,97]):=by decide
def inlK (inl:Bool)(kd sz:Nat):Bool:=inl&&kd == 32768&&decide (sz≤136)
def Ep (v:Value)(sz:Nat):XA:=⟨[100,97,116,97],7,v,List.replicate (sz-60) 0⟩
def xinK (inl:Bool)(kd sz:Nat):Bs:=if inlK inl kd sz=true then I0 [Ep (.slice none 0 0) sz] else []
theorem AD0 (v v':Value)(sz:Nat):I0 [Ep v sz]=I0 [Ep v' sz]:=by
 unfold I0
 simp only[Em,Gw,Ep]
def kindOk (kd:Nat):Prop:=kd=32768∨kd=16384∨kd=4096∨kd=49152∨kd=8192∨kd=24576
def szK (kd sz:Nat):Nat:=if kd=32768 then sz else 0
def flK (inl:Bool)(kd sz:Nat):Nat:=if inlK inl kd sz=true then 268697600 else 262144
def datK (inl:Bool)(kd sz:Nat):Bs:=if inlK inl kd sz=true then List.replicate sz 0 else []
theorem ABY {b m n:Nat}{T:TypeId}{fz:Nat×Nat}(hm:m≤n):RdX (pts b (.cells (bcs (List.replicate n 0)) T fz)+y) (.slice (some ⟨b,0,none⟩) m n) (List.replicate m 0):=
 .inr ⟨b,0,n,(List.replicate n 0).map bc,T,fz,y,by rw[A09],rfl,by simp;omega,by rw[A68,A09,←B11,B49,A30 hm],by simp;omega⟩
theorem AEu {s:WS}{ad:Nat→Nat}{L:List (Option Nd)}{tr:Res}{n:Nd}{nb kd fb em fm:Nat}{f:FL}(ok:FOK s ad L tr)(g:JX x)
  (w:AN (FR s ad L tr+(pts nb (.cells n.cells 197 (0,0))+(pts fb (.cells ⟨f.cells (.map (some fm))⟩ 191 (0,0))+(pts em (.map #[] 0)+(pts fm (.map #[] 0)+x))))) h) (hnum:n.num=L.length+1) (hlen:L.length<9999) (hx:n.xblk=0) (hfl:n.flags=262144) (hdat:n.data=.slice none 0 0)
  (hkd:kindOk kd) (hsz:f.size≤137438953472)
  (K:∀ xv xr dv dr inv tr' h,BufV xv (xinK s.inl kd f.size) xr→BufV dv (datK s.inl kd f.size) dr→Vec 182 1 inv (L.length+1) (L.map (ptrO ad)++[Pt nb]) tr' →
   AN (WS.res {s with inv:=inv}+(tr'+sumR ad L)+(pts nb (.cells (Nd.cells {n with xin:=xv,size:=szK kd f.size,flags:=flK s.inl kd f.size,data:=dv}) 197 (0,0))+(xr+(dr+(pts fb (.cells ⟨f.cells (.map (some fm))⟩ 191 (0,0))+x))))) h→Q (.tuple #[Pt nb,.nilIface]) h) :
  Oa Q (Pt s.wb) (Pt fb) (Pt nb) (.int .u16 (kd:Int)) (.map (some em)) h:=by
 unfold Oa Uff Umk Ucl Ucm Unf Ucg
 simp (disch:=omega) only[go_sem,AF w]
 refine AL w (Nd.cells {n with xin:=.slice none 0 0}) rfl rfl (by simp) rfl fun h w=>?_
 refine Ah w ZO rfl fun sb h w=>?_
 refine Zh (AID w fun h w=>?_)
 have xok:XS.OK ⟨.slice none 0 0,[],0,.slice none 0 0,[],0,96,4060⟩:=⟨.nil,.nil,by simp,by simp⟩
 have plain:∀ sz,sz=szK kd f.size→inlK s.inl kd f.size=false→EM Q (Pt s.wb) (Pt fb) (Pt nb) (.int .u16 (kd:Int)) (.map (some em)) (Pt sb) (.int .i64 (sz:Int)) h:=by
  intro sz hs hi
  refine ABF (n:={n with xin:=.slice none 0 0}) (xs:=⟨.slice none 0 0,[],0,.slice none 0 0,[],0,96,4060⟩) (fc:=f.cells (.map (some fm))) (em:=em) (fm:=fm) (x:=x) ok xok (w.cast ?_) rfl hnum hlen rfl hx rfl (by simp[D3]) (by simp) ?_ ?_ fun xv xr inv tr' h bx dv w=>?_
  ·unfold FR WS.res XS.res;rw[Res.add_zero];simp only[Res.add_zero];ac_rfl
  ·rcases hkd with h|h|h|h|h|h<;>omega
  ·rw[hs];unfold szK;split<;>omega
  ·have h1:xinK s.inl kd f.size=Oj []:=by unfold xinK;rw[hi];rfl
   have h2:datK s.inl kd f.size=[]:=by unfold datK;rw[hi];rfl
   have h3:flK s.inl kd f.size=262144:=by unfold flK;rw[hi];rfl
   refine K xv xr (.slice none 0 0) 0 inv tr' h (by rw[h1];exact bx) (by rw[h2];exact .nil) dv ?_
   have e:Nd.cells {n with xin:=xv,size:=szK kd f.size,flags:=flK s.inl kd f.size,data:=.slice none 0 0}=Nd.cells {n with xin:=xv,size:=sz}:=by
    rw[h3,←hfl,←hdat,hs]
   rw[e,Res.zero_add]
   exact w
 have hne:∀ kd',kd=kd'→kd'≠32768→EM Q (Pt s.wb) (Pt fb) (Pt nb) (.int .u16 (kd:Int)) (.map (some em)) (Pt sb) (.int .i64 0) h:=fun kd' h1 h2=>by
  refine plain 0 ?_ ?_
  ·unfold szK;rw[A05 (by omega)]
  ·unfold inlK;have:(kd == 32768)=false:=by simp;omega
   rw[this];simp
 rcases hkd with hk|hk|hk|hk|hk|hk
 ·rw[hk]
  simp (disch:=omega) only[go_sem,AF w,A04,A08]
  have pl:inlK s.inl kd f.size=false→EM Q (Pt s.wb) (Pt fb) (Pt nb) (.int .u16 ((32768:Nat):Int)) (.map (some em)) (Pt sb) (.int .i64 (f.size:Int)) h:=fun hi=>by
   have:=plain f.size (by unfold szK;rw[A03 hk]) hi
   rw[hk] at this
   exact this
  refine C3 (fun hc=>?_) (fun hc=>?_)
  ·unfold PW Unf Uff Ucm
   cases hin:s.inl with
   | false=>
    simp only[go_sem]
    exact pl (by unfold inlK;rw[hin];rfl)
   | true=>
    have hI:inlK s.inl kd f.size=true:=by unfold inlK;rw[hin,hk];simp;omega
    simp (disch:=omega) only[go_sem,AF w]
    refine ER w (by omega) fun mb h w=>?_
    refine AL w (Nd.cells {n with xin:=.slice none 0 0,data:=.slice (some ⟨mb,0,none⟩) f.size f.size}) rfl rfl (by simp) rfl fun h w=>?_
    simp (disch:=omega) only[go_sem,AF w]
    have fin:∀ ex,ex=f.size-60→OF Q (Pt s.wb) (Pt fb) (Pt nb) (.int .u16 ((32768:Nat):Int)) (.map (some em)) (Pt sb) (.int .i64 (f.size:Int)) (.int .i64 (ex:Int)) h:=by
     intro ex hex
     unfold OF Unf Ucl Unt Uff
     simp (disch:=omega) only[go_sem,AF w]
     rw[Ma (by omega)]
     have hcl:=UF
     refine ZA (AH2 (nm:=AA9) (bs:=List.replicate ex 0) (s:=⟨.slice none 0 0,[],0,.slice none 0 0,[],0,96,4060⟩)
      (x:=buf mb (List.replicate f.size 0)+(FR s ad L tr+(pts nb (.cells (Nd.cells {n with xin:=.slice none 0 0,data:=.slice (some ⟨mb,0,none⟩) f.size f.size}) 197 (0,0))+(pts fb (.cells ⟨f.cells (.map (some fm))⟩ 191 (0,0))+(pts em (.map #[] 0)+(pts fm (.map #[] 0)+x)))))) g.addR.addR.addR.addR.addR.addR xok (w.cast ?_) (by decide) (ABY (by omega)) (by simp;omega) ?_ (by rw[hcl];decide) (fun iv ir h xok2 w=>?_) (by simp))
     ·unfold FR WS.res XS.res;simp only[Res.add_zero];ac_rfl
     ·rw[hcl]
      unfold XA.need CB
      simp;omega
     ·rw[hcl] at w xok2
      simp (disch:=omega) only[go_sem,A91,AF w]
      refine AL w (Nd.cells {n with xin:=.slice none 0 0,data:=.slice (some ⟨mb,0,none⟩) f.size f.size,flags:=n.flags ||| 268435456}) rfl rfl (by simp) rfl fun h w=>?_
      have hxl:([]:List XA)++[(⟨[100,97,116,97],7,.slice (some ⟨mb,0,none⟩) ex f.size,List.replicate ex 0⟩:XA)]=[Ep (.slice (some ⟨mb,0,none⟩) ex f.size) f.size]:=by rw[hex];rfl
      have hu:CB ex≤76:=by unfold CB;omega
      have hndd:D3 [Ep (.slice (some ⟨mb,0,none⟩) ex f.size) f.size]≤96:=by
       unfold D3 Ep XA.need CB
       simp
       omega
      refine ABF (n:={n with xin:=.slice none 0 0,data:=.slice (some ⟨mb,0,none⟩) f.size f.size,flags:=n.flags ||| 268435456}) (fc:=f.cells (.map (some fm))) (em:=em) (fm:=fm) (x:=buf mb (List.replicate f.size 0)+x) ok xok2 (w.cast ?_) rfl hnum hlen rfl hx rfl ?_ ?_ (by omega) (by omega) fun xv xr inv tr' h bx dv w=>?_
      ·unfold FR WS.res XS.res;ac_rfl
      ·dsimp only;rw[hxl];exact hndd
      ·intro a ha
       dsimp only at ha
       rw[hxl,A78] at ha
       subst ha
       exact⟨by show RdX _ (.slice (some ⟨mb,0,none⟩) ex f.size) (List.replicate (f.size-60) 0);rw[←hex];exact ABY (by omega),by simp[Ep],by simp[Ep],by simp[Ep];omega⟩
      ·have h1:xinK s.inl kd f.size=Oj [Ep (.slice (some ⟨mb,0,none⟩) ex f.size) f.size]:=by
        unfold xinK Oj;rw[A03 hI,A05 (by simp)];exact AD0 _ _ _
       have h2:datK s.inl kd f.size=List.replicate f.size 0:=by unfold datK;rw[A03 hI]
       have h3:flK s.inl kd f.size=n.flags ||| 268435456:=by unfold flK;rw[A03 hI,hfl];rfl
       have h4:szK kd f.size=f.size:=by unfold szK;rw[A03 hk]
       dsimp only at bx
       rw[hxl,←h1] at bx
       refine K xv xr (.slice (some ⟨mb,0,none⟩) f.size f.size) (buf mb (List.replicate f.size 0)) inv tr' h bx (.own' (by simp) (by simp) (by rw[h2];simp)) dv (w.cast ?_)
       have e:Nd.cells {n with xin:=xv,size:=szK kd f.size,flags:=flK s.inl kd f.size,data:=.slice (some ⟨mb,0,none⟩) f.size f.size}=Nd.cells {n with xin:=xv,size:=f.size,flags:=n.flags ||| 268435456,data:=.slice (some ⟨mb,0,none⟩) f.size f.size}:=by rw[h3,h4]
       rw[e]
       dsimp only
       ac_rfl
    refine AX (fun h60=>?_) (fun h60=>?_)
    ·simp (disch:=omega) only[go_sem]
     exact fin (f.size-60) rfl
    ·exact fin 0 (by omega)
  ·unfold PW Unf Uff Ucm
   simp only[go_sem]
   exact pl (by
          unfold inlK;have:decide (f.size≤136)=false:=by simp;omega
          rw[this];simp)
 ·rw[hk]
  simp (disch:=omega) only[go_sem,A04,A08]
  have:=hne _ hk (by omega)
  rw[hk] at this
  exact this
 ·rw[hk]
  simp (disch:=omega) only[go_sem,A04,A08]
  have:=hne _ hk (by omega)
  rw[hk] at this
  exact this
 ·rw[hk]
  simp (disch:=omega) only[go_sem,A04,A08]
  have:=hne _ hk (by omega)
  rw[hk] at this
  exact this
 ·rw[hk]
  simp (disch:=omega) only[go_sem,A04,A08]
  have:=hne _ hk (by omega)
  rw[hk] at this
  exact this
 ·rw[hk]
  simp (disch:=omega) only[go_sem,A04,A08]
  have:=hne _ hk (by omega)
  rw[hk] at this
  exact this
end
section
variable {h:H} {k:Value→Prop} {kt Q:Kt} {x y r:Res}
theorem Yu:AG TP 197=some (.agg ⟨[.int .i64 0,.int .u64 0,.int .u64 0,.int .u64 0,.int .u64 0,.int .u32 0,.int .u16 0,.int .u32 0,.int .u32 0,.int .u32 0,.int .u32 0,.int .u32 0,.int .u32 0,.int .u32 0,.int .u32 0,.slice none 0 0,.slice none 0 0,.map none]⟩):=by kernel_rfl
def nd0 (num:Nat):Nd:=⟨num,0,0,0,0,0,0,0,0,0,0,0,0,0,0,.slice none 0 0,[],0,.slice none 0 0,[],0,none⟩
structure MX (f:FL) (num:Nat) (inl:Bool) (m:Nat) (n:Nd):Prop where
 num:n.num=num
 mode:n.mode=m
 size:n.size=szK (kindB m) f.size
 own:n.uid=f.uid∧n.gid=f.gid
 time:n.at_=f.at_.laid∧n.ct=f.ct.laid∧n.mt=f.mt.laid∧n.cr=f.cr.laid
 links:n.links=if kindB m=16384 then 1 else 0
 blk:n.xblk=0∧n.bcnt=0
 dev:n.dmaj=f.dmaj∧n.dmin=f.dmin
 flags:n.flags=flK inl (kindB m) f.size
 dat:n.dbs=datK inl (kindB m) f.size
 xat:n.xbs=xinK inl (kindB m) f.size
 dir:if kindB m=16384 then ∃ mb,n.dir=some (mb,[]) else n.dir=none
 bd:BufV n.data n.dbs n.dr
 bx:BufV n.xin n.xbs n.xr
theorem YY {s:WS}{ad:Nat→Nat}{L:List (Option Nd)}{tr tr':Res}{n:Nd}{nb m:Nat}{inv:Value}{f:FL}(ok:FOK s ad L tr)(hn:MX f (L.length+1) s.inl m n)(hm:m<65536)(hlen:L.length<9999)
  (dv:Vec 182 1 inv (L.length+1) (L.map (ptrO ad)++[Pt nb]) tr') :
  FOK {s with inv:=inv} (fun k=>if k=L.length+1 then nb else ad k) (L++[some n]) tr' ∧
   sumR (fun k=>if k=L.length+1 then nb else ad k) (L++[some n])=pts nb (.cells n.cells 197 (0,0))+(n.dr+(n.xr+n.kr (fun _=>0)))+sumR ad L:=by
 have hold:∀ n',some n'∈L→n'.num≤L.length∧∀ mb es,n'.dir=some (mb,es)→∀ e∈es,e.2≤L.length:=fun n' hn'=>by
  obtain⟨i,hi⟩:=List.mem_iff_getElem?.1 hn'
  have hil:=(A02.1 hi).1
  refine⟨by rw[ok.num i n' hi];omega,fun mb es hd e he=>?_⟩
  obtain⟨h1,c,h2⟩:=ok.kid i n' mb es hi hd e he
  have:=(A02.1 h2).1
  omega
 have hsum:sumR (fun k=>if k=L.length+1 then nb else ad k) L=sumR ad L:=LW L fun n' hn'=>by
  obtain⟨h1,h2⟩:=hold n' hn'
  refine⟨A05 (by omega),fun mb es hd e he=>A05 (by have:=h2 mb es hd e he;omega)⟩
 have hkr:∀ g:Nat→Nat,n.kr g=n.kr (fun _=>0):=fun g=>by
  unfold Nd.kr
  have hd:=hn.dir
  by_cases hk:kindB m=16384
  ·rw[A03 hk] at hd
   obtain⟨mb,hd⟩:=hd
   rw[hd];rfl
  ·rw[A05 hk] at hd;rw[hd]
 have hptr:L.map (ptrO (fun k=>if k=L.length+1 then nb else ad k))=L.map (ptrO ad):=A72 fun o ho=>by
  cases o with
  | none=>rfl
  | some n'=>unfold ptrO;simp only;rw[A05 (by have:=(hold n' ho).1;omega)]
 refine⟨⟨⟨ok.ws.buf,ok.ws.len,ok.ws.max⟩,?_,?_,?_,?_,by simp;omega⟩,?_⟩
 ·rw[A36,hptr]
  have:([some n]:List (Option Nd)).map (ptrO (fun k=>if k=L.length+1 then nb else ad k))=[Pt nb]:=by simp[ptrO,hn.num]
  rw[this,A01]
  exact dv
 ·intro i n' hi
  rcases A66 i L.length with hlt|hge
  ·rw[A18 hlt] at hi;exact ok.num i n' hi
  ·rw[A17 hge] at hi
   have:i-L.length=0:=by
    have:=(A02.1 hi).1
    simp at this;omega
   rw[this] at hi
   simp at hi
   subst hi
   rw[hn.num];omega
 ·intro i n' hi
  rcases A66 i L.length with hlt|hge
  ·rw[A18 hlt] at hi;exact ok.nd i n' hi
  ·rw[A17 hge] at hi
   have:i-L.length=0:=by
    have:=(A02.1 hi).1
    simp at this;omega
   rw[this] at hi
   simp at hi
   subst hi
   refine⟨hn.bd,hn.bx,by rw[hn.mode];exact hm,by rw[hn.links];split<;>omega,by rw[hn.flags];unfold flK;split<;>omega⟩
 ·intro i n' mb es hi hd e he
  rcases A66 i L.length with hlt|hge
  ·rw[A18 hlt] at hi
   obtain⟨h1,c,h2⟩:=ok.kid i n' mb es hi hd e he
   exact⟨h1,c,by rw[A18 (A02.1 h2).1];exact h2⟩
  ·rw[A17 hge] at hi
   have:i-L.length=0:=by
    have:=(A02.1 hi).1
    simp at this;omega
   rw[this] at hi
   simp at hi
   subst hi
   have hdd:=hn.dir
   rw[hd] at hdd
   split at hdd
   ·obtain⟨mb',hdd⟩:=hdd
    cases hdd
    cases he
   ·cases hdd
 ·rw[Dx,hsum]
  have e:ndR (fun k=>if k=L.length+1 then nb else ad k) (some n)=Nd.res (fun k=>if k=L.length+1 then nb else ad k) n:=rfl
  rw[e]
  unfold Nd.res
  rw[hkr]
  simp only[hn.num,if_true]
def modeK (m:Nat):Nat:=if kindB m=0 then m ||| 32768 else m
theorem AFT {s:WS}{ad:Nat→Nat}{L:List (Option Nd)}{tr:Res}{n:Nd}{nb kd fb fm:Nat}{f:FL}(ok:FOK s ad L tr)(g:JX x)
  (w:AN (FR s ad L tr+(pts nb (.cells n.cells 197 (0,0))+(pts fb (.cells ⟨f.cells (.map (some fm))⟩ 191 (0,0))+(pts fm (.map #[] 0)+x)))) h) (hnum:n.num=L.length+1) (hlen:L.length<9999) (hx:n.xblk=0) (hfl:n.flags=262144) (hdat:n.data=.slice none 0 0) (hxin:n.xin=.slice none 0 0)
  (hkd:kindOk kd) (hsz:f.size≤137438953472)
  (K:∀ xv xr dv dr inv tr' h,BufV xv (xinK s.inl kd f.size) xr→BufV dv (datK s.inl kd f.size) dr→Vec 182 1 inv (L.length+1) (L.map (ptrO ad)++[Pt nb]) tr' →
   AN (WS.res {s with inv:=inv}+(tr'+sumR ad L)+(pts nb (.cells (Nd.cells {n with xin:=xv,size:=szK kd f.size,flags:=flK s.inl kd f.size,data:=dv}) 197 (0,0))+(xr+(dr+(pts fb (.cells ⟨f.cells (.map (some fm))⟩ 191 (0,0))+x))))) h→Q (.tuple #[Pt nb,.nilIface]) h) :
  MF Q (Pt s.wb) (Pt fb) (Pt nb) (.int .u16 (kd:Int)) h:=by
 unfold MF Unf Ucm Ucl
 refine No w fun em h w=>?_
 simp (disch:=omega) only[go_sem,AF w,hxin,A08]
 exact AEu ok g (w.cast (by unfold FR WS.res;ac_rfl)) hnum hlen hx hfl hdat hkd hsz K
end
section
variable {h:H} {k:Value→Prop} {kt Q:Kt} {x y r:Res}
theorem Vk {m:Nat}(hm:m<65536)(h0:kindB m=0):kindB (m ||| 32768)=32768∧m ||| 32768<65536:=by
 refine⟨?_,B01 (n:=16) hm (by omega)⟩
 unfold kindB at *
 rw[Nat.and_or_distrib_right,h0]
 rfl
theorem s95 {s:WS}{ad:Nat→Nat}{L:List (Option Nd)}{tr:Res}{fb:Nat}{f:FL}(ok:FOK s ad L tr)(g:JX x)(w:AN (FR s ad L tr+(pts fb (.cells ⟨f.cells (.map none)⟩ 191 (0,0))+x)) h)(hlen:L.length<9999)
  (hm:f.mode<65536) (hk:kindOk (kindB (modeK f.mode))) (h1:f.at_.ok) (h2:f.ct.ok) (h3:f.mt.ok) (h4:f.cr.ok) (hsz:f.size≤137438953472)
  (K:∀ n nb inv tr' fm h,MX f (L.length+1) s.inl (modeK f.mode) n→FOK {s with inv:=inv} (fun k=>if k=L.length+1 then nb else ad k) (L++[some n]) tr' →
   AN (FR {s with inv:=inv} (fun k=>if k=L.length+1 then nb else ad k) (L++[some n]) tr'+(pts fb (.cells ⟨f.cells (.map (some fm))⟩ 191 (0,0))+x)) h→Q (.tuple #[Pt nb,.nilIface]) h) :
  f95 (Pt s.wb) (Pt fb) (.pointer none) h Q:=by
 have hm':modeK f.mode<65536:=by
  unfold modeK
  split
  ·rename_i h0;exact (Vk hm h0).2
  ·exact hm
 obtain⟨⟨ia,ic,hiv⟩,_⟩:=ok.vec.len
 have key:∀ m,m=modeK f.mode→Ka Q (Pt s.wb) (Pt fb) (.pointer none) (.int .u16 (m:Int)) h:=by
  intro m hmm
  subst hmm
  unfold Ka Unf Ucm Uff Ucl
  simp (disch:=omega) only[go_sem,AF w,hiv]
  have hkk:(modeK f.mode &&& 61440)=kindB (modeK f.mode):=rfl
  rw[hkk]
  refine Au Yu rfl rfl (BJ w fun nb h w=>?_)
  have rest:∀ (n:Nd) (h:H) (kr:Res),n = {nd0 (L.length+1) with dir:=n.dir,links:=n.links}→(n.links=if kindB (modeK f.mode)=16384 then 1 else 0)→(if kindB (modeK f.mode)=16384 then ∃ mb,n.dir=some (mb,[]) else n.dir=none)→kr=n.kr (fun _=>0)→
    AN (pts nb (.cells n.cells 197 (0,0))+(kr+(FR s ad L tr+(pts fb (.cells ⟨f.cells (.map none)⟩ 191 (0,0))+x)))) h→K7 Q (Pt s.wb) (Pt fb) (Pt nb) (.int .u16 (modeK f.mode:Int)) (.int .u16 (kindB (modeK f.mode):Int)) h:=by
   intro n h kr hn hl hdir hkr w
   refine AEl (f:=f) (x:=kr+(FR s ad L tr+x)) (w.cast (by unfold FR WS.res;ac_rfl)) h1 h2 h3 h4 fun fm h w=>?_
   have e1:(n.of f (modeK f.mode)).num=L.length+1:=by rw[hn];rfl
   refine AFT (x:=kr+x) ok g.addR (w.cast (by unfold FR WS.res;ac_rfl)) e1 hlen (by rw[hn];rfl) rfl rfl (by rw[hn];rfl) hk hsz fun xv xr dv dr inv tr' h bx bd vc w=>?_
   obtain⟨n',hn'⟩:∃ n':Nd,n' = {n.of f (modeK f.mode) with xin:=xv,xbs:=xinK s.inl (kindB (modeK f.mode)) f.size,xr:=xr,size:=szK (kindB (modeK f.mode)) f.size,flags:=flK s.inl (kindB (modeK f.mode)) f.size,data:=dv,dbs:=datK s.inl (kindB (modeK f.mode)) f.size,dr:=dr}:=⟨_,rfl⟩
   have isn:MX f (L.length+1) s.inl (modeK f.mode) n':=by
    rw[hn',hn]
    exact⟨rfl,rfl,rfl,⟨rfl,rfl⟩,⟨rfl,rfl,rfl,rfl⟩,hl,⟨rfl,rfl⟩,⟨rfl,rfl⟩,rfl,rfl,rfl,hdir,bd,bx⟩
   obtain⟨f1,f2⟩:=YY (nb:=nb) ok isn hm' hlen vc
   refine K n' nb inv tr' fm h isn f1 (w.cast ?_)
   unfold FR
   rw[f2]
   have e2:n'.cells=Nd.cells {n.of f (modeK f.mode) with xin:=xv,size:=szK (kindB (modeK f.mode)) f.size,flags:=flK s.inl (kindB (modeK f.mode)) f.size,data:=dv}:=by rw[hn']
   have e3:n'.dr=dr:=by rw[hn']
   have e4:n'.xr=xr:=by rw[hn']
   have e5:n'.kr (fun _=>0)=kr:=by rw[hkr,hn'];rfl
   rw[e2,e3,e4,e5]
   unfold WS.res
   dsimp only
   ac_rfl
  have hcells:(⟨[.int .i64 0,.int .u64 0,.int .u64 0,.int .u64 0,.int .u64 0,.int .u32 ((L.length+1:Nat):Int),.int .u16 0,.int .u32 0,.int .u32 0,.int .u32 0,.int .u32 0,.int .u32 0,.int .u32 0,.int .u32 0,.int .u32 0,.slice none 0 0,.slice none 0 0,.map none]⟩:Array Value)=(nd0 (L.length+1)).cells:=rfl
  have w':AN (pts nb (.cells (nd0 (L.length+1)).cells 197 (0,0))+(FR s ad L tr+(pts fb (.cells ⟨f.cells (.map none)⟩ 191 (0,0))+x))) h:=w
  refine AX (fun hd=>?_) (fun hd=>?_)
  ·have hd':kindB (modeK f.mode)=16384:=by omega
   refine No w' fun mb h w=>?_
   simp (disch:=omega) only[go_sem]
   refine AL w (Nd.cells {nd0 (L.length+1) with dir:=some (mb,[])}) rfl rfl (by exact A07 18) rfl fun h w=>?_
   refine AL w (Nd.cells {nd0 (L.length+1) with dir:=some (mb,[]),links:=1}) rfl rfl (by exact Nat.le_add_left 10 8) rfl fun h w=>?_
   refine rest {nd0 (L.length+1) with dir:=some (mb,[]),links:=1} h (pts mb (.map #[] 0)) rfl (by rw[A03 hd']) (by rw[A03 hd'];exact⟨mb,rfl⟩) rfl (w.cast (by ac_rfl))
  ·have hd':kindB (modeK f.mode)≠16384:=by omega
   exact rest (nd0 (L.length+1)) h 0 rfl (by rw[A05 hd'];rfl) (by rw[A05 hd'];rfl) rfl (w'.cast (by rw[Res.zero_add]))
 unfold f95 Unf Ucm
 simp (disch:=omega) only[go_sem,AF w]
 have hkk:(f.mode &&& 61440)=kindB f.mode:=rfl
 rw[hkk]
 refine AX (fun h0=>?_) (fun h0=>?_)
 ·have h0':kindB f.mode=0:=by omega
  exact key _ (by unfold modeK;rw[A03 h0'])
 ·exact key _ (by unfold modeK;rw[A05 (by omega)])
end
section
variable {h:H} {k:Value→Prop} {kt Q:Kt} {x y r:Res}
theorem AEp {v:Value}{v0:Value}{c:Nat}{a:Option Addr}(hv:v=.slice a 0 c)(K:Q (.tuple #[.int .i64 0,.nilIface]) h):f57 v0 v h Q:=by
 subst hv
 unfold f57 Ucm Unf Ucl Uff
 simp (disch:=omega) only[go_sem,A04]
 exact K
theorem AHG {s:WS}{n:Nd}{nb:Nat}{v:Value}{news dbs:Bs}(ok:s.OK)(w:AN (s.res+(pts nb (.cells n.cells 197 (0,0))+(r+x))) h)(d:RdX x v news)(hcur:s.cur=Pt nb)(hfl:n.flags=268697600)(hb:BufV n.data dbs r)(hp:0<news.length)
  (hfit:s.dw+news.length≤s.dm) (hdl:s.dm=dbs.length) (hbig:dbs.length≤1000000)
  (K:∀ dv dr h,BufV dv (setL dbs s.dw news) dr→AN (WS.res {s with dw:=s.dw+news.length}+(pts nb (.cells n.cells 197 (0,0))+(dr+x))) h→dv=n.data→Q (.tuple #[.int .i64 (news.length:Nat),.nilIface]) h):f57 (Pt s.wb) v h Q:=by
 obtain⟨a,c,hv⟩:=d.len
 subst hv
 unfold f57 Ucm Unf Ucl Uff
 simp (disch:=omega) only[go_sem,AF w,hcur,A08]
 have hand:n.flags &&& 268435456=268435456:=by rw[hfl];rfl
 simp (disch:=omega) only[go_sem,AF w,hand,A04]
 generalize hdv:n.data=dv0 at *
 cases hb with
 | nil=>simp at hdl;omega
 | own hn=>
  rename_i bb m all
  have hml:(all.take m).length=m:=by simp[A30 hn]
  rw[hml] at hdl hbig
  simp (disch:=omega) only[go_sem,AF w,hdv,Gc]
  refine FN (all:=all) (w.cast (y:=pts bb (.cells (bcs all) 5 (0,0))+(s.res+(pts nb (.cells n.cells 197 (0,0))+x))) (by unfold WS.res buf;ac_rfl)) d.addR.addR (by omega) (by omega) fun h w=>?_
  simp (disch:=omega) only[go_sem,AF w]
  refine AL w (WS.cells {s with dw:=s.dw+news.length}) rfl rfl (by simp) rfl fun h w=>?_
  exact K _ _ h (.own' (by rw[AS (by omega)];exact hn) (AS (by omega)) (Iu (by omega) hn)) (w.cast (by unfold WS.res;ac_rfl)) rfl
theorem AHj {s:WS}{n:Nd}{nb:Nat}{v:Value}{news:Bs}(ok:s.OK)(w:AN (s.res+(pts nb (.cells n.cells 197 (0,0))+x)) h)(d:RdX x v news)(hcur:s.cur=Pt nb)(hfl:n.flags=262144)(hp:0<news.length)
  (hfit:s.dw+news.length≤s.dm) (hdm:s.dm<9223372036854775808) (hm:s.pos+news.length≤s.max) (hpos:s.dpos=s.pos)
  (K:∀ dv r h,WS.OK {s with dv:=dv,dr:=r,B:=BG s.B s.pos news,dpos:=s.pos+news.length,pos:=s.pos+news.length,dw:=s.dw+news.length} →
   AN (WS.res {s with dv:=dv,dr:=r,B:=BG s.B s.pos news,dpos:=s.pos+news.length,pos:=s.pos+news.length,dw:=s.dw+news.length}+(pts nb (.cells n.cells 197 (0,0))+x)) h→Q (.tuple #[.int .i64 (news.length:Nat),.nilIface]) h):f57 (Pt s.wb) v h Q:=by
 obtain⟨a,c,hv⟩:=d.len
 subst hv
 unfold f57 Ucm Unf Ucl Uff
 simp (disch:=omega) only[go_sem,AF w,hcur,A08]
 have hand:n.flags &&& 268435456=0:=by rw[hfl];rfl
 simp (disch:=omega) only[go_sem,AF w,hand,A08]
 refine Ms (s98 ok w d.addR hp hm hpos fun dv r h ok w=>?_)
 simp (disch:=omega) only[go_sem,AF w]
 refine AL w (WS.cells {s with pos:=s.pos+news.length,dw:=s.dw+news.length}) rfl rfl (by simp) rfl fun h w=>?_
 exact K dv r h ⟨ok.buf,ok.len,ok.max⟩ (w.cast (by unfold WS.res;first|rfl|ac_rfl))
end
section
set_option maxRecDepth 100000
def Hd (Q:Kt)(a b c d:Value)(h:H):Prop:=
 Uff 15 b fun f=>AJ 1 f d h fun h=>Unf 14 b h fun d=>AD .or d (.int .u32 524288) fun d=>Uff 14 b fun f=>AJ 1 f d h fun h=>Unf 11 b h fun d=>AD .add d c fun c=>Uff 11 b fun b=>AJ 1 b c h fun h=>Unf 7 a h fun a=>Q a h
def P3 (Q:Kt)(r1:R2)(a b c d f g:Value)(h:H):Prop:=
 Ucm .lss g (.int .i64 4)
 (Ch true 4 4 d g fun a=>Umk 327 h fun b h=>AJ 4 b a h fun h=>AB true 4 b h fun a=>Ucl 194 [a] h fun a h=>AM 5 (AG TP 5) 1 1 f a h fun a h=>AD .add g (.int .i64 1) fun b=>r1 a b h)
 (Hd Q a b c f h)
def Q9 (Q:Kt)(a b c d f g:Value)(h:H):Prop:=Bx (fun r1 f g h=>P3 Q r1 a b c d f g h) f g h
def XQ (Q:Kt)(r2:R2)(a b c d f g:Value)(h:H):Prop:=
 Ucm .lss g (.int .i64 4)
 (Ch true 4 4 d g fun a=>Umk 334 h fun b h=>AJ 4 b a h fun h=>AB true 4 b h fun a=>Ucl 195 [a] h fun a h=>AM 5 (AG TP 5) 1 1 f a h fun a h=>AD .add g (.int .i64 1) fun b=>r2 a b h)
 (Hd Q a b c f h)
def ACB (Q:Kt)(a b c d f g:Value)(h:H):Prop:=Bx (fun r2 f g h=>XQ Q r2 a b c d f g h) f g h
def VW (Q:Kt)(r3:R1)(r4:R2)(a b c d f g i j k m n o p:Value)(h:H):Prop:=
 Ucm .lss p (.int .i64 340)
 (Ch true 340 4 n p fun a=>Umk 327 h fun b h=>AJ 4 b a h fun h=>AB true 4 b h fun a=>Ucl 194 [a] h fun a h=>AM 5 (AG TP 5) 1 1 o a h fun a h=>AD .add p (.int .i64 1) fun b=>r4 a b h)
 (CI 5 (AG TP 5) 1 1 o (.int .i64 4) h fun b h=>Ucl 98 [a,b] h fun a h=>AO a 0 fun _=>AO a 1 fun a=>Bq .iface true true h a .nilIface fun b=>AK b
 (Q a h)
 (AD .add m (.int .u32 1) fun a=>r3 a h))
def AD3 (Q:Kt)(r3:R1)(a b c d f g i j k m n o p:Value)(h:H):Prop:=Bx (fun r4 o p h=>VW Q r3 r4 a b c d f g i j k m n o p h) o p h
def Q2 (Q:Kt)(r3:R1)(a b c d f g i j k m n:Value)(h:H):Prop:=
 Umk 338 h fun o h=>AD .mul m (.int .u32 340) fun p=>AD .mul p (.int .u32 32768) fun p=>AC 0 o fun q=>AC 5 o fun t=>AZ (.arr 340 4) t none (some n) fun n=>AD .add c p fun t=>Ucl 192 [q,n,t,p,d] h fun _ h=>AC 0 o fun n=>AB true 5 n h fun n=>Ucl 193 [n] h fun n h=>AC 5 o fun o=>AB true 1360 o h fun o=>AD3 Q r3 a b c d f g i j k m o n (.int .i64 0) h
def XW (Q:Kt)(r3:R1)(a b c d f g i j k m:Value)(h:H):Prop:=
 Ucm .lss m j
 (AD .mul m (.int .u32 340) fun n=>AD .mul n (.int .u32 32768) fun n=>Ucl 100 [a] h fun o h=>Ae (.struct [(0,1),(1,1),(2,1),(3,1)]) (AG TP 334) [(0,n),(1,o)] fun n=>AC 5 k fun o=>AI (.arr 4 4) o m fun o=>AJ 4 o n h fun h=>AD .mul m j fun n=>AD .sub g n fun n=>Ucm .gtr n (.int .u32 340)
 (Q2 Q r3 a b c d f g i j k m (.int .u32 340) h)
 (Q2 Q r3 a b c d f g i j k m n h))
 (AC 0 k fun c=>AB true 5 c h fun c=>Ucl 193 [c] h fun c h=>AM 5 (AG TP 5) 1 1 i c h fun c h=>AC 5 k fun d=>AB true 16 d h fun d=>ACB Q a b f d c (.int .i64 0) h)
def ADa (Q:Kt)(a b c d f g i j k m:Value)(h:H):Prop:=A1 (fun r3 m h=>XW Q r3 a b c d f g i j k m h) m h
def ADX (a b:Value)(h:H)(Q:Kt):Prop:=
 Unf 4 a h fun c=>Unf 5 a h fun d=>AD .sub c d fun c=>AD .rem c (.int .i64 4096) fun d=>Ucm .neq d (.int .i64 0)
 (False )
 (Ucl 191 [a] h fun _ h=>AD .quo c (.int .i64 4096) fun c=>AV .u32 c fun c=>Ucl 100 [a] h fun d h=>AD .sub d c fun d=>AD .add d (.int .u32 32768) fun f=>AD .sub f (.int .u32 1) fun f=>AD .quo f (.int .u32 32768) fun f=>Ucm .eql f (.int .u32 0)
 (Hd Q a b d (.slice none 0 0) h)
 (Ucm .leq f (.int .u32 4)
 (Umk 329 h fun g h=>AC 0 g fun i=>AC 5 g fun j=>AZ (.arr 4 4) j none (some f) fun f=>Ucl 192 [i,f,c,(.int .u32 0),d] h fun _ h=>AC 0 g fun c=>AB true 5 c h fun c=>Ucl 193 [c] h fun c h=>AM 5 (AG TP 5) 1 1 (.slice none 0 0) c h fun c h=>AC 5 g fun f=>AB true 16 f h fun f=>Q9 Q a b d f c (.int .i64 0) h)
 (Ucm .leq f (.int .u32 1360)
 (AD .quo f (.int .u32 340) fun g=>AD .add g (.int .u32 1) fun g=>AD .add d g fun i=>Umk 336 h fun j h=>AV .u16 g fun k=>Ae (.struct [(0,1),(1,1),(2,1),(3,1),(4,1)]) (AG TP 325) [(0,(.int .u16 62218)),(1,k),(2,(.int .u16 4)),(3,(.int .u16 1))] fun k=>AC 0 j fun m=>AJ 5 m k h fun h=>ADa Q a b c d i f (.slice none 0 0) g j (.int .u32 0) h)
 (False ))))
def AGJ (Q:Kt)(r:RS):Nat→DJ:=tab [(4094,.jn fun e h=>Hd Q (e 0) (e 1) (e 8) (e 10) h),
 (2096061,.lp [0,1,8,71] [10,72] fun s e l h=>P3 Q (u2 s) (e 0) (e 1) (e 8) (e 71) (gl l 0) (gl l 1) h),
 (67075581,.lp [0,1,8,156] [10,157] fun s e l h=>XQ Q (u2 s) (e 0) (e 1) (e 8) (e 156) (gl l 0) (gl l 1) h),
 (549482997749,.lp [0,1,6,7,8,9,10,14,15,16,130] [20,131] fun s e l h=>VW Q (u1 (r 16768890)) (u2 s) (e 0) (e 1) (e 6) (e 7) (e 8) (e 9) (e 10) (e 14) (e 15) (e 16) (e 130) (gl l 0) (gl l 1) h),
 (4292835918,.jn fun e h=>Q2 Q (u1 (r 16768890)) (e 0) (e 1) (e 6) (e 7) (e 8) (e 9) (e 10) (e 14) (e 15) (e 16) (e 17) h),
 (33537781,.lp [0,1,6,7,8,9,10,14,15] [16] fun s e l h=>XW Q (u1 s) (e 0) (e 1) (e 6) (e 7) (e 8) (e 9) (e 10) (e 14) (e 15) (gl l 0) h)]
theorem Zw {a b:Value}{h:H}{Q:Kt}(x:ADX a b h Q):Call TP 151 [a,b] h Q:=Bb (AGJ Q) Tryz.func151 (by kernel_rfl) x
def NE (Q:Kt)(r1:R1)(a b c d f g i j k:Value)(h:H):Prop:=
 AD .add b g fun b=>AV .u16 i fun c=>Ae (.struct [(0,1),(1,1),(2,1),(3,1)]) (AG TP 327) [(0,g),(1,c),(3,b)] fun b=>AI (.slice 4) a f fun a=>AJ 4 a b h fun h=>AD .add k (.int .i64 1) fun a=>r1 a h
def Nn (Q:Kt)(r1:R1)(a b c d f g:Value)(h:H):Prop:=
 Ucm .lss g f
 (AV .u32 g fun i=>AD .mul i (.int .u32 32768) fun i=>AD .add c i fun i=>AD .sub d i fun j=>Ucm .gtr j (.int .u32 32768)
 (NE Q r1 a b c d g i (.int .u32 32768) f g h)
 (NE Q r1 a b c d g i j f g h))
 (Q (.tuple #[]) h)
def U7 (Q:Kt)(a b c d f g:Value)(h:H):Prop:=A1 (fun r1 g h=>Nn Q r1 a b c d f g h) g h
def AC1 (a b c d f:Value)(h:H)(Q:Kt):Prop:=
 Ab b fun g=>AV .u16 g fun g=>Sp b fun i=>AV .u16 i fun i=>Ae (.struct [(0,1),(1,1),(2,1),(3,1),(4,1)]) (AG TP 325) [(0,(.int .u16 62218)),(1,g),(2,i),(3,(.int .u16 0))] fun g=>AE a fun a=>AJ 5 a g h fun h=>Ab b fun a=>U7 Q b c d f a (.int .i64 0) h
def AGe (Q:Kt)(r:RS):Nat→DJ:=tab [(14750,.jn fun e h=>NE Q (u1 (r 14)) (e 1) (e 2) (e 3) (e 4) (e 10) (e 11) (e 12) (e 24) (e 25) h),
 (29,.lp [1,2,3,4,24] [25] fun s e l h=>Nn Q (u1 s) (e 1) (e 2) (e 3) (e 4) (e 24) (gl l 0) h)]
theorem Zp {a b c d e:Value}{h:H}{Q:Kt}(x:AC1 a b c d e h Q):Call TP 192 [a,b,c,d,e] h Q:=Bb (AGe Q) Tryz.func192 (by kernel_rfl) x
def AC3 (a:Value)(h:H)(Q:Kt):Prop:=
 BB 325 (a:Value).cells h fun a h=>Ufl 0 a h fun b=>Ucl 173 [(.slice none 0 0),b] h fun b h=>Ufl 1 a h fun c=>Ucl 173 [b,c] h fun b h=>Ufl 2 a h fun c=>Ucl 173 [b,c] h fun b h=>Ufl 3 a h fun c=>Ucl 173 [b,c] h fun b h=>Ufl 4 a h fun a=>Ucl 172 [b,a] h fun a h=>Q a h
theorem ZB {a:Value}{h:H}{Q:Kt}(x:AC3 a h Q):Call TP 193 [a] h Q:=Bb nT Tryz.func193 (by kernel_rfl) x
def ADT (a:Value)(h:H)(Q:Kt):Prop:=
 BB 327 (a:Value).cells h fun a h=>Ufl 0 a h fun b=>Ucl 172 [(.slice none 0 0),b] h fun b h=>Ufl 1 a h fun c=>Ucl 173 [b,c] h fun b h=>Ufl 2 a h fun c=>Ucl 173 [b,c] h fun b h=>Ufl 3 a h fun a=>Ucl 172 [b,a] h fun a h=>Q a h
theorem ZT {a:Value}{h:H}{Q:Kt}(x:ADT a h Q):Call TP 194 [a] h Q:=Bb nT Tryz.func194 (by kernel_rfl) x
end
section
variable {h:H} {k:Value→Prop} {kt Q:Kt} {x y r:Res}
theorem On {v:Value}{bs:Bs}{n:Nat}(b:BufV v bs r)(w:AN (r+x) h)(hl:bs.length+2≤140737488355328)(K:∀ v r h,BufV v (bs++Aq n) r→AN (r+x) h→Q v h):AD8 v (.int .u16 n) h Q:=by
 unfold AD8
 simp only[go_sem]
 refine CZ (l:=Aq n) w (by decide) ?_ rfl fun b1 h w=>?_
 ·simp only[MZ];rfl
 ·rw[Res.left_comm] at w
  exact BU b w (Px w rfl) (by simpa[Aq] using hl) fun v r h b w=>K v r h b (by rw[Res.left_comm] at w;exact w.right)
theorem BI (n:Nat):(Aq n).length=2:=rfl
theorem Av (n:Nat):(Ac n).length=4:=rfl
def K4 (magic entries most depth gen:Nat):Bs:=Aq magic++Aq entries++Aq most++Aq depth++Ac gen
theorem AHL {a b c d e:Nat}(w:AN x h)(K:∀ v r h,BufV v (K4 a b c d e) r→AN (r+x) h→Q v h):AC3 (.agg ⟨[.int .u16 a,.int .u16 b,.int .u16 c,.int .u16 d,.int .u32 e]⟩) h Q:=by
 unfold AC3 Ufl Ucl
 refine BJ w fun pb h w=>?_
 simp only[go_sem,AF w]
 refine Ek (On (bs:=[]) .nil (w.cast (Res.zero_add _).symm) (by simp) fun v r h bv w=>?_)
 rw[AF w]
 simp only[go_sem]
 refine Ek (On bv w (by simp[BI]) fun v r h bv w=>?_)
 rw[AF w]
 simp only[go_sem]
 refine Ek (On bv w (by simp[BI]) fun v r h bv w=>?_)
 rw[AF w]
 simp only[go_sem]
 refine Ek (On bv w (by simp[BI]) fun v r h bv w=>?_)
 rw[AF w]
 simp only[go_sem]
 refine Eo (OU bv w (by simp[BI]) fun v r h bv w=>?_)
 exact K v r h bv (AN.right (x:=pts pb _) (w.cast (Res.left_comm _ _ _)))
def Do (block len hi lo:Nat):Bs:=Ac block++Aq len++Aq hi++Ac lo
theorem AHN {a b c d:Nat}(w:AN x h)(K:∀ v r h,BufV v (Do a b c d) r→AN (r+x) h→Q v h):ADT (.agg ⟨[.int .u32 a,.int .u16 b,.int .u16 c,.int .u32 d]⟩) h Q:=by
 unfold ADT Ufl Ucl
 refine BJ w fun pb h w=>?_
 simp only[go_sem,AF w]
 refine Eo (OU (bs:=[]) .nil (w.cast (Res.zero_add _).symm) (by simp) fun v r h bv w=>?_)
 rw[AF w]
 simp only[go_sem]
 refine Ek (On bv w (by simp[Av]) fun v r h bv w=>?_)
 rw[AF w]
 simp only[go_sem]
 refine Ek (On bv w (by simp[BI,Av]) fun v r h bv w=>?_)
 rw[AF w]
 simp only[go_sem]
 refine Eo (OU bv w (by simp[BI,Av]) fun v r h bv w=>?_)
 exact K v r h bv (AN.right (x:=pts pb _) (w.cast (Res.left_comm _ _ _)))
end
section
variable {h:H} {k:Value→Prop} {kt Q:Kt} {x y r:Res}
theorem Zs:AG TP 325=some (.agg ⟨[.int .u16 0,.int .u16 0,.int .u16 0,.int .u16 0,.int .u32 0]⟩):=by kernel_rfl
theorem SB:AG TP 327=some (.agg ⟨[.int .u32 0,.int .u16 0,.int .u16 0,.int .u32 0]⟩):=by kernel_rfl
@[go_sem] theorem AId {a:Option Addr}{n c:Nat}:Sp (.slice a n c) k=k (.int .i64 c):=propext ⟨fun⟨_,_,_,h,hk⟩=>by cases h;exact hk,fun hk=>⟨_,_,_,rfl,hk⟩⟩
theorem RK {b o n c i sz:Nat}{kk:IntKind}(hi:i<n):AI (.slice sz) (.slice (some ⟨b,o,none⟩) n c) (.int kk (i:Int)) k=k (.pointer (some ⟨b,o+i*sz,none⟩)):=by
 unfold AI
 refine propext ⟨fun⟨kk',m,h1,a,l,c',h2,h3,h4,h5⟩=>?_,fun hk=>⟨kk,i,rfl,_,n,c,rfl,by omega,by omega,?_⟩⟩
 ·cases h1;cases h2
  rw[A77,Bm] at h5
  exact h5
 ·rw[A77,Bm];exact hk
abbrev exC (e m blocks start:Nat):Array Value:=⟨[.int .u16 62218,.int .u16 e,.int .u16 m,.int .u16 0,.int .u32 0,.int .u32 0,.int .u16 blocks,.int .u16 0,.int .u32 start,.int .u32 0,.int .u16 0,.int .u16 0,.int .u32 0,.int .u32 0,.int .u16 0,.int .u16 0,.int .u32 0,.int .u32 0,.int .u16 0,.int .u16 0,.int .u32 0]⟩
abbrev Zr (a b c d:Int):Array Value:=⟨[.int .u16 a,.int .u16 b,.int .u16 c,.int .u16 d,.int .u32 0,.int .u32 0,.int .u16 0,.int .u16 0,.int .u32 0,.int .u32 0,.int .u16 0,.int .u16 0,.int .u32 0,.int .u32 0,.int .u16 0,.int .u16 0,.int .u32 0,.int .u32 0,.int .u16 0,.int .u16 0,.int .u32 0]⟩
theorem AIT {eb blocks start:Nat}{T:TypeId}(w:AN (pts eb (.cells (Zr 0 0 0 0) T (0,0))+x) h)(h1:1≤blocks)(h2:blocks≤32768)(h3:start+32768<4294967296)
  (K:∀ h,AN (pts eb (.cells (exC 1 4 blocks start) T (0,0))+x) h→Q (.tuple #[]) h):AC1 (Pt eb) (.slice (some ⟨eb,5,none⟩) 1 4) (.int .u32 start) (.int .u32 0) (.int .u32 blocks) h Q:=by
 unfold AC1
 simp (disch:=omega) only[go_sem]
 refine Au (rs:=[.int .u16 62218,.int .u16 ((1:Nat):Int),.int .u16 ((4:Nat):Int),.int .u16 0,.int .u32 0]) Zs rfl rfl ?_
 refine AL w (Zr 62218 1 4 0) ((A2 _ _ _).trans rfl) rfl (by exact Nat.le_add_left 5 16) rfl fun h w=>?_
 unfold U7
 refine Ba (fun m v h'=>(m=1∧v=.int .i64 0∧AN (pts eb (.cells (Zr 62218 1 4 0) T (0,0))+x) h')∨(m=0∧v=.int .i64 1∧AN (pts eb (.cells (exC 1 4 blocks start) T (0,0))+x) h')) 1 (.inl ⟨rfl,rfl,w⟩) ?_
 rintro rec m v h' (⟨rfl,rfl,w⟩|⟨rfl,rfl,w⟩) hrec
 ·unfold Nn Ucm
  have e0:(Value.int .i64 0)=.int .i64 ((0:Nat):Int):=rfl
  have e1:(Value.int .u32 0)=.int .u32 ((0:Nat):Int):=rfl
  rw[e0,e1]
  simp (disch:=omega) only[go_sem,A04,A08,A92,A58,B35]
  unfold NE
  simp (disch:=omega) only[go_sem,A58]
  refine Au SB rfl rfl ?_
  rw[RK (by omega)]
  refine AL w (exC 1 4 blocks start) ((A2 _ _ _).trans rfl) rfl (by exact Nat.le_add_left 9 12) rfl fun h w=>?_
  exact hrec 0 _ _ (.inr ⟨rfl,rfl,w⟩) (by omega)
 ·unfold Nn Ucm
  simp (disch:=omega) only[go_sem,A08]
  exact K _ w
end
section
variable {h:H} {k:Value→Prop} {kt Q:Kt} {x y r:Res}
theorem AEH {s:WS}{n:Nd}{nb used:Nat}{dv:Value}{a:Option Addr}{m c:Nat}(hdv:dv=.slice a m c)(w:AN (s.res+(pts nb (.cells n.cells 197 (0,0))+x)) h)(hfl:n.flags<4294967296)(hb:n.bcnt+used<4294967296)
  (K:∀ h,AN (s.res+(pts nb (.cells (Nd.cells {n with data:=dv,flags:=n.flags ||| 524288,bcnt:=n.bcnt+used}) 197 (0,0))+x)) h→Q .nilIface h):Hd Q (Pt s.wb) (Pt nb) (.int .u32 used) dv h:=by
 subst hdv
 unfold Hd Uff Unf
 simp (disch:=omega) only[go_sem]
 refine AL w (Nd.cells {n with data:=.slice a m c}) rfl rfl (by simp) rfl fun h w=>?_
 simp (disch:=omega) only[go_sem,AF w]
 refine AL w (Nd.cells {n with data:=.slice a m c,flags:=n.flags ||| 524288}) rfl rfl (by simp) rfl fun h w=>?_
 simp (disch:=omega) only[go_sem,AF w]
 refine AL w (Nd.cells {n with data:=.slice a m c,flags:=n.flags ||| 524288,bcnt:=n.bcnt+used}) rfl rfl (by simp) rfl fun h w=>?_
 simp (disch:=omega) only[go_sem,AF w]
 exact K _ w
end
section
variable {h:H} {k:Value→Prop} {kt Q:Kt} {x y r:Res}
abbrev lfC (a b c d:Nat):List Value:=[.int .u32 a,.int .u16 b,.int .u16 c,.int .u32 d]
abbrev lfs (blocks start:Nat):List Value:=lfC 0 blocks 0 start++lfC 0 0 0 0++lfC 0 0 0 0++lfC 0 0 0 0
def N5 (blocks start i:Nat):Bs:=if i=0 then Do 0 blocks 0 start else Do 0 0 0 0
def By (blocks start:Nat):Nat→Bs
 | 0=>[]
 | i+1=>By blocks start i++N5 blocks start i
theorem Kc (b s:Nat):∀ i,(By b s i).length=12*i
 | 0=>rfl
 | i+1=>by
  rw[By,A01,Kc b s i]
  have:(N5 b s i).length=12:=by unfold N5;split<;>rfl
  omega
theorem ABq (blocks start:Nat):∀ i,i<4→∃ a b c d,(⟨lfs blocks start⟩:Array Value).extract (i*4) (i*4+4)=⟨lfC a b c d⟩∧N5 blocks start i=Do a b c d:=by
 intro i hi
 have:i=0∨i=1∨i=2∨i=3:=by omega
 rcases this with rfl|rfl|rfl|rfl
 ·exact⟨0,blocks,0,start,rfl,rfl⟩
 ·exact⟨0,0,0,0,rfl,rfl⟩
 ·exact⟨0,0,0,0,rfl,rfl⟩
 ·exact⟨0,0,0,0,rfl,rfl⟩
theorem ADG {v0 v1 v8 v10:Value}{bs:Bs}{blocks start:Nat}(b:BufV v10 bs r)(w:AN (r+x) h)(hl:bs.length≤100)(K:∀ v r h,BufV v (bs++By blocks start 4) r→AN (r+x) h→Hd Q v0 v1 v8 v h) :
  Q9 Q v0 v1 v8 (.agg ⟨lfs blocks start⟩) v10 (.int .i64 ((0:Nat):Int)) h:=by
 unfold Q9
 refine DE (fun m v10 v72 h'=>∃ i r,m=4-i∧i≤4∧BufV v10 (bs++By blocks start i) r∧v72=.int .i64 (i:Nat)∧AN (r+x) h') 4 ⟨0,r,rfl,by omega,by rw[By,A22];exact b,rfl,w⟩ ?_
 rintro rec m v10 v72 h' ⟨i,r,rfl,hi,b,rfl,w⟩ hrec
 unfold P3 Ucm Umk Ucl
 simp (disch:=omega) only[go_sem]
 refine AX (fun hc=>?_) (fun hc=>?_)
 ·obtain⟨a1,a2,a3,a4,e1,e2⟩:=ABq blocks start i (by omega)
  rw[Sw (by omega),e1]
  refine Ah w SB rfl fun pb h w=>?_
  refine AL w ⟨lfC a1 a2 a3 a4⟩ ((A2 _ _ _).trans rfl) rfl (by simp) rfl fun h w=>?_
  rw[Am (w.find (b:=pb)) (by simp)]
  refine ZT (AHN w fun sv sr h sb w=>?_)
  refine BU (x:=sr+(pts pb (.cells ⟨lfC a1 a2 a3 a4⟩ 327 (0,0))+x)) b (w.cast (by ac_rfl)) (sb.rd w) (by rw[A01,Kc];simp[Do,BI,Av];omega) fun v r h b w=>?_
  refine hrec (4-(i+1)) _ _ _ ⟨i+1,r,rfl,by omega,?_,rfl,AN.left (y:=sr+pts pb (.cells ⟨lfC a1 a2 a3 a4⟩ 327 (0,0))) (w.cast (by ac_rfl))⟩ (by omega)
  rw[By,e2,←A12]
  exact b
 ·have:i=4:=by omega
  subst this
  exact K _ _ _ b w
end
section
variable {h:H} {k:Value→Prop} {kt Q:Kt} {x y r:Res}
theorem Zg:AG TP 329=some (.agg ⟨(Zr 0 0 0 0).toList⟩):=by kernel_rfl
def extRoot (blocks start:Nat):Bs:=K4 62218 1 4 0 0++By blocks start 4
theorem JN {b o n sz j:Nat}{kk:IntKind}(hj:j≤n)(hn:0<n):AZ (.arr n sz) (.pointer (some ⟨b,o,none⟩)) none (some (.int kk (j:Int))) k=k (.slice (some ⟨b,o,none⟩) j n):=by
 have hv:A6 (.arr n sz) (.pointer (some ⟨b,o,none⟩)) none (some (.int kk (j:Int)))=some (.slice (some ⟨b,o,none⟩) j n):=by
  simp only[A6,Dp]
  simp only[Ay]
  rw[A03 ⟨A39 _,hj⟩,A05 (by omega),A92]
  rfl
 exact propext ⟨fun⟨v,a,b⟩=>by rw[hv] at a;cases a;exact b,fun a=>⟨_,hv,a⟩⟩
theorem AHE {s:WS}{n:Nd}{nb:Nat}(ok:s.OK)(w:AN (s.res+(pts nb (.cells n.cells 197 (0,0))+x)) h)(hdw:s.dw≤s.pos)(hal:(s.pos-s.dw)%4096=0)(hpos:s.dpos=s.pos)(hB:s.B.length≤s.pos)(h1:1≤s.dw)(h2:s.dw≤134000000)(hm:s.pos+4096≤s.max)
  (hfl:n.flags<4294967296) (hbc:n.bcnt<1000000)
  (K:∀ dv r ev er h p,p=s.pos+(4096-s.pos%4096)%4096→WS.OK {s with dv:=dv,dr:=r,B:=if p=s.pos then s.B else BG s.B s.pos (List.replicate (p-s.pos) 0),dpos:=p,pos:=p} →
   BufV ev (extRoot ((p-(s.pos-s.dw))/4096) ((s.pos-s.dw)/4096)) er →
   AN (WS.res {s with dv:=dv,dr:=r,B:=if p=s.pos then s.B else BG s.B s.pos (List.replicate (p-s.pos) 0),dpos:=p,pos:=p}+(pts nb (.cells (Nd.cells {n with data:=ev,flags:=n.flags ||| 524288,bcnt:=n.bcnt+(p-(s.pos-s.dw))/4096}) 197 (0,0))+(er+x))) h→Q .nilIface h) :
  ADX (Pt s.wb) (Pt nb) h Q:=by
 have hmax:=ok.max
 unfold ADX Unf Ucm Ucl Umk
 simp (disch:=omega) only[go_sem,AF w,A08]
 refine Y7 (AHO ok w hm hpos hB fun dv r h q hq ok w=>?_)
 obtain⟨p,hp⟩:∃ p,p=s.pos+q:=⟨_,rfl⟩
 obtain⟨bl,hbl⟩:∃ bl,bl=(p-(s.pos-s.dw))/4096:=⟨_,rfl⟩
 obtain⟨st,hst⟩:∃ st,st=(s.pos-s.dw)/4096:=⟨_,rfl⟩
 have hpm:p%4096=0:=by omega
 have hbl1:1≤bl∧bl≤32768:=by omega
 have hps:p/4096=st+bl:=by omega
 refine Ny (s100 (s:={s with dv:=dv,dr:=r,B:=if q=0 then s.B else BG s.B s.pos (List.replicate q 0),dpos:=s.pos+q,pos:=s.pos+q}) ok (by show s.pos+q≤s.max;omega) w ?_)
 show (fun _=>_) _
 rw[←hp,←hst,hps]
 simp (disch:=omega) only[go_sem,A62]
 have he:(bl+32768-1)/32768=1:=by omega
 rw[he]
 have eB:(if q=0 then s.B else BG s.B s.pos (List.replicate q 0))=if p=s.pos then s.B else BG s.B s.pos (List.replicate (p-s.pos) 0):=by
  rw[hp,A62]
  by_cases hq0:q=0
  ·rw[A03 hq0,A03 (by omega)]
  ·rw[A05 hq0,A05 (by omega)]
 rw[eB,←hp] at ok w
 rw[show decide (((1:Nat):Int)=0)=false from rfl,show decide (((1:Nat):Int)≤4)=true from rfl]
 simp only[go_sem]
 refine Ah w Zg rfl fun xb h w=>?_
 simp only[go_sem,A58,A29]
 rw[JN (by omega) (by omega)]
 refine Zp (AIT w (by omega) (by omega) (by omega) fun h w=>?_)
 rw[Am (w.find (b:=xb)) (by exact Nat.le_add_left 5 16)]
 refine ZB (AHL w fun v r' h bv w=>?_)
 refine BU (bs:=[]) (r:=0) .nil (w.cast (Res.zero_add _).symm) (bv.rd w) (by simp[K4,BI,Av]) fun v' r2 h bv' w=>?_
 have e5:(exC 1 4 bl st).extract 5 (5+16)=⟨lfs bl st⟩:=rfl
 rw[Am (w.find (b:=xb)) (by exact A07 21),e5]
 refine ADG (x:=WS.res {s with dv:=dv,B:=if p=s.pos then s.B else BG s.B s.pos (List.replicate (p-s.pos) 0),dr:=r,dpos:=p,pos:=p}+(pts nb (.cells n.cells 197 (0,0))+x)) bv' (AN.left (y:=r'+pts xb (.cells (exC 1 4 bl st) 329 (0,0))) (w.cast (by ac_rfl))) (by simp[K4,BI,Av]) fun v r2 h bv w=>?_
 obtain⟨a,m,c,rfl⟩:∃ a m c,v=.slice a m c:=let ⟨a,c,e⟩:=bv.len;⟨a,_,c,e⟩
 refine AEH (x:=r2+x) (s:={s with dv:=dv,B:=if p=s.pos then s.B else BG s.B s.pos (List.replicate (p-s.pos) 0),dr:=r,dpos:=p,pos:=p}) rfl (AN.cast w (by ac_rfl)) hfl (by omega) fun h w=>?_
 rw[hbl] at w
 rw[A34,hbl,hst] at bv
 exact K _ _ _ _ _ p (by omega) ok bv w
end
section
set_option maxRecDepth 100000
def MP (Q:Kt)(a b c d:Value)(h:H):Prop:=
 Unf 6 d h fun f=>AD .and f (.int .u16 61440) fun f=>Ucm .eql f (.int .u16 32768)
 (Unf 1 c h fun c=>Ucl 96 [a,b,d,c] h fun _ h=>Q .nilIface h)
 (Q .nilIface h)
def O1 (Q:Kt)(a b c d f g:Value)(h:H):Prop:=
 Unf 17 d h fun i=>Gp (some .string) i f g h fun h=>Unf 9 g h fun f=>AD .add f (.int .u32 1) fun f=>Uff 9 g fun i=>AJ 1 i f h fun h=>Ucl 93 [g] h fun f h=>AK f
 (Unf 9 d h fun f=>AD .add f (.int .u32 1) fun f=>Uff 9 d fun d=>AJ 1 d f h fun h=>MP Q a b c g h)
 (MP Q a b c g h)
def IL (Q:Kt)(a b c d f g i:Value)(h:H):Prop:=
 Ucl 95 [a,c,i] h fun i h=>AO i 0 fun j=>AO i 1 fun i=>Bq .iface true true h i .nilIface fun k=>AK k
 (Q i h)
 (Bq .ptr false true h f j fun i=>AK i
 (Bq .ptr true true h f (.pointer none) fun i=>AK i
 (Unf 9 f h fun i=>AD .sub i (.int .u32 1) fun i=>Uff 9 f fun f=>AJ 1 f i h fun h=>O1 Q a b c d g j h)
 (O1 Q a b c d g j h))
 (MP Q a b c j h))
def f55 (a b c:Value)(h:H)(Q:Kt):Prop:=
 Ucl 91 [a] h fun d h=>Bq .iface true true h d .nilIface fun f=>AK f
 (Q d h)
 (Ucl 92 [a,b,(.bool false)] h fun d h=>AO d 0 fun f=>AO d 1 fun g=>AO d 2 fun i=>AO d 3 fun d=>Bq .iface true true h d .nilIface fun j=>AK j
 (Q d h)
 (Bq .ptr true true h g (.pointer none) fun d=>AK d
 (Ucl 93 [g] h fun d h=>AK d
 (Unf 2 c h fun d=>AD .and d (.int .u16 61440) fun d=>Ucm .neq d (.int .u16 16384)
 (Ucl 94 [(.string "cannot replace a directory with a file".toUTF8)] h fun a h=>Q a h)
 (IL Q a b c f g i g h))
 (Unf 2 c h fun d=>AD .and d (.int .u16 61440) fun d=>Ucm .eql d (.int .u16 16384)
 (Ucl 94 [(.string "cannot replace a file with a directory".toUTF8)] h fun a h=>Q a h)
 (Unf 9 g h fun d=>Ucm .lss d (.int .u32 2)
 (IL Q a b c f g i g h)
 (IL Q a b c f g i (.pointer none) h))))
 (Unf 2 c h fun d=>AD .and d (.int .u16 61440) fun d=>Ucg .eql d (.int .u16 16384) (Unf 9 f h fun d=>Ucm .geq d (.int .u32 65000)
 (Ucl 94 [(.string "exceeded parent directory maximum link count".toUTF8)] h fun a h=>Q a h)
 (IL Q a b c f g i (.pointer none) h)) (IL Q a b c f g i (.pointer none) h))))
def AHR (Q:Kt)(r:RS):Nat→DJ:=tab [(2046,.jn fun e h=>MP Q (e 0) (e 1) (e 2) (e 13) h),
 (16362,.jn fun e h=>O1 Q (e 0) (e 1) (e 2) (e 8) (e 10) (e 13) h),
 (254,.jn fun e h=>IL Q (e 0) (e 1) (e 2) (e 8) (e 9) (e 10) (e 12) h)]
theorem Xm {a b c:Value}{h:H}{Q:Kt}(x:f55 a b c h Q):Call TP 55 [a,b,c] h Q:=Bb (AHR Q) Tryz.func55 (by kernel_rfl) x
def ADb (a:Value)(h:H)(Q:Kt):Prop:=
 AY (AG TP 182) 1 8 182 (.int .i64 1) (.int .i64 32) h fun b h=>Uff 1 a fun c=>AJ 1 c b h fun h=>Ae (.struct [(0,1),(1,1),(2,1),(3,1),(4,1),(5,3),(8,3),(11,3),(14,3),(17,1),(18,1),(19,1)]) (AG TP 191) [(2,(.int .u16 16877))] fun b=>BB 191 (b:Value).cells h fun b h=>Ucl 95 [a,b,(.pointer none)] h fun b h=>AO b 0 fun c=>AO b 1 fun _=>Unf 9 c h fun b=>AD .add b (.int .u32 1) fun b=>Uff 9 c fun c=>AJ 1 c b h fun h=>Unf 1 a h fun b=>Unf 1 a h fun c=>Ab c fun c=>AD .sub (.int .i64 11) c fun c=>AD .sub c (.int .i64 1) fun c=>CI 182 (AG TP 182) 1 8 b c h fun b h=>Uff 1 a fun c=>AJ 1 c b h fun h=>Unf 10 a h fun b=>AD .sub b (.int .i64 1) fun b=>AD .quo b (.int .i64 4096) fun b=>AD .add b (.int .i64 1) fun b=>AD .sub b (.int .i64 1) fun b=>AD .quo b (.int .i64 32768) fun b=>AD .add b (.int .i64 1) fun b=>AD .sub b (.int .i64 1) fun b=>AD .quo b (.int .i64 128) fun b=>AD .add b (.int .i64 1) fun b=>AV .u32 b fun b=>Uff 11 a fun c=>AJ 1 c b h fun h=>Unf 11 a h fun b=>AD .add (.int .u32 1) b fun b=>Ucl 101 [a,b] h fun _ h=>Uff 8 a fun b=>AJ 1 b (.bool true) h fun h=>Ae (.struct [(0,1),(1,1),(2,1),(3,1),(4,1),(5,3),(8,3),(11,3),(14,3),(17,1),(18,1),(19,1)]) (AG TP 191) [(2,(.int .u16 16832))] fun b=>BB 191 (b:Value).cells h fun b h=>Ucl 55 [a,(.string ⟨#[108,111,115,116,43,102,111,117,110,100]⟩),b] h fun b h=>Bq .iface true true h b .nilIface fun c=>AK c
 (Q b h)
 (Unf 7 a h fun a=>Q a h)
theorem Z1 {a:Value}{h:H}{Q:Kt}(x:ADb a h Q):Call TP 150 [a] h Q:=Bb nT Tryz.func150 (by kernel_rfl) x
def f52 (a:Value)(h:H)(Q:Kt):Prop:=
 BB 2 (a:Value).cells h fun a h=>Q (.func (.func 90) #[] #[a]) h
theorem ADP {a:Value}{h:H}{Q:Kt}(x:f52 a h Q):Call TP 52 [a] h Q:=Bb nT Tryz.func52 (by kernel_rfl) x
def f53 (a:Value)(h:H)(Q:Kt):Prop:=
 Uff 9 a fun a=>AJ 1 a (.bool true) h fun h=>Q (.tuple #[]) h
theorem ADk {a:Value}{h:H}{Q:Kt}(x:f53 a h Q):Call TP 53 [a] h Q:=Bb nT Tryz.func53 (by kernel_rfl) x
def Wc (Q:Kt)(r1:R1)(a b c d:Value)(h:H):Prop:=
 Ucm .lss d c
 (Uil b d h fun b=>Bj TP b [a] h fun _ h=>AD .add d (.int .i64 1) fun a=>r1 a h)
 (Q a h)
def ABL (Q:Kt)(a b c d:Value)(h:H):Prop:=A1 (fun r1 d h=>Wc Q r1 a b c d h) d h
def f54 (a b:Value)(h:H)(Q:Kt):Prop:=
 Ae (.struct [(0,1),(1,1),(2,1),(3,1),(4,1),(5,1),(6,1),(7,1),(8,1),(9,1),(10,1),(11,1)]) (AG TP 184) [(0,a),(10,(.int .i64 17179869184))] fun a=>BB 184 (a:Value).cells h fun a h=>Ab b fun c=>ABL Q a b c (.int .i64 0) h
def AIU (Q:Kt)(r:RS):Nat→DJ:=tab [(117,.lp [5,11,12] [13] fun s e l h=>Wc Q (u1 s) (e 5) (e 11) (e 12) (gl l 0) h)]
theorem ACy {a b:Value}{h:H}{Q:Kt}(x:f54 a b h Q):Call TP 54 [a,b] h Q:=Bb (AIU Q) Tryz.func54 (by kernel_rfl) x
def Tw (Q:Kt)(a b c:Value)(h:H):Prop:=
 AK c
 (Uff 10 a fun a=>AJ 1 a (.int .i64 17592186044416) h fun h=>Q (.tuple #[]) h)
 (Uld b h fun c=>Ucm .eql c (.int .i64 0)
 (Uff 10 a fun a=>AJ 1 a (.int .i64 17179869184) h fun h=>Q (.tuple #[]) h)
 (Uld b h fun b=>AD .add b (.int .i64 4096) fun b=>AD .sub b (.int .i64 1) fun b=>AD .andNot b (.int .i64 4095) fun b=>Uff 10 a fun a=>AJ 1 a b h fun h=>Q (.tuple #[]) h))
def f90 (a b:Value)(h:H)(Q:Kt):Prop:=
 Uld b h fun c=>Ucf .lss c (.int .i64 0) (Uld b h fun c=>AD .gtr c (.int .i64 17592186044416) fun c=>Tw Q a b c h) (Tw Q a b (.bool true) h)
def AH6 (Q:Kt)(r:RS):Nat→DJ:=tab [(6,.jn fun e h=>Tw Q (e 0) (e 1) (e 8) h)]
theorem ABy {a b:Value}{h:H}{Q:Kt}(x:f90 a b h Q):Call TP 90 [a,b] h Q:=Bb (AH6 Q) Tryz.func90 (by kernel_rfl) x
end
end Go.Proofs.YtollddkkdgoonaaGreatDoor
