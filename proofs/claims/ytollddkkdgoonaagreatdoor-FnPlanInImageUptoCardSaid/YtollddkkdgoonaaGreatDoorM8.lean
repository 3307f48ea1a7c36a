/- A part of a proof over images that are written and read. No condition; a step. -/
import Derived.Test.YtollddkkdgoonaaGreatDoorM7
namespace Go.Proofs.YtollddkkdgoonaaGreatDoor
open Go
set_option linter.unusedVariables false
set_option linter.unusedSimpArgs false
set_option maxRecDepth 100000
section
variable {h:H} {k:Value→Prop} {kt Q:Kt} {x y r:Res}
@[go_sem] theorem AIh {c:Bool}{p:Addr}:Bq .ptr c true h (.pointer none) (.pointer (some p)) k=k (.bool true):=by simp[Bq,GG]
def AGH (L:List (Option Nd))(n:Nd):Prop:=
 (BufV n.data n.dbs n.dr∧BufV n.xin n.xbs n.xr∧n.mode<65536∧n.links<100000∧n.flags<4294967296)∧∀ mb es,n.dir=some (mb,es)→∀ e∈es,1≤e.2∧∃ c,L[e.2-1]? = some (some c)
theorem FOK.ndOK {s:WS}{ad:Nat→Nat}{L:List (Option Nd)}{tr:Res}{c:Nat}{n:Nd}(ok:FOK s ad L tr)(hn:L[c]? = some (some n)):AGH L n:=
 ⟨ok.nd _ _ hn,fun mb es=>ok.kid _ _ mb es hn⟩
theorem Hv {L:List (Option Nd)}{c:Nat}{n':Nd}{i:Nat}(h:∃ m,L[i]? = some (some m)):∃ m,(L.set c (some n'))[i]? = some (some m):=by
 obtain⟨m,hm⟩:=h
 have hl:=(A02.1 hm).1
 rw[A54]
 by_cases hc:c=i
 ·subst hc;rw[A03 rfl,A03 hl];exact⟨_,rfl⟩
 ·rw[A05 hc];exact⟨m,hm⟩
theorem F7 {s s':WS}{ad:Nat→Nat}{L:List (Option Nd)}{tr:Res}{c:Nat}{n n':Nd}(ok:FOK s ad L tr)(hs:s'.OK)(hi:s'.inv=s.inv)(hn:L[c]? = some (some n))(h1:n'.num=n.num)(h2:AGH L n'):FOK s' ad (L.set c (some n')) tr:=by
 have hl:=(A02.1 hn).1
 have hmap:(L.set c (some n')).map (ptrO ad)=L.map (ptrO ad):=by
  apply A60
  intro i
  rw[A21,A21,A54]
  by_cases hc:c=i
  ·subst hc;rw[A03 rfl,A03 hl,hn];simp[ptrO,h1]
  ·rw[A05 hc]
 have hcase:∀ i m,(L.set c (some n'))[i]? = some (some m)→(i=c∧m=n')∨L[i]? = some (some m):=by
  intro i m hm
  rw[A54] at hm
  by_cases hc:c=i
  ·subst hc;rw[A03 rfl,A03 hl] at hm;cases hm;exact .inl ⟨rfl,rfl⟩
  ·rw[A05 hc] at hm;exact .inr hm
 refine⟨hs,?_,?_,?_,?_,by simpa using ok.len⟩
 ·rw[hmap,A89,hi];exact ok.vec
 ·intro i m hm
  rcases hcase i m hm with⟨rfl,rfl⟩|hm
  ·rw[h1];exact ok.num _ _ hn
  ·exact ok.num _ _ hm
 ·intro i m hm
  rcases hcase i m hm with⟨rfl,rfl⟩|hm
  ·exact h2.1
  ·exact ok.nd _ _ hm
 ·intro i m mb es hm hd e he
  rcases hcase i m hm with⟨rfl,rfl⟩|hm
  ·exact⟨(h2.2 mb es hd e he).1,Hv (h2.2 mb es hd e he).2⟩
  ·have:=ok.kid i m mb es hm hd e he
   exact⟨this.1,Hv this.2⟩
theorem FOK.ws' {s s':WS}{ad:Nat→Nat}{L:List (Option Nd)}{tr:Res}(ok:FOK s ad L tr)(hs:s'.OK)(hi:s'.inv=s.inv):FOK s' ad L tr:=
 ⟨hs,by rw[hi];exact ok.vec,ok.num,ok.nd,ok.kid,ok.len⟩
theorem GN {ad:Nat→Nat}{L:List (Option Nd)}{c:Nat}{n:Nd}(hl:c<L.length):sumR ad (L.set c (some n))=n.res ad+sumR ad (L.set c none):=Kj ad (some n) L c hl
abbrev WS.idle (s:WS):WS:={s with cur:=.pointer none,dw:=0,dm:=0}
theorem AIX {s:WS}(w:AN (s.res+x) h)(hini:s.ini=true)(hc:s.cur=.pointer none)(K:Q .nilIface h):UX (Pt s.wb) h Q:=by
 unfold UX Unf Unt Ucl
 simp (disch:=omega) only[go_sem,AF w,hini,A91]
 unfold Kp Unf Ucm Ucl Ucg
 simp (disch:=omega) only[go_sem,AF w,hc]
 exact K
theorem ACD {s:WS}(w:AN (s.res+x) h)(K:∀ h,AN (s.idle.res+x) h→Q .nilIface h):AJ 1 (.pointer (some ⟨s.wb,5,none⟩)) (.int .i64 0) h fun h=>AJ 1 (.pointer (some ⟨s.wb,6,none⟩)) (.int .i64 0) h fun h=>AJ 1 (.pointer (some ⟨s.wb,3,none⟩)) (.pointer none) h fun h=>AB false 1 (.pointer (some ⟨s.wb,7,none⟩)) h fun x67=>Q x67 h:=by
 refine AL w (WS.cells {s with dw:=0}) rfl rfl (by simp) rfl fun h w=>?_
 refine AL w (WS.cells {s with dw:=0,dm:=0}) rfl rfl (by simp) rfl fun h w=>?_
 refine AL w (WS.cells s.idle) rfl rfl (by simp) rfl fun h w=>?_
 simp (disch:=omega) only[go_sem,AF w]
 exact K _ w
theorem AHU {s:WS}{ad:Nat→Nat}{L:List (Option Nd)}{tr:Res}{c:Nat}{n:Nd}(ok:FOK s ad L tr)(w:AN (FR s ad L tr+x) h)(hini:s.ini=true)(hc:s.cur=Pt (ad c))(h1:1≤c)(hn:L[c-1]? = some (some n))(hdw:s.dw=s.dm)
  (hfl:s.dm=0∨n.flags=268697600) (K:∀ h,FOK s.idle ad L tr→AN (FR s.idle ad L tr+x) h→Q .nilIface h):UX (Pt s.wb) h Q:=by
 have K':∀ h,AN (s.idle.res+(tr+sumR ad L+x)) h→Q .nilIface h:=fun h w=>K h (ok.ws' ⟨ok.ws.buf,ok.ws.len,ok.ws.max⟩ rfl) (w.cast (by unfold FR;ac_rfl))
 unfold UX Unf Unt Ucl
 simp (disch:=omega) only[go_sem,AF w,hini,A91]
 unfold Kp Unf Ucm Ucl Ucg
 have he:decide ((s.dm:Int)≠(s.dm:Int))=false:=by simp
 simp (disch:=omega) only[go_sem,AF w,hc,hdw,he]
 refine C3 (fun hz=>?_) (fun hz=>?_)
 ·have hfl:n.flags=268697600:=by omega
  obtain⟨w',hnum⟩:=CG ok h1 hn w
  have hand:n.flags &&& 268435456=268435456:=by rw[hfl];rfl
  have hlt:n.flags<4294967296:=by omega
  have h0:decide (((268435456:Nat):Int)=0)=false:=by simp
  rw[←hnum]
  simp (disch:=omega) only[go_sem,AF w',hand,h0]
  unfold Mj Unf Ucl Uff
  simp only[go_sem]
  exact ACD (x:=tr+sumR ad L+x) (w.cast (by unfold FR;ac_rfl)) K'
 ·unfold Mj Unf Ucl Uff
  simp only[go_sem]
  exact ACD (x:=tr+sumR ad L+x) (w.cast (by unfold FR;ac_rfl)) K'
def Eu (p:Nat):Nat:=(p+4095)/4096*4096
def I1 (B:Bs)(p:Nat):Bs:=if Eu p=p then B else BG B p (List.replicate (Eu p-p) 0)
abbrev WS.shut (s:WS)(dv:Value)(r:Res):WS:={s with dv:=dv,dr:=r,B:=I1 s.B s.pos,dpos:=Eu s.pos,pos:=Eu s.pos,cur:=.pointer none,dw:=0,dm:=0}
abbrev Nd.ext (n:Nd)(s:WS)(ev:Value)(er:Res):Nd:={n with data:=ev,dbs:=extRoot ((Eu s.pos-(s.pos-s.dw))/4096) ((s.pos-s.dw)/4096),dr:=er,flags:=n.flags ||| 524288,bcnt:=n.bcnt+(Eu s.pos-(s.pos-s.dw))/4096}
theorem AHk {s:WS}{ad:Nat→Nat}{L:List (Option Nd)}{tr:Res}{c:Nat}{n:Nd}(ok:FOK s ad L tr)(w:AN (FR s ad L tr+x) h)(hini:s.ini=true)(hc:s.cur=Pt (ad c))(h1:1≤c)(hn:L[c-1]? = some (some n))(hdw:s.dw=s.dm)(hd1:1≤s.dm)
  (hfl:n.flags=262144) (hle:s.dw≤s.pos) (hal:(s.pos-s.dw)%4096=0) (hpos:s.dpos=s.pos) (hB:s.B.length≤s.pos) (h2:s.dw≤134000000) (hm:s.pos+4096≤s.max) (hbc:n.bcnt<1000000)
  (K:∀ dv r ev er h,FOK (s.shut dv r) ad (L.set (c-1) (some (n.ext s ev er))) tr→AN (FR (s.shut dv r) ad (L.set (c-1) (some (n.ext s ev er))) tr+x) h→Q .nilIface h):UX (Pt s.wb) h Q:=by
 unfold UX Unf Unt Ucl
 simp (disch:=omega) only[go_sem,AF w,hini,A91]
 unfold Kp Unf Ucm Ucl Ucg
 have he:decide ((s.dm:Int)≠(s.dm:Int))=false:=by simp
 have hz:decide ((s.dm:Int)≠0)=true:=by simp;omega
 simp (disch:=omega) only[go_sem,AF w,hc,hdw,he,hz]
 obtain⟨w',hnum⟩:=CG ok h1 hn w
 have hand:n.flags &&& 268435456=0:=by rw[hfl];rfl
 have h0:decide (((0:Nat):Int)=0)=true:=by simp
 rw[←hnum]
 simp (disch:=omega) only[go_sem,AF w',hand,h0]
 unfold Mj Unf Ucl Uff
 simp only[go_sem,AF w',hc]
 rw[←hnum]
 refine Zw (AHE (n:=n) (x:=n.dr+(n.xr+n.kr ad)+(tr+sumR ad (L.set (c-1) none)+x)) ok.ws (w'.cast (by unfold Nd.res;ac_rfl)) hle hal hpos hB (by omega) h2 hm (by omega) hbc fun dv r ev er h p hp okw be w=>?_)
 have hpu:p=Eu s.pos:=by unfold Eu;omega
 subst hpu
 simp only[go_sem]
 have hl:=(A02.1 hn).1
 have hnd:=ok.ndOK hn
 refine ACD (s:={s with dv:=dv,dr:=r,B:=if Eu s.pos=s.pos then s.B else BG s.B s.pos (List.replicate (Eu s.pos-s.pos) 0),dpos:=Eu s.pos,pos:=Eu s.pos}) w fun h w=>?_
 refine K dv r ev er h ?_ ?_
 ·refine F7 ok ⟨okw.buf,okw.len,okw.max⟩ rfl hn rfl ⟨⟨be,hnd.1.2.1,hnd.1.2.2.1,hnd.1.2.2.2.1,?_⟩,hnd.2⟩
  show n.flags ||| 524288<4294967296
  rw[hfl];decide
 ·refine AN.left (y:=n.dr) (w.cast ?_)
  unfold FR
  rw[GN hl]
  unfold Nd.res WS.res Nd.kr
  dsimp only
  ac_rfl
end
section
variable {h:H} {k:Value→Prop} {kt Q:Kt} {x y r:Res}
theorem QW (f:Nat→Value)(es:List (Bs×Nat))(nm:Bs)(c:Nat):(DP f es).push ⟨str nm,f c,es.length⟩=DP f (es++[(nm,c)]):=by
 unfold DP
 rw[List.zipIdx_append]
 simp
theorem AAP {ad:Nat→Nat}{mb c:Nat}{es:List (Bs×Nat)}{nm:Bs}{kh:H→Prop}(w:AN (pts mb (CP ad es)+x) h)(hf:lookE es nm=none)(K:∀ h,AN (pts mb (CP ad (es++[(nm,c)]))+x) h→kh h) :
  Gp (some .string) (.map (some mb)) (str nm) (Pt (ad c)) h kh:=by
 obtain⟨q,h1,h2,_⟩:=Fm (fun c=>Pt (ad c)) nm es 0 0
 rw[hf] at h2
 simp only[Option.map_none,Option.map_eq_none_iff] at h2
 subst h2
 refine⟨rfl,mb,_,_,.map ((DP (fun c=>Pt (ad c)) es).push ⟨str nm,Pt (ad c),es.length⟩) (es.length+1),rfl,w.left.one,?_,?_⟩
 ·have:(DP (fun c=>Pt (ad c)) es).toList=es.zipIdx.map fun p=>(⟨str p.1.1,Pt (ad p.1.2),p.2⟩:MapEntry):=rfl
  have h1':Cd (str nm) (DP (fun c=>Pt (ad c)) es).toList 0=some none:=by rw[this];exact h1
  rw[h1'];rfl
 ·refine K _ ?_
  have e:CP ad (es++[(nm,c)])=.map ((DP (fun c=>Pt (ad c)) es).push ⟨str nm,Pt (ad c),es.length⟩) (es.length+1):=by
   rw[QW (fun c=>Pt (ad c))];simp[CP]
  rw[e]
  exact w.set
def WS.opened (s:WS)(kd:Nat)(p:Value)(nm:Bs)(sz:Nat):WS:=if kd=32768 then {s with nm:=str nm,cur:=p,dw:=0,dm:=sz} else s
theorem AA4 {s:WS}{n:Nd}{nb fb:Nat}{fc:List Value}{nm:Bs}{sz:Nat}(w:AN (s.res+(pts nb (.cells n.cells 197 (0,0))+(pts fb (.cells ⟨fc⟩ 191 (0,0))+x))) h)(hfc:fc[1]? = some (.int .i64 sz))(hcur:s.cur=.pointer none)(hm:n.mode<65536)
  (K:∀ h,AN ((s.opened (kindB n.mode) (Pt nb) nm sz).res+(pts nb (.cells n.cells 197 (0,0))+x)) h→Q .nilIface h):MP Q (Pt s.wb) (str nm) (Pt fb) (Pt nb) h:=by
 unfold MP Unf Ucm Ucl
 simp (disch:=omega) only[go_sem,AF w]
 have hkk:(n.mode &&& 61440)=kindB n.mode:=rfl
 rw[hkk]
 refine AX (fun hk=>?_) (fun hk=>?_)
 ·have hk':kindB n.mode=32768:=by omega
  have:(⟨fc⟩:Array Value)[1]? = some (.int .i64 sz):=by simpa using hfc
  rw[this]
  simp only[go_sem]
  refine Vx (s96 w hcur ⟨_,rfl⟩ fun h w=>K h (AN.left (y:=pts fb (.cells ⟨fc⟩ 191 (0,0))) (w.cast ?_)))
  unfold WS.opened
  rw[A03 hk']
  ac_rfl
 ·have hk':kindB n.mode≠32768:=by omega
  refine K h (AN.left (y:=pts fb (.cells ⟨fc⟩ 191 (0,0))) (w.cast ?_))
  unfold WS.opened
  rw[A05 hk']
  ac_rfl
abbrev Nd.more (n:Nd)(mb:Nat)(es:List (Bs×Nat))(nm:Bs)(c kd:Nat):Nd:={n with dir:=some (mb,es++[(nm,c)]),links:=n.links+(if kd=16384 then 1 else 0)}
theorem AFE {s:WS}{ad:Nat→Nat}{n dn:Nd}{mb fb c:Nat}{es:List (Bs×Nat)}{fc:List Value}{nm e:Bs}{sz:Nat}
  (w:AN (s.res+(pts (ad c) (.cells n.cells 197 (0,0))+(pts (ad dn.num) (.cells dn.cells 197 (0,0))+(pts mb (CP ad es)+(pts fb (.cells ⟨fc⟩ 191 (0,0))+x))))) h) (hfc:fc[1]? = some (.int .i64 sz)) (hcur:s.cur=.pointer none) (hm:n.mode<65536)
  (hdd:dn.dir=some (mb,es)) (hf:lookE es e=none) (hl1:n.links<100000) (hl2:dn.links<100000)
  (K:∀ h,AN ((s.opened (kindB n.mode) (Pt (ad c)) nm sz).res+(pts (ad c) (.cells (Nd.cells {n with links:=n.links+1}) 197 (0,0))+(pts (ad dn.num) (.cells (dn.more mb es e c (kindB n.mode)).cells 197 (0,0))+(pts mb (CP ad (es++[(e,c)]))+x)))) h→Q .nilIface h) :
  O1 Q (Pt s.wb) (str nm) (Pt fb) (Pt (ad dn.num)) (str e) (Pt (ad c)) h:=by
 unfold O1 Unf Uff Ucl
 have hkv:dn.kids=.map (some mb):=by unfold Nd.kids;rw[hdd];rfl
 simp (disch:=omega) only[go_sem,AF w]
 rw[hkv]
 refine AAP (ad:=ad) (mb:=mb) (es:=es) (nm:=e) (c:=c) (x:=s.res+(pts (ad c) (.cells n.cells 197 (0,0))+(pts (ad dn.num) (.cells dn.cells 197 (0,0))+(pts fb (.cells ⟨fc⟩ 191 (0,0))+x)))) (w.cast (by ac_rfl)) hf fun h w=>?_
 simp (disch:=omega) only[go_sem,AF w]
 refine AL w (Nd.cells {n with links:=n.links+1}) rfl rfl (by simp) rfl fun h w=>?_
 refine Pz (s93 (n:={n with links:=n.links+1}) w hm ?_)
 have hc1:dn.cells=Nd.cells {dn with dir:=some (mb,es++[(e,c)])}:=by unfold Nd.cells Nd.kids;rw[hdd];rfl
 refine AX (fun hk=>?_) (fun hk=>?_)
 ·simp (disch:=omega) only[go_sem,AF w]
  refine AL w (dn.more mb es e c (kindB n.mode)).cells ?_ rfl (by simp) rfl fun h w=>?_
  ·rw[hc1]
   have:kindB n.mode=16384:=hk
   unfold Nd.more
   rw[A03 this]
   rfl
  ·refine AA4 (n:={n with links:=n.links+1}) (x:=pts (ad dn.num) (.cells (dn.more mb es e c (kindB n.mode)).cells 197 (0,0))+(pts mb (CP ad (es++[(e,c)]))+x)) (w.cast (by ac_rfl)) hfc hcur hm K
 ·have:kindB n.mode≠16384:=hk
  have hc2:dn.cells=(dn.more mb es e c (kindB n.mode)).cells:=by rw[hc1];unfold Nd.more;rw[A05 this];rfl
  rw[hc2] at w
  exact AA4 (n:={n with links:=n.links+1}) (x:=pts (ad dn.num) (.cells (dn.more mb es e c (kindB n.mode)).cells 197 (0,0))+(pts mb (CP ad (es++[(e,c)]))+x)) (w.cast (by ac_rfl)) hfc hcur hm K
abbrev Jy (ad:Nat→Nat)(m nb:Nat):Nat→Nat:=fun k=>if k=m then nb else ad k
abbrev Wl (L:List (Option Nd))(d:Nat)(dn n:Nd)(mb:Nat)(es:List (Bs×Nat))(e:Bs):List (Option Nd):=
 (L++[some {n with links:=n.links+1}]).set (d-1) (some (dn.more mb es e (L.length+1) (kindB n.mode)))
theorem AFI {s:WS}{ad:Nat→Nat}{L:List (Option Nd)}{tr:Res}{nm e:Bs}{d fb mb:Nat}{dn:Nd}{es:List (Bs×Nat)}{f:FL}(ok:FOK s ad L tr)(g:JX x)
  (w:AN (FR s ad L tr+(pts fb (.cells ⟨f.cells (.map none)⟩ 191 (0,0))+x)) h) (hcur:s.cur=.pointer none) (hlen:L.length<9999) (hd1:1≤d) (hdn:L[d-1]? = some (some dn)) (hdd:dn.dir=some (mb,es)) (hf:lookE es e=none) (hlk:dn.links<65000)
  (hm:f.mode<65536) (hk:kindOk (kindB (modeK f.mode))) (h1:f.at_.ok) (h2:f.ct.ok) (h3:f.mt.ok) (h4:f.cr.ok) (hsz:f.size≤137438953472)
  (K:∀ n nb inv tr' h,MX f (L.length+1) s.inl (modeK f.mode) n→FOK (WS.opened {s with inv:=inv} (kindB n.mode) (Pt nb) nm f.size) (Jy ad (L.length+1) nb) (Wl L d dn n mb es e) tr' →
   AN (FR (WS.opened {s with inv:=inv} (kindB n.mode) (Pt nb) nm f.size) (Jy ad (L.length+1) nb) (Wl L d dn n mb es e) tr'+x) h→Q .nilIface h) :
  IL Q (Pt s.wb) (str nm) (Pt fb) (Pt (ad d)) (.pointer none) (str e) (.pointer none) h:=by
 have hdl:=(A02.1 hdn).1
 unfold IL Ucl Unf Uff
 refine V0 (s95 ok g w hlen hm hk h1 h2 h3 h4 hsz fun n nb inv tr' fm h isn ok w=>?_)
 have hnm:n.mode<65536:=by have:=(ok.nd L.length n (by simp)).2.2.1;exact this
 have hnl:n.links<100000:=by have:=(ok.nd L.length n (by simp)).2.2.2.1;exact this
 have had:Jy ad (L.length+1) nb d=ad d:=A05 (by omega)
 have hdn1:(L++[some n])[d-1]? = some (some dn):=by rw[A18 hdl];exact hdn
 have hdnum:dn.num=d:=by have:=ok.num _ _ hdn1;omega
 have hsum:sumR (Jy ad (L.length+1) nb) (L++[some n])=n.res (Jy ad (L.length+1) nb)+(dn.res (Jy ad (L.length+1) nb)+sumR (Jy ad (L.length+1) nb) (L.set (d-1) none)):=by
  rw[Dx,Fs hdn];rfl
 have hnb:Jy ad (L.length+1) nb (L.length+1)=nb:=A03 rfl
 simp (disch:=omega) only[go_sem]
 rw[←had,←hdnum]
 have hkr:n.kr (Jy ad (L.length+1) nb)=n.kr (Jy ad (L.length+1) nb):=rfl
 have hptr:Pt nb=Pt (Jy ad (L.length+1) nb (L.length+1)):=by rw[hnb]
 rw[hptr]
 have hdkr:dn.kr (Jy ad (L.length+1) nb)=pts mb (CP (Jy ad (L.length+1) nb) es):=by unfold Nd.kr;rw[hdd]
 refine AFE (s:={s with inv:=inv}) (ad:=Jy ad (L.length+1) nb) (n:=n) (fc:=f.cells (.map (some fm))) (sz:=f.size)
  (x:=tr'+(n.dr+(n.xr+n.kr (Jy ad (L.length+1) nb)))+(dn.dr+dn.xr)+sumR (Jy ad (L.length+1) nb) (L.set (d-1) none)+x) (w.cast ?_) rfl hcur hnm hdd hf hnl (by omega) fun h w=>?_
 ·unfold FR
  rw[hsum]
  unfold Nd.res
  rw[hdkr,isn.num]
  ac_rfl
 ·rw[hnb] at w
  have okn:FOK (WS.opened {s with inv:=inv} (kindB n.mode) (Pt nb) nm f.size) (Jy ad (L.length+1) nb) ((L++[some n]).set L.length (some {n with links:=n.links+1})) tr':=by
   have hlast:(L++[some n])[L.length]? = some (some n):=by simp
   have hnd:=ok.ndOK hlast
   refine F7 ok ?_ ?_ hlast rfl ⟨⟨hnd.1.1,hnd.1.2.1,hnm,?_,hnd.1.2.2.2.2⟩,hnd.2⟩
   ·unfold WS.opened
    split<;>exact⟨ok.ws.buf,ok.ws.len,ok.ws.max⟩
   ·unfold WS.opened
    split<;>rfl
   ·show n.links+1<100000
    have:=isn.links
    split at this<;>omega
  have hset:(L++[some n]).set L.length (some {n with links:=n.links+1})=L++[some {n with links:=n.links+1}]:=by
   rw[List.set_append_right _ _ (A07 _)];simp
  rw[hset] at okn
  have hdn2:(L++[some {n with links:=n.links+1}])[d-1]? = some (some dn):=by rw[A18 hdl];exact hdn
  have hnd2:=okn.ndOK hdn2
  refine K n nb inv tr' h isn (F7 okn okn.ws rfl hdn2 rfl ⟨⟨hnd2.1.1,hnd2.1.2.1,hnd2.1.2.2.1,?_,hnd2.1.2.2.2.2⟩,?_⟩) (w.cast ?_)
  ·show dn.links+(if kindB n.mode=16384 then 1 else 0)<100000
   split<;>omega
  ·intro mb' es' hd' ent hent
   cases hd'
   rcases A88.1 hent with he|he
   ·exact hnd2.2 mb es hdd ent he
   ·rw[A78] at he
    subst he
    exact⟨by show 1≤L.length+1;omega,{n with links:=n.links+1},by show (L++[some {n with links:=n.links+1}])[L.length+1-1]? = _;rw[A79];simp⟩
  ·unfold FR Wl
   rw[GN (by simp;omega),List.set_append_left _ _ hdl,Dx]
   unfold ndR Nd.res
   have e1:(dn.more mb es e (L.length+1) (kindB n.mode)).kr (Jy ad (L.length+1) nb)=pts mb (CP (Jy ad (L.length+1) nb) (es++[(e,L.length+1)])):=rfl
   rw[e1]
   dsimp only
   have hna:Jy ad (L.length+1) nb n.num=nb:=by rw[isn.num];exact hnb
   rw[hna]
   have e2:Nd.kr (Jy ad (L.length+1) nb) {n with links:=n.links+1}=n.kr (Jy ad (L.length+1) nb):=rfl
   rw[e2]
   ac_rfl
end
section
variable {h:H} {k:Value→Prop} {kt Q:Kt} {x y r:Res} {ad:Nat→Nat}
structure PN where
 num:Nat
 size:Nat
 at_:Nat
 ct:Nat
 mt:Nat
 cr:Nat
 mode:Nat
 uid:Nat
 gid:Nat
 links:Nat
 xblk:Nat
 bcnt:Nat
 dmaj:Nat
 dmin:Nat
 flags:Nat
 dbs:Bs
 xbs:Bs
 kids:Option (List (Bs×Nat))
def Nd.pn (n:Nd):PN:=⟨n.num,n.size,n.at_,n.ct,n.mt,n.cr,n.mode,n.uid,n.gid,n.links,n.xblk,n.bcnt,n.dmaj,n.dmin,n.flags,n.dbs,n.xbs,n.dir.map (·.2)⟩
def pnL (L:List (Option Nd)):List (Option PN):=L.map (Option.map Nd.pn)
theorem Js {L:List (Option Nd)}{i:Nat}:(pnL L)[i]? = (L[i]?).map (Option.map Nd.pn):=by unfold pnL;rw[A21]
theorem CF {L:List (Option Nd)}{i:Nat}{p:PN}(h:(pnL L)[i]? = some (some p)):∃ n,L[i]? = some (some n)∧n.pn=p:=by
 rw[Js,A74] at h
 obtain⟨o,h1,h2⟩:=h
 rw[A74] at h2
 obtain⟨n,h3,h4⟩:=h2
 subst h3
 exact⟨n,h1,h4⟩
def D7 (M:List (Option PN))(c:Nat)(nm:Bs):Option Nat:=match M[c-1]? with
 | some (some n)=>match n.kids with|some es=>lookE es nm|none=>none
 | _=>none
def walkP (M:List (Option PN)):Nat→List Bs→Option Nat
 | c,[]=>some c
 | c,e::es=>(D7 M c e).bind fun d=>walkP M d es
theorem UZ {L:List (Option Nd)}{c:Nat}{nm:Bs}:D7 (pnL L) c nm=Dv L c nm:=by
 unfold D7 Dv
 rw[Js]
 cases L[c-1]? with
 | none=>rfl
 | some o=>
  cases o with
  | none=>rfl
  | some n=>
   show (match n.dir.map (·.2) with|some es=>lookE es nm|none=>none)=(match n.dir with|some (_,es)=>lookE es nm|none=>none)
   cases n.dir with
   | none=>rfl
   | some me=>obtain⟨a,b⟩:=me;rfl
theorem OY {L:List (Option Nd)}:∀ (ns:List Bs) (c:Nat),walkP (pnL L) c ns=walk L c ns
 | [],_=>rfl
 | e::es,c=>by
  rw[walkP,walk,UZ]
  cases Dv L c e with
  | none=>rfl
  | some d=>exact OY es d
def newP (f:FL)(num:Nat)(inl:Bool):PN:=
 let m:=modeK f.mode
 ⟨num,szK (kindB m) f.size,f.at_.laid,f.ct.laid,f.mt.laid,f.cr.laid,m,f.uid,f.gid,if kindB m=16384 then 1 else 0,0,0,f.dmaj,f.dmin,flK inl (kindB m) f.size,datK inl (kindB m) f.size,xinK inl (kindB m) f.size,if kindB m=16384 then some [] else none⟩
theorem MX.pn {f:FL}{num:Nat}{inl:Bool}{n:Nd}(i:MX f num inl (modeK f.mode) n):n.pn=newP f num inl:=by
 have hd:=i.dir
 have h1:n.dir.map (·.2)=if kindB (modeK f.mode)=16384 then some [] else none:=by
  split at hd
  ·obtain⟨mb,hd⟩:=hd;rw[hd];rename_i h;rw[A03 h];rfl
  ·rw[hd];rename_i h;rw[A05 h];rfl
 unfold Nd.pn newP
 rw[h1,i.num,i.mode,i.size,i.own.1,i.own.2,i.time.1,i.time.2.1,i.time.2.2.1,i.time.2.2.2,i.links,i.blk.1,i.blk.2,i.dev.1,i.dev.2,i.flags,i.dat,i.xat]
def D0 (M:List (Option PN))(d:Nat)(q p:PN)(es:List (Bs×Nat))(e:Bs):List (Option PN):=
 (M++[some {p with links:=p.links+1}]).set (d-1) (some {q with kids:=some (es++[(e,M.length+1)]),links:=q.links+(if kindB p.mode=16384 then 1 else 0)})
theorem Zz {L:List (Option Nd)}{d mb:Nat}{dn n:Nd}{es:List (Bs×Nat)}{e:Bs}:pnL (Wl L d dn n mb es e)=D0 (pnL L) d dn.pn n.pn es e:=by
 unfold Wl D0 pnL
 rw[B22,A36,A25]
 rfl
structure PS where
 M:List (Option PN)
 B:Bs
 pos:Nat
 cur:Option Nat
 dw:Nat
 dm:Nat
 inl:Bool
 max:Nat
 gd:Nat
 db:Nat
structure AGi (wb:Nat) (S:PS) (s:WS) (ad:Nat→Nat) (L:List (Option Nd)) (tr:Res):Prop where
 ok:FOK s ad L tr
 wb:s.wb=wb
 ini:s.ini=true
 M:pnL L=S.M
 B:s.B=S.B
 pos:s.pos=S.pos
 dpos:s.dpos=S.pos
 dw:s.dw=S.dw
 dm:s.dm=S.dm
 cur:s.cur=ptrC ad S.cur
 inl:s.inl=S.inl
 max:s.max=S.max
 gd:s.gd=S.gd
 db:s.db=S.db
def BM (wb:Nat)(ad:Nat→Nat)(S:PS)(x:Res)(h:H):Prop:=∃ s L tr,AGi wb S s ad L tr∧AN (FR s ad L tr+x) h
theorem BM.mono {wb:Nat}{S:PS}(p:BM wb ad S (x+y) h):BM wb ad S x h:=by
 obtain⟨s,L,tr,a,w⟩:=p
 exact⟨s,L,tr,a,AN.left (y:=y) (w.cast (by ac_rfl))⟩
theorem BM.cast {wb:Nat}{S:PS}(p:BM wb ad S x h)(e:x=y):BM wb ad S y h:=e▸p
def PS.idle (S:PS):PS:={S with cur:=none,dw:=0,dm:=0}
def PN.ext (n:PN)(pos dw:Nat):PN:={n with dbs:=extRoot ((Eu pos-(pos-dw))/4096) ((pos-dw)/4096),flags:=n.flags ||| 524288,bcnt:=n.bcnt+(Eu pos-(pos-dw))/4096}
def PS.shut (S:PS)(c:Nat)(n:PN):PS:={S with M:=S.M.set (c-1) (some (n.ext S.pos S.dw)),B:=I1 S.B S.pos,pos:=Eu S.pos,cur:=none,dw:=0,dm:=0}
inductive Fin:PS→PS→Prop
 | none {S:PS}:S.cur=none→Fin S S
 | small {S:PS} {c:Nat} {n:PN}:S.cur=some c→1≤c→S.M[c-1]? = some (some n)→S.dw=S.dm→(S.dm=0∨n.flags=268697600)→Fin S S.idle
 | big {S:PS} {c:Nat} {n:PN}:S.cur=some c→1≤c→S.M[c-1]? = some (some n)→S.dw=S.dm→1≤S.dm→n.flags=262144→S.dw≤S.pos→(S.pos-S.dw)%4096=0→S.B.length≤S.pos→S.dw≤134000000→S.pos+4096≤S.max→n.bcnt<1000000→Fin S (S.shut c n)
theorem Jq {wb:Nat}{S S':PS}(p:BM wb ad S x h)(f:Fin S S')(K:∀ h,BM wb ad S' x h→Q .nilIface h):UX (Pt wb) h Q:=by
 obtain⟨s,L,tr,a,w⟩:=p
 rw[←a.wb]
 cases f with
 | none hc=>exact AIX (x:=tr+sumR ad L+x) (w.cast (by unfold FR;ac_rfl)) a.ini (by rw[a.cur,hc];rfl) (K _ ⟨s,L,tr,a,w⟩)
 | small hc h1 hn hdw hfl=>
  rename_i c n
  obtain⟨m,hm,rfl⟩:=CF (a.M▸hn)
  refine AHU a.ok w a.ini (by rw[a.cur,hc];rfl) h1 hm (by rw[a.dw,a.dm,hdw]) (by rw[a.dm];exact hfl) fun h ok w=>K h ⟨s.idle,L,tr,?_,w⟩
  exact⟨ok,a.wb,a.ini,a.M,a.B,a.pos,a.dpos,rfl,rfl,rfl,a.inl,a.max,a.gd,a.db⟩
 | big hc h1 hn hdw hd1 hfl hle hal hB h2 hm hbc=>
  rename_i c n
  obtain⟨m,hm',rfl⟩:=CF (a.M▸hn)
  refine AHk a.ok w a.ini (by rw[a.cur,hc];rfl) h1 hm' (by rw[a.dw,a.dm,hdw]) (by rw[a.dm];exact hd1) hfl (by rw[a.dw,a.pos];exact hle) (by rw[a.pos,a.dw];exact hal) (by rw[a.dpos,a.pos]) (by rw[a.B,a.pos];exact hB) (by rw[a.dw];exact h2) (by rw[a.pos,a.max];exact hm) hbc
   fun dv r ev er h ok w=>K h ⟨s.shut dv r,L.set (c-1) (some (m.ext s ev er)),tr,?_,w⟩
  refine⟨ok,a.wb,a.ini,?_,?_,?_,?_,rfl,rfl,rfl,a.inl,a.max,a.gd,a.db⟩
  ·unfold pnL PS.shut
   rw[B22,←a.M,←a.pos,←a.dw]
   rfl
  ·show I1 s.B s.pos=I1 S.B S.pos
   rw[a.B,a.pos]
  ·show Eu s.pos=Eu S.pos
   rw[a.pos]
  ·show Eu s.pos=Eu S.pos
   rw[a.pos]
def PS.wrote (S:PS)(bs:Bs):PS:={S with B:=BG S.B S.pos bs,pos:=S.pos+bs.length,dw:=S.dw+bs.length}
def PS.inned (S:PS)(c:Nat)(n:PN)(bs:Bs):PS:={S with M:=S.M.set (c-1) (some {n with dbs:=setL n.dbs S.dw bs}),dw:=S.dw+bs.length}
inductive Wrt (bs:Bs):PS→PS→Prop
 | none {S:PS}:bs=[]→Wrt bs S S
 | disk {S:PS} {c:Nat} {n:PN}:S.cur=some c→1≤c→S.M[c-1]? = some (some n)→0<bs.length→n.flags=262144→S.dw+bs.length≤S.dm→S.dm<9223372036854775808→S.pos+bs.length≤S.max→Wrt bs S (S.wrote bs)
 | inode {S:PS} {c:Nat} {n:PN}:S.cur=some c→1≤c→S.M[c-1]? = some (some n)→0<bs.length→n.flags=268697600→S.dw+bs.length≤S.dm→S.dm=n.dbs.length→n.dbs.length≤1000000→Wrt bs S (S.inned c n bs)
theorem G1 {wb:Nat}{S S':PS}{v:Value}{bs:Bs}(p:BM wb ad S x h)(d:RdX x v bs)(f:Wrt bs S S')(K:∀ h,BM wb ad S' x h→Q (.tuple #[.int .i64 (bs.length:Nat),.nilIface]) h):f57 (Pt wb) v h Q:=by
 obtain⟨s,L,tr,a,w⟩:=p
 cases f with
 | none hb=>
  subst hb
  obtain⟨a',c',hv⟩:=d.len
  exact AEp hv (K h ⟨s,L,tr,a,w⟩)
 | disk hc h1 hn hp hfl hfit hdm hm=>
  rename_i c n
  obtain⟨m,hm',rfl⟩:=CF (a.M▸hn)
  obtain⟨w',hnum⟩:=CG a.ok h1 hm' w
  rw[←a.wb]
  refine AHj (nb:=ad c) (n:=m) (x:=m.dr+(m.xr+m.kr ad)+(tr+sumR ad (L.set (c-1) none))+x) a.ok.ws (w'.cast (by unfold Nd.res;rw[hnum];ac_rfl)) d.addR (by rw[a.cur,hc];rfl) hfl hp (by rw[a.dw,a.dm];exact hfit) (by rw[a.dm];exact hdm) (by rw[a.pos,a.max];exact hm) (by rw[a.dpos,a.pos]) fun dv r h okw w=>?_
  refine K h ⟨_,L,tr,⟨a.ok.ws' (s':={s with dv:=dv,dr:=r,B:=BG s.B s.pos bs,dpos:=s.pos+bs.length,pos:=s.pos+bs.length,dw:=s.dw+bs.length}) okw rfl,a.wb,a.ini,a.M,?_,?_,?_,?_,a.dm,a.cur,a.inl,a.max,a.gd,a.db⟩,w.cast ?_⟩
  ·show BG s.B s.pos bs=BG S.B S.pos bs
   rw[a.B,a.pos]
  ·show s.pos+bs.length=S.pos+bs.length
   rw[a.pos]
  ·show s.pos+bs.length=S.pos+bs.length
   rw[a.pos]
  ·show s.dw+bs.length=S.dw+bs.length
   rw[a.dw]
  ·unfold FR
   rw[Fs hm']
   unfold Nd.res
   rw[hnum]
   ac_rfl
 | inode hc h1 hn hp hfl hfit hdm hbig=>
  rename_i c n
  obtain⟨m,hm',rfl⟩:=CF (a.M▸hn)
  obtain⟨w',hnum⟩:=CG a.ok h1 hm' w
  have hnd:=a.ok.ndOK hm'
  rw[←a.wb]
  refine AHG (nb:=ad c) (n:=m) (dbs:=m.dbs) (r:=m.dr) (x:=m.xr+m.kr ad+(tr+sumR ad (L.set (c-1) none))+x) a.ok.ws (w'.cast (by unfold Nd.res;rw[hnum];ac_rfl)) d.addR (by rw[a.cur,hc];rfl) hfl hnd.1.1 hp (by rw[a.dw,a.dm];exact hfit) (by rw[a.dm];exact hdm) hbig fun dv dr h bd w hdv=>?_
  have hl:=(A02.1 hm').1
  refine K h ⟨{s with dw:=s.dw+bs.length},L.set (c-1) (some {m with dbs:=setL m.dbs s.dw bs,dr:=dr}),tr,⟨F7 a.ok ⟨a.ok.ws.buf,a.ok.ws.len,a.ok.ws.max⟩ rfl hm' rfl ⟨⟨by rw[←hdv];exact bd,hnd.1.2.1,hnd.1.2.2.1,hnd.1.2.2.2.1,hnd.1.2.2.2.2⟩,hnd.2⟩,a.wb,a.ini,?_,a.B,a.pos,a.dpos,?_,a.dm,a.cur,a.inl,a.max,a.gd,a.db⟩,w.cast ?_⟩
  ·unfold pnL PS.inned
   rw[B22,←a.M,←a.dw]
   rfl
  ·show s.dw+bs.length=S.dw+bs.length
   rw[a.dw]
  ·unfold FR
   rw[GN hl]
   unfold Nd.res Nd.kr
   dsimp only
   rw[show ad m.num=ad c by rw[hnum]]
   ac_rfl
def PS.made (S:PS)(d:Nat)(q:PN)(es:List (Bs×Nat))(e:Bs)(f:FL):PS:=
 let p:=newP f (S.M.length+1) S.inl
 let T:={S with M:=D0 S.M d q p es e}
 if kindB (modeK f.mode)=32768 then {T with cur:=some (S.M.length+1),dw:=0,dm:=f.size} else T
structure FileOK (f:FL):Prop where
 mode:f.mode<65536
 kind:kindOk (kindB (modeK f.mode))
 at_:f.at_.ok
 ct:f.ct.ok
 mt:f.mt.ok
 cr:f.cr.ok
 size:f.size≤137438953472
theorem K3 {wb fb:Nat}{S:PS}{nm e:Bs}{st:List Bs}{d:Nat}{q:PN}{es:List (Bs×Nat)}{f:FL}(hfin:∀ Q:Kt,(∀ ad h,BM wb ad S (pts fb (.cells ⟨f.cells (.map none)⟩ 191 (0,0))+x) h→Q .nilIface h)→UX (Pt wb) h Q)(g:JX x)
  (hcur:S.cur=none) (hlen:S.M.length<9999) (hroot:∃ n,S.M[1]? = some (some n)) (hl:nm.length≤100000) (hst:cleanR nm=st++[e]) (he:e.length≤255) (hwalk:walkP S.M 2 st=some d)
  (hd1:1≤d) (hdn:S.M[d-1]? = some (some q)) (hdir:kindB q.mode=16384) (hdd:q.kids=some es) (hf:lookE es e=none) (hlk:q.links<65000) (fo:FileOK f) (K:∀ ad h,BM wb ad (S.made d q es e f) x h→Q .nilIface h):f55 (Pt wb) (str nm) (Pt fb) h Q:=by
 unfold f55 Ucl Unf Ucm Ucg
 refine ND (hfin _ fun ad h p=>?_)
 obtain⟨s,L,tr,a,w⟩:=p
 obtain⟨dn,hdn',hq⟩:=CF (a.M▸hdn)
 obtain⟨q0,hq0⟩:=hroot
 rw[←a.M] at hq0
 obtain⟨nr,hnr,_⟩:=CF hq0
 subst hq
 obtain⟨mb,hmb⟩:∃ mb,dn.dir=some (mb,es):=by
  have:dn.dir.map (·.2)=some es:=hdd
  rw[A74] at this
  obtain⟨⟨a,b⟩,h1,h2⟩:=this
  cases h2
  exact⟨a,h1⟩
 have hlenM:L.length=S.M.length:=by rw[←a.M];simp[pnL]
 have hcurs:s.cur=.pointer none:=by rw[a.cur,hcur];rfl
 rw[←a.wb]
 simp (disch:=omega) only[go_sem]
 refine ACn (s92 (must:=false) a.ok w ⟨by omega,nr,hnr⟩ hl hst he (by rw[←OY,a.M];exact hwalk) hdn' hd1 hdir (by simp) fun h w=>?_)
 have hch:Dv L d e=none:=by unfold Dv;rw[hdn'];simp only;rw[hmb];exact hf
 rw[hch]
 simp (disch:=omega) only[go_sem,ptrC,AF w]
 obtain⟨w',hnum⟩:=CG a.ok hd1 hdn' w
 have hlk':dn.links<65000:=hlk
 have fin:IL Q (Pt s.wb) (str nm) (Pt fb) (Pt (ad d)) (.pointer none) (str e) (.pointer none) h:=AFI a.ok g w hcurs (by omega) hd1 hdn' hmb hf hlk fo.mode fo.kind fo.at_ fo.ct fo.mt fo.cr fo.size fun n nb inv tr' h isn ok w=>by
  refine K _ h ⟨_,_,_,⟨ok,?_,?_,?_,?_,?_,?_,?_,?_,?_,?_,?_,?_,?_⟩,w⟩
  all_goals try rw[isn.mode]
  all_goals try unfold WS.opened
  all_goals try unfold PS.made
  ·split<;>exact a.wb
  ·split<;>exact a.ini
  ·rw[Zz,isn.pn,a.M,hlenM,a.inl];split<;>rfl
  ·split<;>exact a.B
  ·split<;>exact a.pos
  ·split<;>exact a.dpos
  ·split<;>first|rfl|exact a.dw
  ·split<;>first|rfl|exact a.dm
  ·rw[←hlenM]
   split
   ·show Pt nb=Pt (Jy ad (L.length+1) nb (L.length+1))
    unfold Jy;rw[A03 rfl]
   ·show s.cur=ptrC _ S.cur
    rw[a.cur,hcur];rfl
  ·split<;>exact a.inl
  ·split<;>exact a.max
  ·split<;>exact a.gd
  ·split<;>exact a.db
 have hand:(f.mode &&& 61440)=kindB f.mode:=rfl
 have hfm:=fo.mode
 simp (disch:=omega) only[go_sem,AF w]
 refine C3 (fun hkd=>?_) (fun hkd=>fin)
 rw[←hnum] at fin ⊢
 simp (disch:=omega) only[go_sem,AF w',A08]
 exact fin
end
section
variable {h:H} {k:Value→Prop} {kt Q:Kt} {x y r:Res}
theorem C4 {T:TypeId}{z:Option Value}{zv:Value}{kl kc:IntKind}{by_ n m:Nat}(w:AN x h)(hz:z=some zv)(hc:zv.cells=#[zv])(hn:n≤m)(hb:m*by_≤140737488355328)(hm:m≤140737488355328)
  (K:∀ b h,AN (pts b (.cells ⟨List.replicate m zv⟩ T (0,0))+x) h→kt (.slice (some ⟨b,0,none⟩) n m) h):AY z 1 by_ T (.int kl (n:Int)) (.int kc (m:Int)) h kt:=
 ⟨kl,kc,n,m,zv,rfl,rfl,hz,by omega,by omega,by rw[←Int.natCast_mul];omega,by omega,fun b h' e hb ho=>by
  rw[A67,A77,CY hc] at ho
  simpa using K b h' (w.new e hb ho)⟩
theorem Le {zv:Value}(hc:zv.cells=#[zv])(n:Nat):Builtin.zeroCells zv.cells n=⟨List.replicate n zv⟩:=by
 unfold Builtin.zeroCells
 rw[hc]
 apply A56
 apply A60
 intro i
 simp
 by_cases h:i<n<;>simp[h,Nat.mod_one]
theorem Ob {T:TypeId}{by_ n m:Nat}{z:Option Value}{zv v:Value}{vs:List Value}{kk:IntKind}(d:Vec T 1 v n vs r)(w:AN (r+x) h)(hz:z=some zv)(hzs:zv.cells=#[zv])(ho:Value.oneCell' zv=true)
  (hb:(n+m)*by_≤140737488355328) (hb2:n+m≤140737488355328) (hb3:m*by_≤140737488355328) (K:∀ v r h,Vec T 1 v (n+m) (vs++List.replicate m zv) r→AN (r+x) h→kt v h):CI T z 1 by_ v (.int kk (m:Int)) h kt:=by
 refine⟨kk,m,zv,rfl,by omega,by rw[←Int.natCast_mul];omega,by omega,hz,?_⟩
 rw[A77,A67]
 have e:(if m=0 then (#[]:Array Value) else Builtin.zeroCells zv.cells m)=⟨List.replicate m zv⟩:=by
  rw[Le hzs]
  split
  ·rename_i h;subst h;rfl
  ·rfl
 rw[e]
 exact IP d w hz (by rw[hzs];rfl) hb hb2 (by rw[List.all_replicate];simp[ho]) (by simp) K
def t0:Tm:=⟨false,0,0⟩
def dirF (m:Nat):FL:=⟨[],0,m,0,0,t0,t0,t0,t0,0,0⟩
def lostN:Bs:=[108,111,115,116,43,102,111,117,110,100]
def Fk (max:Nat):Nat:=(((max-1)/4096+1-1)/32768+1-1)/128+1
def rootP (inl:Bool):PN:={newP (dirF 16877) 2 inl with links:=2}
def M1 (inl:Bool):List (Option PN):=[none,some (rootP inl)]++List.replicate 8 none
def S1 (B:Bs)(inl:Bool)(max db:Nat):PS:=⟨M1 inl,B,(1+Fk max)*4096,none,0,0,inl,max,Fk max,db⟩
def S2 (B:Bs)(inl:Bool)(max db:Nat):PS:=(S1 B inl max db).made 2 (rootP inl) [] lostN (dirF 16832)
theorem TG:FileOK (dirF 16832):=⟨by decide,by unfold kindOk;decide,by unfold Tm.ok;decide,by unfold Tm.ok;decide,by unfold Tm.ok;decide,by unfold Tm.ok;decide,by decide⟩
theorem Dr:FileOK (dirF 16877):=⟨by decide,by unfold kindOk;decide,by unfold Tm.ok;decide,by unfold Tm.ok;decide,by unfold Tm.ok;decide,by unfold Tm.ok;decide,by decide⟩
theorem F6 (inl:Bool):kindB (rootP inl).mode=16384:=by
 show kindB (modeK 16877)=16384
 decide
theorem Qh (inl:Bool):(rootP inl).kids=some []:=by
 show (if kindB (modeK 16877)=16384 then some [] else none)=some []
 rw[A03 (by decide)]
theorem M0:AG TP 191=some (.agg ⟨(FL.cells (dirF 0) (.map none))⟩):=by kernel_rfl
theorem Xf {s s':WS}{ad:Nat→Nat}{L:List (Option Nd)}{tr tr':Res}{m:Nat}(ok:FOK s ad L tr)(hs:s'.OK)(hv:Vec 182 1 s'.inv (L.length+m) (L.map (ptrO ad)++List.replicate m (.pointer none)) tr')(hlen:L.length+m≤10000):FOK s' ad (L++List.replicate m none) tr':=by
 have hg:∀ (i:Nat) (n:Nd),(L++List.replicate m none)[i]? = some (some n)→L[i]? = some (some n):=by
  intro i n hi
  rcases A66 i L.length with h|h
  ·rwa [A18 h] at hi
  ·rw[A17 h,B18] at hi
   split at hi<;>cases hi
 have hg':∀ (i:Nat) (n:Nd),L[i]? = some (some n)→(L++List.replicate m none)[i]? = some (some n):=fun (i:Nat) (n:Nd) hi=>by
  rw[A18 (A02.1 hi).1];exact hi
 refine⟨hs,?_,fun i n hi=>ok.num i n (hg i n hi),fun i n hi=>ok.nd i n (hg i n hi),fun i n mb es hi hd e he=>?_,by simp;omega⟩
 ·rw[A36,B03,A01,A09];exact hv
 ·obtain⟨h1,c,h2⟩:=ok.kid i n mb es (hg i n hi) hd e he
  exact⟨h1,c,hg' _ _ h2⟩
theorem MR {ad:Nat→Nat}{L:List (Option Nd)}:∀ m,sumR ad (L++List.replicate m none)=sumR ad L
 | 0=>by simp
 | m+1=>by
  have:L++List.replicate (m+1) none=(L++List.replicate m none)++[none]:=by rw[A12,List.replicate_succ']
  rw[this,Dx,MR m]
  rfl
theorem AG6 {s:WS}(ok:s.OK)(g:JX x)(w:AN (s.res+x) h)(hcur:s.cur=.pointer none)(hdw:s.dw=0)(hdm:s.dm=0)(hmax:4096≤s.max)(hi:∃ a n c,s.inv=.slice a n c)(K:∀ ad h,BM s.wb ad (S2 s.B s.inl s.max s.db) x h→Q .nilIface h):ADb (Pt s.wb) h Q:=by
 have hmx:=ok.max
 unfold ADb Uff Ucl Unf
 refine C4 (n:=1) (m:=32) (zv:=.pointer none) w Hi rfl (by omega) (by omega) (by omega) fun tb h w=>?_
 simp (disch:=omega) only[go_sem,AF w]
 refine AL w (WS.cells {s with inv:=.slice (some ⟨tb,0,none⟩) 1 32}) rfl rfl (by simp) rfl fun h w=>?_
 refine Au M0 rfl (rs:=FL.cells (dirF 16877) (.map none)) rfl (BJ w fun fb h w=>?_)
 have ok0:FOK {s with inv:=.slice (some ⟨tb,0,none⟩) 1 32} (fun _=>0) [none] (pts tb (.cells ⟨List.replicate 32 (.pointer none)⟩ 182 (0,0))):=by
  refine⟨⟨ok.buf,ok.len,ok.max⟩,?_,?_,?_,?_,by simp⟩
  ·exact Vec.own' (by omega) (by simp) (by simp[ptrO])
  ·intro i n hi;rcases i with _|i<;>simp at hi
  ·intro i n hi;rcases i with _|i<;>simp at hi
  ·intro i n mb es hi;rcases i with _|i<;>simp at hi
 refine V0 (s95 (s:={s with inv:=.slice (some ⟨tb,0,none⟩) 1 32}) (f:=dirF 16877) (x:=x) ok0 g (w.cast ?_) (by simp) Dr.mode Dr.kind Dr.at_ Dr.ct Dr.mt Dr.cr Dr.size fun n nb inv tr' fm h isn ok1 w=>?_)
 ·unfold FR
  simp only[sumR,ndR,Res.add_zero]
  unfold WS.res
  ac_rfl
 simp (disch:=omega) only[go_sem]
 have hn1:([none]++[some n]:List (Option Nd))[2-1]? = some (some n):=rfl
 have hlk:n.links=1:=isn.links
 have hinv:=ok1.vec
 obtain⟨⟨ia,ic,hiv⟩,_⟩:=hinv.len
 have hiv:inv=.slice ia 2 ic:=hiv
 obtain⟨w',hnum⟩:=CG (c:=2) ok1 (by omega) hn1 w
 have had:(fun k=>if k=([none]:List (Option Nd)).length+1 then nb else (fun _=>0) k) n.num=nb:=by rw[hnum];rfl
 unfold Nd.res at w'
 rw[had] at w'
 simp (disch:=omega) only[go_sem,AF w',hlk]
 refine AL w' (Nd.cells {n with links:=2}) rfl rfl (by simp) rfl fun h w=>?_
 have e8:(AD .sub (.int .i64 11) (.int .i64 ((2:Nat):Int)))=fun k=>k (.int .i64 9):=funext fun k=>by rw[Bv];rfl
 have e7:(AD .sub (.int .i64 9) (.int .i64 1))=fun k=>k (.int .i64 ((8:Nat):Int)):=funext fun k=>by rw[Bv];rfl
 simp (disch:=omega) only[go_sem,AF w,hiv,e8,e7]
 rw[hiv] at hinv
 refine Ob (r:=tr') (x:=WS.res {s with inv:=.slice ia 2 ic}+(pts nb (.cells (Nd.cells {n with links:=2}) 197 (0,0))+(n.dr+(n.xr+n.kr (fun k=>if k=([none]:List (Option Nd)).length+1 then nb else (fun _=>0) k)))+x)) hinv (AN.left (y:=sumR (fun k=>if k=([none]:List (Option Nd)).length+1 then nb else (fun _=>0) k) (([none]++[some n]:List (Option Nd)).set (2-1) none)+pts fb (.cells ⟨(dirF 16877).cells (.map (some fm))⟩ 191 (0,0))) (w.cast (by rw[hiv];ac_rfl))) Hi rfl rfl (by simp) (by simp) (by simp) fun v tr2 h dv w=>?_
 obtain⟨⟨va,vc,hv⟩,_⟩:=dv.len
 subst hv
 refine AL w (WS.cells {s with inv:=.slice va (([none]++[some n]:List (Option Nd)).length+8) vc}) rfl rfl (by simp) rfl fun h w=>?_
 simp (disch:=omega) only[go_sem,AF w]
 have hgd:Fk s.max<2000:=by unfold Fk;omega
 refine AL w (WS.cells {s with inv:=.slice va (([none]++[some n]:List (Option Nd)).length+8) vc,gd:=Fk s.max}) rfl rfl (by simp) rfl fun h w=>?_
 have eg:(AD .add (.int .u32 1) (.int .u32 (Fk s.max:Nat)))=fun k=>k (.int .u32 ((1+Fk s.max:Nat):Int)):=funext fun k=>by rw[A0,←JR (m:=1+Fk s.max) (by omega)];rfl
 simp (disch:=omega) only[go_sem,AF w,eg]
 refine Jt (AAG (s:={s with inv:=.slice va (([none]++[some n]:List (Option Nd)).length+8) vc,gd:=Fk s.max}) (w.cast (y:=WS.res {s with inv:=.slice va (([none]++[some n]:List (Option Nd)).length+8) vc,gd:=Fk s.max}+(tr2+(pts nb (.cells (Nd.cells {n with links:=2}) 197 (0,0))+(n.dr+(n.xr+n.kr (fun k=>if k=([none]:List (Option Nd)).length+1 then nb else (fun _=>0) k)))+x))) (by unfold WS.res;ac_rfl)) (by omega) fun h w=>?_)
 refine AL w (WS.cells {s with inv:=.slice va (([none]++[some n]:List (Option Nd)).length+8) vc,gd:=Fk s.max,dpos:=(1+Fk s.max)*4096,pos:=(1+Fk s.max)*4096,ini:=true}) rfl rfl (by simp) rfl fun h w=>?_
 refine Au M0 rfl (rs:=FL.cells (dirF 16832) (.map none)) rfl (BJ w fun fb2 h w=>?_)
 have hname:(Value.string ⟨#[108,111,115,116,43,102,111,117,110,100]⟩)=str lostN:=rfl
 rw[hname]
 have hnd:=ok1.ndOK hn1
 have hpn:Nd.pn {n with links:=2}=rootP s.inl:=by
  have:=isn.pn (f:=dirF 16877)
  show {n.pn with links:=2}=_
  rw[this];rfl
 have p:BM s.wb (fun k=>if k=([none]:List (Option Nd)).length+1 then nb else (fun _=>0) k) (S1 s.B s.inl s.max s.db) (pts fb2 (.cells ⟨(dirF 16832).cells (.map none)⟩ 191 (0,0))+x) h:=by
  refine⟨{s with inv:=.slice va (([none]++[some n]:List (Option Nd)).length+8) vc,gd:=Fk s.max,dpos:=(1+Fk s.max)*4096,pos:=(1+Fk s.max)*4096,ini:=true},[none,some {n with links:=2}]++List.replicate 8 none,tr2,⟨?_,rfl,rfl,?_,rfl,rfl,rfl,hdw,hdm,hcur,rfl,rfl,rfl,rfl⟩,w.cast ?_⟩
  ·have:=F7 (s':={s with inv:=inv}) ok1 ok1.ws rfl hn1 (n':={n with links:=2}) rfl ⟨⟨hnd.1.1,hnd.1.2.1,hnd.1.2.2.1,by show 2<100000;omega,hnd.1.2.2.2.2⟩,hnd.2⟩
   exact Xf this ⟨ok.buf,ok.len,ok.max⟩ dv (by simp)
  ·show pnL _=M1 s.inl
   unfold pnL M1
   rw[A36,B03]
   simp only[A33,B46,Option.map_none,A80,hpn]
  ·unfold FR
   rw[MR]
   simp only[sumR,ndR,Res.add_zero,Res.zero_add]
   unfold Nd.res
   dsimp only
   have hnum':n.num=([none]:List (Option Nd)).length+1:=hnum
   rw[A03 hnum']
   unfold WS.res Nd.kr
   ac_rfl
 refine Xm (K3 (f:=dirF 16832) (e:=lostN) (st:=[]) (d:=2) (q:=rootP s.inl) (es:=[]) (fun Q kk=>Jq p (.none rfl) (kk _)) g rfl (by show (M1 s.inl).length<9999;unfold M1;simp) ⟨_,rfl⟩ (by decide) (by decide) (by decide) rfl (by omega) rfl (F6 _) (Qh _) rfl (by show 2<65000;omega) TG fun ad3 h p=>?_)
 have p':BM s.wb ad3 (S2 s.B s.inl s.max s.db) x h:=p
 obtain⟨s3,L3,tr3,a3,w3⟩:=p
 rw[←a3.wb]
 simp (disch:=omega) only[go_sem,AF w3]
 exact K ad3 h p'
end
section
set_option maxRecDepth 100000
def ABs (a:Value)(h:H)(Q:Kt):Prop:=
 AD .and a (.int .u16 61440) fun a=>Ucm .eql a (.int .u16 32768)
 (Q (.int .u8 1) h)
 (Ucm .eql a (.int .u16 16384)
 (Q (.int .u8 2) h)
 (Ucm .eql a (.int .u16 8192)
 (Q (.int .u8 3) h)
 (Ucm .eql a (.int .u16 24576)
 (Q (.int .u8 4) h)
 (Ucm .eql a (.int .u16 4096)
 (Q (.int .u8 5) h)
 (Ucm .eql a (.int .u16 49152)
 (Q (.int .u8 6) h)
 (Ucm .eql a (.int .u16 40960)
 (Q (.int .u8 7) h)
 (Q (.int .u8 0) h)))))))
theorem AAk {a:Value}{h:H}{Q:Kt}(x:ABs a h Q):Call TP 203 [a] h Q:=Bb nT Tryz.func203 (by kernel_rfl) x
def AAS (a:Value)(h:H)(Q:Kt):Prop:=
 BB 347 (a:Value).cells h fun a h=>Ufl 0 a h fun b=>Ucl 172 [(.slice none 0 0),b] h fun b h=>Ufl 1 a h fun c=>Ucl 173 [b,c] h fun b h=>Ufl 2 a h fun c=>AH (.arr 1) 5 (AG TP 5) 1 1 [(0,c)] h fun c h=>AM 5 (AG TP 5) 1 1 b c h fun b h=>Ufl 3 a h fun a=>AH (.arr 1) 5 (AG TP 5) 1 1 [(0,a)] h fun a h=>AM 5 (AG TP 5) 1 1 b a h fun a h=>Q a h
theorem SW {a:Value}{h:H}{Q:Kt}(x:AAS a h Q):Call TP 201 [a] h Q:=Bb nT Tryz.func201 (by kernel_rfl) x
def QL (Q:Kt)(r1:R1)(a b c d f g i:Value)(h:H):Prop:=
 Ucm .lss i g
 (Uil f i h fun a=>Uld b h fun b=>Unf 17 b h fun b=>CC (some .string) (AG TP 182) false b a h fun b=>Unf 5 b h fun b=>Bj TP d [b,a] h fun a h=>Bq .iface true true h a .nilIface fun b=>AK b
 (Q a h)
 (AD .add i (.int .i64 1) fun a=>r1 a h))
 (Uld c h fun b=>Bj TP b [] h fun b h=>Bq .iface true true h b .nilIface fun c=>AK c
 (Q b h)
 (Uld a h fun b=>Unf 3 b h fun b=>Uld a h fun c=>Unf 5 c h fun c=>Uff 0 b fun b=>AJ 1 b c h fun h=>Uld a h fun b=>Uld a h fun a=>Unf 5 a h fun a=>Uff 6 b fun b=>AJ 1 b a h fun h=>Q .nilIface h))
def Pu (Q:Kt)(a b c d f g i:Value)(h:H):Prop:=A1 (fun r1 i h=>QL Q r1 a b c d f g i h) i h
def R9 (Q:Kt)(r2:R1)(r3:R1)(a b c d f g i j:Value)(h:H):Prop:=
 Uld f h fun a=>Uld f h fun b=>AD .sub j (.int .i64 1) fun c=>Uld f h fun d=>AD .sub j (.int .i64 1) fun g=>Uil d g h fun d=>Uld f h fun g=>Uil g j h fun g=>AI (.slice 1) a j fun a=>AJ 1 a d h fun h=>((Ukp f h b)∧AI (.slice 1) b c fun a=>AJ 1 a g h fun h=>AD .sub j (.int .i64 1) fun a=>r3 a h)
def Qg (Q:Kt)(r2:R1)(r3:R1)(a b c d f g i j:Value)(h:H):Prop:=
 Ucg .gtr j (.int .i64 0) (AD .sub j (.int .i64 1) fun k=>Bj TP g [j,k] h fun k h=>AK k
 (R9 Q r2 r3 a b c d f g i j h)
 (AD .add i (.int .i64 1) fun a=>r2 a h)) (AD .add i (.int .i64 1) fun a=>r2 a h)
def Vu (Q:Kt)(r2:R1)(a b c d f g i j:Value)(h:H):Prop:=A1 (fun r3 j h=>Qg Q r2 r3 a b c d f g i j h) j h
def P7 (Q:Kt)(r2:R1)(a b c d f g i:Value)(h:H):Prop:=
 Uld f h fun j=>Ab j fun j=>Ucm .lss i j
 (Vu Q r2 a b c d f g i i h)
 (Uld f h fun f=>Ab f fun g=>Pu Q a b c d f g (.int .i64 0) h)
def Qb (Q:Kt)(a b c d f g i:Value)(h:H):Prop:=A1 (fun r2 i h=>P7 Q r2 a b c d f g i h) i h
def RY (Q:Kt)(r4:R0)(a b c d f g:Value)(h:H):Prop:=
 HM g h fun i h=>AO i 0 fun i=>AK i
 (Hb g h fun a=>AO a 0 fun a=>Uld f h fun b=>AH (.arr 1) 9 (AG TP 9) 1 1 [(0,a)] h fun a h=>AM 9 (AG TP 9) 1 16 b a h fun a h=>AJ 1 f a h fun h=>r4 h)
 (Qb Q a b c d f (.func (.func 204) #[] #[b,f]) (.int .i64 1) h)
def Qf (Q:Kt)(a b c d f g:Value)(h:H):Prop:=Kv (fun r4 h=>RY Q r4 a b c d f g h) h
def AEW (a b c:Value)(h:H)(Q:Kt):Prop:=
 BB 126 (a:Value).cells h fun a h=>BB 182 (b:Value).cells h fun b h=>Uld a h fun d=>Ucl 91 [d] h fun d h=>Bq .iface true true h d .nilIface fun f=>AK f
 (Q d h)
 (Uld a h fun d=>Uld b h fun f=>Ucl 96 [d,(.string ⟨#[]⟩),f,(.int .i64 9223372036854775807)] h fun _ h=>Umk 3 h fun d h=>AJ 1 d (.int .i64 4096) h fun h=>Umk 141 h fun f h=>AJ 1 f (.func (.func 200) #[] #[d,a]) h fun h=>Uld b h fun g=>Unf 5 g h fun g=>Bj TP (.func (.func 202) #[] #[d,f,a]) [g,(.string ⟨#[46]⟩)] h fun g h=>Bq .iface true true h g .nilIface fun i=>AK i
 (Q g h)
 (Unf 5 c h fun c=>Bj TP (.func (.func 202) #[] #[d,f,a]) [c,(.string ⟨#[46,46]⟩)] h fun c h=>Bq .iface true true h c .nilIface fun g=>AK g
 (Q c h)
 (Umk 49 h fun c h=>Uld b h fun g=>Unf 17 g h fun g=>D5 g h fun g h=>Qf Q a b f (.func (.func 202) #[] #[d,f,a]) c g h)))
def AGr (Q:Kt)(r:RS):Nat→DJ:=tab [(131061,.lp [3,4,9,10,99,100] [101] fun s e l h=>QL Q (u1 s) (e 3) (e 4) (e 9) (e 10) (e 99) (e 100) (gl l 0) h),
 (16774290,.jn fun e h=>R9 Q (u1 (r 32762)) (u1 (r 2096786)) (e 3) (e 4) (e 9) (e 10) (e 13) (e 15) (e 16) (e 17) h),
 (4193573,.lp [3,4,9,10,13,15,16] [17] fun s e l h=>Qg Q (u1 (r 32762)) (u1 s) (e 3) (e 4) (e 9) (e 10) (e 13) (e 15) (e 16) (gl l 0) h),
 (65525,.lp [3,4,9,10,13,15] [16] fun s e l h=>P7 Q (u1 s) (e 3) (e 4) (e 9) (e 10) (e 13) (e 15) (gl l 0) h),
 (16373,.lp [3,4,9,10,13,55] [] fun s e l h=>RY Q (u0 s) (e 3) (e 4) (e 9) (e 10) (e 13) (e 55) h)]
theorem AAa {a b c:Value}{h:H}{Q:Kt}(x:AEW a b c h Q):Call TP 166 [a,b,c] h Q:=Bb (AGr Q) Tryz.func166 (by kernel_rfl) x
def Rt (Q:Kt)(r1:R1)(a b c d f:Value)(h:H):Prop:=
 Ucm .lss f d
 (Uil c f h fun c=>Uld b h fun d=>Unf 17 d h fun d=>CC (some .string) (AG TP 182) false d c h fun c=>Ucl 93 [c] h fun d h=>AK d
 (Uld b h fun b=>Ucl 112 [a,c,b] h fun a h=>Bq .iface true true h a .nilIface fun b=>AK b
 (Q a h)
 (AD .add f (.int .i64 1) fun a=>r1 a h))
 (AD .add f (.int .i64 1) fun a=>r1 a h))
 (Q .nilIface h)
def RI (Q:Kt)(a b c d f:Value)(h:H):Prop:=A1 (fun r1 f h=>Rt Q r1 a b c d f h) f h
def Q8 (Q:Kt)(r2:R1)(r3:R1)(a b c d f g:Value)(h:H):Prop:=
 Uld c h fun a=>Uld c h fun b=>AD .sub g (.int .i64 1) fun d=>Uld c h fun f=>AD .sub g (.int .i64 1) fun i=>Uil f i h fun f=>Uld c h fun i=>Uil i g h fun i=>AI (.slice 1) a g fun a=>AJ 1 a f h fun h=>((Ukp c h b)∧AI (.slice 1) b d fun a=>AJ 1 a i h fun h=>AD .sub g (.int .i64 1) fun a=>r3 a h)
def Rf (Q:Kt)(r2:R1)(r3:R1)(a b c d f g:Value)(h:H):Prop:=
 Ucg .gtr g (.int .i64 0) (AD .sub g (.int .i64 1) fun i=>Bj TP d [g,i] h fun i h=>AK i
 (Q8 Q r2 r3 a b c d f g h)
 (AD .add f (.int .i64 1) fun a=>r2 a h)) (AD .add f (.int .i64 1) fun a=>r2 a h)
def Wi (Q:Kt)(r2:R1)(a b c d f g:Value)(h:H):Prop:=A1 (fun r3 g h=>Rf Q r2 r3 a b c d f g h) g h
def Q7 (Q:Kt)(r2:R1)(a b c d f:Value)(h:H):Prop:=
 Uld c h fun g=>Ab g fun g=>Ucm .lss f g
 (Wi Q r2 a b c d f f h)
 (Uld c h fun c=>Ab c fun d=>RI Q a b c d (.int .i64 0) h)
def Rs (Q:Kt)(a b c d f:Value)(h:H):Prop:=A1 (fun r2 f h=>Q7 Q r2 a b c d f h) f h
def Qu (Q:Kt)(r4:R0)(a b c d:Value)(h:H):Prop:=
 HM d h fun f h=>AO f 0 fun f=>AK f
 (Hb d h fun a=>AO a 0 fun a=>Uld c h fun b=>AH (.arr 1) 9 (AG TP 9) 1 1 [(0,a)] h fun a h=>AM 9 (AG TP 9) 1 16 b a h fun a h=>AJ 1 c a h fun h=>r4 h)
 (Rs Q a b c (.func (.func 167) #[] #[b,c]) (.int .i64 1) h)
def Vm (Q:Kt)(a b c d:Value)(h:H):Prop:=Kv (fun r4 h=>Qu Q r4 a b c d h) h
def ZJ (a b c:Value)(h:H)(Q:Kt):Prop:=
 BB 182 (b:Value).cells h fun b h=>Uld b h fun d=>Ucl 166 [a,d,c] h fun c h=>Bq .iface true true h c .nilIface fun d=>AK d
 (Q c h)
 (Umk 49 h fun c h=>Uld b h fun d=>Unf 17 d h fun d=>D5 d h fun d h=>Vm Q a b c d h)
def AFK (Q:Kt)(r:RS):Nat→DJ:=tab [(2037,.lp [0,4,72,73] [74] fun s e l h=>Rt Q (u1 s) (e 0) (e 4) (e 72) (e 73) (gl l 0) h),
 (259218,.jn fun e h=>Q8 Q (u1 (r 506)) (u1 (r 32402)) (e 0) (e 4) (e 8) (e 10) (e 11) (e 12) h),
 (64805,.lp [0,4,8,10,11] [12] fun s e l h=>Rf Q (u1 (r 506)) (u1 s) (e 0) (e 4) (e 8) (e 10) (e 11) (gl l 0) h),
 (1013,.lp [0,4,8,10] [11] fun s e l h=>Q7 Q (u1 s) (e 0) (e 4) (e 8) (e 10) (gl l 0) h),
 (245,.lp [0,4,8,28] [] fun s e l h=>Qu Q (u0 s) (e 0) (e 4) (e 8) (e 28) h)]
theorem SZ {a b c:Value}{h:H}{Q:Kt}(x:ZJ a b c h Q):Call TP 112 [a,b,c] h Q:=Bb (AFK Q) Tryz.func112 (by kernel_rfl) x
def ADf (a b:Value)(h:H)(Q:Kt):Prop:=
 Uld a h fun c=>Ucm .gtr c (.int .i64 0)
 (Uld a h fun c=>AV .u16 c fun c=>Ae (.struct [(0,1),(1,1),(2,1),(3,1)]) (AG TP 347) [(1,c)] fun c=>Umk 347 h fun d h=>AJ 4 d c h fun h=>Uld b h fun c=>AB true 4 d h fun d=>Ucl 201 [d] h fun d h=>((Ukp b h c)∧Ucl 57 [c,d] h fun c h=>AO c 0 fun _=>AO c 1 fun c=>Bq .iface true true h c .nilIface fun d=>AK d
 (Q c h)
 (Uld a h fun c=>AD .sub c (.int .i64 8) fun c=>AJ 1 a c h fun h=>Uld a h fun c=>Ucm .lss c (.int .i64 4)
 (False )
 (Uld b h fun c=>Uld a h fun d=>AY (AG TP 5) 1 1 5 d d h fun d h=>((Ukp b h c)∧Ucl 57 [c,d] h fun b h=>AO b 0 fun _=>AO b 1 fun b=>Bq .iface true true h b .nilIface fun c=>AK c
 (Q b h)
 (AJ 1 a (.int .i64 4096) h fun h=>Q .nilIface h))))))
 (AJ 1 a (.int .i64 4096) h fun h=>Q .nilIface h)
theorem SS {a b:Value}{h:H}{Q:Kt}(x:ADf a b h Q):Call TP 200 [a,b] h Q:=Bb nT Tryz.func200 (by kernel_rfl) x
def LU (Q:Kt)(a b c d f g:Value)(h:H):Prop:=
 AV .u16 g fun i=>CL b fun j=>AV .u8 j fun j=>Uld d h fun k=>Ucl 115 [k,a] h fun k h=>Unf 6 k h fun k=>Ucl 203 [k] h fun k h=>Ae (.struct [(0,1),(1,1),(2,1),(3,1)]) (AG TP 347) [(0,a),(1,i),(2,j),(3,k)] fun a=>Umk 347 h fun i h=>AJ 4 i a h fun h=>Uld d h fun a=>AB true 4 i h fun i=>Ucl 201 [i] h fun i h=>((Ukp d h a)∧Ucl 57 [a,i] h fun a h=>AO a 0 fun _=>AO a 1 fun a=>Bq .iface true true h a .nilIface fun i=>AK i
 (Q a h)
 (Uld d h fun a=>Uv 5 b h fun b h=>Ucl 57 [a,b] h fun a h=>AO a 0 fun _=>AO a 1 fun a=>Bq .iface true true h a .nilIface fun b=>AK b
 (Q a h)
 (Umk 238 h fun a h=>Uld d h fun b=>AD .sub g f fun d=>AZ (.arr 4 1) a none (some d) fun a=>Ucl 57 [b,a] h fun a h=>AO a 0 fun _=>AO a 1 fun a=>Bq .iface true true h a .nilIface fun b=>AK b
 (Q a h)
 (Uld c h fun a=>AD .sub a g fun a=>AJ 1 c a h fun h=>Q .nilIface h))))
def ACo (a b c d f:Value)(h:H)(Q:Kt):Prop:=
 CL b fun g=>AD .add (.int .i64 8) g fun g=>AD .add g (.int .i64 3) fun i=>AD .and i (.int .i64 (-4)) fun i=>Uld c h fun j=>AD .add i (.int .i64 12) fun k=>Ucm .lss j k
 (Uld d h fun d=>Bj TP d [] h fun d h=>Bq .iface true true h d .nilIface fun j=>AK j
 (Q d h)
 (LU Q a b c f g i h))
 (LU Q a b c f g i h)
def AFt (Q:Kt)(r:RS):Nat→DJ:=tab [(62,.jn fun e h=>LU Q (e 0) (e 1) (e 2) (e 4) (e 8) (e 9) h)]
theorem Mn {a b c d e:Value}{h:H}{Q:Kt}(x:ACo a b c d e h Q):Call TP 202 [a,b,c,d,e] h Q:=Bb (AFt Q) Tryz.func202 (by kernel_rfl) x
def ADV (a b c d:Value)(h:H)(Q:Kt):Prop:=
 Uld c h fun f=>Unf 17 f h fun f=>Uld d h fun g=>Uil g a h fun g=>CC (some .string) (AG TP 182) false f g h fun f=>Unf 5 f h fun f=>Uld c h fun c=>Unf 17 c h fun c=>Uld d h fun g=>Uil g b h fun g=>CC (some .string) (AG TP 182) false c g h fun c=>Unf 5 c h fun c=>Ucm .eql f c
 (Uld d h fun c=>Uil c a h fun a=>Uld d h fun c=>Uil c b h fun b=>AD .lss a b fun a=>Q a h)
 (AD .lss f c fun a=>Q a h)
theorem AAM {a b c d:Value}{h:H}{Q:Kt}(x:ADV a b c d h Q):Call TP 204 [a,b,c,d] h Q:=Bb nT Tryz.func204 (by kernel_rfl) x
def AD9 (a b c d:Value)(h:H)(Q:Kt):Prop:=
 Uld c h fun f=>Unf 17 f h fun f=>Uld d h fun g=>Uil g a h fun g=>CC (some .string) (AG TP 182) false f g h fun f=>Unf 5 f h fun f=>Uld c h fun c=>Unf 17 c h fun c=>Uld d h fun g=>Uil g b h fun g=>CC (some .string) (AG TP 182) false c g h fun c=>Unf 5 c h fun c=>Ucm .eql f c
 (Uld d h fun c=>Uil c a h fun a=>Uld d h fun c=>Uil c b h fun b=>AD .lss a b fun a=>Q a h)
 (AD .lss f c fun a=>Q a h)
theorem Yc {a b c d:Value}{h:H}{Q:Kt}(x:AD9 a b c d h Q):Call TP 167 [a,b,c,d] h Q:=Bb nT Tryz.func167 (by kernel_rfl) x
end
end Go.Proofs.YtollddkkdgoonaaGreatDoor
