/- A part of a proof over images that are written and read. No condition; a step. -/
import Derived.Test.YtollddkkdgoonaaGreatDoorM12
namespace Go.Proofs.YtollddkkdgoonaaGreatDoor
open Go
set_option linter.unusedVariables false
set_option linter.unusedSimpArgs false
set_option maxRecDepth 100000
section
variable {h:H} {k:Value→Prop} {kt Q:Kt} {x y r:Res} {wb:Nat} {S S':PS} {ad:Nat→Nat}
attribute [local irreducible] AK Az
theorem Oq {b:Nat}:pts b (.cells ⟨List.replicate 4096 (.int .u8 0)⟩ 205 (0,0))=pts b (.cells (bcs FF) 205 (0,0)):=by
 unfold FF
 rw[Dn]
 congr 2
def IY (inl:Bool):Nat:=if inl=true then 33346 else 578
theorem ACa (F:Nat→Nat):(HE F).all Value.oneCell'=true:=by kernel_rfl
theorem ADE {a b c:Nat}:Ai ⟨HE (JQ a b c 578)⟩ 29 [.int .u32 ((33346:Nat):Int)]=(⟨HE (JQ a b c 33346)⟩:Array Value):=by kernel_rfl
theorem AGo {a b c d:Nat}:(⟨HE (JQ a b c d)⟩:Array Value)[29]? = some (.int .u32 (d:Nat)):=Bt rfl
theorem AAp {a b c:Nat}:DC (Br (.struct [(0,1),(1,1),(2,1),(3,1),(4,1),(5,1),(6,1),(7,1),(8,1),(9,1),(10,1),(11,1),(12,1),(13,1),(14,1),(15,1),(16,1),(17,1),(18,1),(19,1),(20,1),(21,1),(22,1),(23,1),(24,1),(25,1),(26,1),(27,1),(28,1),(29,1),(30,1),(31,16),(47,16),(63,64),(127,1),(128,1),(129,1),(130,1),(131,16),(147,1),(148,1),(149,1),(150,4),(154,1),(155,1),(156,1),(157,1),(158,1),(159,1),(160,17),(177,1),(178,1),(179,1),(180,1),(181,1),(182,1),(183,1),(184,1),(185,1),(186,1),(187,1),(188,1),(189,1),(190,1),(191,1),(192,1),(193,1),(194,1),(195,1),(196,1),(197,1),(198,1),(199,32),(231,1),(232,1),(233,1),(234,1),(235,1),(236,32),(268,64),(332,1),(333,1),(334,1),(335,2),(337,4),(341,16),(357,1),(358,1),(359,1),(360,1),(361,1),(362,1),(363,1),(364,1),(365,1),(366,2),(368,96),(464,1)])) (HE fun _=>0)
  [(0,.int .u32 (a:Int)),(1,.int .u32 (b:Int)),(3,.int .u32 ((0:Nat):Int)),(4,.int .u32 (c:Int)),(5,.int .u32 0),(6,.int .u32 2),(7,.int .u32 2),(8,.int .u32 32768),(9,.int .u32 32768),(10,.int .u32 (a:Int)),(15,.int .u16 61267),(16,.int .u16 1),(17,.int .u16 1),(21,.int .u32 0),(22,.int .u32 1),(25,.int .u32 11),(86,.int .u32 11),(26,.int .u16 256),(28,.int .u32 520),(29,.int .u32 578),(30,.int .u32 4170),(53,.int .u16 24),(54,.int .u16 24),(60,.int .u8 31)]=some (HE (JQ a b c 578)):=by kernel_rfl
attribute [local irreducible] HE HH Bz FF
theorem AGf {s:WS}{rec1:Value→H→Prop}{gb ipg vd u:Nat}{gv:Value}{f:Nat→Nat}(ok:s.OK)(w:AN (s.res+(gdR gb f+x)) h)(hl:4096≤s.B.length)(hi:ipg≤32768)(hvd:vd<32768)(hu:u≤ipg)
  (K:∀ dv r d p h,WS.OK {s with dv:=dv,dr:=r,B:=setL s.B 0 (Bz (JQ ipg vd (ipg-u) (IY s.inl))),dpos:=d,pos:=p}→AN (WS.res {s with dv:=dv,dr:=r,B:=setL s.B 0 (Bz (JQ ipg vd (ipg-u) (IY s.inl))),dpos:=d,pos:=p}+x) h→Q .nilIface h) :
  Mb Q rec1 (Pt s.wb) (.int .u32 ((1:Nat):Int)) (.int .u32 (ipg:Int)) (.int .u32 (vd:Int)) (.int .u32 ((32768:Nat):Int)) (.int .u32 (u:Int)) gv (.int .i64 ((128:Nat):Int)) (.int .i64 ((128:Nat):Int)) h:=by
 unfold Mb Ucm Umk Uff Uld Ucl Ukp Unf Ufl
 have e1:decide (((128:Nat):Int)<((128:Nat):Int))=false:=rfl
 rw[AT,e1,AU]
 refine Ah w AAj rfl fun bb h w=>?_
 rw[Oq] at w
 have f1:(AD .mul (.int .u32 (ipg:Int)) (.int .u32 ((1:Nat):Int)))=fun k=>k (.int .u32 (ipg:Int)):=funext fun k=>by rw[Qc,A67,JR (by omega)]
 have f2:(AD .mul (.int .u32 32768) (.int .u32 ((1:Nat):Int)))=fun k=>k (.int .u32 ((32768:Nat):Int)):=funext fun k=>by rw[Bc];rfl
 have f3:(AD .sub (.int .u32 ((32768:Nat):Int)) (.int .u32 ((32768:Nat):Int)))=fun k=>k (.int .u32 ((0:Nat):Int)):=funext fun k=>by rw[Bv];rfl
 have f4:(AD .sub (.int .u32 (ipg:Int)) (.int .u32 (u:Int)))=fun k=>k (.int .u32 ((ipg-u:Nat):Int)):=funext fun k=>by rw[Vy hu,JR (by omega)]
 simp only[f1,f2,f3,f4]
 refine Au Sl rfl AAp ?_
 refine Ah w Sl rfl fun sb h w=>?_
 refine AL w ⟨HE (JQ ipg vd (ipg-u) 578)⟩ (Ar ((Yt _).trans BP.symm)) BP (by rw[BP];exact A07 _) (ACa _) fun h w=>?_
 simp only[go_sem,AF w]
 cases hin:s.inl with
 | true=>
  rw[Ak]
  simp only[AGo,Fi]
  have f5:(AD .or (.int .u32 ((578:Nat):Int)) (.int .u32 32768))=fun k=>k (.int .u32 ((33346:Nat):Int)):=funext fun k=>by
   have:=AF5 (a:=578) (b:=32768) (k:=k) (by decide) (by decide)
   exact this
  simp only[f5]
  refine AL w ⟨HE (JQ ipg vd (ipg-u) 33346)⟩ ADE rfl (by rw[BP];decide) rfl fun h w=>?_
  refine ABU ok (w.cast (Kq8 _ _ _ _ _)) (Vv (by omega) (by omega) (by omega) (by decide)) hl (by omega) fun dv r d p h okw w=>?_
  have hinc:IY s.inl=33346:=by unfold IY;rw[hin];rfl
  rw[hinc] at K
  exact K dv r d p h okw (w.cast (Kq9 _ _ _)).left
 | false=>
  rw[AU]
  refine ABU ok (w.cast (Kq8 _ _ _ _ _)) (Vv (by omega) (by omega) (by omega) (by decide)) hl (by omega) fun dv r d p h okw w=>?_
  have hinc:IY s.inl=578:=by unfold IY;rw[hin];rfl
  rw[hinc] at K
  exact K dv r d p h okw (w.cast (Kq9 _ _ _)).left
end
section
variable {h:H} {k:Value→Prop} {kt Q:Kt} {x y r:Res} {wb:Nat} {S S':PS} {ad:Nat→Nat}
attribute [local irreducible] AK Az
theorem AAX (p:BM wb ad S x h){n:PN}(hn:S.M[1]? = some (some n))(K:Q (Pt (ad 2)) h):Yb (Pt wb) h Q:=by
 obtain⟨s,L,tr,a,w⟩:=p
 obtain⟨nd,hnd,_⟩:=CF (a.M▸hn)
 rw[←a.wb]
 refine AF0 a.ok w ?_
 unfold HJ
 rw[hnd]
 simp only[ptrO]
 rw[a.ok.num _ _ hnd]
 exact K
theorem T5 (p:BM wb ad S x h)(hp:S.pos≤S.max)(K:Q (.int .u32 (S.pos/4096:Nat)) h):ZD (Pt wb) h Q:=by
 obtain⟨s,L,tr,a,w⟩:=p
 rw[←a.wb]
 refine s100 (x:=tr+sumR ad L+x) a.ok.ws (by rw[a.pos,a.max];exact hp) (w.cast (by unfold FR;ac_rfl)) ?_
 rw[a.pos];exact K
theorem Pg {l:List Value}{k:Nat}(hl:l.length=k)(hk:0<k):∀ (n i:Nat),((List.replicate n l).flatten)[i]? = if i<n*k then l[i%k]? else none
 | 0,i=>by simp
 | n+1,i=>by
  rw[List.replicate_succ,List.flatten_cons]
  by_cases h:i<k
  ·rw[A18 (by omega),A03 (by rw[A93,B34];omega),A23 h]
  ·rw[A17 (by omega),hl,Pg hl hk n (i-k),A93,B34]
   have hm:(i-k)%k=i%k:=by
    conv=>rhs;rw[show i=i-k+k by omega]
    rw[Nat.add_mod_right]
   rw[hm]
   by_cases h2:i-k<n*k
   ·rw[A03 h2,A03 (by omega)]
   ·rw[A05 h2,A05 (by omega)]
theorem Ue {l:List Value}{k:Nat}(hl:l.length=k)(hk:0<k)(n:Nat):Ax ⟨l⟩ (n*k)=⟨(List.replicate n l).flatten⟩:=by
 apply B02
 intro i
 have e:(⟨(List.replicate n l).flatten⟩:Array Value)[i]? = ((List.replicate n l).flatten)[i]?:=by simp
 rw[e,Pg hl hk]
 unfold Ax
 rw[Array.getElem?_map,Array.getElem?_range]
 by_cases h:i<n*k
 ·rw[A03 h,A03 h]
  have hm:i%k<l.length:=by rw[hl];exact Nat.mod_lt _ hk
  have hg:l[i%k]? = some l[i%k]:=A00 hm
  subst hl
  rw[hg]
  simp[hm]
 ·rw[A05 h,A05 h];rfl
theorem Xv:Ax (Value.agg ⟨E6 fun _=>0⟩).cells (128*12)=⟨(HD fun _=>0).flatMap E6⟩:=by
 have h1:(Value.agg ⟨E6 fun _=>0⟩).cells=⟨E6 fun _=>0⟩:=rfl
 rw[h1,Ue (Ky _) (by decide)]
 have h2:HD (fun _=>0)=List.replicate 128 (fun _=>0):=rfl
 rw[h2,List.flatMap_def,B03]
theorem AD2 (w:AN x h)(K:∀ b h,AN (gdR b (fun _=>0)+x) h→kt (.slice (some ⟨b,0,none⟩) 128 128) h):AY (AG TP 226) 12 32 226 (.int .u32 ((128:Nat):Int)) (.int .u32 ((128:Nat):Int)) h kt:=
 ⟨.u32,.u32,128,128,_,rfl,rfl,NM,by omega,by omega,by omega,by omega,fun b h' e hb ho=>by
  refine K b h' (w.new e hb (ho.trans ?_))
  exact A76 (fun c=>some (Obj.cells c 226 (0,0))) Xv⟩
def BS (S:PS):Bs:=
 let ipg:=ipgOf S.M.length
 let ito:=S.pos/4096
 let M:=S.M.map (Option.map FY)
 let B1:=S.B++(Dl S.M++List.replicate (ipg*256-256*S.M.length) 0)++Db (FD M ipg) 8192
 let vd:=ito+ipg/16+2
 setL (setL B1 4096 (Bp (Pp (ito+ipg/16) ito (ipg-Dc (A8 M) ipg) (Dc (CS M) ipg)) 128)) 0 (Bz (JQ ipg vd (ipg-Dc (A8 M) ipg) (IY S.inl)))
structure ClOK (S:PS):Prop where
 tab:TabOK S.M
 B:S.B.length=S.pos
 al:S.pos%4096=0
 big:8192≤S.pos
 n1:1≤S.M.length
 n2:S.M.length≤10000
 vd:S.pos/4096+ipgOf S.M.length/16+2<32768
 max:S.pos+ipgOf S.M.length*256+8192≤S.max
 gd:S.gd=1
theorem VD (p:BM wb ad S x h):∃ a c s,s=S.M.length∧∀ k:Value→Prop,k (.slice a s c)→AE (Pt wb) fun x65=>AC 1 x65 fun x66=>AB false 1 x66 h k:=by
 obtain⟨s,L,tr,a,w⟩:=p
 obtain⟨⟨va,vc,hv⟩,_⟩:=a.ok.vec.len
 refine⟨va,vc,L.length,by rw[←a.M];simp[pnL],fun k hk=>?_⟩
 rw[←a.wb]
 simp only[go_sem,AF w]
 rw[hv]
 exact hk
attribute [local irreducible] Bp Db setL Bz JQ Pp FD Dl Dc A8 CS HD E6
theorem AEb {ipg ito:Nat}(c:ClOK S)(hipg:ipgOf S.M.length=ipg)(hito:S.pos/4096=ito)(p:BM wb ad (S.tabbed (ipg*256)) x h)
  (K:∀ h,(∃ s y,WS.OK s∧s.db=S.db∧s.B=BS S∧AN (s.res+(y+x)) h)→Q .nilIface h) :
  Po Q (Pt wb) (.int .u32 (ito:Int)) (.int .u32 ((1:Nat):Int)) (.int .u32 (ipg:Int)) (.int .u32 (ito+ipg/16:Nat)) (.int .u32 ((2:Nat):Int)) (.int .u32 (ito+ipg/16+2:Nat)) (.int .u32 (ito+ipg/16+2:Nat)) h:=by
 have h1:=c.n1
 have h2:=c.n2
 have h3:=c.vd
 have h4:=c.max
 have h5:=c.B
 have h6:=c.big
 have hi:S.M.length≤ipgOf S.M.length∧ipgOf S.M.length<S.M.length+16∧ipgOf S.M.length%16=0:=by unfold ipgOf;omega
 have htl:=FM c.tab
 rw[hipg] at hi h3 h4
 rw[hito] at h3
 have hBl:(S.tabbed (ipg*256)).B.length=(S.tabbed (ipg*256)).pos:=by
  show (S.B++(Dl S.M++List.replicate (ipg*256-256*S.M.length) 0)).length=S.pos+ipg*256
  rw[A01,A01,htl,A09]
  omega
 have hM:(S.tabbed (ipg*256)).M=S.M.map (Option.map FY):=rfl
 unfold Po Unf Ucm
 have f1:(AD .sub (.int .u32 ((1:Nat):Int)) (.int .u32 1))=fun k=>k (.int .u32 ((0:Nat):Int)):=funext fun k=>by rw[Bv];rfl
 have f2:(AD .quo (.int .u32 ((0:Nat):Int)) (.int .u32 128))=fun k=>k (.int .u32 ((0:Nat):Int)):=funext fun k=>by rw[M5 (by decide)];rfl
 have f3:(AD .add (.int .u32 ((0:Nat):Int)) (.int .u32 1))=fun k=>k (.int .u32 ((1:Nat):Int)):=funext fun k=>by rw[A0];rfl
 have f4:(AD .mul (.int .u32 ((1:Nat):Int)) (.int .u32 128))=fun k=>k (.int .u32 ((128:Nat):Int)):=funext fun k=>by rw[Bc];rfl
 have e1:decide (((1:Nat):Int)>((1:Nat):Int))=false:=rfl
 obtain⟨s,L,tr,a,w⟩:=id p
 have hsg:s.gd=1:=by rw[a.gd];exact c.gd
 have hw:s.wb=wb:=a.wb
 rw[←hw]
 have hi4:ipg*256<4294967296:=by omega
 have f5:(AD .mul (.int .u32 (ipg:Int)) (.int .u32 256))=fun k=>k (.int .u32 ((ipg*256:Nat):Int)):=funext fun k=>by rw[XV,JR hi4]
 have f6:(AD .quo (.int .u32 ((ipg*256:Nat):Int)) (.int .u32 4096))=fun k=>k (.int .u32 ((ipg*256/4096:Nat):Int)):=funext fun k=>by rw[Rb (by decide),JR (B06 (B67 _ _) hi4)]
 simp only[f1,f2,f3,f5,f6]
 simp only[go_sem,AF w,hsg,e1,f4]
 rw[hw]
 obtain⟨r0,w0,cl⟩:=p.opened
 refine AD2 w0 fun gb h w=>?_
 have p:BM wb ad (S.tabbed (ipg*256)) (gdR gb (fun _=>0)+x) h:=cl _ _ (w.cast (Res.left_comm _ _ _))
 refine AGD (S:=S.tabbed (ipg*256)) (ipg:=ipg) (vd:=ito+ipg/16+2) (bo:=ito+ipg/16) (ito:=ito) p hBl (by omega) (by show S.pos+ipg*256+8192≤S.max;omega) rfl (by omega) (by omega) c.gd fun h p=>?_
 obtain⟨s,L,tr,a,w⟩:=p
 have hcnt:=HS (A8 (S.tabbed (ipg*256)).M) ipg
 have hB2:s.B=(S.tabbed (ipg*256)).B++Db (FD (S.tabbed (ipg*256)).M ipg) 8192:=a.B
 have hB3:8192≤s.B.length:=by
  rw[hB2,A01,hBl]
  show 8192≤S.pos+ipg*256+_
  omega
 have hw:s.wb=wb:=a.wb
 rw[←hw]
 refine AEv (s:=s) (x:=tr+sumR ad L+x) a.ok.ws (w.cast (by unfold FR;ac_rfl)) hB2 a.dpos (by rw[←hB2];exact hB3) fun rec1 dv r h okw w=>?_
 have hdl:=Dh (Pp (ito+ipg/16) ito (ipg-Dc (A8 (S.tabbed (ipg*256)).M) ipg) (Dc (CS (S.tabbed (ipg*256)).M) ipg)) 128 (by omega)
 refine AGf (s:={s with dv:=dv,dr:=r,B:=setL ((S.tabbed (ipg*256)).B++Db (FD (S.tabbed (ipg*256)).M ipg) 8192) 4096 (Bp (Pp (ito+ipg/16) ito (ipg-Dc (A8 (S.tabbed (ipg*256)).M) ipg) (Dc (CS (S.tabbed (ipg*256)).M) ipg)) 128),dpos:=8192}) okw w ?_ (by omega) (by omega) hcnt fun dv r d p h okw w=>K h ⟨_,tr+sumR ad L,okw,?_,?_,w⟩
 ·show 4096≤(setL _ 4096 _).length
  rw[AS (by rw[←hB2,hdl];omega),←hB2];omega
 ·show s.db=S.db
  exact a.db
 ·have hinl:s.inl=S.inl:=a.inl
  show setL (setL _ 4096 _) 0 (Bz (JQ ipg (ito+ipg/16+2) _ (IY s.inl)))=BS S
  unfold BS
  rw[hinl,hipg,hito]
  rfl
end
section
variable {h:H} {k:Value→Prop} {kt Q:Kt} {x y r:Res} {wb:Nat} {S S':PS} {ad:Nat→Nat}
attribute [local irreducible] AK Az Bp Db setL Bz JQ Pp FD Dl Dc A8 CS HD E6 BS
def ADY (S:PS)(x:Res)(h:H):Prop:=∃ s y,WS.OK s∧s.db=S.db∧s.B=BS S∧AN (s.res+(y+x)) h
theorem s63 {S1 S2:PS}{f:Nat}{n2:PN}(hfin:∀ Q:Kt,(∀ ad h,BM wb ad S1 x h→Q .nilIface h)→UX (Pt wb) h Q)(hroot:S1.M[1]? = some (some n2))(hr:RecD f S1 2 2 S2)(fin2:Fin S2 S)(c:ClOK S)(K:∀ h,ADY S x h→Q .nilIface h):f63 (Pt wb) h Q:=by
 have h1:=c.n1
 have h2:=c.n2
 have h3:=c.vd
 have h4:=c.max
 have h5:=c.B
 have hal:=c.al
 obtain⟨ipg,hipg⟩:∃ ipg,ipgOf S.M.length=ipg:=⟨_,rfl⟩
 obtain⟨ito,hito⟩:∃ ito,S.pos/4096=ito:=⟨_,rfl⟩
 have hi:S.M.length≤ipgOf S.M.length∧ipgOf S.M.length<S.M.length+16∧ipgOf S.M.length%16=0:=by unfold ipgOf;omega
 rw[hipg] at hi h3 h4
 rw[hito] at h3
 have hi4:ipg*256<4294967296:=by omega
 have hn4:S.M.length<4294967296:=by omega
 unfold f63 Ucl Unf Ucm
 refine ND (hfin _ fun ad h p=>?_)
 rw[LE,AU]
 refine Sg (AAX p hroot ?_)
 refine SZ (AFV f S1 2 2 S2 _ _ _ hr p fun h p=>?_)
 rw[LE,AU]
 refine ND (Jq p fin2 fun h p=>?_)
 rw[LE,AU]
 refine Ny (T5 p (by omega) ?_)
 rw[hito]
 obtain⟨va,vc,vs,hvs,hget⟩:=VD p
 refine hget _ ?_
 have f1:(AV .u32 (.int .i64 (vs:Int)))=fun k=>k (.int .u32 (S.M.length:Nat)):=funext fun k=>by rw[DO,hvs,JR hn4]
 rw[Aw,f1]
 refine Ya (AH0 h1 (by omega) (by rw[hipg];omega) ?_)
 rw[hipg,DA,DH]
 have f2:(AD .mul (.int .u32 1) (.int .u32 (ipg:Int)))=fun k=>k (.int .u32 (ipg:Int)):=funext fun k=>by rw[Bc,Int.one_mul,JR (by omega)]
 have f3:(AD .mul (.int .u32 (ipg:Int)) (.int .u32 256))=fun k=>k (.int .u32 ((ipg*256:Nat):Int)):=funext fun k=>by rw[XV,JR hi4]
 rw[f2]
 dsimp only
 rw[f3]
 refine AAI (AIB (T:=ipg*256) p c.tab c.B (by omega) hi4 (by omega) fun h p=>?_)
 rw[LE,AU]
 have hpos:(S.tabbed (ipg*256)).pos/4096=ito+ipg/16:=by
  show (S.pos+ipg*256)/4096=ito+ipg/16
  omega
 refine Ny (T5 p (by show S.pos+ipg*256≤S.max;omega) ?_)
 rw[hpos]
 have f4:(AD .mul (.int .u32 1) (.int .u32 2))=fun k=>k (.int .u32 ((2:Nat):Int)):=funext fun k=>by rw[Bc];rfl
 have hlt2:ito+ipg/16+2<4294967296:=by omega
 have f5:(AD .add (.int .u32 (ito+ipg/16:Nat)) (.int .u32 ((2:Nat):Int)))=fun k=>k (.int .u32 ((ito+ipg/16+2:Nat):Int)):=funext fun k=>by rw[AI5,JR hlt2]
 have f6:(AD .sub (.int .u32 1) (.int .u32 1))=fun k=>k (.int .u32 ((0:Nat):Int)):=funext fun k=>by rw[Bv];rfl
 have f7:(AD .mul (.int .u32 ((0:Nat):Int)) (.int .u32 32768))=fun k=>k (.int .u32 ((0:Nat):Int)):=funext fun k=>by rw[Bc];rfl
 have f8:(AD .add (.int .u32 ((0:Nat):Int)) (.int .u32 1))=fun k=>k (.int .u32 ((1:Nat):Int)):=funext fun k=>by rw[A0];rfl
 have e1:decide (((ito+ipg/16+2:Nat):Int)<((1:Nat):Int))=false:=A08 (by omega)
 simp only[f4,f5,f6,f7,f8,AT]
 rw[e1,AU]
 exact AEb c hipg hito p K
end
section
set_option maxRecDepth 100000
def IE (Q:Kt)(r1:R2)(a b c d f g i j:Value)(h:H):Prop:=
 Ucl 62 [f] h fun a h=>AC 0 d fun b=>AJ 1 b a h fun h=>AB true 22 d h fun a=>AH (.arr 22) 36 (AG TP 36) 22 1 [(0,a)] h fun a h=>AM 36 (AG TP 36) 22 184 c a h fun a h=>AD .add j (.int .i64 1) fun b=>r1 a b h
def OP (Q:Kt)(r1:R2)(a b c d f g i j k:Value)(h:H):Prop:=
 AK k
 (AC 0 f fun a=>AJ 1 a (.int .i64 13) h fun h=>AB true 22 f h fun a=>AH (.arr 22) 36 (AG TP 36) 22 1 [(0,a)] h fun a h=>AM 36 (AG TP 36) 22 184 c a h fun a h=>AD .add j (.int .i64 1) fun b=>r1 a b h)
 (AC 1 d fun k=>Uld k h fun m=>AC 3 d fun d=>AB true 20 d h fun d=>Ucl 56 [d] h fun d h=>((Ukp k h m)∧Ucl 55 [b,m,d] h fun d h=>IE Q r1 a b c f d g i j h))
def Ly (Q:Kt)(r1:R2)(a b c d f g:Value)(h:H):Prop:=
 Ucm .lss g d
 (AI (.slice 24) c g fun i=>AB true 24 i h fun i=>Umk 32 h fun j h=>AJ 24 j i h fun h=>Ae (.struct [(0,1),(1,1),(2,20)]) (AG TP 36) [] fun i=>Umk 36 h fun k h=>AJ 22 k i h fun h=>Ufl 0 j h fun i=>Ucm .eql i (.int .i64 0)
 (AC 3 j fun i=>Ufl 2 i h fun i=>AD .and i (.int .u16 61440) fun i=>AC 3 j fun m=>Ufl 1 m h fun m=>Ucg .lss m (.int .i64 0) (Ucf .eql i (.int .u16 0) (AD .eql i (.int .u16 32768) fun i=>OP Q r1 a b f j k c d g i h) (OP Q r1 a b f j k c d g (.bool true) h)) (OP Q r1 a b f j k c d g (.bool false) h))
 (Ucm .eql i (.int .i64 1)
 (Ufl 23 j h fun i=>AM 5 (AG TP 5) 1 1 (.slice none 0 0) i h fun i h=>Ucl 57 [b,i] h fun i h=>AO i 0 fun j=>AO i 1 fun i=>AC 1 k fun m=>AJ 1 m j h fun h=>IE Q r1 a b f k i c d g h)
 (Ucm .eql i (.int .i64 2)
 (Ufl 2 j h fun i=>Ufl 1 j h fun j=>Ucl 58 [b,i,j] h fun i h=>IE Q r1 a b f k i c d g h)
 (Ucm .eql i (.int .i64 3)
 (Ufl 1 j h fun i=>Ucl 59 [b,i] h fun i h=>AO i 0 fun j=>AO i 1 fun i=>Bq .iface true false h i .nilIface fun m=>AK m
 (Ucl 60 [j] h fun j h=>AC 2 k fun m=>AJ 20 m j h fun h=>IE Q r1 a b f k i c d g h)
 (IE Q r1 a b f k i c d g h))
 (Ucm .eql i (.int .i64 4)
 (Ufl 1 j h fun i=>Ucl 61 [b,i] h fun i h=>IE Q r1 a b f k i c d g h)
 (AC 0 k fun a=>AJ 1 a (.int .i64 13) h fun h=>AB true 22 k h fun a=>AH (.arr 22) 36 (AG TP 36) 22 1 [(0,a)] h fun a h=>AM 36 (AG TP 36) 22 184 f a h fun a h=>AD .add g (.int .i64 1) fun b=>r1 a b h))))))
 (Ucl 63 [b] h fun b h=>Bq .iface true true h b .nilIface fun c=>AK c
 (Ucl 62 [b] h fun a h=>Q (.tuple #[f,a,(.slice none 0 0)]) h)
 (Unf 0 a h fun a=>Q (.tuple #[f,(.int .i64 0),a]) h))
def WU (Q:Kt)(a b c d f g:Value)(h:H):Prop:=Bx (fun r1 f g h=>Ly Q r1 a b c d f g h) f g h
def Oy (Q:Kt)(a b c:Value)(h:H):Prop:=
 Ucl 54 [b,c] h fun c h=>Ab a fun d=>WU Q b c a d (.slice none 0 0) (.int .i64 0) h
def f23 (a b c:Value)(h:H)(Q:Kt):Prop:=
 Ae (.struct [(0,1),(1,1)]) (AG TP 121) [] fun d=>BB 121 (d:Value).cells h fun d h=>Ucl 52 [b] h fun b h=>AH (.arr 1) 123 (AG TP 123) 1 1 [(0,b)] h fun b h=>AK a
 (AH (.arr 1) 123 (AG TP 123) 1 1 [(0,(.func (.func 53) #[] #[]))] h fun a h=>AM 123 (AG TP 123) 1 8 b a h fun a h=>Oy Q c d a h)
 (Oy Q c d b h)
def AHP (Q:Kt)(r:RS):Nat→DJ:=tab [(1042846,.jn fun e h=>IE Q (u2 (r 1018)) (e 9) (e 11) (e 12) (e 15) (e 16) (e 33) (e 34) (e 35) h),
 (133484198,.jn fun e h=>OP Q (u2 (r 1018)) (e 9) (e 11) (e 12) (e 14) (e 15) (e 33) (e 34) (e 35) (e 64) h),
 (2037,.lp [9,11,33,34] [12,35] fun s e l h=>Ly Q (u2 s) (e 9) (e 11) (e 33) (e 34) (gl l 0) (gl l 1) h),
 (62,.jn fun e h=>Oy Q (e 2) (e 9) (e 10) h)]
theorem AB2 {a b c:Value}{h:H}{Q:Kt}(x:f23 a b c h Q):Call TP 23 [a,b,c] h Q:=Bb (AHP Q) Tryz.func23 (by kernel_rfl) x
def Wx (Q:Kt)(r1:R1)(a b c d:Value)(h:H):Prop:=
 Ucm .lss d c
 (AI (.slice 2) b d fun b=>AB true 2 b h fun b=>Umk 56 h fun c h=>AJ 2 c b h fun h=>Uff 19 a fun a=>Uld a h fun b=>AC 0 c fun f=>Uld f h fun g=>Ufl 1 c h fun c=>AM 5 (AG TP 5) 1 1 (.slice none 0 0) c h fun c h=>((Ukp a h b)∧(Ukp f h g)∧Gp (some .string) b g c h fun h=>AD .add d (.int .i64 1) fun a=>r1 a h))
 (Q a h)
def ABW (Q:Kt)(a b c d:Value)(h:H):Prop:=A1 (fun r1 d h=>Wx Q r1 a b c d h) d h
def TT (Q:Kt)(a b:Value)(h:H):Prop:=
 Ufl 19 a h fun a=>Ab a fun c=>ABW Q b a c (.int .i64 0) h
def f56 (a:Value)(h:H)(Q:Kt):Prop:=
 BB 28 (a:Value).cells h fun a h=>AC 0 a fun b=>Uld b h fun c=>AC 1 a fun d=>Uld d h fun f=>AC 2 a fun g=>Uld g h fun i=>AC 3 a fun j=>Uld j h fun k=>AC 4 a fun m=>Uld m h fun n=>AC 5 a fun o=>AB true 3 o h fun o=>AC 8 a fun p=>AB true 3 p h fun q=>AC 11 a fun t=>AB true 3 t h fun u=>AC 14 a fun v=>AB true 3 v h fun w=>AC 17 a fun y=>Uld y h fun z=>AC 18 a fun x=>Uld x h fun e=>Ucl 97 [o] h fun o h=>((Ukp b h c)∧(Ukp d h f)∧(Ukp g h i)∧(Ukp j h k)∧(Ukp m h n)∧(AB true 3 p h fun a=>a=q)∧(AB true 3 t h fun a=>a=u)∧(AB true 3 v h fun a=>a=w)∧(Ukp y h z)∧(Ukp x h e)∧Ucl 97 [q] h fun p h=>((Ukp b h c)∧(Ukp d h f)∧(Ukp g h i)∧(Ukp j h k)∧(Ukp m h n)∧(AB true 3 t h fun a=>a=u)∧(AB true 3 v h fun a=>a=w)∧(Ukp y h z)∧(Ukp x h e)∧Ucl 97 [u] h fun q h=>((Ukp b h c)∧(Ukp d h f)∧(Ukp g h i)∧(Ukp j h k)∧(Ukp m h n)∧(AB true 3 v h fun a=>a=w)∧(Ukp y h z)∧(Ukp x h e)∧Ucl 97 [w] h fun t h=>((Ukp b h c)∧(Ukp d h f)∧(Ukp g h i)∧(Ukp j h k)∧(Ukp m h n)∧(Ukp y h z)∧(Ukp x h e)∧Ae (.struct [(0,1),(1,1),(2,1),(3,1),(4,1),(5,3),(8,3),(11,3),(14,3),(17,1),(18,1),(19,1)]) (AG TP 191) [(0,c),(1,f),(2,i),(3,k),(4,n),(5,o),(6,p),(7,q),(8,t),(9,z),(10,e)] fun b=>BB 191 (b:Value).cells h fun b h=>Ufl 19 a h fun c=>Ab c fun c=>Ucm .gtr c (.int .i64 0)
 (Gl h fun c h=>Uff 19 b fun d=>AJ 1 d c h fun h=>TT Q a b h)
 (TT Q a b h)))))
def AHB (Q:Kt)(r:RS):Nat→DJ:=tab [(245,.lp [3,43,44] [45] fun s e l h=>Wx Q (u1 s) (e 3) (e 43) (e 44) (gl l 0) h),
 (30,.jn fun e h=>TT Q (e 1) (e 3) h)]
theorem ACe {a:Value}{h:H}{Q:Kt}(x:f56 a h Q):Call TP 56 [a] h Q:=Bb (AHB Q) Tryz.func56 (by kernel_rfl) x
def f97 (a:Value)(h:H)(Q:Kt):Prop:=
 BB 25 (a:Value).cells h fun a h=>Umk 188 h fun b h=>Ufl 0 a h fun c=>Ufl 1 a h fun d=>Ufl 2 a h fun a=>Ae (.struct [(0,1),(1,1),(2,1)]) (AG TP 188) [(0,c),(1,d),(2,a)] fun a=>AJ 3 b a h fun h=>AB true 3 b h fun a=>Q a h
theorem NT {a:Value}{h:H}{Q:Kt}(x:f97 a h Q):Call TP 97 [a] h Q:=Bb nT Tryz.func97 (by kernel_rfl) x
def Wq (Q:Kt)(r1:R2)(a b c d:Value)(h:H):Prop:=
 Ucm .lss d b
 (AI (.slice 24) a d fun a=>AB true 24 a h fun a=>Umk 32 h fun b h=>AJ 24 b a h fun h=>Ufl 23 b h fun a=>AC 3 b fun f=>AC 19 f fun f=>Uld f h fun g=>Ucl 38 [a] h fun a h=>((Ukp f h g)∧AC 23 b fun f=>Ucl 64 [g] h fun g h=>AJ 1 f a h fun h=>AC 3 b fun a=>AC 19 a fun a=>AJ 1 a g h fun h=>AB true 24 b h fun a=>AH (.arr 24) 32 (AG TP 32) 24 1 [(0,a)] h fun a h=>AM 32 (AG TP 32) 24 232 c a h fun a h=>AD .add d (.int .i64 1) fun b=>r1 a b h))
 (Q c h)
def ABD (Q:Kt)(a b c d:Value)(h:H):Prop:=Bx (fun r1 c d h=>Wq Q r1 a b c d h) c d h
def f24 (a:Value)(h:H)(Q:Kt):Prop:=
 Ab a fun b=>ABD Q a b (.slice none 0 0) (.int .i64 0) h
def AIJ (Q:Kt)(r:RS):Nat→DJ:=tab [(117,.lp [6,7] [3,8] fun s e l h=>Wq Q (u2 s) (e 6) (e 7) (gl l 0) (gl l 1) h)]
theorem ADU {a:Value}{h:H}{Q:Kt}(x:f24 a h Q):Call TP 24 [a] h Q:=Bb (AIJ Q) Tryz.func24 (by kernel_rfl) x
def f38 (a:Value)(h:H)(Q:Kt):Prop:=
 AH (.arr 1) 5 (AG TP 5) 1 0 [] h fun b h=>AM 5 (AG TP 5) 1 1 b a h fun a h=>Q a h
theorem ADL {a:Value}{h:H}{Q:Kt}(x:f38 a h Q):Call TP 38 [a] h Q:=Bb nT Tryz.func38 (by kernel_rfl) x
def YE (Q:Kt)(r1:R2)(a b c d:Value)(h:H):Prop:=
 Ucm .lss d b
 (AI (.slice 2) a d fun a=>AB true 2 a h fun a=>Umk 56 h fun b h=>AJ 2 b a h fun h=>AC 0 b fun a=>Uld a h fun f=>Ufl 1 b h fun b=>Ucl 38 [b] h fun b h=>((Ukp a h f)∧Ae (.struct [(0,1),(1,1)]) (AG TP 56) [(0,f),(1,b)] fun a=>AH (.arr 2) 56 (AG TP 56) 2 1 [(0,a)] h fun a h=>AM 56 (AG TP 56) 2 40 c a h fun a h=>AD .add d (.int .i64 1) fun b=>r1 a b h))
 (Q c h)
def ABN (Q:Kt)(a b c d:Value)(h:H):Prop:=Bx (fun r1 c d h=>YE Q r1 a b c d h) c d h
def f64 (a:Value)(h:H)(Q:Kt):Prop:=
 Ab a fun b=>ABN Q a b (.slice none 0 0) (.int .i64 0) h
def AHl (Q:Kt)(r:RS):Nat→DJ:=tab [(117,.lp [6,7] [3,8] fun s e l h=>YE Q (u2 s) (e 6) (e 7) (gl l 0) (gl l 1) h)]
theorem ADn {a:Value}{h:H}{Q:Kt}(x:f64 a h Q):Call TP 64 [a] h Q:=Bb (AHl Q) Tryz.func64 (by kernel_rfl) x
def f62 (a:Value)(h:H)(Q:Kt):Prop:=
 Bq .iface true false h a .nilIface fun b=>AK b
 (Q (.int .i64 0) h)
 (Ucl 111 [a] h fun a h=>AK a
 (Q (.int .i64 12) h)
 (Q (.int .i64 13) h))
theorem ACj {a:Value}{h:H}{Q:Kt}(x:f62 a h Q):Call TP 62 [a] h Q:=Bb nT Tryz.func62 (by kernel_rfl) x
def f13 (a b c:Value)(h:H)(Q:Kt):Prop:=
 Ucl 24 [c] h fun c h=>Ucl 23 [a,b,c] h fun a h=>AO a 0 fun _=>AO a 1 fun b=>AO a 2 fun a=>Ucm .neq b (.int .i64 0)
 (Q (.tuple #[(.pointer none),(.bool false)]) h)
 (Ucl 25 [a] h fun a h=>Unf 2 a h fun b=>Ab b fun b=>AD .eql b (.int .i64 0) fun b=>Q (.tuple #[a,b]) h)
theorem AEN {a b c:Value}{h:H}{Q:Kt}(x:f13 a b c h Q):Call TP 13 [a,b,c] h Q:=Bb nT Tryz.func13 (by kernel_rfl) x
end
section
variable {h:H} {k:Value→Prop} {kt Q:Kt} {x y r:Res} {wb db:Nat} {S S':PS} {ad:Nat→Nat} {inl:Bool}
attribute [local irreducible] AK Az
def EA:Nat:=17179869184
abbrev QP (wb db:Nat)(inl:Bool):WS:=⟨wb,db,.slice none 0 0,[],0,0,.slice none 0 0,str [],.pointer none,0,0,0,false,inl,EA,0⟩
theorem ADq:(QP wb db inl).OK:=⟨.nil,A39 _,by show EA≤1099511627776;decide⟩
def Xa (wb db:Nat)(inl:Bool)(x:Res)(h:H):Prop:=AN ((QP wb db inl).res+x) h
theorem UO (p:Xa wb db inl x h)(g:JX x)(K:∀ ad h,BM wb ad (S2 [] inl EA db) x h→Q .nilIface h):UX (Pt wb) h Q:=by
 have w:AN ((QP wb db inl).res+x) h:=p
 have hw:(QP wb db inl).wb=wb:=rfl
 rw[←hw]
 unfold UX Unf Unt Ucl
 simp only[go_sem,AF w]
 have hi:(!(QP wb db inl).ini)=true:=rfl
 rw[hi,Ak]
 refine Z1 (AG6 ADq g w rfl rfl rfl (by show 4096≤EA;decide) ⟨_,_,_,rfl⟩ fun ad h p=>?_)
 rw[LE,AU]
 have p:BM wb ad (S2 [] inl EA db) x h:=p
 have hcur:(S2 [] inl EA db).cur=none:=rfl
 obtain⟨s,L,tr,a,w⟩:=id p
 have hc:s.cur=.pointer none:=by rw[a.cur,hcur];rfl
 have hs:s.wb=wb:=a.wb
 unfold Kp Unf Ucm Ucl Ucg
 rw[←hs]
 simp only[go_sem,AF w,hc]
 exact K ad h p
theorem Zj:AG TP 184=some (.agg ⟨[.pointer none,.slice none 0 0,str [],.pointer none,.int .i64 0,.int .i64 0,.int .i64 0,.nilIface,.bool false,.bool false,.int .i64 0,.int .u32 0]⟩):=by kernel_rfl
theorem Z8:AG TP 121=some (.agg ⟨[.slice none 0 0,.int .i64 0]⟩):=by kernel_rfl
theorem T6:AG TP 123=some .nilFunc:=by kernel_rfl
theorem s90 {mb:Nat}(w:AN ((QP wb db inl).res+(pts mb (.cells ⟨[.int .i64 ((0:Nat):Int)]⟩ 2 (0,0))+x)) h)(K:∀ h,AN ((QP wb db inl).res+(pts mb (.cells ⟨[.int .i64 ((0:Nat):Int)]⟩ 2 (0,0))+x)) h→Q (.tuple #[]) h):f90 (Pt wb) (Pt mb) h Q:=by
 unfold f90 Uld Ucf
 have e1:decide (((0:Nat):Int)<0)=false:=rfl
 have e2:decide (((0:Nat):Int)>17592186044416)=false:=rfl
 have e3:decide (((0:Nat):Int)=0)=true:=rfl
 rw[AF w,J7,AT,e1,Cr,AF w,J7,Ao,e2]
 unfold Tw Uff Uld Ucm
 rw[AU,AF w,J7,Aa,e3,Ak]
 simp only[go_sem]
 exact AL w (QP wb db inl).cells rfl rfl (by show 10+1≤12;decide) rfl fun h w=>K h w
theorem s53 (w:AN ((QP wb db inl).res+x) h)(K:∀ h,AN ((QP wb db true).res+x) h→Q (.tuple #[]) h):f53 (Pt wb) h Q:=by
 unfold f53 Uff
 simp only[go_sem]
 exact AL w (QP wb db true).cells rfl rfl (by show 9+1≤12;decide) rfl fun h w=>K h w
def JV (mb:Nat)(inl:Bool):List Value:=.func (.func 90) #[] #[Pt mb]::if inl=true then [.func (.func 53) #[] #[]] else []
theorem s54 {mb:Nat}{ov:Value}(d:Vec 123 1 ov (JV mb inl).length (JV mb inl) r)(w:AN (pts db (.cells ⟨[.slice none 0 0,.int .i64 ((0:Nat):Int)]⟩ 121 (0,0))+(pts mb (.cells ⟨[.int .i64 ((0:Nat):Int)]⟩ 2 (0,0))+(r+x))) h)
  (K:∀ wb h,Xa wb db inl x h→Q (Pt wb) h):f54 (Pt db) ov h Q:=by
 obtain⟨⟨oa,oc,hov⟩,_⟩:=d.len
 unfold f54
 refine Au Zj rfl (rs:=(QP 0 db false).cells.toList) rfl (BJ w fun wb h w=>?_)
 have k1:∀ A B C R X:Res,A+(B+(C+(R+X)))=A+(B+0)+(C+(R+X)):=by intros;rw[Res.add_zero];ac_rfl
 have w:AN ((QP wb db false).res+(pts mb (.cells ⟨[.int .i64 ((0:Nat):Int)]⟩ 2 (0,0))+(r+x))) h:=w.cast (k1 _ _ _ _ _)
 rw[hov,Aw,←hov]
 unfold ABL
 have k3:∀ W C R X:Res,W+(C+(R+X))=W+X+(C+R):=by intros;ac_rfl
 refine Ba (fun m u h'=>∃ i,m=(JV mb inl).length-i∧i≤(JV mb inl).length∧u=.int .i64 (i:Nat)∧AN ((QP wb db (inl&&decide (2≤i))).res+(pts mb (.cells ⟨[.int .i64 ((0:Nat):Int)]⟩ 2 (0,0))+(r+x))) h') (JV mb inl).length ⟨0,rfl,A39 _,rfl,by simpa using w⟩ ?_
 rintro rec m u h' ⟨i,rfl,hi,rfl,w⟩ hrec
 unfold Wc Ucm Uil
 rw[AT]
 refine AX (fun hlt=>?_) (fun hge=>?_)
 ·have hlt':i<(JV mb inl).length:=by omega
  have hc:i=0∨(i=1∧inl=true):=by
   cases inl with
   | true=>have:(JV mb true).length=2:=rfl;rw[this] at hlt';rcases (show i=0∨i=1 by omega) with e|e;exact .inl e;exact .inr ⟨e,rfl⟩
   | false=>have:(JV mb false).length=1:=rfl;rw[this] at hlt';exact .inl (by omega)
  rcases hc with rfl|⟨rfl,rfl⟩
  ·refine Bu d (w.cast (Kq0 _ _ _ _)) (i:=0) rfl ?_
   refine IF (l:=[Pt wb,Pt mb]) rfl (by kernel_rfl) (ABy (s90 w fun h w=>?_))
   simp (disch:=omega) only[go_sem]
   refine hrec _ _ _ ⟨1,rfl,hlt',rfl,?_⟩ (by omega)
   have e:(inl&&decide (2≤1))=(inl&&decide (2≤0)):=by simp
   rw[e];exact w
  ·refine Bu d (w.cast (Kq0 _ _ _ _)) (i:=1) rfl ?_
   refine IF (l:=[Pt wb]) rfl (by kernel_rfl) (ADk (s53 w fun h w=>?_))
   simp (disch:=omega) only[go_sem]
   exact hrec _ _ _ ⟨2,rfl,hlt',rfl,w⟩ (by omega)
 ·have hi':i=(JV mb inl).length:=by omega
  have e:(inl&&decide (2≤i))=inl:=by
   rw[hi']
   unfold JV
   cases inl<;>rfl
  rw[e] at w
  exact K wb h' (w.cast (k3 _ _ _ _)).left
end
section
variable {h:H} {k:Value→Prop} {kt Q:Kt} {x y r:Res} {wb db:Nat} {S S':PS} {ad:Nat→Nat} {inl:Bool}
attribute [local irreducible] AK Az AQ BB Ae AY AH AM
theorem FZ {b o n:Nat}{c:Array Value}{T:TypeId}{fz:Nat×Nat}{v:Value}(w:AN x h)[f:CO b x (.cells c T fz)](hn:o+n≤c.size)(hv:.agg (c.extract o (o+n))=v):AB true n (.pointer (some ⟨b,o,none⟩)) h fun u=>u=v:=by
 rw[Am (w.find (b:=b)) hn]
 exact hv
theorem Tb:AG TP 188=some (.agg ⟨[.bool false,.int .i64 0,.int .i64 0]⟩):=by kernel_rfl
theorem s97 {a:Bool}{b c:Int}(w:AN x h)(K:∀ h,AN x h→Q (.agg ⟨[.bool a,.int .i64 b,.int .i64 c]⟩) h):f97 (.agg ⟨[.bool a,.int .i64 b,.int .i64 c]⟩) h Q:=by
 unfold f97 Umk Ufl
 refine BJ w fun b1 h w=>?_
 refine Ah w Tb rfl fun b2 h w=>?_
 simp only[go_sem,AF w]
 refine Au Tb rfl (rs:=[.bool a,.int .i64 b,.int .i64 c]) rfl ?_
 refine AL w ⟨[.bool a,.int .i64 b,.int .i64 c]⟩ ((A2 _ _ _).trans rfl) rfl (by simp) rfl fun h w=>?_
 rw[Am (w.find (b:=b2)) (by simp)]
 exact K h w.right.right
theorem s56 {f:FL}(w:AN x h)(K:∀ fb h,AN (pts fb (.cells ⟨f.cells (.map none)⟩ 191 (0,0))+x) h→Q (Pt fb) h):f56 (.agg ⟨f.cells (.slice none 0 0)⟩) h Q:=by
 unfold f56 Uld Ucl Ukp Ufl Ucm Uff
 refine BJ w fun b1 h w=>?_
 have w:AN (pts b1 (.cells ⟨f.cells (.slice none 0 0)⟩ 28 (0,0))+x) h:=w
 simp only[go_sem,AF w]
 have hs:∀ o n:Nat,o+n≤20→o+n≤(⟨f.cells (.slice none 0 0)⟩:Array Value).size:=fun o n h=>h
 rw[Am (w.find (b:=b1)) (hs 5 3 (by decide)),Am (w.find (b:=b1)) (hs 8 3 (by decide)),Am (w.find (b:=b1)) (hs 11 3 (by decide)),Am (w.find (b:=b1)) (hs 14 3 (by decide))]
 refine NT (s97 (a:=f.at_.set) (b:=f.at_.sec) (c:=f.at_.ns) w fun h w=>?_)
 refine⟨Ad w rfl,Ad w rfl,Ad w rfl,Ad w rfl,Ad w rfl,FZ w (hs 8 3 (by decide)) rfl,FZ w (hs 11 3 (by decide)) rfl,FZ w (hs 14 3 (by decide)) rfl,Ad w rfl,Ad w rfl,?_⟩
 refine NT (s97 (a:=f.ct.set) (b:=f.ct.sec) (c:=f.ct.ns) w fun h w=>?_)
 refine⟨Ad w rfl,Ad w rfl,Ad w rfl,Ad w rfl,Ad w rfl,FZ w (hs 11 3 (by decide)) rfl,FZ w (hs 14 3 (by decide)) rfl,Ad w rfl,Ad w rfl,?_⟩
 refine NT (s97 (a:=f.mt.set) (b:=f.mt.sec) (c:=f.mt.ns) w fun h w=>?_)
 refine⟨Ad w rfl,Ad w rfl,Ad w rfl,Ad w rfl,Ad w rfl,FZ w (hs 14 3 (by decide)) rfl,Ad w rfl,Ad w rfl,?_⟩
 refine NT (s97 (a:=f.cr.set) (b:=f.cr.sec) (c:=f.cr.ns) w fun h w=>?_)
 refine⟨Ad w rfl,Ad w rfl,Ad w rfl,Ad w rfl,Ad w rfl,Ad w rfl,Ad w rfl,?_⟩
 refine Au M0 rfl (rs:=f.cells (.map none)) (by kernel_rfl) (BJ w fun fb h w=>?_)
 simp only[go_sem,AF w]
 have e1:decide ((0:Nat)>(0:Int))=false:=rfl
 have w:AN (pts fb (.cells ⟨f.cells (.map none)⟩ 191 (0,0))+(pts b1 (.cells ⟨f.cells (.slice none 0 0)⟩ 28 (0,0))+x)) h:=w
 rw[e1,AU]
 unfold TT Ufl
 simp only[go_sem,AF w]
 unfold ABW
 refine Ba (fun m u h'=>m=0∧u=.int .i64 ((0:Nat):Int)∧h'=h) 0 ⟨rfl,rfl,rfl⟩ ?_
 rintro rec m u h' ⟨rfl,rfl,rfl⟩ _
 unfold Wx Ucm Umk Uff Uld Ufl Ukp
 have e2:decide (((0:Nat):Int)<((0:Nat):Int))=false:=rfl
 rw[AT,e2,AU]
 exact K fb h' (w.cast (Kq9 _ _ _)).left
theorem s62 (K:Q (.int .i64 0) h):f62 .nilIface h Q:=by
 unfold f62 Ucl
 simp only[go_sem]
 exact K
inductive Op1 where
 | create (nm:Bs) (f:FL)
 | write (bs:Bs)
def FL0:FL:=⟨[],0,0,0,0,t0,t0,t0,t0,0,0⟩
def Op1.cells:Op1→Value→List Value
 | .create nm f,dv=>[.int .i64 ((0:Nat):Int),str nm,str []]++f.cells (.slice none 0 0)++[dv]
 | .write _,dv=>[.int .i64 ((1:Nat):Int),str [],str []]++FL0.cells (.slice none 0 0)++[dv]
def Op1.data:Op1→Bs
 | .create _ _=>[]
 | .write bs=>bs
theorem Op1.cells_len (o:Op1)(dv:Value):(o.cells dv).length=24:=by cases o<;>rfl
abbrev U1:=Op1×Value
def FC (l:List U1):List Value:=l.flatMap fun o=>o.1.cells o.2
theorem Fy:AG TP 32=some (.agg ⟨(Op1.cells (.create [] FL0) (.slice none 0 0))⟩):=by kernel_rfl
def DY:List Value:=[.int .i64 0,.int .i64 0]++FL0.cells (.slice none 0 0)
theorem IZ:AG TP 36=some (.agg ⟨DY⟩):=by kernel_rfl
end
section
variable {h:H} {k:Value→Prop} {kt Q:Kt} {x y r:Res} {wb db:Nat} {S S':PS} {ad:Nat→Nat} {inl:Bool}
attribute [local irreducible] AK Az AQ BB Ae AY AH AM
def At (wb db:Nat)(inl:Bool)(S:PS)(x:Res)(h:H):Prop:=(S=S2 [] inl EA db∧Xa wb db inl x h)∨(S.inl=inl∧S.db=db∧∃ ad,BM wb ad S x h)
theorem At.opened (p:At wb db inl S x h):∃ r,AN (r+x) h∧∀ x' h',AN (r+x') h'→At wb db inl S x' h':=by
 rcases p with⟨e,w⟩|⟨e1,e2,ad,p⟩
 ·exact⟨(QP wb db inl).res,w,fun x' h' w'=>.inl ⟨e,w'⟩⟩
 ·obtain⟨r,w,cl⟩:=p.opened
  exact⟨r,w,fun x' h' w'=>.inr ⟨e1,e2,ad,cl x' h' w'⟩⟩
theorem V5 {S S':PS}(f:Fin S S')(hc:S.cur=none):S'=S:=by
 cases f with
 | none _=>rfl
 | small h _ _ _ _=>rw[hc] at h;cases h
 | big h _ _ _ _ _ _ _ _ _ _ _=>rw[hc] at h;cases h
theorem W6 (p:At wb db inl S x h)(f:Fin S S')(g:JX x)(K:∀ ad h,BM wb ad S' x h→Q .nilIface h):UX (Pt wb) h Q:=by
 rcases p with⟨e,w⟩|⟨_,_,ad,p⟩
 ·subst e
  rw[V5 f rfl] at K
  exact UO w g K
 ·exact Jq p f (K ad)
theorem ACI {v:Value}{bs:Bs}(p:At wb db inl S x h)(d:RdX x v bs)(f:Wrt bs S S')(K:∀ h,At wb db inl S' x h→Q (.tuple #[.int .i64 (bs.length:Nat),.nilIface]) h):f57 (Pt wb) v h Q:=by
 rcases p with⟨e,w⟩|⟨e1,e2,ad,p⟩
 ·subst e
  cases f with
  | none hb=>
   subst hb
   obtain⟨a',c',hv⟩:=d.len
   exact AEp hv (K h (.inl ⟨rfl,w⟩))
  | disk h _ _ _ _ _ _ _=>cases h
  | inode h _ _ _ _ _ _ _=>cases h
 ·refine G1 p d f fun h p=>K h (.inr ⟨?_,?_,ad,p⟩)
  ·cases f<;>exact e1
  ·cases f<;>exact e2
structure CrOK (S:PS) (nm:Bs) (f:FL) (st:List Bs) (e:Bs) (d:Nat) (q:PN) (es:List (Bs×Nat)):Prop where
 cur:S.cur=none
 len:S.M.length<9999
 root:∃ n,S.M[1]? = some (some n)
 nml:nm.length≤100000
 way:cleanR nm=st++[e]
 el:e.length≤255
 walk:walkP S.M 2 st=some d
 d1:1≤d
 dn:S.M[d-1]? = some (some q)
 dir:kindB q.mode=16384
 kids:q.kids=some es
 new:lookE es e=none
 links:q.links<65000
 file:FileOK f
inductive Step1:Op1→PS→PS→Prop
 | create {S S1:PS} {nm:Bs} {f:FL} {st:List Bs} {e:Bs} {d:Nat} {q:PN} {es:List (Bs×Nat)}:Fin S S1→CrOK S1 nm f st e d q es→Step1 (.create nm f) S (S1.made d q es e f)
 | write {S S':PS} {bs:Bs}:Wrt bs S S'→Step1 (.write bs) S S'
theorem LP {S:PS}{d:Nat}{q:PN}{es:List (Bs×Nat)}{e:Bs}{f:FL}:(S.made d q es e f).inl=S.inl∧(S.made d q es e f).db=S.db:=by
 unfold PS.made
 simp only
 split<;>exact⟨rfl,rfl⟩
theorem Yv {S S':PS}(f:Fin S S'):S'.inl=S.inl∧S'.db=S.db:=by cases f<;>exact⟨rfl,rfl⟩
theorem Uc {nm:Bs}{f:FL}{st:List Bs}{e:Bs}{d:Nat}{q:PN}{es:List (Bs×Nat)}{fb:Nat}{S1:PS}(p:At wb db inl S (pts fb (.cells ⟨f.cells (.map none)⟩ 191 (0,0))+x) h)(g:JX x)(fin:Fin S S1)(c:CrOK S1 nm f st e d q es)
  (K:∀ h,At wb db inl (S1.made d q es e f) x h→Q .nilIface h):f55 (Pt wb) (str nm) (Pt fb) h Q:=by
 have hs:S1.inl=inl∧S1.db=db:=by
  have h1:=Yv fin
  rcases p with⟨e,_⟩|⟨e1,e2,_⟩
  ·rw[h1.1,h1.2,e];exact LP
  ·rw[h1.1,h1.2];exact⟨e1,e2⟩
 refine K3 (S:=S1) (fun Q kk=>W6 p fin g.addR fun ad h p=>kk ad h p) g c.cur c.len c.root c.nml c.way c.el c.walk c.d1 c.dn c.dir c.kids c.new c.links c.file fun ad h p=>K h (.inr ⟨?_,?_,ad,p⟩)
 ·rw[LP.1];exact hs.1
 ·rw[LP.2];exact hs.2
theorem AA8 {rec1:Value→Value→H→Prop}{x9 x11 out x33 x34:Value}{tb i:Nat}{tc:List Value}{vs:List Value}(d:Vec 36 22 out i vs r)(hi:i<100000)(p:At wb db inl S (pts tb (.cells ⟨tc⟩ 36 (0,0))+(r+x)) h)(ht:tc.length=22)(ho:tc.all Value.oneCell'=true)
  (K:∀ out vs r h,Vec 36 22 out (i+1) vs r→At wb db inl S (r+x) h→rec1 out (.int .i64 ((i+1:Nat):Int)) h):IE Q rec1 x9 x11 out (Pt tb) .nilIface x33 x34 (.int .i64 (i:Int)) h:=by
 unfold IE Ucl
 refine ACj (s62 ?_)
 obtain⟨r0,w,cl⟩:=p.opened
 obtain⟨t0v,tcr,rfl⟩:∃ a l,tc=a::l:=by cases tc with|nil=>simp at ht|cons a l=>exact⟨a,l,rfl⟩
 have htr:tcr.length=21:=by simpa using ht
 have hor:tcr.all Value.oneCell'=true:=by
  rw[B33,A42] at ho
  exact ho.2
 simp only[go_sem]
 refine AL w ⟨.int .i64 0::tcr⟩ rfl rfl (by simp) rfl fun h w=>?_
 have hsz:0+22≤(⟨.int .i64 0::tcr⟩:Array Value).size:=by simp;omega
 rw[Am (w.find (b:=tb)) hsz]
 have hex:(⟨.int .i64 0::tcr⟩:Array Value).extract 0 (0+22)=⟨.int .i64 0::tcr⟩:=by
  have:(⟨.int .i64 0::tcr⟩:Array Value).size=0+22:=by simp;omega
  rw[←this,Array.extract_size]
 rw[hex]
 have hone:(Value.int .i64 0::tcr).all Value.oneCell'=true:=by rw[B33,hor];rfl
 have hlen:(Value.int .i64 0::tcr).length=22:=by simp;omega
 refine CW d (w.cast (Kq0 _ _ _ _)) IZ rfl hlen (by decide) (by decide) hone fun ab h w=>?_
 refine B0 d w IZ rfl hlen hone (by omega) (by omega) fun out' r' h d' w=>?_
 simp (disch:=omega) only[go_sem]
 have k2:∀ A T R X:Res,R+(A+(T+X))=A+(R+X)+T:=by intros;ac_rfl
 exact K out' _ r' h d' (cl _ _ (w.cast (k2 _ _ _ _)).left)
end
section
variable {h:H} {k:Value→Prop} {kt Q:Kt} {x y r:Res} {wb db:Nat} {S S':PS} {ad:Nat→Nat} {inl:Bool}
attribute [local irreducible] AK Az AQ BB Ae AY AH AM Bp Db setL Bz JQ Pp FD Dl BS
theorem TI (l:List U1)(i:Nat)(o:U1)(ho:l[i]? = some o):((FC l).drop (i*24)).take 24=o.1.cells o.2:=by
 have:=A76 Array.toList (NH (g:=fun o:U1=>o.1.cells o.2) (fun o=>Op1.cells_len _ _) l i o ho)
 simpa[A44,FC] using this
theorem Op1.cells_one (o:Op1)(dv:Value)(h:Value.oneCell' dv=true):(o.cells dv).all Value.oneCell'=true:=by
 have hd:([dv]:List Value).all Value.oneCell'=true:=by simp[h]
 cases o with
 | create nm f=>
  unfold Op1.cells
  rw[List.all_append,hd]
  rfl
 | write bs=>
  unfold Op1.cells
  rw[List.all_append,hd]
  rfl
theorem NO (o:Op1)(dv:Value):Ai ⟨Op1.cells (.create [] FL0) (.slice none 0 0)⟩ 0 (o.cells dv)=⟨o.cells dv⟩:=Ar (by rw[Op1.cells_len,A31,Op1.cells_len])
theorem Mi:Ai ⟨DY⟩ 0 DY=⟨DY⟩:=Ar (by rw[A31])
theorem Dj:DY.length=22:=rfl
theorem IV:DY.all Value.oneCell'=true:=rfl
theorem cr0 (nm:Bs)(f:FL)(dv:Value):(⟨Op1.cells (.create nm f) dv⟩:Array Value)[0]? = some (.int .i64 ((0:Nat):Int))∧(⟨Op1.cells (.create nm f) dv⟩:Array Value)[1]? = some (str nm)∧(⟨Op1.cells (.create nm f) dv⟩:Array Value)[3+1]? = some (.int .i64 f.size)∧
  (⟨Op1.cells (.create nm f) dv⟩:Array Value)[3+2]? = some (.int .u16 f.mode)∧(⟨Op1.cells (.create nm f) dv⟩:Array Value).extract 3 (3+20)=⟨f.cells (.slice none 0 0)⟩:=⟨by kernel_rfl,by kernel_rfl,by kernel_rfl,by kernel_rfl,by kernel_rfl⟩
theorem wr0 (bs:Bs)(dv:Value):(⟨Op1.cells (.write bs) dv⟩:Array Value)[0]? = some (.int .i64 ((1:Nat):Int))∧(⟨Op1.cells (.write bs) dv⟩:Array Value)[23]? = some dv:=⟨by kernel_rfl,by kernel_rfl⟩
theorem Ve (n:Nat):Ai ⟨DY⟩ 1 [.int .i64 (n:Int)]=⟨DY.set 1 (.int .i64 (n:Int))⟩:=by kernel_rfl
theorem M9 (n:Nat):(DY.set 1 (.int .i64 (n:Int))).all Value.oneCell'=true:=by kernel_rfl
attribute [local irreducible] Op1.cells DY
section step
variable {rec1:Value→Value→H→Prop} {x9 x34 out ov:Value} {i n:Nat} {vs:List Value} {ro rd:Res} {l:List U1}
theorem AHZ {o:U1}(dop:Vec 32 24 ov n (FC l) ro)(hn:l.length=n)(hn2:n≤10000)(ho:l[i]? = some o)(hone:Value.oneCell' o.2=true)(hdat:RdX rd o.2 o.1.data)(hdl:o.1.data.length≤100000000)(d:Vec 36 22 out i vs r)(st:Step1 o.1 S S')(g:JX x)
  (p:At wb db inl S (r+(ro+(rd+x))) h) (K:∀ out vs r h,Vec 36 22 out (i+1) vs r→At wb db inl S' (r+(ro+(rd+x))) h→rec1 out (.int .i64 ((i+1:Nat):Int)) h) :
  Ly Q rec1 x9 (Pt wb) ov (.int .i64 (n:Int)) out (.int .i64 (i:Int)) h:=by
 have hi:i<n:=by rw[←hn];exact (A02.1 ho).1
 obtain⟨op,dv⟩:=o
 obtain⟨r0,w,cl⟩:=p.opened
 unfold Ly Ucm Umk Ufl Ucg Ucf Ucl Unf
 have e1:decide ((i:Int)<(n:Int))=true:=A04 (by omega)
 rw[AT,e1,Ak]
 refine M8 (i:=i) dop (w.cast (Kq0 _ _ _ _)) hi ?_
 have hat:((FC l).drop (i*24)).take 24=op.cells dv:=TI l i _ ho
 rw[hat]
 refine Ah w Fy rfl fun pb h w=>?_
 have hcl:=Op1.cells_len op dv
 cases st with
 | create fin c=>
  rename_i S1 nm f st e dd q es
  have hfile:=c.file
  have hm:=hfile.mode
  have hsize:=hfile.size
  refine AL w ⟨Op1.cells (.create nm f) dv⟩ (NO _ _) hcl (by rw[A31,Op1.cells_len];exact A07 24) (Op1.cells_one _ _ hone) fun h w=>?_
  refine Au IZ rfl (rs:=DY) rfl ?_
  refine Ah w IZ rfl fun tb h w=>?_
  refine AL w ⟨DY⟩ Mi Dj (by rw[A31,Dj];exact A07 22) IV fun h w=>?_
  obtain⟨c0,c1,c4,c5,hex⟩:=cr0 nm f dv
  have e2:decide (((0:Nat):Int)=0)=true:=rfl
  have e3:decide ((f.size:Int)<0)=false:=A08 (by omega)
  simp (disch:=omega) only[DW,Fp,Bm,AF w,c0,c4,c5,Fi,Aa,e2,Ak,Jk,AT,e3,Cr]
  simp only[SR,PD,Cq,Cr]
  unfold OP Uld Ucl Ukp
  rw[AU]
  simp only[DW,Fp,AF w,c1,Fi]
  have hsz:3+20≤(⟨Op1.cells (.create nm f) dv⟩:Array Value).size:=by rw[A31,hcl];decide
  rw[Am (w.find (b:=pb)) hsz]
  rw[hex]
  refine ACe (s56 w fun fb h w=>⟨Ad w c1,?_⟩)
  refine Xm (Uc (cl _ _ (w.cast (AK7 _ _ _ _ _))) g.addR.addR.addR.addR.addR fin c fun h p=>?_)
  obtain⟨r1,w1,cl1⟩:=p.opened
  have p:At wb db inl (S1.made dd q es e f) (pts tb (.cells ⟨DY⟩ 36 (0,0))+(r+(pts pb (.cells ⟨Op1.cells (.create nm f) dv⟩ 32 (0,0))+(ro+(rd+x))))) h:=cl1 _ _ (w1.cast (Kq6 _ _ _ _ _))
  refine AA8 d (by omega) p Dj IV fun out vs r h d p=>?_
  obtain⟨r2,w2,cl2⟩:=p.opened
  have k4:∀ A R P Y:Res,A+(R+(P+Y))=A+(R+Y)+P:=by intros;ac_rfl
  exact K out vs r h d (cl2 _ _ (w2.cast (k4 _ _ _ _)).left)
 | write wr=>
  rename_i bs
  refine AL w ⟨Op1.cells (.write bs) dv⟩ (NO _ _) hcl (by rw[A31,Op1.cells_len];exact A07 24) (Op1.cells_one _ _ hone) fun h w=>?_
  refine Au IZ rfl (rs:=DY) rfl ?_
  refine Ah w IZ rfl fun tb h w=>?_
  refine AL w ⟨DY⟩ Mi Dj (by rw[A31,Dj];exact A07 22) IV fun h w=>?_
  obtain⟨c0,c23⟩:=wr0 bs dv
  have e2:decide (((1:Nat):Int)=0)=false:=rfl
  have e3:decide (((1:Nat):Int)=1)=true:=rfl
  simp only[DW,Fp,AF w,c0,c23,Fi,Aa,e2,e3,Ak,AU]
  have hdat:RdX rd dv bs:=hdat
  have hdl:bs.length≤100000000:=hdl
  refine BU (bs:=[]) (r:=0) .nil (w.cast (Res.zero_add _).symm) ((hdat.addL.addR.addR.addR.addR.addR).rd w) (by simp;omega) fun cv cr h cb w=>?_
  rw[A34] at cb
  refine Ip (ACI (cl _ _ (w.cast (AK7 _ _ _ _ _))) cb.rdX.addL wr fun h p=>?_)
  obtain⟨r1,w1,cl1⟩:=p.opened
  simp only[DA,DH,DW,Fp]
  refine AL w1 ⟨DY.set 1 (.int .i64 (bs.length:Nat))⟩ (Ve _) rfl (by rw[A31,Dj];decide) rfl fun h w1=>?_
  have k3:∀ A C T P R Y:Res,A+(C+(T+(P+(R+Y))))=A+(T+(R+(C+(P+Y)))):=by intros;ac_rfl
  have p:At wb db inl S' (pts tb (.cells ⟨DY.set 1 (.int .i64 (bs.length:Nat))⟩ 36 (0,0))+(r+(cr+(pts pb (.cells ⟨Op1.cells (.write bs) dv⟩ 32 (0,0))+(ro+(rd+x)))))) h:=cl1 _ _ (w1.cast (k3 _ _ _ _ _ _))
  refine AA8 d (by omega) p (by rw[A89];exact Dj) (M9 _) fun out vs r h d p=>?_
  obtain⟨r2,w2,cl2⟩:=p.opened
  have k4:∀ A R C P Y:Res,A+(R+(C+(P+Y)))=A+(R+Y)+(C+P):=by intros;ac_rfl
  exact K out vs r h d (cl2 _ _ (w2.cast (k4 _ _ _ _ _)).left)
end step
end
section
variable {h:H} {k:Value→Prop} {kt Q:Kt} {x y r:Res} {wb db:Nat} {S S':PS} {ad:Nat→Nat} {inl:Bool}
attribute [local irreducible] AK Az AQ BB Ae AY AH AM Bp Db setL Bz JQ Pp FD Dl BS Op1.cells DY
inductive Steps:List Op1→PS→PS→Prop
 | nil {S:PS}:Steps [] S S
 | cons {o:Op1} {l:List Op1} {S S1 S2:PS}:Step1 o S S1→Steps l S1 S2→Steps (o::l) S S2
structure He (S0 S:PS):Prop where
 ex:∃ S1 S2 f n2,Fin S0 S1∧S1.M[1]? = some (some n2)∧RecD f S1 2 2 S2∧Fin S2 S
 ok:ClOK S
theorem G5 {T:TypeId}{z:Option Value}{zv e:Value}{kt:Kt}(w:AN x h)(hz:z=some zv)(hzs:zv.cells=#[zv])(he:e.cells=#[e])(_ho:Value.oneCell' e=true)(K:∀ b h,AN (pts b (.cells ⟨[e]⟩ T (0,0))+x) h→kt (.slice (some ⟨b,0,none⟩) 1 1) h) :
  AH (.arr 1) T z 1 1 [(0,e)] h kt:=by
 unfold AH
 refine⟨zv,⟨[e]⟩,hz,by omega,?_,fun b h' ex hb' ho'=>K b h' (w.new ex hb' ho')⟩
 rw[A05 (by omega),CY hzs]
 refine Es _ _ _ ?_
 unfold DC
 simp[Br,he,DC,GE]
section img
variable {ov:Value} {ro rd:Res} {l:List U1}
theorem AHT {rec1:Value→Value→H→Prop}{out:Value}{n:Nat}{S0:PS}(cl:He S0 S)(hdb:S.db=db)(g:JX x)(p:At wb db inl S0 x h)
  (K:∀ dv dr y h,BufV dv (BS S) dr→AN (dr+(y+x)) h→Q (.tuple #[out,.int .i64 0,dv]) h) :
  Ly Q rec1 (Pt db) (Pt wb) ov (.int .i64 (n:Int)) out (.int .i64 (n:Int)) h:=by
 obtain⟨⟨S1,S2,f,n2,h1,h2,h3,h4⟩,hok⟩:=cl
 unfold Ly Ucm Umk Ufl Ucg Ucf Ucl Unf
 have e1:decide ((n:Int)<(n:Int))=false:=A08 (by omega)
 rw[AT,e1,AU]
 refine ACT (s63 (fun Q kk=>W6 p h1 g kk) h2 h3 h4 hok fun h c=>?_)
 obtain⟨s,y,okw,hsd,hsB,w⟩:=c
 rw[LE,AU]
 have hb:=okw.buf
 rw[hsB] at hb
 rw[←hdb,←hsd]
 simp only[go_sem,AF w]
 have k1:∀ A D R Y X:Res,A+(D+R)+(Y+X)=R+(A+D+Y+X):=by intros;ac_rfl
 exact K s.dv s.dr (pts s.wb (.cells s.cells 184 (0,0))+pts s.db (.cells ⟨[s.dv,.int .i64 s.dpos]⟩ 121 (0,0))+y) h hb (w.cast (k1 _ _ _ _ _))
theorem AF6 {n:Nat}{S0 SE:PS}(dop:Vec 32 24 ov n (FC l) ro)(hn:l.length=n)(hn2:n≤10000)(hone:∀ o∈l,Value.oneCell' o.2=true)(hdat:∀ o∈l,RdX rd o.2 o.1.data)(hdl:∀ o∈l,o.1.data.length≤100000000)(st:Steps (l.map (·.1)) S0 SE)(cl:He SE S)(hdb:S.db=db)(g:JX x)
  (p:At wb db inl S0 (ro+(rd+x)) h) (K:∀ out dv dr y h,BufV dv (BS S) dr→AN (dr+(y+(ro+(rd+x)))) h→Q (.tuple #[out,.int .i64 0,dv]) h) :
  WU Q (Pt db) (Pt wb) ov (.int .i64 (n:Int)) (.slice none 0 0) (.int .i64 0) h:=by
 unfold WU
 refine DE (fun m u v h'=>∃ (i:Nat) (S:PS) (vs:List Value) (r:Res),m=n-i∧i≤n∧v=.int .i64 (i:Nat)∧Vec 36 22 u i vs r∧Steps ((l.drop i).map (·.1)) S SE∧At wb db inl S (r+(ro+(rd+x))) h') n
  ⟨0,S0,[],0,rfl,A39 _,rfl,.nil,by rw[A68];exact st,by rw[Res.zero_add];exact p⟩ ?_
 rintro rec m u v h' ⟨i,S1,vs,r,rfl,hi,rfl,d,st,p⟩ hrec
 by_cases hlt:i<n
 ·have hil:i<l.length:=by omega
  have hdrop:l.drop i=l[i]::l.drop (i+1):=A50 hil
  have hmem:l[i]∈l:=Q3 hil
  rw[hdrop,A33] at st
  cases st with
  | cons s1 st2=>
   exact AHZ dop hn hn2 (A00 hil) (hone _ hmem) (hdat _ hmem) (hdl _ hmem) d s1 g p fun out vs r h d p=>hrec (n-(i+1)) _ _ _ ⟨i+1,_,vs,r,rfl,by omega,rfl,d,st2,p⟩ (by omega)
 ·have hin:i=n:=by omega
  subst hin
  rw[←hn,B15,B46] at st
  cases st
  refine AHT cl hdb (g.addR.addR.addR) p fun dv dr y h b w=>K _ dv dr (y+r) h b (w.cast ?_)
  have k1:∀ D Y R X:Res,D+(Y+(R+X))=D+(Y+R+X):=by intros;ac_rfl
  exact k1 _ _ _ _
end img
end
section
set_option maxRecDepth 100000
def S6 (Q:Kt)(r1:R2)(a b c d f g:Value)(h:H):Prop:=
 AK g
 (Uil a f h fun a=>AV .u64 a fun a=>AD .or c a fun a=>AD .sub d (.int .u64 1) fun b=>r1 a b h)
 (AD .sub d (.int .u64 1) fun a=>r1 c a h)
def Vw (Q:Kt)(r1:R2)(a b c d:Value)(h:H):Prop:=
 Ucm .gtr d (.int .u64 0)
 (AD .shl c (.int .u64 8) fun c=>AD .add b d fun f=>AD .sub f (.int .u64 1) fun f=>Ucg .geq f b (Ab a fun g=>AV .u64 g fun g=>AD .lss f g fun g=>S6 Q r1 a b c d f g h) (S6 Q r1 a b c d f (.bool false) h))
 (Q c h)
def ABS (Q:Kt)(a b c d:Value)(h:H):Prop:=Bx (fun r1 c d h=>Vw Q r1 a b c d h) c d h
def f66 (a b c:Value)(h:H)(Q:Kt):Prop:=
 ABS Q a b (.int .u64 0) c h
def AHv (Q:Kt)(r:RS):Nat→DJ:=tab [(14926,.jn fun e h=>S6 Q (u2 (r 58)) (e 0) (e 1) (e 7) (e 8) (e 9) (e 30) h),
 (117,.lp [0,1] [7,8] fun s e l h=>Vw Q (u2 s) (e 0) (e 1) (gl l 0) (gl l 1) h)]
theorem Bh {a b c:Value}{h:H}{Q:Kt}(x:f66 a b c h Q):Call TP 66 [a,b,c] h Q:=Bb (AHv Q) Tryz.func66 (by kernel_rfl) x
def f65 (a b c d:Value)(h:H)(Q:Kt):Prop:=
 Unt b
 (Ucl 120 [a,c,d] h fun _ h=>Q (.tuple #[]) h)
 (Q (.tuple #[]) h)
theorem Al {a b c d:Value}{h:H}{Q:Kt}(x:f65 a b c d h Q):Call TP 65 [a,b,c,d] h Q:=Bb nT Tryz.func65 (by kernel_rfl) x
def ADm (a b c:Value)(h:H)(Q:Kt):Prop:=
 Unf 9 a h fun d=>Ab d fun d=>AV .u64 d fun d=>Ucm .geq b d
 (AD .add (.string "no block for ".toUTF8) c fun c=>Ucl 120 [a,c,b] h fun _ h=>Q (.tuple #[]) h)
 (Unf 9 a h fun d=>Uil d b h fun d=>AD .eql d (.int .u8 0) fun d=>AD .add (.string ⟨#[98,108,111,99,107,32,117,115,101,100,32,116,119,105,99,101,32,98,121,32]⟩) c fun c=>Ucl 65 [a,d,c,b] h fun _ h=>Unf 9 a h fun a=>AI (.slice 1) a b fun a=>AJ 1 a (.int .u8 1) h fun h=>Q (.tuple #[]) h)
theorem Gn {a b c:Value}{h:H}{Q:Kt}(x:ADm a b c h Q):Call TP 122 [a,b,c] h Q:=Bb nT Tryz.func122 (by kernel_rfl) x
def Rr (Q:Kt)(a b:Value)(h:H):Prop:=
 Unf 3 a h fun a=>AD .mul b (.int .u64 4096) fun c=>AD .add b (.int .u64 1) fun b=>AD .mul b (.int .u64 4096) fun b=>AZ (.slice 1) a (some c) (some b) fun a=>Q a h
def AB0 (a b:Value)(h:H)(Q:Kt):Prop:=
 Unf 1 a h fun c=>Ucf .geq b c (AD .add b (.int .u64 1) fun c=>AD .mul c (.int .u64 4096) fun c=>Unf 3 a h fun d=>Ab d fun d=>AV .u64 d fun d=>Ucm .gtr c d
 (Ucl 120 [a,(.string "no block".toUTF8),b] h fun _ h=>AY (AG TP 5) 1 1 5 (.int .i64 4096) (.int .i64 4096) h fun a h=>Q a h)
 (Rr Q a b h)) (Ucl 120 [a,(.string "no block".toUTF8),b] h fun _ h=>AY (AG TP 5) 1 1 5 (.int .i64 4096) (.int .i64 4096) h fun a h=>Q a h)
def AGk (Q:Kt)(r:RS):Nat→DJ:=tab [(14,.jn fun e h=>Rr Q (e 0) (e 1) h)]
theorem NG {a b:Value}{h:H}{Q:Kt}(x:AB0 a b h Q):Call TP 129 [a,b] h Q:=Bb (AGk Q) Tryz.func129 (by kernel_rfl) x
def XF (Q:Kt)(r1:R1)(r2:R1)(a b c d f g:Value)(h:H):Prop:=
 AD .rem g b fun a=>Ucm .eql a (.int .u64 0)
 (AD .quo g b fun a=>r2 a h)
 (Ucm .eql g (.int .u64 1)
 (Q (.bool true) h)
 (AD .add f (.int .i64 1) fun a=>r1 a h))
def ACR (Q:Kt)(r1:R1)(a b c d f g:Value)(h:H):Prop:=A1 (fun r2 g h=>XF Q r1 r2 a b c d f g h) g h
def XZ (Q:Kt)(r1:R1)(a b c d:Value)(h:H):Prop:=
 Ucm .lss d c
 (Uil b d h fun f=>ACR Q r1 a f b c d a h)
 (Q (.bool false) h)
def AD6 (Q:Kt)(a b c d:Value)(h:H):Prop:=A1 (fun r1 d h=>XZ Q r1 a b c d h) d h
def ADQ (a b:Value)(h:H)(Q:Kt):Prop:=
 Ucm .eql b (.int .u64 0)
 (Q (.bool true) h)
 (Ucl 66 [a,(.int .u64 92),(.int .u64 4)] h fun c h=>AD .and c (.int .u64 512) fun c=>Ucm .neq c (.int .u64 0)
 (Ucl 66 [a,(.int .u64 588),(.int .u64 4)] h fun c h=>Ucf .eql c b (Ucl 66 [a,(.int .u64 592),(.int .u64 4)] h fun a h=>AD .eql a b fun a=>Q a h) (Q (.bool true) h))
 (Ucl 66 [a,(.int .u64 100),(.int .u64 4)] h fun a h=>AD .and a (.int .u64 1) fun a=>Ucm .eql a (.int .u64 0)
 (Q (.bool true) h)
 (AH (.arr 1) 48 (AG TP 48) 1 3 [(0,(.int .u64 3)),(1,(.int .u64 5)),(2,(.int .u64 7))] h fun a h=>Ab a fun c=>AD6 Q b a c (.int .i64 0) h)))
def AEd (Q:Kt)(r:RS):Nat→DJ:=tab [(256409,.lp [1,6,28,29,30] [7] fun s e l h=>XF Q (u1 (r 250)) (u1 s) (e 1) (e 6) (e 28) (e 29) (e 30) (gl l 0) h),
 (501,.lp [1,28,29] [30] fun s e l h=>XZ Q (u1 s) (e 1) (e 28) (e 29) (gl l 0) h)]
theorem Zb {a b:Value}{h:H}{Q:Kt}(x:ADQ a b h Q):Call TP 121 [a,b] h Q:=Bb (AEd Q) Tryz.func121 (by kernel_rfl) x
def AEC (a b:Value)(h:H)(Q:Kt):Prop:=
 Unf 8 a h fun c=>AD .mul b c fun c=>AD .add (.int .u64 4096) c fun c=>Unf 8 a h fun d=>AD .add c d fun d=>Unf 3 a h fun f=>Ab f fun f=>AV .u64 f fun f=>Ucm .gtr d f
 (Ucl 120 [a,(.string "no descriptor".toUTF8),b] h fun _ h=>AY (AG TP 5) 1 1 5 (.int .i64 64) (.int .i64 64) h fun a h=>Q a h)
 (Unf 3 a h fun b=>Unf 8 a h fun a=>AD .add c a fun a=>AZ (.slice 1) b (some c) (some a) fun a=>Q a h)
theorem AAH {a b:Value}{h:H}{Q:Kt}(x:AEC a b h Q):Call TP 181 [a,b] h Q:=Bb nT Tryz.func181 (by kernel_rfl) x
def NY (Q:Kt)(a b c d f:Value)(h:H):Prop:=
 AK f
 (Ucl 66 [c,b,a] h fun b h=>AD .mul (.int .u64 8) a fun a=>AD .shl b a fun a=>AD .or d a fun a=>Q a h)
 (Q d h)
def AB6 (a b c d f:Value)(h:H)(Q:Kt):Prop:=
 Ucl 181 [a,b] h fun b h=>Ucl 66 [b,c,d] h fun c h=>Unf 10 a h fun g=>Az g true (Unf 8 a h fun a=>AD .geq a (.int .u64 64) fun a=>NY Q d f b c a h) (NY Q d f b c (.bool false) h)
def AE7 (Q:Kt)(r:RS):Nat→DJ:=tab [(122,.jn fun e h=>NY Q (e 3) (e 4) (e 11) (e 12) (e 30) h)]
theorem G7 {a b c d e:Value}{h:H}{Q:Kt}(x:AB6 a b c d e h Q):Call TP 131 [a,b,c,d,e] h Q:=Bb (AE7 Q) Tryz.func131 (by kernel_rfl) x
def ACr (a b:Value)(h:H)(Q:Kt):Prop:=
 Ucl 131 [a,b,(.int .u64 0),(.int .u64 4),(.int .u64 32)] h fun a h=>Q a h
theorem Su {a b:Value}{h:H}{Q:Kt}(x:ACr a b h Q):Call TP 123 [a,b] h Q:=Bb nT Tryz.func123 (by kernel_rfl) x
def ABg (a b:Value)(h:H)(Q:Kt):Prop:=
 Ucl 131 [a,b,(.int .u64 4),(.int .u64 4),(.int .u64 36)] h fun a h=>Q a h
theorem Ss {a b:Value}{h:H}{Q:Kt}(x:ABg a b h Q):Call TP 124 [a,b] h Q:=Bb nT Tryz.func124 (by kernel_rfl) x
def AEP (a b:Value)(h:H)(Q:Kt):Prop:=
 Ucl 131 [a,b,(.int .u64 8),(.int .u64 4),(.int .u64 40)] h fun a h=>Q a h
theorem SH {a b:Value}{h:H}{Q:Kt}(x:AEP a b h Q):Call TP 125 [a,b] h Q:=Bb nT Tryz.func125 (by kernel_rfl) x
def X1 (Q:Kt)(r1:R1)(r2:R1)(a b c d f g i:Value)(h:H):Prop:=
 Ucm .lss i f
 (Ucl 125 [a,g] h fun b h=>AD .add b i fun b=>Ucl 122 [a,b,(.string "inode table".toUTF8)] h fun _ h=>AD .add i (.int .u64 1) fun a=>r2 a h)
 (AD .add g (.int .u64 1) fun a=>r1 a h)
def YJ (Q:Kt)(r1:R1)(a b c d f g i:Value)(h:H):Prop:=A1 (fun r2 i h=>X1 Q r1 r2 a b c d f g i h) i h
def N4 (Q:Kt)(r1:R1)(a b c d f g:Value)(h:H):Prop:=
 Ucl 123 [a,g] h fun i h=>Ucl 122 [a,i,(.string "block bitmap".toUTF8)] h fun _ h=>Ucl 124 [a,g] h fun i h=>Ucl 122 [a,i,(.string "inode bitmap".toUTF8)] h fun _ h=>YJ Q r1 a b c d f g (.int .u64 0) h
def YO (Q:Kt)(r1:R1)(r3:R1)(a b c d f g i j:Value)(h:H):Prop:=
 AD .add (.int .u64 1) c fun k=>AD .add k d fun k=>Ucm .lss j k
 (AD .add i j fun b=>Ucl 122 [a,b,(.string "superblock".toUTF8)] h fun _ h=>AD .add j (.int .u64 1) fun a=>r3 a h)
 (N4 Q r1 a b c d f g h)
def ABE (Q:Kt)(r1:R1)(a b c d f g i j:Value)(h:H):Prop:=A1 (fun r3 j h=>YO Q r1 r3 a b c d f g i j h) j h
def SM (Q:Kt)(r1:R1)(a b c d f g:Value)(h:H):Prop:=
 Unf 4 a h fun i=>Ucm .lss g i
 (Unf 5 a h fun i=>AD .mul g i fun i=>Ucl 121 [b,g] h fun j h=>AK j
 (ABE Q r1 a b c d f g i (.int .u64 0) h)
 (N4 Q r1 a b c d f g h))
 (Q (.tuple #[]) h)
def ABP (Q:Kt)(a b c d f g:Value)(h:H):Prop:=A1 (fun r1 g h=>SM Q r1 a b c d f g h) g h
def Tz (Q:Kt)(a b c d:Value)(h:H):Prop:=
 Unf 6 a h fun f=>Unf 7 a h fun g=>AD .mul f g fun f=>AD .add f (.int .u64 4096) fun f=>AD .sub f (.int .u64 1) fun f=>AD .quo f (.int .u64 4096) fun f=>ABP Q a b c d f (.int .u64 0) h
def f67 (a b:Value)(h:H)(Q:Kt):Prop:=
 Unf 4 a h fun c=>Unf 8 a h fun d=>AD .mul c d fun c=>AD .add c (.int .u64 4096) fun c=>AD .sub c (.int .u64 1) fun c=>AD .quo c (.int .u64 4096) fun c=>Ucl 66 [b,(.int .u64 92),(.int .u64 4)] h fun d h=>AD .and d (.int .u64 16) fun d=>Ucm .neq d (.int .u64 0)
 (Ucl 66 [b,(.int .u64 206),(.int .u64 2)] h fun d h=>Tz Q a b c d h)
 (Tz Q a b c (.int .u64 0) h)
def AHi (Q:Kt)(r:RS):Nat→DJ:=tab [(258685,.lp [0,1,4,5,6,7] [10] fun s e l h=>X1 Q (u1 (r 126)) (u1 s) (e 0) (e 1) (e 4) (e 5) (e 6) (e 7) (gl l 0) h),
 (16166,.jn fun e h=>N4 Q (u1 (r 126)) (e 0) (e 1) (e 4) (e 5) (e 6) (e 7) h),
 (258645,.lp [0,1,4,5,6,7,8] [9] fun s e l h=>YO Q (u1 (r 126)) (u1 s) (e 0) (e 1) (e 4) (e 5) (e 6) (e 7) (e 8) (gl l 0) h),
 (253,.lp [0,1,4,5,6] [7] fun s e l h=>SM Q (u1 s) (e 0) (e 1) (e 4) (e 5) (e 6) (gl l 0) h),
 (30,.jn fun e h=>Tz Q (e 0) (e 1) (e 4) (e 5) h)]
theorem AEL {a b:Value}{h:H}{Q:Kt}(x:f67 a b h Q):Call TP 67 [a,b] h Q:=Bb (AHi Q) Tryz.func67 (by kernel_rfl) x
def RJ (Q:Kt)(a b:Value)(h:H):Prop:=
 AD .sub b (.int .u64 1) fun c=>Unf 6 a h fun d=>AD .quo c d fun c=>AD .sub b (.int .u64 1) fun d=>Unf 6 a h fun f=>AD .rem d f fun d=>Uff 7 a fun f=>Uld f h fun g=>AD .mul d g fun d=>Ucl 125 [a,c] h fun c h=>((Ukp f h g)∧AD .mul c (.int .u64 4096) fun c=>AD .add c d fun c=>Unf 7 a h fun d=>AD .add c d fun d=>Unf 3 a h fun f=>Ab f fun f=>AV .u64 f fun f=>Ucm .gtr d f
 (Ucl 120 [a,(.string "no room for inode".toUTF8),b] h fun _ h=>AY (AG TP 5) 1 1 5 (.int .i64 256) (.int .i64 256) h fun a h=>Q a h)
 (Unf 3 a h fun b=>Unf 7 a h fun a=>AD .add c a fun a=>AZ (.slice 1) b (some c) (some a) fun a=>Q a h))
def ACm (a b:Value)(h:H)(Q:Kt):Prop:=
 Ucf .lss b (.int .u64 1) (Unf 4 a h fun c=>Unf 6 a h fun d=>AD .mul c d fun c=>Ucm .gtr b c
 (Ucl 120 [a,(.string "no inode".toUTF8),b] h fun _ h=>AY (AG TP 5) 1 1 5 (.int .i64 256) (.int .i64 256) h fun a h=>Q a h)
 (RJ Q a b h)) (Ucl 120 [a,(.string "no inode".toUTF8),b] h fun _ h=>AY (AG TP 5) 1 1 5 (.int .i64 256) (.int .i64 256) h fun a h=>Q a h)
def AF9 (Q:Kt)(r:RS):Nat→DJ:=tab [(14,.jn fun e h=>RJ Q (e 0) (e 1) h)]
theorem Jj {a b:Value}{h:H}{Q:Kt}(x:ACm a b h Q):Call TP 128 [a,b] h Q:=Bb (AF9 Q) Tryz.func128 (by kernel_rfl) x
def f45 (a:Value)(h:H)(Q:Kt):Prop:=
 AD .and a (.int .u16 61440) fun a=>Ucm .eql a (.int .u16 32768)
 (Q (.int .u64 1) h)
 (Ucm .eql a (.int .u16 16384)
 (Q (.int .u64 2) h)
 (Ucm .eql a (.int .u16 8192)
 (Q (.int .u64 3) h)
 (Ucm .eql a (.int .u16 24576)
 (Q (.int .u64 4) h)
 (Ucm .eql a (.int .u16 4096)
 (Q (.int .u64 5) h)
 (Ucm .eql a (.int .u16 49152)
 (Q (.int .u64 6) h)
 (Ucm .eql a (.int .u16 40960)
 (Q (.int .u64 7) h)
 (Q (.int .u64 0) h)))))))
theorem E9 {a:Value}{h:H}{Q:Kt}(x:f45 a h Q):Call TP 45 [a] h Q:=Bb nT Tryz.func45 (by kernel_rfl) x
def AER (a b:Value)(h:H)(Q:Kt):Prop:=
 Umk 60 h fun c h=>AV .u32 a fun a=>AV .i32 a fun a=>AV .i64 a fun a=>AD .and b (.int .u64 3) fun d=>AV .i64 d fun d=>AD .shl d (.int .u64 32) fun d=>AD .add a d fun a=>AD .shr b (.int .u64 2) fun b=>AV .i64 b fun b=>Ae (.struct [(0,1),(1,1)]) (AG TP 60) [(0,a),(1,b)] fun a=>AJ 2 c a h fun h=>AB true 2 c h fun a=>Q a h
theorem Yn {a b:Value}{h:H}{Q:Kt}(x:AER a b h Q):Call TP 177 [a,b] h Q:=Bb nT Tryz.func177 (by kernel_rfl) x
def ADz (a b:Value)(h:H)(Q:Kt):Prop:=
 AD .quo b (.int .u64 8) fun c=>Uil a c h fun a=>AD .rem b (.int .u64 8) fun b=>AD .shr a b fun a=>AD .and a (.int .u8 1) fun a=>AD .eql a (.int .u8 1) fun a=>Q a h
theorem Sh {a b:Value}{h:H}{Q:Kt}(x:ADz a b h Q):Call TP 130 [a,b] h Q:=Bb nT Tryz.func130 (by kernel_rfl) x
end
end Go.Proofs.YtollddkkdgoonaaGreatDoor
