/- A part of a proof over images that are written and read. No condition; a step. -/
import Derived.Test.YtollddkkdgoonaaGreatDoorM9
namespace Go.Proofs.YtollddkkdgoonaaGreatDoor
open Go
set_option linter.unusedVariables false
set_option linter.unusedSimpArgs false
set_option maxRecDepth 100000
section
variable {h:H} {k:Value→Prop} {kt Q:Kt} {x y r:Res} {wb:Nat} {S S':PS} {ad:Nat→Nat}
def Um (R:PS→Nat→Nat→PS→Prop)(c:Nat)(es:List (Bs×Nat)):PS→List Bs→PS→Prop
 | S,[],S'=>S'=S
 | S,nm::l,S'=>∃ n k nk,S.M[c-1]? = some (some n)∧n.kids=some es∧lookE es nm=some k∧1≤k∧S.M[k-1]? = some (some nk)∧(if kindB nk.mode=16384 then ∃ S1,R S k c S1∧Um R c es S1 l S' else Um R c es S l S')
def RecD:Nat→PS→Nat→Nat→PS→Prop
 | 0,_,_,_,_=>False
 | f+1,S0,c,pp,S'=>∃ S n np es srt,Fin S0 S∧F0 S c pp n np es srt∧Um (RecD f) c es (S.dirDone c n (Bg (Cf S.M c pp es srt))) srt S'
theorem N9 {c:Nat}{n:PN}{bs:Bs}{i:Nat}{m:PN}(h:S.M[i]? = some (some m)):∃ m',(S.dirDone c n bs).M[i]? = some (some m'):=by
 show ∃ m',(S.M.set (c-1) (some {n with size:=bs.length}))[i]? = some (some m')
 have hl:=(A02.1 h).1
 rw[A54]
 by_cases hc:c-1=i
 ·subst hc;rw[A03 rfl,A03 hl];exact⟨_,rfl⟩
 ·rw[A05 hc];exact⟨m,h⟩
theorem ACb {f dv c:Nat}{es:List (Bs×Nat)}{srt:List Bs}{v:Value}{S0 S':PS}
  (ih:∀ (S0:PS) (c pp:Nat) (S':PS) (x:Res) (h:H) (Q:Kt),RecD f S0 c pp S'→BM wb ad S0 x h→(∀ h,BM wb ad S' x h→Q .nilIface h)→ZJ (Pt wb) (Pt (ad c)) (Pt (ad pp)) h Q)
  (d:Vec 9 1 v srt.length (strs srt) r) (hc1:1≤c) (hfew:srt.length≤10000) (p:BM wb ad S0 (r+(dvR dv (ad c)+x)) h) (hr:Um (RecD f) c es S0 srt S') (K:∀ h,BM wb ad S' x h→Q .nilIface h) :
  RI Q (Pt wb) (Pt dv) v (.int .i64 (srt.length:Nat)) (.int .i64 ((0:Nat):Int)) h:=by
 unfold RI
 refine Ba (fun m u h'=>∃ (i:Nat) (S:PS),m=srt.length-i∧i≤srt.length∧u=.int .i64 (i:Nat)∧Um (RecD f) c es S (srt.drop i) S'∧BM wb ad S (r+(dvR dv (ad c)+x)) h') srt.length ⟨0,S0,rfl,A39 _,rfl,by rw[A68];exact hr,p⟩ ?_
 rintro rec m u h' ⟨i,S,rfl,hi,rfl,hr,p⟩ hrec
 unfold Rt Ucm Uil Uld Unf Ucl
 simp (disch:=omega) only[go_sem]
 refine AX (fun hlt=>?_) (fun hge=>?_)
 ·have hlt':i<srt.length:=by omega
  have gi:srt[i]? = some srt[i]:=A00 hlt'
  have hd:srt.drop i=srt[i]::srt.drop (i+1):=A50 hlt'
  rw[hd] at hr
  obtain⟨n,k,nk,hn,hkids,hk,hk1,hnk,hr⟩:=hr
  refine Dw p d (Gf gi) ?_
  obtain⟨nd,rr,hnd,hnum,w,_⟩:=DM p hc1 hn
  obtain⟨mb,hdir⟩:∃ mb,nd.dir=some (mb,es):=by
   have:nd.dir.map (·.2)=some es:=by rw[←hkids,←hnd];rfl
   rw[A74] at this
   obtain⟨⟨mb,es'⟩,e1,e2⟩:=this
   cases e2
   exact⟨mb,e1⟩
  have wl:AN (pts (ad c) (.cells nd.cells 197 (0,0))+(nd.dr+(nd.xr+nd.kr ad))+(rr+(r+(dvR dv (ad c)+x)))) h':=w.cast (by unfold Nd.res;rw[hnum])
  rw[A4 p]
  simp only[go_sem]
  rw[AF wl]
  simp only[go_sem]
  refine EJ w ?_
  simp only[hdir,hk]
  obtain⟨ndk,rk,hpk,hnumk,wk,_⟩:=DM p hk1 hnk
  have wk':AN (pts (ad k) (.cells ndk.cells 197 (0,0))+(ndk.dr+(ndk.xr+ndk.kr ad))+(rk+(r+(dvR dv (ad c)+x)))) h':=wk.cast (by unfold Nd.res;rw[hnumk])
  obtain⟨hm,_,_⟩:=IN p hk1 hnk
  have hmk:ndk.mode=nk.mode:=by rw[←hpk];rfl
  refine Pz (s93 wk' (by rw[hmk];exact hm) ?_)
  rw[hmk]
  by_cases hdk:kindB nk.mode=16384
  ·rw[A03 hdk] at hr
   obtain⟨S1,h1,h2⟩:=hr
   rw[A04 hdk]
   simp only[go_sem,A4 p]
   refine SZ (ih S k c S1 _ _ _ h1 p fun h p=>?_)
   simp (disch:=omega) only[go_sem]
   exact hrec _ _ _ ⟨i+1,S1,rfl,by omega,rfl,h2,p⟩ (by omega)
  ·rw[A05 hdk] at hr
   rw[A08 hdk]
   simp (disch:=omega) only[go_sem]
   exact hrec _ _ _ ⟨i+1,S,rfl,by omega,rfl,hr,p⟩ (by omega)
 ·have hi':i=srt.length:=by omega
  rw[hi',B15] at hr
  have hr:S'=S:=hr
  subst hr
  exact K _ (BM.mono (y:=r+dvR dv (ad c)) (p.cast (by ac_rfl)))
theorem AFV:∀ (f:Nat) (S0:PS) (c pp:Nat) (S':PS) (x:Res) (h:H) (Q:Kt),RecD f S0 c pp S'→BM wb ad S0 x h→(∀ h,BM wb ad S' x h→Q .nilIface h)→ZJ (Pt wb) (Pt (ad c)) (Pt (ad pp)) h Q
 | 0,_,_,_,_,_,_,_,hr,_,_=>hr.elim
 | f+1,S0,c,pp,S',x,h,Q,hr,p,K=>by
  obtain⟨S,n,np,es,srt,fin,d,hl⟩:=hr
  have hfew:=d.few
  unfold ZJ Uld Ucl Umk Unf
  refine M3 p fun dv h p=>?_
  have p:BM wb ad S0 (dvR dv (ad c)+x) h:=p
  rw[A4 p]
  simp only[go_sem]
  refine AAa (AHq d p fin fun h p=>?_)
  simp only[go_sem]
  refine DG p XJ rfl fun cv h p=>?_
  simp only[go_sem,A4 p]
  obtain⟨n',hn'⟩:∃ n',n'=({n with size:=(Bg (Cf S.M c pp es srt)).length}:PN):=⟨_,rfl⟩
  have hnd':(S.dirDone c n (Bg (Cf S.M c pp es srt))).M[c-1]? = some (some n'):=by
   show (S.M.set (c-1) (some _))[c-1]? = _
   rw[List.getElem?_set_self (A02.1 d.nd).1,hn']
  have hk':n'.kids=some es:=by rw[hn'];exact d.kids
  have hkin:KidsIn (S.dirDone c n (Bg (Cf S.M c pp es srt))) es:=fun e he=>by
   obtain⟨h1,m,hm⟩:=d.kin e he
   exact⟨h1,N9 hm⟩
  have p:BM wb ad (S.dirDone c n (Bg (Cf S.M c pp es srt))) (cvR cv (.slice none 0 0)+(dvR dv (ad c)+x)) h:=p
  obtain⟨nd,rr,hnd,hnum,w,cl⟩:=DM p d.c1 hnd'
  obtain⟨mb,hdir⟩:∃ mb,nd.dir=some (mb,es):=by
   have:nd.dir.map (·.2)=some es:=by rw[←hk',←hnd];rfl
   rw[A74] at this
   obtain⟨⟨mb,es'⟩,e1,e2⟩:=this
   cases e2
   exact⟨mb,e1⟩
  have hkr:nd.kr ad=pts mb (CP ad es):=by unfold Nd.kr;rw[hdir]
  have hkv:nd.kids=.map (some mb):=by unfold Nd.kids;rw[hdir];rfl
  have k1:∀ A B D1 D2 R V W X:Res,A+(D1+(D2+B))+(R+(V+(W+X)))=A+(B+(D1+D2+R+(V+(W+X)))):=by intros;ac_rfl
  have wl:AN (pts (ad c) (.cells nd.cells 197 (0,0))+(pts mb (CP ad es)+(nd.dr+nd.xr+rr+(cvR cv (.slice none 0 0)+(dvR dv (ad c)+x))))) h:=w.cast (by unfold Nd.res;rw[hnum,hkr];exact k1 _ _ _ _ _ _ _ _)
  rw[AF wl]
  simp only[go_sem]
  rw[hkv]
  refine Ir (m:=mb) wl fun ib h w=>?_
  have k2:∀ I A B Y V W X:Res,I+(A+(B+(Y+(V+(W+X)))))=B+(I+(V+(A+(Y+(W+X))))):=by intros;ac_rfl
  unfold Vm Qu Uld
  refine Wz (E:=Rs Q (Pt wb) (Pt dv) (Pt cv) (.func (.func 167) #[] #[Pt dv,Pt cv]) (.int .i64 1)) (ib:=ib) (cv:=cv) (ad:=ad) (es:=es) (x:=pts (ad c) (.cells nd.cells 197 (0,0))+(nd.dr+nd.xr+rr+(dvR dv (ad c)+x))) (by omega) (w.cast (k2 _ _ _ _ _ _ _)) fun l v r h hperm dvec w=>?_
  have k3:∀ A B D1 D2 R0 R V W X:Res,B+(R+(V+(A+(D1+D2+R0+(W+X)))))=A+(D1+(D2+B))+(R0+(R+(W+(V+X)))):=by intros;ac_rfl
  have p:BM wb ad (S.dirDone c n (Bg (Cf S.M c pp es srt))) (r+(dvR dv (ad c)+(cvR cv v+x))) h:=cl _ _ (w.cast (by unfold Nd.res;rw[hnum,hkr];exact k3 _ _ _ _ _ _ _ _ _))
  have hll:l.length=es.length:=by have:=hperm.length_eq;simpa using this
  rw[←hll] at dvec
  unfold Rs Q7 Wi Rf Q8 Uld Ucm Ucg Uil Ukp
  refine MJ (F:=167) (c:=c) (es:=es) p dvec (by omega) (fun a ha=>d.known a (hperm.mem_iff.1 ha)) (by kernel_rfl) (fun i j l' r Q h a b p dv hi hj ha hb K=>Yc (AHs p dv d.c1 hnd' hk' hkin hi hj ha hb K)) fun r h dvec p=>?_
  rw[d.srt l hperm] at dvec
  have hsl:srt.length=l.length:=by have:=d.sperm.length_eq;simp at this;omega
  rw[←hsl] at dvec
  simp only[go_sem,A4 p]
  obtain⟨⟨va,vc,hv⟩,_⟩:=dvec.len
  rw[hv]
  simp only[go_sem]
  rw[←hv]
  refine ACb (x:=cvR cv v+x) (AFV f) dvec d.c1 (by omega) p hl fun h p=>K h (BM.mono (y:=cvR cv v) (p.cast (Res.comm _ _)))
end
section
set_option maxRecDepth 100000
def OG (Q:Kt)(a b c d:Value)(h:H):Prop:=
 AZ (.arr 4096 1) c (some (.int .i64 1024)) none fun f=>AB true 465 d h fun d=>Ucl 119 [d] h fun d h=>DI 1 f d h fun _ h=>Ucl 101 [a,(.int .u32 0)] h fun _ h=>AZ (.arr 4096 1) c none none fun c=>Ucl 98 [a,c] h fun c h=>AO c 0 fun _=>AO c 1 fun c=>Bq .iface true true h c .nilIface fun d=>AK d
 (Q c h)
 (Ucl 101 [a,b] h fun _ h=>Unf 7 a h fun a=>Q a h)
def Mb (Q:Kt)(r1:R1)(a b c d f g i j k:Value)(h:H):Prop:=
 Ucm .lss k j
 (AI (.slice 12) i k fun b=>AB true 12 b h fun b=>Umk 226 h fun c h=>AJ 12 c b h fun h=>Uff 0 a fun a=>Uld a h fun b=>AB true 12 c h fun c=>Ucl 118 [c] h fun c h=>((Ukp a h b)∧Ucl 117 [b,c] h fun _ h=>AD .add k (.int .i64 1) fun a=>r1 a h))
 (Umk 205 h fun i h=>AD .mul c b fun j=>AD .mul (.int .u32 32768) b fun k=>AD .sub k f fun f=>AD .mul c b fun b=>AD .sub b g fun b=>Ae (.struct [(0,1),(1,1),(2,1),(3,1),(4,1),(5,1),(6,1),(7,1),(8,1),(9,1),(10,1),(11,1),(12,1),(13,1),(14,1),(15,1),(16,1),(17,1),(18,1),(19,1),(20,1),(21,1),(22,1),(23,1),(24,1),(25,1),(26,1),(27,1),(28,1),(29,1),(30,1),(31,16),(47,16),(63,64),(127,1),(128,1),(129,1),(130,1),(131,16),(147,1),(148,1),(149,1),(150,4),(154,1),(155,1),(156,1),(157,1),(158,1),(159,1),(160,17),(177,1),(178,1),(179,1),(180,1),(181,1),(182,1),(183,1),(184,1),(185,1),(186,1),(187,1),(188,1),(189,1),(190,1),(191,1),(192,1),(193,1),(194,1),(195,1),(196,1),(197,1),(198,1),(199,32),(231,1),(232,1),(233,1),(234,1),(235,1),(236,32),(268,64),(332,1),(333,1),(334,1),(335,2),(337,4),(341,16),(357,1),(358,1),(359,1),(360,1),(361,1),(362,1),(363,1),(364,1),(365,1),(366,2),(368,96),(464,1)]) (AG TP 242) [(0,j),(1,d),(3,f),(4,b),(5,(.int .u32 0)),(6,(.int .u32 2)),(7,(.int .u32 2)),(8,(.int .u32 32768)),(9,(.int .u32 32768)),(10,c),(15,(.int .u16 61267)),(16,(.int .u16 1)),(17,(.int .u16 1)),(21,(.int .u32 0)),(22,(.int .u32 1)),(25,(.int .u32 11)),(86,(.int .u32 11)),(26,(.int .u16 256)),(28,(.int .u32 520)),(29,(.int .u32 578)),(30,(.int .u32 4170)),(53,(.int .u16 24)),(54,(.int .u16 24)),(60,(.int .u8 31))] fun b=>Umk 242 h fun c h=>AJ 465 c b h fun h=>Unf 9 a h fun b=>AK b
 (Ufl 29 c h fun b=>AD .or b (.int .u32 32768) fun b=>AC 29 c fun f=>AJ 1 f b h fun h=>OG Q a d i c h)
 (OG Q a d i c h))
def S5 (Q:Kt)(a b c d f g i j k:Value)(h:H):Prop:=A1 (fun r1 k h=>Mb Q r1 a b c d f g i j k h) k h
def MI (Q:Kt)(r2:R3)(r3:R3)(a b c d f g i j k m n o p q t u v w y z x:Value)(h:H):Prop:=
 AK x
 (AD .quo y (.int .u32 8) fun a=>AD .add (.int .u32 4096) a fun a=>AI (.arr 8192 1) t a fun b=>Uld b h fun b=>AD .rem y (.int .u32 8) fun c=>AD .shl (.int .u8 1) c fun c=>AD .or b c fun b=>AI (.arr 8192 1) t a fun a=>AJ 1 a b h fun h=>AD .add v (.int .u16 1) fun a=>Bq .ptr true true h z (.pointer none) fun b=>Az b true (Unf 6 z h fun b=>AD .and b (.int .u16 61440) fun b=>Ucm .eql b (.int .u16 16384)
 (AD .add u (.int .u16 1) fun b=>AD .add y (.int .u32 1) fun c=>r3 b a c h)
 (AD .add y (.int .u32 1) fun b=>r3 u a b h)) (AD .add y (.int .u32 1) fun b=>r3 u a b h))
 (Bq .ptr true true h z (.pointer none) fun a=>Az a true (Unf 6 z h fun a=>AD .and a (.int .u16 61440) fun a=>Ucm .eql a (.int .u16 16384)
 (AD .add u (.int .u16 1) fun a=>AD .add y (.int .u32 1) fun b=>r3 a v b h)
 (AD .add y (.int .u32 1) fun a=>r3 u v a h)) (AD .add y (.int .u32 1) fun a=>r3 u v a h))
def OX (Q:Kt)(r2:R3)(r3:R3)(a b c d f g i j k m n o p q t u v w y:Value)(h:H):Prop:=
 Ucm .lss y d
 (AD .mul q d fun z=>AD .add (.int .u32 1) z fun z=>AD .add z y fun z=>Ucl 115 [a,z] h fun x h=>Ucf .lss z (.int .u32 11) (Bq .ptr true true h x (.pointer none) fun z=>MI Q r2 r3 a b c d f g i j k m n o p q t v w u y x z h) (MI Q r2 r3 a b c d f g i j k m n o p q t v w u y x (.bool true) h))
 (AZ (.arr 8192 1) t none none fun c=>Ucl 98 [a,c] h fun a h=>AO a 0 fun _=>AO a 1 fun a=>Bq .iface true true h a .nilIface fun c=>AK c
 (Q a h)
 (AD .mul (.int .u32 2) q fun a=>AD .add f a fun a=>AD .mul (.int .u32 2) q fun c=>AD .add f c fun c=>AD .add c (.int .u32 1) fun c=>AD .mul q n fun f=>AD .add b f fun b=>AV .u16 d fun d=>AD .sub d w fun d=>AD .sub (.int .u16 32768) u fun f=>Ae (.struct [(0,1),(1,1),(2,1),(3,1),(4,1),(5,1),(6,1),(7,1),(8,1),(9,1),(10,1),(11,1)]) (AG TP 226) [(0,a),(1,c),(2,b),(5,v),(4,d),(3,f)] fun a=>AI (.slice 12) m q fun b=>AJ 12 b a h fun h=>AV .u32 u fun a=>AD .add o a fun a=>AV .u32 w fun b=>AD .add p b fun b=>AD .add q (.int .u32 1) fun c=>r2 a b c h))
def Lu (Q:Kt)(r2:R3)(a b c d f g i j k m n o p q t u v w y:Value)(h:H):Prop:=K9 (fun r3 v w y h=>OX Q r2 r3 a b c d f g i j k m n o p q t u v w y h) v w y h
def Tn (Q:Kt)(r2:R3)(r4:R2)(a b c d f g i j k m n o p q t u v w y:Value)(h:H):Prop:=
 Ucm .lss y (.int .u32 32768)
 (AD .quo y (.int .u32 8) fun a=>AI (.arr 8192 1) t a fun b=>Uld b h fun b=>AD .rem y (.int .u32 8) fun c=>AD .shl (.int .u8 1) c fun c=>AD .or b c fun b=>AI (.arr 8192 1) t a fun a=>AJ 1 a b h fun h=>AD .add w (.int .u16 1) fun a=>AD .add y (.int .u32 1) fun b=>r4 a b h)
 (Lu Q r2 a b c d f g i j k m n o p q t w u v (.int .u32 0) h)
def Xc (Q:Kt)(r2:R3)(a b c d f g i j k m n o p q t u v w y:Value)(h:H):Prop:=Bx (fun r4 w y h=>Tn Q r2 r4 a b c d f g i j k m n o p q t u v w y h) w y h
def Td (Q:Kt)(r2:R3)(a b c d f g i j k m n o p q t u v w y:Value)(h:H):Prop:=
 AK y
 (AD .rem j (.int .u32 32768) fun y=>Xc Q r2 a b c d f g i j k m n o p q t u v w y h)
 (Lu Q r2 a b c d f g i j k m n o p q t w u v (.int .u32 0) h)
def SI (Q:Kt)(r2:R3)(a b c d f g i j k m n o p q t u v w:Value)(h:H):Prop:=
 AD .sub c (.int .u32 1) fun y=>Ucg .eql q y (AD .rem j (.int .u32 32768) fun y=>AD .neq y (.int .u32 0) fun y=>Td Q r2 a b c d f g i j k m n o p q t u v w y h) (Td Q r2 a b c d f g i j k m n o p q t u v w (.bool false) h)
def X0 (Q:Kt)(r2:R3)(r5:R2)(a b c d f g i j k m n o p q t u v w y:Value)(h:H):Prop:=
 Unf 11 a h fun z=>AD .add (.int .u32 1) z fun z=>Ucm .lss y z
 (AD .quo y (.int .u32 8) fun a=>AI (.arr 8192 1) t a fun b=>Uld b h fun b=>AD .rem y (.int .u32 8) fun c=>AD .shl (.int .u8 1) c fun c=>AD .andNot b c fun b=>AI (.arr 8192 1) t a fun a=>AJ 1 a b h fun h=>AD .sub w (.int .u16 1) fun a=>AD .add y (.int .u32 1) fun b=>r5 a b h)
 (SI Q r2 a b c d f g i j k m n o p q t u v w h)
def ABK (Q:Kt)(r2:R3)(a b c d f g i j k m n o p q t u v w y:Value)(h:H):Prop:=Bx (fun r5 w y h=>X0 Q r2 r5 a b c d f g i j k m n o p q t u v w y h) w y h
def Lt (Q:Kt)(r2:R3)(a b c d f g i j k m n o p q t u v w:Value)(h:H):Prop:=
 Ucm .eql q (.int .u32 0)
 (AD .add (.int .u32 1) k fun y=>ABK Q r2 a b c d f g i j k m n o p q t u v w y h)
 (SI Q r2 a b c d f g i j k m n o p q t u v w h)
def ABa (Q:Kt)(r2:R3)(r6:R1)(a b c d f g i j k m n o p q t u v w y:Value)(h:H):Prop:=
 Ucm .lss y w
 (AI (.arr 8192 1) t y fun a=>AJ 1 a (.int .u8 255) h fun h=>AD .add y (.int .i64 1) fun a=>r6 a h)
 (Lt Q r2 a b c d f g i j k m n o p q t u v (.int .u16 32768) h)
def AFL (Q:Kt)(r2:R3)(a b c d f g i j k m n o p q t u v w y:Value)(h:H):Prop:=A1 (fun r6 y h=>ABa Q r2 r6 a b c d f g i j k m n o p q t u v w y h) y h
def WN (Q:Kt)(r2:R3)(r7:R2)(a b c d f g i j k m n o p q t u v w y:Value)(h:H):Prop:=
 AD .mul q (.int .u32 32768) fun z=>AD .sub i z fun z=>Ucm .lss y z
 (AD .quo y (.int .u32 8) fun a=>AI (.arr 8192 1) t a fun b=>Uld b h fun b=>AD .rem y (.int .u32 8) fun c=>AD .shl (.int .u8 1) c fun c=>AD .or b c fun b=>AI (.arr 8192 1) t a fun a=>AJ 1 a b h fun h=>AD .add w (.int .u16 1) fun a=>AD .add y (.int .u32 1) fun b=>r7 a b h)
 (Lt Q r2 a b c d f g i j k m n o p q t u v w h)
def VY (Q:Kt)(r2:R3)(a b c d f g i j k m n o p q t u v w y:Value)(h:H):Prop:=Bx (fun r7 w y h=>WN Q r2 r7 a b c d f g i j k m n o p q t u v w y h) w y h
def Pe (Q:Kt)(r2:R3)(a b c d f g i j k m n o p q:Value)(h:H):Prop:=
 Ucm .lss q c
 (Umk 222 h fun t h=>AD .add q (.int .u32 1) fun u=>AD .mul u (.int .u32 32768) fun u=>Ucm .leq u i
 (AZ (.arr 8192 1) t none (some (.int .i64 4096)) fun u=>Ab u fun u=>AFL Q r2 a b c d f g i j k m n o p q t (.int .u16 0) (.int .u16 0) u (.int .i64 0) h)
 (AD .mul q (.int .u32 32768) fun u=>Ucm .lss u i
 (VY Q r2 a b c d f g i j k m n o p q t (.int .u16 0) (.int .u16 0) (.int .u16 0) (.int .u32 0) h)
 (Lt Q r2 a b c d f g i j k m n o p q t (.int .u16 0) (.int .u16 0) (.int .u16 0) h)))
 (AD .sub j f fun b=>AD .sub b g fun b=>AV .i64 b fun b=>AD .mul b (.int .i64 4096) fun b=>Ucl 116 [a,b] h fun b h=>AO b 0 fun _=>AO b 1 fun b=>Bq .iface true true h b .nilIface fun f=>AK f
 (Q b h)
 (Ucl 101 [a,(.int .u32 1)] h fun _ h=>Unf 7 a h fun b=>Bq .iface true true h b .nilIface fun b=>AK b
 (Unf 7 a h fun a=>Q a h)
 (Ab m fun b=>S5 Q a c d j o p m b (.int .i64 0) h)))
def VT (Q:Kt)(a b c d f g i j k m n o p q:Value)(h:H):Prop:=K9 (fun r2 o p q h=>Pe Q r2 a b c d f g i j k m n o p q h) o p q h
def Po (Q:Kt)(a b c d f g i j:Value)(h:H):Prop:=
 AD .sub c (.int .u32 1) fun k=>AD .quo k (.int .u32 128) fun k=>AD .add k (.int .u32 1) fun k=>Unf 11 a h fun m=>Ucm .gtr k m
 (Unf 10 a h fun a=>Ae (.struct [(0,1)]) (AG TP 220) [(0,a)] fun a=>Q (.iface 220 a) h)
 (Unf 11 a h fun m=>AD .mul m (.int .u32 128) fun m=>AY (AG TP 226) 12 32 226 m m h fun m h=>AD .mul d (.int .u32 256) fun n=>AD .quo n (.int .u32 4096) fun n=>VT Q a b c d f g i j k m n (.int .u32 0) (.int .u32 0) (.int .u32 0) h)
def f63 (a:Value)(h:H)(Q:Kt):Prop:=
 Ucl 91 [a] h fun b h=>Bq .iface true true h b .nilIface fun c=>AK c
 (Q b h)
 (Ucl 109 [a] h fun b h=>Ucl 112 [a,b,b] h fun b h=>Bq .iface true true h b .nilIface fun c=>AK c
 (Q b h)
 (Ucl 91 [a] h fun b h=>Bq .iface true true h b .nilIface fun c=>AK c
 (Q b h)
 (Ucl 100 [a] h fun b h=>Unf 1 a h fun c=>Ab c fun c=>AV .u32 c fun c=>Ucl 113 [b,c] h fun c h=>AO c 0 fun d=>AO c 1 fun c=>AD .mul d c fun f=>AD .mul f (.int .u32 256) fun f=>Ucl 114 [a,f] h fun f h=>Bq .iface true true h f .nilIface fun g=>AK g
 (Q f h)
 (Ucl 100 [a] h fun f h=>AD .mul d (.int .u32 2) fun g=>AD .add f g fun i=>AD .sub d (.int .u32 1) fun j=>AD .mul j (.int .u32 32768) fun j=>AD .add j (.int .u32 1) fun j=>Ucm .lss i j
 (Po Q a b d c f g i j h)
 (Po Q a b d c f g i i h)))))
def AHV (Q:Kt)(r:RS):Nat→DJ:=tab [(2147483646,.jn fun e h=>OG Q (e 0) (e 14) (e 37) (e 38) h),
 (1073741813,.lp [0,8,9,14,19,20,326,327] [328] fun s e l h=>Mb Q (u1 s) (e 0) (e 8) (e 9) (e 14) (e 19) (e 20) (e 326) (e 327) (gl l 0) h),
 (35184360158362,.jn fun e h=>MI Q (u3 (r 16777210)) (u3 (r 68719453434)) (e 0) (e 7) (e 8) (e 9) (e 11) (e 12) (e 13) (e 14) (e 16) (e 17) (e 18) (e 19) (e 20) (e 21) (e 22) (e 23) (e 24) (e 25) (e 30) (e 32) (e 233) h),
 (137438906869,.lp [0,7,8,9,11,12,13,14,16,17,18,19,20,21,22,25] [23,24,30] fun s e l h=>OX Q (u3 (r 16777210)) (u3 s) (e 0) (e 7) (e 8) (e 9) (e 11) (e 12) (e 13) (e 14) (e 16) (e 17) (e 18) (e 19) (e 20) (e 21) (e 22) (e 25) (gl l 0) (gl l 1) (gl l 2) h),
 (274877813717,.lp [0,7,8,9,11,12,13,14,16,17,18,19,20,21,22,23,24] [25,29] fun s e l h=>Tn Q (u3 (r 16777210)) (u2 s) (e 0) (e 7) (e 8) (e 9) (e 11) (e 12) (e 13) (e 14) (e 16) (e 17) (e 18) (e 19) (e 20) (e 21) (e 22) (e 23) (e 24) (gl l 0) (gl l 1) h),
 (34359726714,.jn fun e h=>Td Q (u3 (r 16777210)) (e 0) (e 7) (e 8) (e 9) (e 11) (e 12) (e 13) (e 14) (e 16) (e 17) (e 18) (e 19) (e 20) (e 21) (e 22) (e 23) (e 24) (e 25) (e 196) h),
 (8589931678,.jn fun e h=>SI Q (u3 (r 16777210)) (e 0) (e 7) (e 8) (e 9) (e 11) (e 12) (e 13) (e 14) (e 16) (e 17) (e 18) (e 19) (e 20) (e 21) (e 22) (e 23) (e 24) (e 25) h),
 (137438906837,.lp [0,7,8,9,11,12,13,14,16,17,18,19,20,21,22,23,24] [25,28] fun s e l h=>X0 Q (u3 (r 16777210)) (u2 s) (e 0) (e 7) (e 8) (e 9) (e 11) (e 12) (e 13) (e 14) (e 16) (e 17) (e 18) (e 19) (e 20) (e 21) (e 22) (e 23) (e 24) (gl l 0) (gl l 1) h),
 (4294965838,.jn fun e h=>Lt Q (u3 (r 16777210)) (e 0) (e 7) (e 8) (e 9) (e 11) (e 12) (e 13) (e 14) (e 16) (e 17) (e 18) (e 19) (e 20) (e 21) (e 22) (e 23) (e 24) (e 25) h),
 (137438906789,.lp [0,7,8,9,11,12,13,14,16,17,18,19,20,21,22,23,24,134] [135] fun s e l h=>ABa Q (u3 (r 16777210)) (u1 s) (e 0) (e 7) (e 8) (e 9) (e 11) (e 12) (e 13) (e 14) (e 16) (e 17) (e 18) (e 19) (e 20) (e 21) (e 22) (e 23) (e 24) (e 134) (gl l 0) h),
 (274877813621,.lp [0,7,8,9,11,12,13,14,16,17,18,19,20,21,22,23,24] [25,27] fun s e l h=>WN Q (u3 (r 16777210)) (u2 s) (e 0) (e 7) (e 8) (e 9) (e 11) (e 12) (e 13) (e 14) (e 16) (e 17) (e 18) (e 19) (e 20) (e 21) (e 22) (e 23) (e 24) (gl l 0) (gl l 1) h),
 (33554421,.lp [0,7,8,9,11,12,13,14,16,17,18] [19,20,21] fun s e l h=>Pe Q (u3 s) (e 0) (e 7) (e 8) (e 9) (e 11) (e 12) (e 13) (e 14) (e 16) (e 17) (e 18) (gl l 0) (gl l 1) (gl l 2) h),
 (131070,.jn fun e h=>Po Q (e 0) (e 7) (e 8) (e 9) (e 11) (e 12) (e 13) (e 14) h)]
theorem ACT {a:Value}{h:H}{Q:Kt}(x:f63 a h Q):Call TP 63 [a] h Q:=Bb (AHV Q) Tryz.func63 (by kernel_rfl) x
def Rg (Q:Kt)(r1:R3)(a b c d f:Value)(h:H):Prop:=
 Ucm .leq f (.int .u32 32768)
 (Ucl 168 [a,b,f] h fun a h=>Ucm .lss a c
 (AD .add f (.int .u32 16) fun b=>r1 a f b h)
 (AD .add f (.int .u32 16) fun a=>r1 c d a h))
 (Q (.tuple #[c,d]) h)
def YG (Q:Kt)(a b c d f:Value)(h:H):Prop:=K9 (fun r1 c d f h=>Rg Q r1 a b c d f h) c d f h
def ADl (a b:Value)(h:H)(Q:Kt):Prop:=
 YG Q a b (.int .u32 4294967295) (.int .u32 0) (.int .u32 16) h
def AGg (Q:Kt)(r:RS):Nat→DJ:=tab [(117,.lp [0,1] [4,5,6] fun s e l h=>Rg Q (u3 s) (e 0) (e 1) (gl l 0) (gl l 1) (gl l 2) h)]
theorem Ya {a b:Value}{h:H}{Q:Kt}(x:ADl a b h Q):Call TP 113 [a,b] h Q:=Bb (AGg Q) Tryz.func113 (by kernel_rfl) x
def ADC (a b c:Value)(h:H)(Q:Kt):Prop:=
 AD .mul c (.int .u32 256) fun d=>AD .quo d (.int .u32 4096) fun d=>AD .sub (.int .u32 32768) d fun d=>AD .sub d (.int .u32 2) fun d=>AD .sub b (.int .u32 1) fun b=>AD .quo b c fun b=>AD .mul b d fun b=>AD .add b (.int .u32 1) fun b=>Ucm .lss a b
 (AD .add b d fun a=>AD .sub a (.int .u32 1) fun a=>AD .quo a d fun a=>Q a h)
 (AD .add a d fun a=>AD .sub a (.int .u32 1) fun a=>AD .quo a d fun a=>Q a h)
theorem AAR {a b c:Value}{h:H}{Q:Kt}(x:ADC a b c h Q):Call TP 168 [a,b,c] h Q:=Bb nT Tryz.func168 (by kernel_rfl) x
def Cz (Q:Kt)(r1:R1)(a b c d f g:Value)(h:H):Prop:=
 Ucl 98 [a,c] h fun a h=>AO a 0 fun _=>AO a 1 fun a=>Bq .iface true true h a .nilIface fun b=>AK b
 (Q a h)
 (AD .add g (.int .i64 1) fun a=>r1 a h)
def HX (Q:Kt)(r1:R1)(a b c d f g i j:Value)(h:H):Prop:=
 AK j
 (Unf 13 c h fun j=>AD .and j (.int .u32 255) fun j=>Unf 12 c h fun k=>AD .shl k (.int .u64 8) fun k=>AD .or j k fun j=>Unf 13 c h fun k=>AD .and k (.int .u32 4294967040) fun k=>AD .shl k (.int .u64 12) fun k=>AD .or j k fun j=>AC 12 d fun k=>AZ (.arr 60 1) k (some (.int .i64 4)) none fun k=>Ucl 170 [k,j] h fun _ h=>AB true 91 d h fun d=>Ucl 171 [d] h fun d h=>AZ (.slice 1) d none (some (.int .i64 152)) fun d=>Unf 16 c h fun j=>AM 5 (AG TP 5) 1 1 d j h fun d h=>Unf 16 c h fun c=>Ab c fun c=>AD .sub (.int .i64 104) c fun c=>CI 5 (AG TP 5) 1 1 d c h fun c h=>Cz Q r1 a b c f g i h)
 (AB true 91 d h fun d=>Ucl 171 [d] h fun d h=>AZ (.slice 1) d none (some (.int .i64 152)) fun d=>Unf 16 c h fun j=>AM 5 (AG TP 5) 1 1 d j h fun d h=>Unf 16 c h fun c=>Ab c fun c=>AD .sub (.int .i64 104) c fun c=>CI 5 (AG TP 5) 1 1 d c h fun c h=>Cz Q r1 a b c f g i h)
def GP (Q:Kt)(r1:R1)(a b c d f g i j k:Value)(h:H):Prop:=
 AK k
 (AC 12 d fun j=>AZ (.arr 60 1) j none none fun j=>Unf 15 c h fun k=>DI 1 j k h fun j h=>Unf 15 c h fun k=>Ab k fun k=>Ucm .lss j k
 (Unf 15 c h fun k=>AZ (.slice 1) k (some j) none fun j=>Ae (.struct [(0,1),(1,1),(2,1)]) (AG TP 291) [(0,(.string ⟨#[100,97,116,97]⟩)),(1,(.int .u8 7)),(2,j)] fun j=>Ae (.arr 3) (AG TP 306) [(0,j)] fun j=>Umk 306 h fun k h=>AJ 3 k j h fun h=>AZ (.arr 1 3) k none none fun j=>Unf 16 c h fun k=>AZ (.slice 1) k (some (.int .i64 4)) none fun k=>Ucl 169 [j,k,(.int .u16 0)] h fun _ h=>AB true 91 d h fun d=>Ucl 171 [d] h fun d h=>AZ (.slice 1) d none (some (.int .i64 152)) fun d=>Unf 16 c h fun j=>AM 5 (AG TP 5) 1 1 d j h fun d h=>Unf 16 c h fun c=>Ab c fun c=>AD .sub (.int .i64 104) c fun c=>CI 5 (AG TP 5) 1 1 d c h fun c h=>Cz Q r1 a b c f g i h)
 (AB true 91 d h fun d=>Ucl 171 [d] h fun d h=>AZ (.slice 1) d none (some (.int .i64 152)) fun d=>Unf 16 c h fun j=>AM 5 (AG TP 5) 1 1 d j h fun d h=>Unf 16 c h fun c=>Ab c fun c=>AD .sub (.int .i64 104) c fun c=>CI 5 (AG TP 5) 1 1 d c h fun c h=>Cz Q r1 a b c f g i h))
 (Ucm .eql j (.int .u16 24576)
 (HX Q r1 a b c d f g i (.bool true) h)
 (AD .eql j (.int .u16 8192) fun j=>HX Q r1 a b c d f g i j h))
def HT (Q:Kt)(r1:R1)(a b c d f:Value)(h:H):Prop:=
 Ucm .lss f d
 (Uil c f h fun g=>Bq .ptr true true h g (.pointer none) fun i=>AK i
 (Uff 6 g fun i=>Uld i h fun j=>Uff 7 g fun k=>Uld k h fun m=>AD .and m (.int .u32 65535) fun n=>AV .u16 n fun n=>Uff 8 g fun o=>Uld o h fun p=>AD .and p (.int .u32 65535) fun q=>AV .u16 q fun q=>Uff 0 g fun t=>Uld t h fun u=>AD .and u (.int .i64 4294967295) fun v=>AV .u32 v fun v=>Uff 0 g fun w=>Uld w h fun y=>AD .shr y (.int .u64 32) fun z=>AV .u32 z fun z=>Uff 9 g fun x=>Uld x h fun e=>AV .u16 e fun s=>Uff 11 g fun l=>Uld l h fun a0=>Uff 14 g fun a1=>Uld a1 h fun a2=>Uff 10 g fun a3=>Uld a3 h fun a4=>Uff 7 g fun a5=>Uld a5 h fun a6=>AD .shr a6 (.int .u64 16) fun a7=>AV .u16 a7 fun a7=>Uff 8 g fun a8=>Uld a8 h fun a9=>AD .shr a9 (.int .u64 16) fun b0=>AV .u16 b0 fun b0=>Uff 1 g fun b1=>Uld b1 h fun b2=>AV .u32 b2 fun b3=>Uff 1 g fun b4=>Uld b4 h fun b5=>AD .shr b5 (.int .u64 32) fun b6=>AV .u32 b6 fun b6=>Uff 2 g fun b7=>Uld b7 h fun b8=>AV .u32 b8 fun b9=>Uff 2 g fun c0=>Uld c0 h fun c1=>AD .shr c1 (.int .u64 32) fun c2=>AV .u32 c2 fun c2=>Uff 3 g fun c3=>Uld c3 h fun c4=>AV .u32 c4 fun c5=>Uff 3 g fun c6=>Uld c6 h fun c7=>AD .shr c7 (.int .u64 32) fun c8=>AV .u32 c8 fun c8=>Uff 4 g fun c9=>Uld c9 h fun d0=>AV .u32 d0 fun d1=>Uff 4 g fun d2=>Uld d2 h fun d3=>AD .shr d3 (.int .u64 32) fun d4=>AV .u32 d4 fun d4=>Ae (.struct [(0,1),(1,1),(2,1),(3,1),(4,1),(5,1),(6,1),(7,1),(8,1),(9,1),(10,1),(11,1),(12,60),(72,1),(73,1),(74,1),(75,1),(76,1),(77,1),(78,1),(79,1),(80,1),(81,1),(82,1),(83,1),(84,1),(85,1),(86,1),(87,1),(88,1),(89,1),(90,1)]) (AG TP 305) [(0,j),(1,n),(7,q),(2,v),(15,z),(8,s),(9,a0),(10,a2),(14,a4),(19,a7),(20,b0),(23,(.int .u16 24)),(3,b3),(27,b6),(4,b9),(25,c2),(5,c5),(26,c8),(28,d1),(29,d4)] fun n=>Umk 305 h fun q h=>((Ukp i h j)∧(Ukp k h m)∧(Ukp o h p)∧(Ukp t h u)∧(Ukp w h y)∧(Ukp x h e)∧(Ukp l h a0)∧(Ukp a1 h a2)∧(Ukp a3 h a4)∧(Ukp a5 h a6)∧(Ukp a8 h a9)∧(Ukp b1 h b2)∧(Ukp b4 h b5)∧(Ukp b7 h b8)∧(Ukp c0 h c1)∧(Ukp c3 h c4)∧(Ukp c6 h c7)∧(Ukp c9 h d0)∧(Ukp d2 h d3)∧AJ 91 q n h fun h=>Unf 6 g h fun i=>AD .and i (.int .u16 61440) fun i=>Ucm .eql i (.int .u16 16384)
 (GP Q r1 a b g q c d f i (.bool true) h)
 (Ucm .eql i (.int .u16 32768)
 (GP Q r1 a b g q c d f i (.bool true) h)
 (AD .eql i (.int .u16 40960) fun j=>GP Q r1 a b g q c d f i j h))))
 (AY (AG TP 5) 1 1 5 (.int .i64 256) (.int .i64 256) h fun g h=>Cz Q r1 a b g c d f h))
 (Unf 1 a h fun c=>Ab c fun c=>AD .mul c (.int .i64 256) fun c=>AV .u32 c fun c=>AD .sub b c fun b=>AV .i64 b fun b=>Ucl 116 [a,b] h fun a h=>AO a 0 fun _=>AO a 1 fun a=>Bq .iface true true h a .nilIface fun b=>AK b
 (Q a h)
 (Q .nilIface h))
def XI (Q:Kt)(a b c d f:Value)(h:H):Prop:=A1 (fun r1 f h=>HT Q r1 a b c d f h) f h
def ACw (a b:Value)(h:H)(Q:Kt):Prop:=
 Unf 1 a h fun c=>Ab c fun d=>XI Q a b c d (.int .i64 0) h
def AFe (Q:Kt)(r:RS):Nat→DJ:=tab [(13518,.jn fun e h=>Cz Q (u1 (r 26)) (e 0) (e 1) (e 7) (e 20) (e 21) (e 22) h),
 (6920878,.jn fun e h=>HX Q (u1 (r 26)) (e 0) (e 1) (e 6) (e 8) (e 20) (e 21) (e 22) (e 168) h),
 (1730218,.jn fun e h=>GP Q (u1 (r 26)) (e 0) (e 1) (e 6) (e 8) (e 20) (e 21) (e 22) (e 134) (e 135) h),
 (53,.lp [0,1,20,21] [22] fun s e l h=>HT Q (u1 s) (e 0) (e 1) (e 20) (e 21) (gl l 0) h)]
theorem AAI {a b:Value}{h:H}{Q:Kt}(x:ACw a b h Q):Call TP 114 [a,b] h Q:=Bb (AFe Q) Tryz.func114 (by kernel_rfl) x
def AEA (a:Value)(h:H)(Q:Kt):Prop:=
 BB 226 (a:Value).cells h fun a h=>Ufl 0 a h fun b=>Ucl 172 [(.slice none 0 0),b] h fun b h=>Ufl 1 a h fun c=>Ucl 172 [b,c] h fun b h=>Ufl 2 a h fun c=>Ucl 172 [b,c] h fun b h=>Ufl 3 a h fun c=>Ucl 173 [b,c] h fun b h=>Ufl 4 a h fun c=>Ucl 173 [b,c] h fun b h=>Ufl 5 a h fun c=>Ucl 173 [b,c] h fun b h=>Ufl 6 a h fun c=>Ucl 173 [b,c] h fun b h=>Ufl 7 a h fun c=>Ucl 172 [b,c] h fun b h=>Ufl 8 a h fun c=>Ucl 173 [b,c] h fun b h=>Ufl 9 a h fun c=>Ucl 173 [b,c] h fun b h=>Ufl 10 a h fun c=>Ucl 173 [b,c] h fun b h=>Ufl 11 a h fun a=>Ucl 173 [b,a] h fun a h=>Q a h
theorem AAA {a:Value}{h:H}{Q:Kt}(x:AEA a h Q):Call TP 118 [a] h Q:=Bb nT Tryz.func118 (by kernel_rfl) x
def SA (Q:Kt)(r1:R2)(a b c d:Value)(h:H):Prop:=
 Ucm .lss d (.int .i64 96)
 (Ch false 96 1 b d fun a=>Ucl 172 [c,a] h fun a h=>AD .add d (.int .i64 1) fun b=>r1 a b h)
 (Ufl 464 a h fun a=>Ucl 172 [c,a] h fun a h=>Q a h)
def QZ (Q:Kt)(a b c d:Value)(h:H):Prop:=Bx (fun r1 c d h=>SA Q r1 a b c d h) c d h
def Q4 (Q:Kt)(r2:R2)(a b c d:Value)(h:H):Prop:=
 Ucm .lss d (.int .i64 2)
 (Ch false 2 1 b d fun a=>Ucl 172 [c,a] h fun a h=>AD .add d (.int .i64 1) fun b=>r2 a b h)
 (AC 337 a fun b=>AZ (.arr 4 1) b none none fun b=>AM 5 (AG TP 5) 1 1 c b h fun b h=>AC 341 a fun c=>AZ (.arr 16 1) c none none fun c=>AM 5 (AG TP 5) 1 1 b c h fun b h=>Ufl 357 a h fun c=>Ucl 172 [b,c] h fun b h=>Ufl 358 a h fun c=>Ucl 172 [b,c] h fun b h=>Ufl 359 a h fun c=>Ucl 172 [b,c] h fun b h=>Ufl 360 a h fun c=>AH (.arr 1) 5 (AG TP 5) 1 1 [(0,c)] h fun c h=>AM 5 (AG TP 5) 1 1 b c h fun b h=>Ufl 361 a h fun c=>AH (.arr 1) 5 (AG TP 5) 1 1 [(0,c)] h fun c h=>AM 5 (AG TP 5) 1 1 b c h fun b h=>Ufl 362 a h fun c=>AH (.arr 1) 5 (AG TP 5) 1 1 [(0,c)] h fun c h=>AM 5 (AG TP 5) 1 1 b c h fun b h=>Ufl 363 a h fun c=>AH (.arr 1) 5 (AG TP 5) 1 1 [(0,c)] h fun c h=>AM 5 (AG TP 5) 1 1 b c h fun b h=>Ufl 364 a h fun c=>AH (.arr 1) 5 (AG TP 5) 1 1 [(0,c)] h fun c h=>AM 5 (AG TP 5) 1 1 b c h fun b h=>Ufl 365 a h fun c=>AH (.arr 1) 5 (AG TP 5) 1 1 [(0,c)] h fun c h=>AM 5 (AG TP 5) 1 1 b c h fun b h=>AC 366 a fun c=>AZ (.arr 2 1) c none none fun c=>AM 5 (AG TP 5) 1 1 b c h fun b h=>AC 368 a fun c=>AB true 96 c h fun c=>QZ Q a c b (.int .i64 0) h)
def Ql (Q:Kt)(a b c d:Value)(h:H):Prop:=Bx (fun r2 c d h=>Q4 Q r2 a b c d h) c d h
def Qn (Q:Kt)(r3:R2)(a b c d:Value)(h:H):Prop:=
 Ucm .lss d (.int .i64 17)
 (Ch false 17 1 b d fun a=>Ucl 172 [c,a] h fun a h=>AD .add d (.int .i64 1) fun b=>r3 a b h)
 (Ufl 177 a h fun b=>Ucl 172 [c,b] h fun b h=>Ufl 178 a h fun c=>Ucl 172 [b,c] h fun b h=>Ufl 179 a h fun c=>Ucl 172 [b,c] h fun b h=>Ufl 180 a h fun c=>Ucl 173 [b,c] h fun b h=>Ufl 181 a h fun c=>Ucl 173 [b,c] h fun b h=>Ufl 182 a h fun c=>Ucl 172 [b,c] h fun b h=>Ufl 183 a h fun c=>Ucl 173 [b,c] h fun b h=>Ufl 184 a h fun c=>Ucl 173 [b,c] h fun b h=>Ufl 185 a h fun c=>Ucl 174 [b,c] h fun b h=>Ufl 186 a h fun c=>Ucl 172 [b,c] h fun b h=>Ufl 187 a h fun c=>AH (.arr 1) 5 (AG TP 5) 1 1 [(0,c)] h fun c h=>AM 5 (AG TP 5) 1 1 b c h fun b h=>Ufl 188 a h fun c=>AH (.arr 1) 5 (AG TP 5) 1 1 [(0,c)] h fun c h=>AM 5 (AG TP 5) 1 1 b c h fun b h=>Ufl 189 a h fun c=>Ucl 173 [b,c] h fun b h=>Ufl 190 a h fun c=>Ucl 174 [b,c] h fun b h=>Ufl 191 a h fun c=>Ucl 172 [b,c] h fun b h=>Ufl 192 a h fun c=>Ucl 172 [b,c] h fun b h=>Ufl 193 a h fun c=>Ucl 174 [b,c] h fun b h=>Ufl 194 a h fun c=>Ucl 172 [b,c] h fun b h=>Ufl 195 a h fun c=>Ucl 172 [b,c] h fun b h=>Ufl 196 a h fun c=>Ucl 172 [b,c] h fun b h=>Ufl 197 a h fun c=>Ucl 172 [b,c] h fun b h=>Ufl 198 a h fun c=>Ucl 174 [b,c] h fun b h=>AC 199 a fun c=>AZ (.arr 32 1) c none none fun c=>AM 5 (AG TP 5) 1 1 b c h fun b h=>Ufl 231 a h fun c=>Ucl 172 [b,c] h fun b h=>Ufl 232 a h fun c=>Ucl 172 [b,c] h fun b h=>Ufl 233 a h fun c=>Ucl 172 [b,c] h fun b h=>Ufl 234 a h fun c=>Ucl 172 [b,c] h fun b h=>Ufl 235 a h fun c=>Ucl 174 [b,c] h fun b h=>AC 236 a fun c=>AZ (.arr 32 1) c none none fun c=>AM 5 (AG TP 5) 1 1 b c h fun b h=>AC 268 a fun c=>AZ (.arr 64 1) c none none fun c=>AM 5 (AG TP 5) 1 1 b c h fun b h=>Ufl 332 a h fun c=>Ucl 172 [b,c] h fun b h=>Ufl 333 a h fun c=>Ucl 172 [b,c] h fun b h=>Ufl 334 a h fun c=>Ucl 172 [b,c] h fun b h=>AC 335 a fun c=>AB true 2 c h fun c=>Ql Q a c b (.int .i64 0) h)
def Rj (Q:Kt)(a b c d:Value)(h:H):Prop:=Bx (fun r3 c d h=>Qn Q r3 a b c d h) c d h
def QB (Q:Kt)(r4:R2)(a b c d:Value)(h:H):Prop:=
 Ucm .lss d (.int .i64 4)
 (Ch false 4 1 b d fun a=>Ucl 172 [c,a] h fun a h=>AD .add d (.int .i64 1) fun b=>r4 a b h)
 (Ufl 154 a h fun b=>AH (.arr 1) 5 (AG TP 5) 1 1 [(0,b)] h fun b h=>AM 5 (AG TP 5) 1 1 c b h fun b h=>Ufl 155 a h fun c=>AH (.arr 1) 5 (AG TP 5) 1 1 [(0,c)] h fun c h=>AM 5 (AG TP 5) 1 1 b c h fun b h=>Ufl 156 a h fun c=>Ucl 173 [b,c] h fun b h=>Ufl 157 a h fun c=>Ucl 172 [b,c] h fun b h=>Ufl 158 a h fun c=>Ucl 172 [b,c] h fun b h=>Ufl 159 a h fun c=>Ucl 172 [b,c] h fun b h=>AC 160 a fun c=>AB true 17 c h fun c=>Rj Q a c b (.int .i64 0) h)
def QH (Q:Kt)(a b c d:Value)(h:H):Prop:=Bx (fun r4 c d h=>QB Q r4 a b c d h) c d h
def ADJ (a:Value)(h:H)(Q:Kt):Prop:=
 BB 242 (a:Value).cells h fun a h=>Ufl 0 a h fun b=>Ucl 172 [(.slice none 0 0),b] h fun b h=>Ufl 1 a h fun c=>Ucl 172 [b,c] h fun b h=>Ufl 2 a h fun c=>Ucl 172 [b,c] h fun b h=>Ufl 3 a h fun c=>Ucl 172 [b,c] h fun b h=>Ufl 4 a h fun c=>Ucl 172 [b,c] h fun b h=>Ufl 5 a h fun c=>Ucl 172 [b,c] h fun b h=>Ufl 6 a h fun c=>Ucl 172 [b,c] h fun b h=>Ufl 7 a h fun c=>Ucl 172 [b,c] h fun b h=>Ufl 8 a h fun c=>Ucl 172 [b,c] h fun b h=>Ufl 9 a h fun c=>Ucl 172 [b,c] h fun b h=>Ufl 10 a h fun c=>Ucl 172 [b,c] h fun b h=>Ufl 11 a h fun c=>Ucl 172 [b,c] h fun b h=>Ufl 12 a h fun c=>Ucl 172 [b,c] h fun b h=>Ufl 13 a h fun c=>Ucl 173 [b,c] h fun b h=>Ufl 14 a h fun c=>Ucl 173 [b,c] h fun b h=>Ufl 15 a h fun c=>Ucl 173 [b,c] h fun b h=>Ufl 16 a h fun c=>Ucl 173 [b,c] h fun b h=>Ufl 17 a h fun c=>Ucl 173 [b,c] h fun b h=>Ufl 18 a h fun c=>Ucl 173 [b,c] h fun b h=>Ufl 19 a h fun c=>Ucl 172 [b,c] h fun b h=>Ufl 20 a h fun c=>Ucl 172 [b,c] h fun b h=>Ufl 21 a h fun c=>Ucl 172 [b,c] h fun b h=>Ufl 22 a h fun c=>Ucl 172 [b,c] h fun b h=>Ufl 23 a h fun c=>Ucl 173 [b,c] h fun b h=>Ufl 24 a h fun c=>Ucl 173 [b,c] h fun b h=>Ufl 25 a h fun c=>Ucl 172 [b,c] h fun b h=>Ufl 26 a h fun c=>Ucl 173 [b,c] h fun b h=>Ufl 27 a h fun c=>Ucl 173 [b,c] h fun b h=>Ufl 28 a h fun c=>Ucl 172 [b,c] h fun b h=>Ufl 29 a h fun c=>Ucl 172 [b,c] h fun b h=>Ufl 30 a h fun c=>Ucl 172 [b,c] h fun b h=>AC 31 a fun c=>AZ (.arr 16 1) c none none fun c=>AM 5 (AG TP 5) 1 1 b c h fun b h=>AC 47 a fun c=>AZ (.arr 16 1) c none none fun c=>AM 5 (AG TP 5) 1 1 b c h fun b h=>AC 63 a fun c=>AZ (.arr 64 1) c none none fun c=>AM 5 (AG TP 5) 1 1 b c h fun b h=>Ufl 127 a h fun c=>Ucl 172 [b,c] h fun b h=>Ufl 128 a h fun c=>AH (.arr 1) 5 (AG TP 5) 1 1 [(0,c)] h fun c h=>AM 5 (AG TP 5) 1 1 b c h fun b h=>Ufl 129 a h fun c=>AH (.arr 1) 5 (AG TP 5) 1 1 [(0,c)] h fun c h=>AM 5 (AG TP 5) 1 1 b c h fun b h=>Ufl 130 a h fun c=>Ucl 173 [b,c] h fun b h=>AC 131 a fun c=>AZ (.arr 16 1) c none none fun c=>AM 5 (AG TP 5) 1 1 b c h fun b h=>Ufl 147 a h fun c=>Ucl 172 [b,c] h fun b h=>Ufl 148 a h fun c=>Ucl 172 [b,c] h fun b h=>Ufl 149 a h fun c=>Ucl 172 [b,c] h fun b h=>AC 150 a fun c=>AB true 4 c h fun c=>QH Q a c b (.int .i64 0) h
def AEo (Q:Kt)(r:RS):Nat→DJ:=tab [(10141204801825835211973625642997,.lp [1,424] [3,425] fun s e l h=>SA Q (u2 s) (e 1) (e 424) (gl l 0) (gl l 1) h),
 (1237940039285380274899124213,.lp [1,361] [3,362] fun s e l h=>Q4 Q (u2 s) (e 1) (e 361) (gl l 0) (gl l 1) h),
 (72057594037927925,.lp [1,218] [3,219] fun s e l h=>Qn Q (u2 s) (e 1) (e 218) (gl l 0) (gl l 1) h),
 (562949953421301,.lp [1,183] [3,184] fun s e l h=>QB Q (u2 s) (e 1) (e 183) (gl l 0) (gl l 1) h)]
theorem AAo {a:Value}{h:H}{Q:Kt}(x:ADJ a h Q):Call TP 119 [a] h Q:=Bb (AEo Q) Tryz.func119 (by kernel_rfl) x
def ADp (a:Value)(h:H)(Q:Kt):Prop:=
 BB 305 (a:Value).cells h fun a h=>Ufl 0 a h fun b=>Ucl 173 [(.slice none 0 0),b] h fun b h=>Ufl 1 a h fun c=>Ucl 173 [b,c] h fun b h=>Ufl 2 a h fun c=>Ucl 172 [b,c] h fun b h=>Ufl 3 a h fun c=>Ucl 172 [b,c] h fun b h=>Ufl 4 a h fun c=>Ucl 172 [b,c] h fun b h=>Ufl 5 a h fun c=>Ucl 172 [b,c] h fun b h=>Ufl 6 a h fun c=>Ucl 172 [b,c] h fun b h=>Ufl 7 a h fun c=>Ucl 173 [b,c] h fun b h=>Ufl 8 a h fun c=>Ucl 173 [b,c] h fun b h=>Ufl 9 a h fun c=>Ucl 172 [b,c] h fun b h=>Ufl 10 a h fun c=>Ucl 172 [b,c] h fun b h=>Ufl 11 a h fun c=>Ucl 172 [b,c] h fun b h=>AC 12 a fun c=>AZ (.arr 60 1) c none none fun c=>AM 5 (AG TP 5) 1 1 b c h fun b h=>Ufl 72 a h fun c=>Ucl 172 [b,c] h fun b h=>Ufl 73 a h fun c=>Ucl 172 [b,c] h fun b h=>Ufl 74 a h fun c=>Ucl 172 [b,c] h fun b h=>Ufl 75 a h fun c=>Ucl 172 [b,c] h fun b h=>Ufl 76 a h fun c=>Ucl 173 [b,c] h fun b h=>Ufl 77 a h fun c=>Ucl 173 [b,c] h fun b h=>Ufl 78 a h fun c=>Ucl 173 [b,c] h fun b h=>Ufl 79 a h fun c=>Ucl 173 [b,c] h fun b h=>Ufl 80 a h fun c=>Ucl 173 [b,c] h fun b h=>Ufl 81 a h fun c=>Ucl 173 [b,c] h fun b h=>Ufl 82 a h fun c=>Ucl 173 [b,c] h fun b h=>Ufl 83 a h fun c=>Ucl 173 [b,c] h fun b h=>Ufl 84 a h fun c=>Ucl 172 [b,c] h fun b h=>Ufl 85 a h fun c=>Ucl 172 [b,c] h fun b h=>Ufl 86 a h fun c=>Ucl 172 [b,c] h fun b h=>Ufl 87 a h fun c=>Ucl 172 [b,c] h fun b h=>Ufl 88 a h fun c=>Ucl 172 [b,c] h fun b h=>Ufl 89 a h fun c=>Ucl 172 [b,c] h fun b h=>Ufl 90 a h fun a=>Ucl 172 [b,a] h fun a h=>Q a h
theorem ZQ {a:Value}{h:H}{Q:Kt}(x:ADp a h Q):Call TP 171 [a] h Q:=Bb nT Tryz.func171 (by kernel_rfl) x
end
section
variable {h:H} {k:Value→Prop} {kt Q:Kt} {x y r:Res} {wb:Nat} {S S':PS} {ad:Nat→Nat}
def E5 (n:Nat):Bs:=Ac n++Ac (n/4294967296)
theorem O0 (n:Nat):Ac (n%4294967296)=Ac n:=by
 unfold Ac
 have h:∀ a b:Nat,a%256=b%256→UInt8.ofNat a=UInt8.ofNat b:=fun a b h=>by
  apply A97.1
  simp[h]
 congr 1
 ·exact h _ _ (by omega)
 ·congr 1
  ·exact h _ _ (by omega)
  ·congr 1
   ·exact h _ _ (by omega)
   ·congr 1
    exact h _ _ (by omega)
theorem AHn {v:Value}{bs:Bs}{n:Nat}(b:BufV v bs r)(w:AN (r+x) h)(hn:n<18446744073709551616)(hl:bs.length+8≤140737488355328)(K:∀ v r h,BufV v (bs++E5 n) r→AN (r+x) h→Q v h):ABz v (.int .u64 n) h Q:=by
 unfold ABz Ucl
 simp only[go_sem]
 refine Eo (OU b w (by omega) fun v r h b w=>?_)
 refine Eo (OU b w (by simp[Av];omega) fun v r h b w=>K v r h ?_ w)
 rw[O0,O0,A12] at b
 exact b
section chain
variable {pb i m n:Nat} {cs:Array Value} {T:TypeId} {v:Value} {bs:Bs} {kk:Kt}
abbrev ChR (r x:Res)(pb:Nat)(cs:Array Value)(T:TypeId):Res:=r+(pts pb (.cells cs T (0,0))+x)
theorem Jr {k:Value→Prop}{u:Value}(w:AN (ChR r x pb cs T) h)(hg:cs[i]? = some u)(K:k u):AC i (Pt pb) fun a=>AB false 1 a h k:=by
 rw[DW,Fp,AF w,hg]
 exact K
theorem BC (bv:BufV v bs r)(w:AN (ChR r x pb cs T) h)(hl:bs.length=m)(hm:m≤100000)(hg:cs[i]? = some (.int .u32 n))(K:∀ v r h,BufV v (bs++Ac n) r→AN (ChR r x pb cs T) h→(bs++Ac n).length=m+4→kk v h) :
  AC i (Pt pb) fun a=>AB false 1 a h fun y=>Call TP 172 [v,y] h kk:=
 Jr w hg (Eo (OU bv w (by omega) fun v r h b w=>K v r h b w (by rw[A01,hl];rfl)))
theorem CN (bv:BufV v bs r)(w:AN (ChR r x pb cs T) h)(hl:bs.length=m)(hm:m≤100000)(hg:cs[i]? = some (.int .u16 n))(K:∀ v r h,BufV v (bs++Aq n) r→AN (ChR r x pb cs T) h→(bs++Aq n).length=m+2→kk v h) :
  AC i (Pt pb) fun a=>AB false 1 a h fun y=>Call TP 173 [v,y] h kk:=
 Jr w hg (Ek (On bv w (by omega) fun v r h b w=>K v r h b w (by rw[A01,hl];rfl)))
theorem WG (bv:BufV v bs r)(w:AN (ChR r x pb cs T) h)(hl:bs.length=m)(hm:m≤100000)(hn:n<18446744073709551616)(hg:cs[i]? = some (.int .u64 n))(K:∀ v r h,BufV v (bs++E5 n) r→AN (ChR r x pb cs T) h→(bs++E5 n).length=m+8→kk v h) :
  AC i (Pt pb) fun a=>AB false 1 a h fun y=>Call TP 174 [v,y] h kk:=
 Jr w hg (Yz (AHn bv w hn (by omega) fun v r h b w=>K v r h b w (by rw[A01,hl];rfl)))
theorem U0 (bv:BufV v bs r)(w:AN (ChR r x pb cs T) h)(hl:bs.length=m)(hm:m≤100000)(hn:n<256)(hg:cs[i]? = some (.int .u8 n))(K:∀ v r h,BufV v (bs++[UInt8.ofNat n]) r→AN (ChR r x pb cs T) h→(bs++[UInt8.ofNat n]).length=m+1→kk v h) :
  AC i (Pt pb) fun a=>AB false 1 a h fun y=>AH (.arr 1) 5 (AG TP 5) 1 1 [(0,y)] h fun c h=>AM 5 (AG TP 5) 1 1 v c h kk:=
 Jr w hg (KC bv w hn (by omega) fun v r h b w=>K v r h b w (by rw[A01,hl];rfl))
theorem Cu {b o n sz:Nat}(hn:0<n):AZ (.arr n sz) (.pointer (some ⟨b,o,none⟩)) none none k=k (.slice (some ⟨b,o,none⟩) n n):=by
 have hv:A6 (.arr n sz) (.pointer (some ⟨b,o,none⟩)) none none=some (.slice (some ⟨b,o,none⟩) n n):=by
  simp only[A6,Ay]
  rw[A03 ⟨A39 _,A07 _⟩,A05 (by omega),A92]
  rfl
 exact propext ⟨fun⟨v,a,b⟩=>by rw[hv] at a;cases a;exact b,fun a=>⟨_,hv,a⟩⟩
theorem Wa {news:Bs}(bv:BufV v bs r)(w:AN (ChR r x pb cs T) h)(hl:bs.length=m)(hm:m≤100000)(hn:news.length=n)(h0:0<n)(hn2:n≤1000)(hsz:i+n≤cs.size)(hg:cs.extract i (i+n)=bcs news)(K:∀ v r h,BufV v (bs++news) r→AN (ChR r x pb cs T) h→(bs++news).length=m+n→kk v h) :
  AC i (Pt pb) fun a=>AZ (.arr n 1) a none none fun c=>AM 5 (AG TP 5) 1 1 v c h kk:=by
 rw[DW,Fp,Cu h0]
 refine⟨n,bcs news,rfl,?_,?_⟩
 ·unfold BF
  simp only[w.right.left.one,A86,A45,if_false,A67]
  rw[A03 hsz,hg]
 ·have:=GO (news:=news) bv w (by omega) fun v r h b w=>K v r h b w (by rw[A01,hl,hn])
  rw[hn] at this
  exact this
theorem bwL (bv:BufV v bs r)(w:AN (ChR r x pb cs T) h)(hl:bs.length=m)(hm:m≤100000)(hn2:n≤1000)(hsz:i+n≤cs.size)(hz:∀ j,j<n→cs[i+j]? = some (.int .u32 0))(K:∀ v r h,BufV v (bs++List.replicate (4*n) 0) r→AN (ChR r x pb cs T) h→(bs++List.replicate (4*n) 0).length=m+4*n→kk v h){nv:Value}(hnv:nv=.int .i64 (n:Int)) :
  AC i (Pt pb) fun a=>AB true n a h fun arr=>Bx (fun rec x3 u h=>AD .lss u nv fun c=>AK c (Ch false n 1 arr u fun e=>Call TP 172 [x3,e] h fun v h=>AD .add u (.int .i64 1) fun u=>rec v u h) (kk x3 h)) v (.int .i64 0) h:=by
 subst hnv
 rw[DW,Fp,Am (w.find (b:=pb)) hsz]
 refine DE (fun mm v' u h'=>∃ (j:Nat) (r:Res),mm=n-j∧j≤n∧u=.int .i64 (j:Nat)∧BufV v' (bs++List.replicate (4*j) 0) r∧AN (ChR r x pb cs T) h') n ⟨0,r,rfl,A39 _,rfl,by simpa using bv,w⟩ ?_
 rintro rec mm v' u h' ⟨j,r,rfl,hj,rfl,bv,w⟩ hrec
 simp (disch:=omega) only[go_sem]
 refine AX (fun hc=>?_) (fun hc=>?_)
 ·have hjn:j<n:=by omega
  refine⟨_,.i64,j,.int .u32 ((0:Nat):Int),rfl,rfl,by omega,by omega,?_,?_⟩
  ·rw[A77,A67]
   show (cs.extract i (i+n))[j]? = _
   rw[Array.getElem?_extract,A03 (by omega),hz j hjn]
   rfl
  ·refine Eo (OU bv w (by simp;omega) fun v r h b w=>?_)
   have hb:bs++List.replicate (4*j) 0++Ac 0=bs++List.replicate (4*(j+1)) 0:=by
    rw[A12,show 4*(j+1)=4*j+4 by omega,←List.replicate_append_replicate]
    rfl
   rw[hb] at b
   exact hrec _ _ _ _ ⟨j+1,r,rfl,by omega,rfl,b,w⟩ (by omega)
 ·have hjn:j=n:=by omega
  subst hjn
  exact K _ _ _ bv w (by rw[A01,hl,A09])
end chain
def HF (hd:List Value)(all:Bs)(tl:List Value):Array Value:=⟨hd++all.map bc++tl⟩
theorem ACQ {hd tl:List Value}{all:Bs}{i:Nat}(h:i<hd.length):(HF hd all tl)[i]? = hd[i]?:=by
 unfold HF
 rw[B37,A18 (by simp;omega),A18 h]
theorem ACi {hd tl:List Value}{all:Bs}{i j:Nat}(h:i=hd.length+all.length+j):(HF hd all tl)[i]? = tl[j]?:=by
 unfold HF
 rw[B37,A17 (by simp;omega)]
 congr 1
 simp;omega
theorem Yw {hd tl:List Value}{all:Bs}{i n:Nat}(hi:i=hd.length)(hn:n=all.length):(HF hd all tl).extract i (i+n)=bcs all:=by
 subst hi hn
 apply A56
 simp[HF,bcs,A44]
theorem Gh {hd tl:List Value}{all:Bs}:(HF hd all tl).size=hd.length+all.length+tl.length:=by simp[HF];omega
theorem IJ {hd tl:List Value}{all m:Bs}{i o:Nat}(hi:i=hd.length+o)(h:o+m.length≤all.length):Ai (HF hd all tl) i (m.map bc)=HF hd (setL all o m) tl:=by
 subst hi
 apply B02
 intro j
 rw[DZ _ _ _ _ (by rw[Gh];simp;omega)]
 unfold HF
 simp only[B37,A25,A21]
 by_cases h1:j<hd.length
 ·rw[A05 (by omega),A12,A12,A18 h1,A18 h1]
 ·by_cases h2:j<hd.length+all.length
  ·have hs:(setL all o m).length=all.length:=AS h
   have mid:∀ l:Bs,l.length=all.length→(hd++l.map bc++tl)[j]? = (l[j-hd.length]?).map bc:=fun l hl=>by
    rw[A12,A17 (by omega),A18 (by rw[A25,hl];omega),A21]
   rw[mid _ rfl,mid _ hs,DN h]
   by_cases h3:hd.length+o≤j∧j<hd.length+o+m.length
   ·rw[A03 h3,A05 (by omega),A03 (by omega)]
    congr 2
    omega
   ·rw[A05 h3]
    by_cases h4:j-hd.length<o
    ·rw[A03 h4]
    ·rw[A05 h4,A05 (by omega)]
  ·rw[A05 (by omega),A17 (by simp;omega),A17 (by rw[A01,A25,AS h];omega)]
   simp only[A01,A25,AS h]
end
end Go.Proofs.YtollddkkdgoonaaGreatDoor
