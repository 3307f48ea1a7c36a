/- A part of a proof over images that are written and read. No condition; a step. -/
import Derived.Test.YtollddkkdgoonaaGreatDoorM22
namespace Go.Proofs.YtollddkkdgoonaaGreatDoor
open Go
set_option linter.unusedVariables false
set_option linter.unusedSimpArgs false
section
attribute [local irreducible] BR
section
variable {p:PN} {I:Bs} {nb n st len:Nat}
theorem OL (h:(BR p).length=256)(h2:leL (BR p) 104 4=0)(h3:(BR p).drop 152=[]++List.replicate (104-0) 0):XaR (BR p) []:=by
 refine⟨h,h2,.inl ⟨?_,rfl⟩⟩
 have:leL (BR p) 152 4=leL ((BR p).drop 152) 0 4:=(DQ (k:=152) (p:=0)).symm
 rw[this,h3,A34,FJ]
 decide
theorem LX:NoDup2 []:=fun i j p q h=>by simp at h
theorem Ub (k:PNb p)(hf:p.flags=262144)(hd:p.dbs=[])(hx:p.xbs=[])(hs:p.size=0)(hb:p.bcnt=0)(hk:kindL p.mode=1∨kindL p.mode=3∨kindL p.mode=4∨kindL p.mode=5∨kindL p.mode=6) :
  ∃ X',InoOK I nb (BR p) n X' [] [] []∧X' = {rdX p n with major:=X'.major,minor:=X'.minor}:=by
 have hxo:xOK p:=fun _ h=>by rw[hd] at h;simp at h
 have hxb:Bl p=[]:=by unfold Bl;rw[A05 (by rw[hd];simp),hx]
 obtain⟨r1,r2,r3,r4,r5,r6,r7,r8,r9,r10,r11,r12⟩:=LD k n (by rw[hx];simp) hxo
 rw[hxb] at r12
 have hinl:(rdX p n).inl=false:=by show decide _=false;rw[hf];rfl
 have hcon:∃ X',ContR I nb (rdX p n) (Dz p) [] [] X' []∧X' = {rdX p n with major:=X'.major,minor:=X'.minor}:=by
  rcases hk with h|h|h|h|h
  ·exact⟨_,.empty (.inl h) hinl (by show p.flags &&& _=_;rw[hf];rfl) hs,rfl⟩
  ·exact⟨_,.dev (.inl h) hs (by show p.flags &&& _=_;rw[hf];rfl),rfl⟩
  ·exact⟨_,.dev (.inr h) hs (by show p.flags &&& _=_;rw[hf];rfl),rfl⟩
  ·exact⟨_,.pipe (.inl h) hs (by show p.flags &&& _=_;rw[hf];rfl),rfl⟩
  ·exact⟨_,.pipe (.inr h) hs (by show p.flags &&& _=_;rw[hf];rfl),rfl⟩
 obtain⟨X',hc,hX⟩:=hcon
 refine⟨X',⟨r2,r3,by rw[r6];omega,r4,by rw[r7,r8,r9,r10];exact k.ns,OL r2 r5 r12,LX,by simp,by simp,by simp[restOf],?_,?_,?_⟩,hX⟩
 ·rw[r1,r11];exact hc
 ·unfold secOK
  rw[hX]
  show if p.flags &&& 262144≠0 then p.bcnt=0 else p.bcnt=0*8
  rw[hf,hb];simp
 ·rw[hX];show 0<1000000;decide
theorem ES (h1:len<65536)(h2:st<4294967296):Ext1 (extRoot len st) st len∧(extRoot len st).length=60:=by
 have e:extRoot len st=Aq 62218++(Aq 1++(Aq 4++(Aq 0++(Ac 0++(Ac 0++(Aq len++(Aq 0++(Ac st++(Do 0 0 0 0++(Do 0 0 0 0++Do 0 0 0 0)))))))))):=by
  unfold extRoot K4 By By By By By N5
  rw[A03 rfl,A05 (by decide),A05 (by decide),A05 (by decide)]
  unfold Do
  simp only[A12,A34]
 have hl:(extRoot len st).length=60:=by rw[e];simp[BI,Av,Do]
 have z16:∀ (a q n:Nat) (r:Bs),leL (Aq a++r) (q+2) n=leL r q n:=fun a q n r=>Eh
 have z32:∀ (a q n:Nat) (r:Bs),leL (Ac a++r) (q+4) n=leL r q n:=fun a q n r=>Bo
 have d12:∀ {q n v:Nat},q+n≤12→leL (extRoot len st) (12+q) n=v→leL (((extRoot len st).drop 12).take 12) q n=v:=fun h1 h2=>by rw[EQ h1,DQ];exact h2
 refine⟨⟨hl,?_,?_,?_,?_,d12 (by omega) ?_,d12 (by omega) ?_,d12 (by omega) ?_,d12 (by omega) ?_⟩,hl⟩
 all_goals rw[e]
 ·exact BX
 ·rw[z16 _ 0,BX]
 ·rw[z16 _ 2,z16 _ 0,BX]
 ·rw[z16 _ 4,z16 _ 2,z16 _ 0,BX]
 ·rw[z16 _ 10,z16 _ 8,z16 _ 6,z16 _ 4,z32 _ 0,An]
 ·rw[z16 _ 14,z16 _ 12,z16 _ 10,z16 _ 8,z32 _ 4,z32 _ 0,BX,A23 h1]
 ·rw[z16 _ 16,z16 _ 14,z16 _ 12,z16 _ 10,z32 _ 6,z32 _ 2,z16 _ 0,BX]
 ·rw[z16 _ 18,z16 _ 16,z16 _ 14,z16 _ 12,z32 _ 8,z32 _ 4,z16 _ 2,z16 _ 0,An,A23 h2]
theorem Q1 {m:Bs}(h:m.length=60):setL Bf 0 m=m:=by
 unfold setL Bf
 rw[B17,A34,h,A59 (by simp),A22]
theorem Sv (k:PNb p)(hf:p.flags=786432)(hd:p.dbs=extRoot len st)(hx:p.xbs=[])(hs1:(len-1)*4096<p.size)(hs2:p.size≤len*4096)(hb:p.bcnt=len)(h1:0<len)(h2:len≤32768)(h3:st+len≤nb)(hnb:nb≤32768)(hk:Cw p)(hk2:kindL p.mode=1∨kindL p.mode=2∨kindL p.mode=7) :
  InoOK I nb (BR p) n {rdX p n with blk:=len} ((I.drop (st*4096)).take p.size) [] ((List.range len).map (st + ·)):=by
 obtain⟨x1,hl⟩:=ES (len:=len) (st:=st) (by omega) (by omega)
 have hxo:xOK p:=fun _ h=>by rw[hd,hl] at h;omega
 have hxb:Bl p=[]:=by unfold Bl;rw[A05 (by rw[hd,hl];omega),hx]
 have hblk:Dz p=extRoot len st:=by
  unfold Dz
  rw[A03 hk,hd,A43 (by omega),Q1 hl]
 obtain⟨r1,r2,r3,r4,r5,r6,r7,r8,r9,r10,r11,r12⟩:=LD k n (by rw[hx];simp) hxo
 rw[hxb] at r12
 have hinl:(rdX p n).inl=false:=by show decide _=false;rw[hf];rfl
 refine⟨r2,r3,by rw[r6];omega,r4,by rw[r7,r8,r9,r10];exact k.ns,OL r2 r5 r12,LX,by simp,by simp,by simp[restOf],?_,?_,?_⟩
 ·rw[r1,r11,hblk]
  have:=ContR.ext (I:=I) (nb:=nb) (X:=rdX p n) (e:=extRoot len st) (rest:=restOf []) (start:=st) (len:=len) hk2 hinl (by show p.flags &&& _≠0;rw[hf];decide) x1 hs1 h1 h2 h3 hs2 (by show 0<100000;decide)
  have e:(rdX p n).blk+len=len:=A29 _
  rw[e] at this
  exact this
 ·unfold secOK
  show if p.flags &&& 262144≠0 then p.bcnt=len else p.bcnt=len*8
  rw[hf,hb];simp
 ·show len<1000000;omega
end
end
section
theorem PO:∀ (l:Bs) (hh:Nat),hh<4294967296→C9 hh l<4294967296
 | a::b::c::d::l,hh,h=>by rw[C9];exact PO l _ (Gz h (FG ..))
 | [],hh,h=>h
 | [a],hh,h=>Gz h (FG ..)
 | [a,b],hh,h=>Gz h (FG ..)
 | [a,b,c],hh,h=>Gz h (FG ..)
theorem WP {nm v:Bs}:hashX nm v<4294967296:=PO _ _ (H2 _ _ (by decide))
theorem ADZ {b:Bs}{q n:Nat}(h:q<b.length):leL b q (n+1)%256=leL b q 1:=by
 unfold leL
 obtain⟨c,r,e⟩:∃ c r,b.drop q=c::r:=by
  cases hd:b.drop q with
  | nil=>have:=A76 List.length hd;rw[A27] at this;simp at this;omega
  | cons c r=>exact⟨c,r,rfl⟩
 have:=c.toNat_lt
 rw[e,B12,B12,IT,IT,B17,IT]
 omega
theorem Mg {l m:Bs}{o:Nat}(h:o+m.length≤l.length):((setL l o m).drop o).take m.length=m:=by
 unfold setL
 rw[A12]
 exact Fa (by rw[A20];omega) rfl
theorem UU {l m:Bs}{o q n:Nat}(h:o+m.length≤l.length)(hq:q+n≤o):((setL l o m).drop q).take n=(l.drop q).take n:=by
 unfold setL
 have:(l.take o).length=o:=by rw[A20];omega
 rw[A12,A52 (by omega),A24 (by rw[A27];omega),A49,A95,A30 (by omega)]
def Tf:Bs:=[100,97,116,97]
def mkX (bs:Bs):XA:=⟨Tf,7,.slice none 0 0,bs⟩
structure Oe (a:Bs):Prop where
 len:a.length=104
 mg:leL a 0 4=3925999616
 z1:leL a 8 4=0
 z2:leL a 24 4=0
theorem UM {a bs:Bs}{t:Nat}(x:Oe a)(hb:bs.length≤76)(ht:t=100-CB bs.length):∃ r,HG a 4 0 100 0 (mkX bs)=setL r (4+t) bs∧r.length=104∧24≤t∧t%4=0∧t+bs.length≤100∧leL r 0 4=3925999616∧leL r 4 1=4∧leL r 5 1=7∧leL r 6 2=t∧leL r 8 4=0∧leL r 12 4=bs.length∧leL r 16 4=hashX Tf bs∧(r.drop 20).take 4=Tf∧leL r 24 4=0:=by
 have hu:CB bs.length≤76:=by unfold CB;omega
 have hu2:bs.length≤CB bs.length:=by unfold CB;omega
 have hu4:CB bs.length%4=0:=by unfold CB;omega
 have hh:hashX Tf bs<4294967296:=WP
 obtain⟨l0,m0,y1,y2⟩:=x
 have w1:∀ c:UInt8,([c]:Bs).length=1:=fun _=>rfl
 obtain⟨r1,hr1⟩:∃ r,r=setL a 4 [UInt8.ofNat 4]:=⟨_,rfl⟩
 obtain⟨r2,hr2⟩:∃ r,r=setL r1 5 [UInt8.ofNat 7]:=⟨_,rfl⟩
 obtain⟨r3,hr3⟩:∃ r,r=setL r2 6 (Aq t):=⟨_,rfl⟩
 obtain⟨r4,hr4⟩:∃ r,r=setL r3 12 (Ac bs.length):=⟨_,rfl⟩
 obtain⟨r5,hr5⟩:∃ r,r=setL r4 16 (Ac (hashX Tf bs)):=⟨_,rfl⟩
 obtain⟨r6,hr6⟩:∃ r,r=setL r5 20 Tf:=⟨_,rfl⟩
 have hd4:Tf.length=4:=rfl
 have e1:r1.length=104:=by rw[hr1];exact (AS (by rw[l0];simp)).trans l0
 have e2:r2.length=104:=by rw[hr2];exact (AS (by rw[e1];simp)).trans e1
 have e3:r3.length=104:=by rw[hr3];exact (AS (by rw[e2,BI];omega)).trans e2
 have e4:r4.length=104:=by rw[hr4];exact (AS (by rw[e3,Av];omega)).trans e3
 have e5:r5.length=104:=by rw[hr5];exact (AS (by rw[e4,Av];omega)).trans e4
 have e6:r6.length=104:=by rw[hr6];exact (AS (by rw[e5,hd4];omega)).trans e5
 have f1:∀ q n,(q+n≤4∨5≤q)→leL r1 q n=leL a q n:=fun q n h=>by
  rcases h with h|h
  ·rw[hr1];exact C5 (by rw[l0];simp) h
  ·rw[hr1];exact CX (by rw[l0];simp) (by simpa using h)
 have f2:∀ q n,(q+n≤5∨6≤q)→leL r2 q n=leL r1 q n:=fun q n h=>by
  rcases h with h|h
  ·rw[hr2];exact C5 (by rw[e1];simp) h
  ·rw[hr2];exact CX (by rw[e1];simp) (by simpa using h)
 have f3:∀ q n,(q+n≤6∨8≤q)→leL r3 q n=leL r2 q n:=fun q n h=>by
  rcases h with h|h
  ·rw[hr3];exact C5 (by rw[e2,BI];omega) h
  ·rw[hr3];exact CX (by rw[e2,BI];omega) (by rw[BI];exact h)
 have f4:∀ q n,(q+n≤12∨16≤q)→leL r4 q n=leL r3 q n:=fun q n h=>by
  rcases h with h|h
  ·rw[hr4];exact C5 (by rw[e3,Av];omega) h
  ·rw[hr4];exact CX (by rw[e3,Av];omega) (by rw[Av];exact h)
 have f5:∀ q n,(q+n≤16∨20≤q)→leL r5 q n=leL r4 q n:=fun q n h=>by
  rcases h with h|h
  ·rw[hr5];exact C5 (by rw[e4,Av];omega) h
  ·rw[hr5];exact CX (by rw[e4,Av];omega) (by rw[Av];exact h)
 have f6:∀ q n,(q+n≤20∨24≤q)→leL r6 q n=leL r5 q n:=fun q n h=>by
  rcases h with h|h
  ·rw[hr6];exact C5 (by rw[e5,hd4];omega) h
  ·rw[hr6];exact CX (by rw[e5,hd4];omega) (by rw[hd4];exact h)
 refine⟨r6,?_,e6,by omega,by omega,by omega,?_,?_,?_,?_,?_,?_,?_,(by rw[hr6];exact Mg (l:=r5) (m:=Tf) (o:=20) (by rw[e5,hd4];omega)),?_⟩
 ·simp only[Gw,mkX,hr6,hr5,hr4,hr3,hr2,hr1,ht,A58,Nat.reduceAdd,hd4]
 ·rw[f6 _ _ (by omega),f5 _ _ (by omega),f4 _ _ (by omega),f3 _ _ (by omega),f2 _ _ (by omega),f1 _ _ (by omega),m0]
 ·rw[f6 _ _ (by omega),f5 _ _ (by omega),f4 _ _ (by omega),f3 _ _ (by omega),f2 _ _ (by omega)]
  rw[hr1,De (q:=0) (by rw[l0];simp) (by omega) (by simp)];rfl
 ·rw[f6 _ _ (by omega),f5 _ _ (by omega),f4 _ _ (by omega),f3 _ _ (by omega)]
  rw[hr2,De (q:=0) (by rw[e1];simp) (by omega) (by simp)];rfl
 ·rw[f6 _ _ (by omega),f5 _ _ (by omega),f4 _ _ (by omega)]
  rw[hr3,De (q:=0) (by rw[e2,BI];omega) (by omega) (by rw[BI];omega)]
  have:=BX (a:=t) (r:=[])
  rw[A22] at this
  rw[this];omega
 ·rw[f6 _ _ (by omega),f5 _ _ (by omega),f4 _ _ (by omega),f3 _ _ (by omega),f2 _ _ (by omega),f1 _ _ (by omega),y1]
 ·rw[f6 _ _ (by omega),f5 _ _ (by omega)]
  rw[hr4,De (q:=0) (by rw[e3,Av];omega) (by omega) (by rw[Av];omega)]
  have:=An (a:=bs.length) (r:=[])
  rw[A22] at this
  rw[this];omega
 ·rw[f6 _ _ (by omega)]
  rw[hr5,De (q:=0) (by rw[e4,Av];omega) (by omega) (by rw[Av];omega)]
  have:=An (a:=hashX Tf bs) (r:=[])
  rw[A22] at this
  rw[this];omega
 ·rw[f6 _ _ (by omega),f5 _ _ (by omega),f4 _ _ (by omega),f3 _ _ (by omega),f2 _ _ (by omega),f1 _ _ (by omega),y2]
theorem NA {a bs:Bs}(x:Oe a)(hb:bs.length≤76):Oe (HG a 4 0 100 0 (mkX bs))∧AttrR ((HG a 4 0 100 0 (mkX bs)).drop 4) ((HG a 4 0 100 0 (mkX bs)).drop 4) true 0 100 [(sysd,bs)]:=by
 obtain⟨t,ht⟩:∃ t,t=100-CB bs.length:=⟨_,rfl⟩
 obtain⟨r,e,hl,t1,t2,t3,g0,g4,g5,g6,g8,g12,g16,gn,g24⟩:=UM x hb ht
 rw[e]
 have hlo:∀ q n,q+n≤4+t→leL (setL r (4+t) bs) q n=leL r q n:=fun q n h=>C5 (by omega) h
 have hL:(setL r (4+t) bs).length=104:=(AS (by omega)).trans hl
 have hD:((setL r (4+t) bs).drop 4).length=100:=by rw[A27,hL]
 have dl:∀ q n,leL ((setL r (4+t) bs).drop 4) q n=leL (setL r (4+t) bs) (4+q) n:=fun q n=>DQ
 refine⟨⟨hL,by rw[hlo _ _ (by omega),g0],by rw[hlo _ _ (by omega),g8],by rw[hlo _ _ (by omega),g24]⟩,?_⟩
 have b1:leL ((setL r (4+t) bs).drop 4) (0+1) 1=7:=by rw[dl,hlo _ _ (by omega)];exact g5
 have b0:leL ((setL r (4+t) bs).drop 4) 0 1=4:=by rw[dl,hlo _ _ (by omega)];exact g4
 have b2:leL ((setL r (4+t) bs).drop 4) (0+2) 2=t:=by rw[dl,hlo _ _ (by omega)];exact g6
 have b4:leL ((setL r (4+t) bs).drop 4) (0+4) 4=0:=by rw[dl,hlo _ _ (by omega)];exact g8
 have b8:leL ((setL r (4+t) bs).drop 4) (0+8) 4=bs.length:=by rw[dl,hlo _ _ (by omega)];exact g12
 have b12:leL ((setL r (4+t) bs).drop 4) (0+12) 4=hashX Tf bs:=by rw[dl,hlo _ _ (by omega)];exact g16
 have b20:leL ((setL r (4+t) bs).drop 4) 20 4=0:=by rw[dl,hlo _ _ (by omega)];exact g24
 have bn:(((setL r (4+t) bs).drop 4).drop (0+16)).take 4=Tf:=by
  rw[A64]
  show ((setL r (4+t) bs).drop 20).take 4=Tf
  rw[UU (by omega) (by omega)];exact gn
 have bv:(((setL r (4+t) bs).drop 4).drop t).take bs.length=bs:=by rw[A64];exact Mg (by omega)
 have st:=AttrR.step (b:=(setL r (4+t) bs).drop 4) (all:=(setL r (4+t) bs).drop 4) (ins:=true) (at':=0) (low:=100) (p:=[115,121,115,116,101,109,46]) (rest:=[])
  (fun h0=>by have:=ADZ (b:=(setL r (4+t) bs).drop 4) (q:=0) (n:=3) (by omega);rw[h0,b0] at this;cases this)
  (by rw[b0,hD];omega) b4 (by rw[b1];rfl) (by rw[b2,b8,hD];omega)
  (.inr (by rw[b0,bn,b12,b2,b8,bv]))
  (by rw[b2];intro _;exact t2)
  (.stop (by rw[b0,hD];omega) (by rw[b0];exact b20) (by rw[b0,b2,b8,hD];split<;>omega))
 rw[b0,bn,b2,b8,bv] at st
 exact st
attribute [local irreducible] BR
section
variable {p:PN} {I:Bs} {nb n:Nat}
theorem VG:Oe (setL (List.replicate 104 0) 0 (Ac 3925999616)):=by
 have hl:(Ac 3925999616).length=4:=Av _
 refine⟨(AS (by rw[hl];simp)).trans (by simp),?_,?_,?_⟩
 ·rw[De (q:=0) (by rw[hl];simp) (by omega) (by rw[hl];omega)]
  have:=An (a:=3925999616) (r:=[])
  rw[A22] at this
  rw[this]
 ·rw[CX (by rw[hl];simp) (by rw[hl];omega),FJ]
 ·rw[CX (by rw[hl];simp) (by rw[hl];omega),FJ]
theorem PU {sz:Nat}(h:sz≤136):I0 [Ep (.slice none 0 0) sz]=HG (setL (List.replicate 104 0) 0 (Ac 3925999616)) 4 0 100 0 (mkX (List.replicate (sz-60) 0)):=rfl
theorem AAs (k:PNb p)(hf:p.flags=268697600)(hd:p.dbs.length=p.size)(hx:p.xbs=I0 [Ep (.slice none 0 0) p.size])(hs:p.size≤136)(hb:p.bcnt=0)(hk:kindB p.mode=32768)(hI:136≤I.length) :
  InoOK I nb (BR p) n (rdX p n) p.dbs [(sysd,p.dbs.drop 60)] []:=by
 have hz:(List.replicate (p.size-60) (0:UInt8)).length≤76:=by simp;omega
 obtain⟨z1,z2⟩:=NA VG hz
 rw[←PU hs] at z1 z2
 have hdat:Cw p:=.inr (.inl hk)
 have hxl:p.xbs.length=104:=by rw[hx];exact z1.len
 have hxo:xOK p:=fun _ _=>⟨hxl,by omega⟩
 have hxb:Oe (Bl p)∧AttrR ((Bl p).drop 4) ((Bl p).drop 4) true 0 100 [(sysd,p.dbs.drop 60)]:=by
  unfold Bl
  by_cases h60:60<p.dbs.length
  ·rw[A03 ⟨hdat,h60⟩,hx]
   exact NA z1 (by rw[A27];omega)
  ·rw[A05 fun h=>h60 h.2,hx]
   have e1:p.dbs.drop 60=[]:=A59 (by omega)
   have e2:List.replicate (p.size-60) (0:UInt8)=[]:=by rw[show p.size-60=0 by omega];rfl
   rw[e1]
   rw[e2] at z2
   exact⟨z1,z2⟩
 obtain⟨r1,r2,r3,r4,r5,r6,r7,r8,r9,r10,r11,r12⟩:=LD k n (by omega) hxo
 rw[hxb.1.len,A87,B50,A22] at r12
 have hinl:(rdX p n).inl=true:=by show decide _=true;rw[hf];rfl
 have hk1:kindL p.mode=1:=by unfold kindL;exact A03 hk
 have hrest:restOf [(sysd,p.dbs.drop 60)]=p.dbs.drop 60:=by
  show (if sysd=sysd then p.dbs.drop 60 else [])=_
  rw[A03 rfl]
 have hblk:(Dz p++p.dbs.drop 60).take p.size=p.dbs:=by
  unfold Dz
  rw[A03 hdat]
  have ht:(p.dbs.take 60).length=min 60 p.dbs.length:=A20 ..
  unfold setL
  rw[B17,A34,A29]
  by_cases h60:60<p.dbs.length
  ·have:Bf.drop (p.dbs.take 60).length=[]:=A59 (by unfold Bf;simp;omega)
   rw[this,A22,B36,A43 (by omega)]
  ·rw[A43 (by omega:p.dbs.length≤60),A12,←hd,B26]
 have hbl:=FI p
 refine⟨r2,r3,by rw[r6,hk1];decide,r4,by rw[r7,r8,r9,r10];exact k.ns,⟨r2,r5,.inr ⟨?_,?_⟩⟩,?_,by simp,fun _=>by rw[r1];exact hinl,by rw[hrest,A27];omega,?_,?_,by show 0<1000000;decide⟩
 ·have:leL (BR p) 152 4=leL ((BR p).drop 152) 0 4:=(DQ (k:=152) (p:=0)).symm
  rw[this,r12];exact hxb.1.mg
 ·have:(BR p).drop 156=(Bl p).drop 4:=by rw[←r12,A64]
  rw[this];exact hxb.2
 ·intro i j a b h1 h2 h3
  have:i=0:=by
   rcases B25 i with h|h
   ·exact h
   ·rw[A40 (by simp;omega)] at h1;cases h1
  omega
 ·rw[r1,r11,hrest]
  have:=ContR.inline (I:=I) (nb:=nb) (X:=rdX p n) (e:=Dz p) (rest:=p.dbs.drop 60) (.inl hk1) hinl (by show p.size≤_;rw[hbl,A27];omega) (by show p.size≤_;omega)
  have e:(rdX p n).size=p.size:=rfl
  rw[e,hblk] at this
  exact this
 ·unfold secOK
  show if p.flags &&& 262144≠0 then p.bcnt=0 else p.bcnt=0*8
  rw[hf,hb];simp
end
end
structure It where
 dir:Nat
 nm:Bs
 f:FL
 data:Bs
 path:Bs
 w:Bool
abbrev It.kd (it:It):Nat:=kindB (modeK it.f.mode)
def It.isD (it:It):Bool:=decide (it.kd=16384)
def It.ops (it:It):List Op1:=.create it.path it.f::if it.w then [.write it.data] else []
def CJ (c:Nat):Nat→List It→List (Bs×Nat)
 | _,[]=>[]
 | k,it::l=>if it.dir=c then (it.nm,k)::CJ c (k+1) l else CJ c (k+1) l
def kidsOf (its:List It)(c:Nat):List (Bs×Nat):=CJ c 12 its
def dirsOf (its:List It)(c:Nat):Nat:=(its.filter fun it=>decide (it.dir=c)&&it.isD).length
theorem KA (c:Nat)(it:It):∀ (l:List It) (k:Nat),CJ c k (l++[it])=CJ c k l++if it.dir=c then [(it.nm,k+l.length)] else []
 | [],k=>by simp[CJ]
 | a::l,k=>by
  rw[A82,CJ,CJ,KA c it l (k+1),A19,show k+1+l.length=k+(l.length+1) by omega]
  split<;>simp
theorem Di {c:Nat}{e:Bs×Nat}:∀ {l:List It} {k:Nat},e∈CJ c k l↔∃ j it,l[j]? = some it∧it.dir=c∧e=(it.nm,k+j)
 | [],k=>by simp[CJ]
 | a::l,k=>by
  have ih:=Di (c:=c) (e:=e) (l:=l) (k:=k+1)
  rw[CJ]
  have key:(∃ j it,(a::l)[j]? = some it∧it.dir=c∧e=(it.nm,k+j))↔(a.dir=c∧e=(a.nm,k))∨∃ j it,l[j]? = some it∧it.dir=c∧e=(it.nm,k+1+j):=by
   constructor
   ·rintro⟨j,it,h1,h2,h3⟩
    cases j with
    | zero=>rw[A51,A26] at h1;subst h1;exact .inl ⟨h2,h3⟩
    | succ j=>rw[A63] at h1;exact .inr ⟨j,it,h1,h2,by rw[h3];congr 1;omega⟩
   ·rintro (⟨h1,h2⟩|⟨j,it,h1,h2,h3⟩)
    ·exact⟨0,a,rfl,h1,h2⟩
    ·exact⟨j+1,it,by rw[A63];exact h1,h2,by rw[h3];congr 1;omega⟩
  rw[key,←ih]
  by_cases hc:a.dir=c
  ·rw[A03 hc,A32];simp[hc]
  ·rw[A05 hc];simp[hc]
theorem Ic (c:Nat):∀ (l:List It) (k:Nat),(CJ c k l).Pairwise fun a b=>a.2<b.2
 | [],_=>.nil
 | a::l,k=>by
  rw[CJ]
  split
  ·rw[B16]
   refine⟨fun e he=>?_,Ic c l (k+1)⟩
   obtain⟨j,it,_,_,rfl⟩:=Di.1 he
   show k<k+1+j
   omega
  ·exact Ic c l (k+1)
theorem I7 (c:Nat):∀ (l:List It) (k:Nat),(∀ (i j:Nat) (a b:It),l[i]? = some a→l[j]? = some b→i<j→a.dir=b.dir→a.nm≠b.nm)→((CJ c k l).map (·.1)).Nodup
 | [],_,_=>.nil
 | a::l,k,h=>by
  have ih:=I7 c l (k+1) fun i j x y h1 h2 h3=>h (i+1) (j+1) x y (by rw[A63];exact h1) (by rw[A63];exact h2) (by omega)
  rw[CJ]
  split
  ·rename_i hc
   rw[A33,A90]
   refine⟨fun hm=>?_,ih⟩
   obtain⟨e,he,hee⟩:=A35.1 hm
   obtain⟨j,it,h1,h2,rfl⟩:=Di.1 he
   exact h 0 (j+1) a it rfl (by rw[A63];exact h1) (by omega) (hc.trans h2.symm) hee.symm
  ·exact ih
theorem MN (c:Nat):∀ (l:List It) (k:Nat),(CJ c k l).length≤l.length
 | [],_=>A07 _
 | a::l,k=>by
  have:=MN c l (k+1)
  rw[CJ]
  split
  ·rw[A19,A19];omega
  ·rw[A19];omega
theorem Du (its:List It)(it:It)(c:Nat):dirsOf (its++[it]) c=dirsOf its c+if it.dir=c∧it.isD=true then 1 else 0:=by
 unfold dirsOf
 rw[B08,A01]
 by_cases h:it.dir=c∧it.isD=true
 ·rw[A03 h];simp[h.1,h.2]
 ·rw[A05 h]
  have:(decide (it.dir=c)&&it.isD)=false:=by
   rcases Decidable.em (it.dir=c) with h1|h1
   ·simp[h1];simpa[h1] using h
   ·simp[h1]
  simp[this]
theorem Ff (its:List It)(c:Nat):dirsOf its c≤its.length:=B38 ..
inductive Way (its:List It):Nat→List Bs→Prop
 | root:Way its 2 []
 | down {j:Nat} {it:It} {st:List Bs}:its[j]? = some it→it.isD=true→it.dir<12+j→Way its it.dir st→Way its (12+j) (st++[it.nm])
theorem Way.mono {its:List It}{x:It}{d:Nat}{st:List Bs}(h:Way its d st):Way (its++[x]) d st:=by
 induction h with
 | root=>exact .root
 | down h1 h2 h3 _ ih=>exact .down (by rw[A18 (A02.1 h1).1];exact h1) h2 h3 ih
structure OO (its:List It) (it:It):Prop where
 way:∃ st,Way its it.dir st∧cleanR it.path=st++[it.nm]
 pl:it.path.length≤100000
 n1:1≤it.nm.length
 n2:it.nm.length≤255
 ns:(47:UInt8)∉it.nm
 nd:it.nm≠[46]∧it.nm≠[46,46]
 new:∀ x∈its,x.dir=it.dir→x.nm≠it.nm
 lost:it.dir=2→it.nm≠lostN
 file:FileOK it.f
 dat:if it.kd=32768 then it.f.size=it.data.length else it.data=[]
 big:it.data.length≤2000000
 wr:it.data≠[]→it.w=true
def bx (B:Bs)(pos:Nat):Bs:=B++List.replicate (pos-B.length) 0
theorem Ee {B:Bs}{pos:Nat}(h:B.length≤pos):(bx B pos).length=pos:=by unfold bx;rw[A01,A09];omega
theorem VA {B:Bs}{pos:Nat}(h:B.length=pos):bx B pos=B:=by unfold bx;rw[h,A87,B50,A22]
theorem J1 {B m:Bs}{pos:Nat}(h:B.length≤pos):BG B pos m=bx B pos++m:=by
 unfold BG bx setL
 have e:pos+m.length-B.length=(pos-B.length)+m.length:=by omega
 rw[e,←List.replicate_append_replicate,←A12]
 have hl:(B++List.replicate (pos-B.length) (0:UInt8)).length=pos:=Ee h
 generalize B++List.replicate (pos-B.length) (0:UInt8)=X at hl ⊢
 rw[A24 (by omega),A43 (by omega),A59 (by rw[A01,A09];omega),A22]
def Nz (p:PN):List Nat:=if p.flags=786432 then (List.range p.bcnt).map (leL p.dbs 20 4 + ·) else []
def exO:Option PN→List Nat
 | some p=>Nz p
 | none=>[]
def blks (n:Nat):List Nat:=(List.range (n-2)).map (· + 2)
theorem Kd {a b:Nat}(h2:2≤a)(h:a≤b):blks b=blks a++(List.range (b-a)).map (a + ·):=by
 unfold blks
 have:b-2=(a-2)+(b-a):=by omega
 rw[this,List.range_add,A36,B05]
 congr 1
 apply A72
 intro i _
 show a-2+i+2=a+i
 omega
structure HoldI (X:Bs) (pos:Nat) (it:It) (inl:Bool) (p:PN):Prop where
 hold:if inlK inl it.kd it.f.size=true then p.flags=268697600∧p.dbs=it.data∧p.bcnt=0
  else if it.data=[] then p.flags=262144∧p.dbs=[]∧p.bcnt=0
  else ∃ st,p.flags=786432∧p.dbs=extRoot p.bcnt st∧p.bcnt=(it.data.length+4095)/4096∧2≤st∧(st+p.bcnt)*4096≤pos∧(X.drop (st*4096)).take it.data.length=it.data
set_option maxRecDepth 20000 in
theorem HoldI.app {X Y:Bs}{pos pos':Nat}{it:It}{inl:Bool}{p:PN}(h:HoldI X pos it inl p)(hX:X.length=pos)(hp:pos≤pos'):HoldI (X++Y) pos' it inl p:=by
 refine⟨?_⟩
 have:=h.hold
 split
 ·rename_i h1;rw[A03 h1] at this;exact this
 ·rename_i h1
  rw[A05 h1] at this
  split
  ·rename_i h2;rw[A03 h2] at this;exact this
  ·rename_i h2
   rw[A05 h2] at this
   obtain⟨st,a1,a2,a3,a4,a5,a6⟩:=this
   refine⟨st,a1,a2,a3,a4,by omega,?_⟩
   have hlen:st*4096+it.data.length≤X.length:=by
    rw[a3] at a5
    rw[hX]
    have:it.data.length≤(it.data.length+4095)/4096*4096:=by omega
    have:(st+(it.data.length+4095)/4096)*4096=st*4096+(it.data.length+4095)/4096*4096:=A93 ..
    omega
   rw[A52 (by omega),A24 (by rw[A27];omega)]
   exact a6
def itP (inl:Bool)(its:List It)(j:Nat)(it:It)(p:PN):PN:=
 {newP it.f (12+j) inl with kids:=if it.isD=true then some (kidsOf its (12+j)) else none,links:=1+(if it.isD=true then 1+dirsOf its (12+j) else 0),dbs:=p.dbs,flags:=p.flags,bcnt:=p.bcnt}
structure Wr (inl:Bool) (its:List It) (S:PS):Prop where
 cur:S.cur=none
 inlS:S.inl=inl
 max:S.max=17179869184
 gd:S.gd=1
 B:S.B.length≤S.pos
 al:S.pos%4096=0
 big:8192≤S.pos
 len:S.M.length=11+its.length
 nil:∀ i,i=0∨(2≤i∧i<10)→S.M[i]? = some none
 root:S.M[1]? = some (some {rootP inl with kids:=some ((lostN,11)::kidsOf its 2),links:=3+dirsOf its 2})
 lf:S.M[10]? = some (some {newP (dirF 16832) 11 inl with kids:=some (kidsOf its 11),links:=2+dirsOf its 11})
 node:∀ j it,its[j]? = some it→∃ p,S.M[11+j]? = some (some p)∧p=itP inl its j it p∧HoldI (bx S.B S.pos) S.pos it inl p
 own:(S.M.flatMap exO).Perm (blks (S.pos/4096))
theorem Lx {M:List (Option PN)}{d:Nat}{q p p':PN}{es:List (Bs×Nat)}{e:Bs}(hd:d-1<M.length) :
  (D0 M d q p es e)[M.length]? = some (some {p with links:=p.links+1})∧(D0 M d q p es e).length=M.length+1 ∧
  (D0 M d q p es e).set M.length (some p')=(M++[some p']).set (d-1) (some {q with kids:=some (es++[(e,M.length+1)]),links:=q.links+(if kindB p.mode=16384 then 1 else 0)}):=by
 unfold D0
 refine⟨?_,by simp,?_⟩
 ·rw[A54,A05 (by omega),A17 (A07 _),A87];rfl
 ·apply A60
  intro i
  simp only[A54,A89,A01,A57]
  by_cases h1:M.length=i
  ·subst h1
   rw[A03 rfl,A03 (by omega),A05 (by omega),A17 (A07 _),A87];rfl
  ·rw[A05 h1]
   by_cases h2:d-1=i
   ·rw[A03 h2,A03 h2]
   ·rw[A05 h2,A05 h2]
    rcases A66 i M.length with h3|h3
    ·rw[A18 h3,A18 h3]
    ·rw[A40 (by simp;omega),A40 (by simp;omega)]
theorem X9 {M:List (Option PN)}{i:Nat}{a b:Option PN}(h:M[i]? = some a)(he:exO b=exO a):(M.set i b).flatMap exO=M.flatMap exO:=by
 induction M generalizing i with
 | nil=>rfl
 | cons o M ih=>
  cases i with
  | zero=>
   rw[A51,A26] at h
   subst h
   rw[List.set_cons_zero,A37,A37,he]
  | succ i=>
   rw[A63] at h
   rw[List.set_cons_succ,A37,A37,ih h]
section
def A7 (its:List It):Prop:=∀ j it,its[j]? = some it→OO (its.take j) it
theorem A7.snoc {its:List It}{it:It}(h:A7 its)(hi:OO its it):A7 (its++[it]):=by
 intro j x hx
 rcases A66 j its.length with h1|h1
 ·rw[A18 h1] at hx
  rw[A24 (by omega)]
  exact h j x hx
 ·rw[A17 h1] at hx
  have h2:j-its.length=0:=by
   rcases B25 (j-its.length) with h2|h2
   ·exact h2
   ·rw[A40 (by simp;omega)] at hx;cases hx
  rw[h2,A51,A26] at hx
  subst hx
  have:j=its.length:=by omega
  subst this
  rw[B26]
  exact hi
theorem A7.pre {its:List It}{it:It}(h:A7 (its++[it])):A7 its∧OO its it:=by
 constructor
 ·intro j x hx
  have hl:=(A02.1 hx).1
  have:=h j x (by rw[A18 hl];exact hx)
  rw[A24 (by omega)] at this
  exact this
 ·have:=h its.length it (by rw[A17 (A07 _),A87];rfl)
  rw[B26] at this
  exact this
theorem Way.cases {its:List It}{d:Nat}{st:List Bs}(h:Way its d st):(d=2∧st=[])∨∃ j it,its[j]? = some it∧it.isD=true∧d=12+j:=by
 cases h with
 | root=>exact .inl ⟨rfl,rfl⟩
 | down h1 h2 _ _=>exact .inr ⟨_,_,h1,h2,rfl⟩
theorem OO.dir_lt {its:List It}{it:It}(h:OO its it):it.dir<12+its.length∧it.dir≠11∧2≤it.dir∧(it.dir=2∨12≤it.dir):=by
 obtain⟨st,hw,_⟩:=h.way
 rcases hw.cases with⟨h1,_⟩|⟨j,x,h1,_,h3⟩
 ·omega
 ·have:=(A02.1 h1).1
  omega
theorem A7.dir_lt {its:List It}(h:A7 its){j:Nat}{it:It}(hj:its[j]? = some it):it.dir<12+j∧it.dir≠11∧2≤it.dir∧(it.dir=2∨12≤it.dir):=by
 have hl:=(A02.1 hj).1
 have:=(h j it hj).dir_lt
 rw[A20,A30 (by omega)] at this
 exact this
theorem A7.names {its:List It}(h:A7 its):∀ (i j:Nat) (a b:It),its[i]? = some a→its[j]? = some b→i<j→a.dir=b.dir→a.nm≠b.nm:=by
 intro i j a b h1 h2 h3 h4
 refine (h j b h2).new a ?_ h4
 obtain⟨hl,e⟩:=A02.1 h1
 rw[←e]
 exact List.mem_take_iff_getElem.2 ⟨i,by omega,rfl⟩
theorem IA {es:List (Bs×Nat)}(hd:(es.map (·.1)).Nodup){e:Bs×Nat}(he:e∈es):lookE es e.1=some e.2:=by
 induction es with
 | nil=>cases he
 | cons x es ih=>
  rw[A33,A90] at hd
  unfold lookE
  rw[List.find?_cons]
  rcases A32.1 he with h|h
  ·subst h;simp
  ·have hne:(x.1 == e.1)=false:=by
    apply beq_eq_false_iff_ne.2
    intro e1
    exact hd.1 (e1▸A35.2 ⟨e,h,rfl⟩)
   rw[hne]
   exact ih hd.2 h
theorem QO {es:List (Bs×Nat)}{nm:Bs}(h:∀ e∈es,e.1≠nm):lookE es nm=none:=by
 unfold lookE
 have:es.find? (fun p=>p.1 == nm)=none:=by
  rw[List.find?_eq_none]
  intro e he
  simpa using h e he
 rw[this];rfl
def esOf (its:List It)(d:Nat):List (Bs×Nat):=(if d=2 then [(lostN,11)] else [])++kidsOf its d
theorem Co {its:List It}{d:Nat}{e:Bs×Nat}:e∈esOf its d↔(d=2∧e=(lostN,11))∨∃ j it,its[j]? = some it∧it.dir=d∧e=(it.nm,12+j):=by
 unfold esOf kidsOf
 rw[A88,Di]
 by_cases h:d=2
 ·rw[A03 h];simp[h]
 ·rw[A05 h];simp[h]
theorem C1 {its:List It}(h:A7 its)(d:Nat):((esOf its d).map (·.1)).Nodup:=by
 unfold esOf
 rw[A36,A65]
 refine⟨by split<;>simp,I7 d its 12 h.names,?_⟩
 intro a ha b hb hab
 by_cases hd:d=2
 ·rw[A03 hd] at ha
  have:a=lostN:=by simpa using ha
  subst this
  obtain⟨e,he,hee⟩:=A35.1 hb
  obtain⟨j,it,h1,h2,rfl⟩:=Di.1 he
  exact (h j it h1).lost (h2.trans hd) (hee.trans hab.symm)
 ·rw[A05 hd] at ha;simp at ha
theorem IB {its:List It}(d:Nat):(esOf its d).Pairwise fun a b=>a.2<b.2:=by
 unfold esOf
 rw[List.pairwise_append]
 refine⟨by split<;>simp,Ic d its 12,?_⟩
 intro a ha b hb
 by_cases hd:d=2
 ·rw[A03 hd] at ha
  have:a=(lostN,11):=by simpa using ha
  subst this
  obtain⟨j,it,h1,h2,rfl⟩:=Di.1 hb
  show 11<12+j
  omega
 ·rw[A05 hd] at ha;simp at ha
theorem Hq (its:List It)(d:Nat):(esOf its d).length≤its.length+1:=by
 have:=MN d its 12
 unfold esOf kidsOf
 rw[A01]
 split<;>simp<;>omega
theorem KH {M:List (Option PN)}:∀ (st:List Bs) (c:Nat) (e:Bs),walkP M c (st++[e])=(walkP M c st).bind fun d=>D7 M d e
 | [],c,e=>by
  show (D7 M c e).bind (fun d=>walkP M d [])=D7 M c e
  cases D7 M c e<;>rfl
 | a::st,c,e=>by
  show (D7 M c a).bind (fun d=>walkP M d (st++[e]))=((D7 M c a).bind fun d=>walkP M d st).bind _
  cases D7 M c a with
  | none=>rfl
  | some d=>exact KH st d e
section
variable {inl:Bool} {its:List It} {S:PS}
structure DirAt (S:PS) (its:List It) (d:Nat) (q:PN):Prop where
 at_:S.M[d-1]? = some (some q)
 mode:kindB q.mode=16384
 kids:q.kids=some (esOf its d)
 links:q.links≤3+its.length
 d1:1≤d
 fl:q.flags=262144
theorem VI (w:Wr inl its S)(hio:A7 its){d:Nat}{st:List Bs}(hw:Way its d st):∃ q,DirAt S its d q:=by
 rcases hw.cases with⟨rfl,_⟩|⟨j,it,h1,h2,rfl⟩
 ·refine⟨_,w.root,?_,?_,?_,by omega,?_⟩
  ·exact F6 inl
  ·unfold esOf;rfl
  ·have:=Ff its 2;show 3+dirsOf its 2≤_;omega
  ·show flK inl _ _=_;unfold flK inlK;rw[A05];rw[show kindB (modeK (dirF 16877).mode)=16384 by decide];simp
 ·obtain⟨p,hp,he,_⟩:=w.node j it h1
  have hk:it.kd=16384:=of_decide_eq_true h2
  have hfl:p.flags=262144:=by
   rename_i hh
   have:=hh.hold
   rw[A05 (by unfold inlK;rw[hk];simp)] at this
   split at this
   ·exact this.1
   ·rename_i hne
    have:=(hio j it h1).dat
    rw[A05 (by omega)] at this
    exact absurd this hne
  refine⟨p,by rw[show 12+j-1=11+j by omega];exact hp,?_,?_,?_,by omega,hfl⟩
  ·rw[he];exact hk
  ·rw[he]
   show (if it.isD=true then some (kidsOf its (12+j)) else none)=_
   rw[A03 h2]
   unfold esOf
   rw[A05 (by omega),A34]
  ·rw[he]
   show 1+(if it.isD=true then 1+dirsOf its (12+j) else 0)≤_
   have:=Ff its (12+j)
   split<;>omega
theorem Vr (w:Wr inl its S)(hio:A7 its){d:Nat}{st:List Bs}(hw:Way its d st):walkP S.M 2 st=some d:=by
 induction hw with
 | root=>rfl
 | down h1 h2 h3 hw ih=>
  rename_i j it st
  obtain⟨q,hq⟩:=VI w hio hw
  rw[KH,ih]
  show D7 S.M it.dir it.nm=some (12+j)
  unfold D7
  rw[hq.at_]
  show (match q.kids with|some es=>lookE es it.nm|none=>none)=_
  rw[hq.kids]
  exact IA (C1 hio it.dir) (e:=(it.nm,12+j)) (Co.2 (.inr ⟨j,it,h1,rfl,rfl⟩))
def PN.kl (p:PN)(k:Option (List (Bs×Nat)))(l:Nat):PN:={p with kids:=k,links:=l}
def PN.kld (p:PN)(k:Option (List (Bs×Nat)))(l:Nat)(d:Bs)(f b:Nat):PN:={p with kids:=k,links:=l,dbs:=d,flags:=f,bcnt:=b}
theorem FO (it:It)(c:Nat):kidsOf (its++[it]) c=kidsOf its c++if it.dir=c then [(it.nm,12+its.length)] else []:=KA c it its 12
theorem X7 {it:It}{q p':PN}{B':Bs}{pos':Nat}(w:Wr inl its S)(hio:A7 its)(hi:OO its it)(hq:DirAt S its it.dir q)
  (hp:p'=itP inl (its++[it]) its.length it p') (hh:HoldI (bx B' pos') pos' it inl p') (hB:B'.length≤pos') (hle:S.pos≤pos') (hal:pos'%4096=0) {Y:Bs} (hY:bx B' pos'=bx S.B S.pos++Y)
  (hex:Nz p'=(List.range (pos'/4096-S.pos/4096)).map (S.pos/4096 + ·)) :
  Wr inl (its++[it]) {S with M:=(S.M++[some p']).set (it.dir-1) (some {q with kids:=some (esOf its it.dir++[(it.nm,S.M.length+1)]),links:=q.links+(if it.kd=16384 then 1 else 0)}),B:=B',pos:=pos' }:=by
 obtain⟨d1,d2,d3,d4⟩:=hi.dir_lt
 have hlen:=w.len
 have hdl:it.dir-1<S.M.length:=by omega
 have hal0:=w.al
 have hbig:=w.big
 have gt:∀ i,i≠it.dir-1→i<S.M.length→((S.M++[some p']).set (it.dir-1) (some {q with kids:=some (esOf its it.dir++[(it.nm,S.M.length+1)]),links:=q.links+(if it.kd=16384 then 1 else 0)}))[i]? = S.M[i]?:=fun i h1 h2=>by
  rw[A54,A05 (fun e=>h1 e.symm),A18 h2]
 have gd:((S.M++[some p']).set (it.dir-1) (some {q with kids:=some (esOf its it.dir++[(it.nm,S.M.length+1)]),links:=q.links+(if it.kd=16384 then 1 else 0)}))[it.dir-1]? = some (some {q with kids:=some (esOf its it.dir++[(it.nm,S.M.length+1)]),links:=q.links+(if it.kd=16384 then 1 else 0)}):=by
  rw[A54,A03 rfl,A03 (by rw[A01];omega)]
 have hnum:S.M.length+1=12+its.length:=by omega
 have hkd:(if it.kd=16384 then 1 else 0)=if it.isD=true then 1 else 0:=by
  unfold It.isD
  by_cases h:it.kd=16384<;>simp[h]
 refine⟨w.cur,w.inlS,w.max,w.gd,hB,hal,by show 8192≤pos';omega,?_,?_,?_,?_,?_,?_⟩
 ·show ((S.M++[some p']).set _ _).length=_
  rw[A89,A01,A01,hlen];rfl
 ·intro i h
  show ((S.M++[some p']).set _ _)[i]? = _
  rw[gt i (by omega) (by omega)]
  exact w.nil i h
 ·show ((S.M++[some p']).set _ _)[1]? = _
  by_cases h2:it.dir=2
  ·have:=gd
   rw[h2] at this
   rw[h2]
   refine this.trans ?_
   have hqr:q=(rootP inl).kl (some ((lostN,11)::kidsOf its 2)) (3+dirsOf its 2):=by
    have h1:=hq.at_
    rw[h2] at h1
    exact (A14 (A14 (h1.symm.trans w.root)))
   have e1:esOf its 2=(lostN,11)::kidsOf its 2:=by unfold esOf;rw[A03 rfl];rfl
   have e2:dirsOf its 2+(if it.dir=2∧it.isD=true then 1 else 0)=dirsOf its 2+(if it.isD=true then 1 else 0):=by
    by_cases h:it.isD=true
    ·rw[A03 h,A03 ⟨h2,h⟩]
    ·rw[A05 h,A05 fun h'=>h h'.2]
   rw[hnum,hkd,e1]
   show some (some (q.kl (some ((lostN,11)::kidsOf its 2++[(it.nm,12+its.length)])) (q.links+(if it.isD=true then 1 else 0))))=some (some ((rootP inl).kl (some ((lostN,11)::kidsOf (its++[it]) 2)) (3+dirsOf (its++[it]) 2)))
   rw[FO,Du,A03 h2,e2,←B62,hqr]
   rfl
  ·rw[gt 1 (by omega) (by omega),w.root,FO,Du,A05 h2,A05 (fun h=>h2 h.1),A22,A58]
 ·show ((S.M++[some p']).set _ _)[10]? = _
  rw[gt 10 (by omega) (by omega),w.lf,FO,Du,A05 d2,A05 (fun h=>d2 h.1),A22,A58]
 ·intro j x hx
  show ∃ p,((S.M++[some p']).set _ _)[11+j]? = some (some p)∧_∧HoldI (bx B' pos') pos' x inl p
  rcases A66 j its.length with h1|h1
  ·rw[A18 h1] at hx
   obtain⟨p,hp1,hp2,hp3⟩:=w.node j x hx
   have hp3':HoldI (bx B' pos') pos' x inl p:=by
    rw[hY]
    exact hp3.app (Ee w.B) hle
   by_cases hd:it.dir=12+j
   ·have hpq:q=p:=by
     have h2:=hq.at_
     rw[hd,show 12+j-1=11+j by omega,hp1] at h2
     exact (A14 (A14 h2)).symm
    have hxD:x.isD=true:=by
     obtain⟨st,hw,_⟩:=hi.way
     rcases hw.cases with⟨h2,_⟩|⟨j',x',e1,e2,e3⟩
     ·omega
     ·have:j'=j:=by omega
      subst this
      rw[hx] at e1
      rw[A14 e1];exact e2
    have:=gd
    rw[hd,show 12+j-1=11+j by omega] at this
    rw[hd,show 12+j-1=11+j by omega]
    refine⟨_,this,?_,⟨hpq▸hp3'.hold⟩⟩
    rw[hpq]
    have e1:esOf its (12+j)=kidsOf its (12+j):=by unfold esOf;rw[A05 (by omega),A34]
    have e2:p.links=1+(1+dirsOf its (12+j)):=by
     rw[hp2];show 1+(if x.isD=true then _ else 0)=_;rw[A03 hxD]
    have e3:p=(newP x.f (12+j) inl).kld p.kids p.links p.dbs p.flags p.bcnt:=by
     rw[hp2];rfl
    have e4:dirsOf its (12+j)+(if it.dir=12+j∧it.isD=true then 1 else 0)=dirsOf its (12+j)+(if it.isD=true then 1 else 0):=by
     by_cases h:it.isD=true
     ·rw[A03 h,A03 ⟨hd,h⟩]
     ·rw[A05 h,A05 fun h'=>h h'.2]
    rw[e1,hkd,hnum]
    show p.kl (some (kidsOf its (12+j)++[(it.nm,12+its.length)])) (p.links+(if it.isD=true then 1 else 0))=(newP x.f (12+j) inl).kld (if x.isD=true then some (kidsOf (its++[it]) (12+j)) else none) (1+(if x.isD=true then 1+dirsOf (its++[it]) (12+j) else 0)) p.dbs p.flags p.bcnt
    rw[A03 hxD,A03 hxD,FO,Du,A03 hd,e4,e2]
    have e5:1+(1+dirsOf its (12+j))+(if it.isD=true then 1 else 0)=1+(1+(dirsOf its (12+j)+(if it.isD=true then 1 else 0))):=by omega
    rw[e5]
    generalize 1+(1+(dirsOf its (12+j)+(if it.isD=true then 1 else 0)))=L
    generalize some (kidsOf its (12+j)++[(it.nm,12+its.length)])=K
    exact A76 (fun z:PN=>z.kl K L) e3
   ·rw[gt (11+j) (by omega) (by omega)]
    refine⟨p,hp1,hp2.trans ?_,hp3'⟩
    have k1:kidsOf (its++[it]) (12+j)=kidsOf its (12+j):=by rw[FO,A05 hd,A22]
    have k2:dirsOf (its++[it]) (12+j)=dirsOf its (12+j):=by rw[Du,A05 fun h=>hd h.1,A58]
    unfold itP
    rw[k1,k2]
  ·have h2:j=its.length:=by
    have:=(A02.1 hx).1
    rw[A01] at this
    simp at this
    omega
   subst h2
   rw[A17 (A07 _),A87,A51,A26] at hx
   subst hx
   refine⟨p',?_,hp,hh⟩
   rw[A54,A05 (by omega),A17 (by omega),show 11+its.length-S.M.length=0 by omega];rfl
 ·show (((S.M++[some p']).set _ _).flatMap exO).Perm (blks (pos'/4096))
  have fs:∀ K L,((S.M++[some p']).set (it.dir-1) (some (q.kl K L))).flatMap exO=(S.M++[some p']).flatMap exO:=fun K L=>X9 (a:=some q) (by rw[A18 hdl];exact hq.at_) rfl
  have fs2:=fs (some (esOf its it.dir++[(it.nm,S.M.length+1)])) (q.links+(if it.kd=16384 then 1 else 0))
  refine (show _=_ from fs2) ▸ ?_
  rw[A73,B04,Kd (a:=S.pos/4096) (by omega) (by omega)]
  show (S.M.flatMap exO++Nz p').Perm _
  rw[hex]
  exact w.own.append_right _
theorem Tt (hio:A7 its){it:It}(hi:OO its it){p:PN}(h1:p = {newP it.f (12+its.length) inl with links:=(newP it.f (12+its.length) inl).links+1,dbs:=p.dbs,flags:=p.flags,bcnt:=p.bcnt}) :
  p=itP inl (its++[it]) its.length it p:=by
 have hk:kidsOf (its++[it]) (12+its.length)=[]:=by
  have hn:∀ e∈kidsOf (its++[it]) (12+its.length),False:=fun e he=>by
   obtain⟨j,x,e1,e2,_⟩:=Di.1 he
   have:=((hio.snoc hi).dir_lt e1).1
   have:=(A02.1 e1).1
   rw[A01] at this
   simp at this
   omega
  cases hc:kidsOf (its++[it]) (12+its.length) with
  | nil=>rfl
  | cons e l=>exact (hn e (by rw[hc];exact A13 ..)).elim
 have hd:dirsOf (its++[it]) (12+its.length)=0:=by
  unfold dirsOf
  rw[A69,List.filter_eq_nil_iff]
  intro x hx
  obtain⟨j,hj,rfl⟩:=B00 hx
  have:=((hio.snoc hi).dir_lt (A00 hj)).1
  rw[A01] at hj
  simp at hj
  have:¬((its++[it])[j]).dir=12+its.length:=by omega
  simp[this]
 rw[h1]
 unfold itP
 rw[hk,hd]
 show ({newP it.f (12+its.length) inl with kids:=(newP it.f (12+its.length) inl).kids,links:=(newP it.f (12+its.length) inl).links+1,dbs:=_,flags:=_,bcnt:=_}:PN)=_
 unfold newP It.isD It.kd
 by_cases h:kindB (modeK it.f.mode)=16384
 ·simp[h]
 ·simp[h]
end
end
section
theorem ON {α:Type}{l:List α}{i:Nat}{a:α}(h:l[i]? = some a):l.set i a=l:=by
 apply A60
 intro j
 rw[A54]
 by_cases hj:i=j
 ·subst hj
  rw[A03 rfl,A03 (A02.1 h).1,h]
 ·rw[A05 hj]
theorem UC {n:Nat}{m:Bs}(h:m.length=n):setL (List.replicate n 0) 0 m=m:=by
 unfold setL
 rw[B17,A34,h,A59 (by simp),A22]
theorem NB {B:Bs}{p:Nat}(h:B.length=p):I1 B p=B++List.replicate (Eu p-p) 0:=by
 unfold I1
 by_cases hc:Eu p=p
 ·rw[A03 hc,hc,A87,B50,A22]
 ·rw[A05 hc,OV h]
section
variable {inl:Bool} {its:List It} {S:PS}
theorem Mc {it:It}{S0 S1:PS}(h1:Step1 (.create it.path it.f) S0 S1)(hd:it.data=[]):Steps it.ops S0 S1:=by
 unfold It.ops
 cases hw:it.w with
 | false=>exact .cons h1 .nil
 | true=>rw[hd];exact .cons h1 (.cons (.write (.none rfl)) .nil)
theorem AAm {it:It}(w:Wr inl its S)(hio:A7 its)(hi:OO its it)(hn:its.length≤5000)(hroom:S.pos+it.data.length+8192≤17179869184) :
  ∃ S',(∀ Sx,Fin Sx S→∃ Sy,Steps it.ops Sx Sy∧Fin Sy S')∧Wr inl (its++[it]) S'∧S'.pos≤S.pos+it.data.length+4095∧S'.db=S.db:=by
 obtain⟨st,hway,hpath⟩:=hi.way
 obtain⟨q,hq⟩:=VI w hio hway
 obtain⟨d1,d2,d3,d4⟩:=hi.dir_lt
 have hlen:=w.len
 have hdl:it.dir-1<S.M.length:=by omega
 have hal:=w.al
 have hbig:=w.big
 have hmax:=w.max
 have hnum:S.M.length+1=12+its.length:=by omega
 have cr:CrOK S it.path it.f st it.nm it.dir q (esOf its it.dir):=by
  refine⟨w.cur,by omega,⟨_,w.root⟩,hi.pl,hpath,hi.n2,Vr w hio hway,hq.d1,hq.at_,hq.mode,hq.kids,?_,by have:=hq.links;omega,hi.file⟩
  apply QO
  intro e he
  rcases Co.1 he with⟨h1,h2⟩|⟨j,x,h1,h2,h3⟩
  ·rw[h2];exact fun h=>hi.lost h1 h.symm
  ·rw[h3]
   exact hi.new x (A28 h1) h2
 have hinl:=w.inlS
 have hp0:newP it.f (S.M.length+1) S.inl=newP it.f (12+its.length) inl:=by rw[hnum,hinl]
 have hkm:kindB (newP it.f (12+its.length) inl).mode=it.kd:=rfl
 obtain⟨a1,a2,a3⟩:=Lx (M:=S.M) (d:=it.dir) (q:=q) (p:=newP it.f (12+its.length) inl) (p':={newP it.f (12+its.length) inl with links:=(newP it.f (12+its.length) inl).links+1}) (es:=esOf its it.dir) (e:=it.nm) hdl
 have a3:=fun p'=>(Lx (M:=S.M) (d:=it.dir) (q:=q) (p:=newP it.f (12+its.length) inl) (p':=p') (es:=esOf its it.dir) (e:=it.nm) hdl).2.2
 have hmade:∀ Sx,Fin Sx S→Step1 (.create it.path it.f) Sx (S.made it.dir q (esOf its it.dir) it.nm it.f):=fun Sx fx=>.create fx cr
 have hdat:=hi.dat
 have same:∀ p',Nz p'=[]→p' = {newP it.f (12+its.length) inl with links:=(newP it.f (12+its.length) inl).links+1,dbs:=p'.dbs,flags:=p'.flags,bcnt:=p'.bcnt}→HoldI (bx S.B S.pos) S.pos it inl p' →
   Wr inl (its++[it]) {S with M:=(D0 S.M it.dir q (newP it.f (12+its.length) inl) (esOf its it.dir) it.nm).set S.M.length (some p')}:=by
  intro p' he hp hh
  rw[a3 p']
  have:=X7 (B':=S.B) (pos':=S.pos) (Y:=[]) w hio hi hq (Tt hio hi hp) hh w.B (A07 _) hal (A22 _).symm (by rw[A87,he];rfl)
  rw[hkm]
  exact this
 by_cases hkd:it.kd=32768
 ·rw[A03 hkd] at hdat
  have hkd':kindB (modeK it.f.mode)=32768:=hkd
  have hmd:S.made it.dir q (esOf its it.dir) it.nm it.f = {S with M:=D0 S.M it.dir q (newP it.f (12+its.length) inl) (esOf its it.dir) it.nm,cur:=some (12+its.length),dw:=0,dm:=it.f.size}:=by
   unfold PS.made
   simp only
   rw[A03 hkd',hp0,hnum]
  have hc1:(D0 S.M it.dir q (newP it.f (12+its.length) inl) (esOf its it.dir) it.nm)[12+its.length-1]? = some (some {newP it.f (12+its.length) inl with links:=(newP it.f (12+its.length) inl).links+1}):=by
   rw[show 12+its.length-1=S.M.length by omega];exact a1
  by_cases hd0:it.data=[]
  ·have hsz:it.f.size=0:=by rw[hdat,hd0];rfl
   refine⟨{S with M:=D0 S.M it.dir q (newP it.f (12+its.length) inl) (esOf its it.dir) it.nm,cur:=none,dw:=0,dm:=0},fun Sx fx=>⟨_,Mc (hmade Sx fx) hd0,?_⟩,?_,by show S.pos≤_;omega,rfl⟩
   ·rw[hmd]
    exact .small (c:=12+its.length) rfl (by omega) hc1 (by rw[hsz]) (.inl (by rw[hsz]))
   ·have h1:=same {newP it.f (12+its.length) inl with links:=(newP it.f (12+its.length) inl).links+1} ?_ rfl ⟨?_⟩
    ·rw[ON a1] at h1
     obtain⟨b1,b2,b3,b4,b5,b6,b7,b8,b9,b10,b11,b12,b13⟩:=h1
     exact⟨rfl,b2,b3,b4,b5,b6,b7,b8,b9,b10,b11,b12,b13⟩
    ·unfold Nz
     rw[A05]
     show ¬flK inl it.kd it.f.size=786432
     unfold flK;split<;>decide
    ·show if inlK inl it.kd it.f.size=true then flK inl it.kd it.f.size=268697600∧datK inl it.kd it.f.size=it.data∧(0:Nat)=0 else if it.data=[] then flK inl it.kd it.f.size=262144∧datK inl it.kd it.f.size=[]∧(0:Nat)=0 else _
     unfold flK datK
     by_cases hc:inlK inl it.kd it.f.size=true
     ·rw[A03 hc,A03 hc,A03 hc,hsz,hd0];exact⟨rfl,rfl,rfl⟩
     ·rw[A05 hc,A05 hc,A05 hc,A03 hd0];exact⟨rfl,rfl,rfl⟩
  ·have hw:it.w=true:=hi.wr hd0
   have hpos:0<it.data.length:=A99.2 hd0
   have hbg:=hi.big
   have hops:it.ops=[.create it.path it.f,.write it.data]:=by unfold It.ops;rw[hw];rfl
   by_cases hc:inlK inl it.kd it.f.size=true
   ·have hsz:it.f.size≤136:=by
     unfold inlK at hc
     simp only[A42,A84] at hc
     exact hc.2
    have hfl:flK inl (kindB (modeK it.f.mode)) it.f.size=268697600:=A03 hc
    have hdb:datK inl (kindB (modeK it.f.mode)) it.f.size=List.replicate it.f.size 0:=A03 hc
    refine⟨{S with M:=(D0 S.M it.dir q (newP it.f (12+its.length) inl) (esOf its it.dir) it.nm).set S.M.length (some {newP it.f (12+its.length) inl with links:=(newP it.f (12+its.length) inl).links+1,dbs:=it.data}),cur:=none,dw:=0,dm:=0},fun Sx fx=>?_,?_,by show S.pos≤_;omega,rfl⟩
    ·refine⟨_,by rw[hops];exact .cons (hmade Sx fx) (.cons (.write (.inode (c:=12+its.length) (by rw[hmd]) (by omega) (by rw[hmd];exact hc1) hpos hfl (by rw[hmd];show 0+it.data.length≤it.f.size;omega) (by rw[hmd];show it.f.size=(datK inl (kindB (modeK it.f.mode)) it.f.size).length;rw[hdb,A09]) (by show (datK inl (kindB (modeK it.f.mode)) it.f.size).length≤_;rw[hdb,A09];omega))) .nil),?_⟩
     rw[hmd]
     have e2:({S with M:=D0 S.M it.dir q (newP it.f (12+its.length) inl) (esOf its it.dir) it.nm,cur:=some (12+its.length),dw:=0,dm:=it.f.size}:PS).inned (12+its.length) {newP it.f (12+its.length) inl with links:=(newP it.f (12+its.length) inl).links+1} it.data
       = {S with M:=(D0 S.M it.dir q (newP it.f (12+its.length) inl) (esOf its it.dir) it.nm).set S.M.length (some {newP it.f (12+its.length) inl with links:=(newP it.f (12+its.length) inl).links+1,dbs:=it.data}),cur:=some (12+its.length),dw:=it.data.length,dm:=it.f.size}:=by
      unfold PS.inned
      rw[show 12+its.length-1=S.M.length by omega,A29]
      show ({S with M:=(D0 S.M it.dir q (newP it.f (12+its.length) inl) (esOf its it.dir) it.nm).set S.M.length (some {newP it.f (12+its.length) inl with links:=_,dbs:=setL (datK inl (kindB (modeK it.f.mode)) it.f.size) 0 it.data}),cur:=_,dw:=_,dm:=_}:PS)=_
      rw[hdb,UC hdat.symm]
     rw[e2]
     refine .small (c:=12+its.length) (n:={newP it.f (12+its.length) inl with links:=(newP it.f (12+its.length) inl).links+1,dbs:=it.data}) rfl (by omega) ?_ (by show it.data.length=it.f.size;omega) (.inr hfl)
     rw[A54,A03 (by omega),A03 (by omega)]
    ·have h1:=same {newP it.f (12+its.length) inl with links:=(newP it.f (12+its.length) inl).links+1,dbs:=it.data} ?_ rfl ⟨?_⟩
     ·obtain⟨b1,b2,b3,b4,b5,b6,b7,b8,b9,b10,b11,b12,b13⟩:=h1
      exact⟨rfl,b2,b3,b4,b5,b6,b7,b8,b9,b10,b11,b12,b13⟩
     ·unfold Nz
      rw[A05]
      show ¬flK inl (kindB (modeK it.f.mode)) it.f.size=786432
      rw[hfl];decide
     ·rw[A03 hc];exact⟨hfl,rfl,rfl⟩
   ·have hfl:flK inl (kindB (modeK it.f.mode)) it.f.size=262144:=A05 hc
    have hB:=w.B
    let pos1:=S.pos+it.data.length
    have hup:Eu pos1=(S.pos/4096+(it.data.length+4095)/4096)*4096:=by
     show (S.pos+it.data.length+4095)/4096*4096=_;omega
    let len:=(it.data.length+4095)/4096
    let p':PN:={newP it.f (12+its.length) inl with links:=(newP it.f (12+its.length) inl).links+1,dbs:=extRoot len (S.pos/4096),flags:=786432,bcnt:=len}
    have hBl:(BG S.B S.pos it.data).length=pos1:=by
     rw[J1 hB,A01,Ee hB]
    have hB':I1 (BG S.B S.pos it.data) pos1=bx S.B S.pos++(it.data++List.replicate (Eu pos1-pos1) 0):=by
     rw[NB hBl,J1 hB,A12]
    have hup1:pos1≤Eu pos1∧Eu pos1≤pos1+4095∧Eu pos1%4096=0:=by unfold Eu;omega
    have hB'l:(I1 (BG S.B S.pos it.data) pos1).length=Eu pos1:=by
     rw[NB hBl,A01,A09,hBl];omega
    refine⟨{S with M:=(D0 S.M it.dir q (newP it.f (12+its.length) inl) (esOf its it.dir) it.nm).set S.M.length (some p'),B:=I1 (BG S.B S.pos it.data) pos1,pos:=Eu pos1,cur:=none,dw:=0,dm:=0},fun Sx fx=>?_,?_,by show Eu pos1≤_;have:pos1=S.pos+it.data.length:=rfl;omega,rfl⟩
    ·refine⟨_,by rw[hops];exact .cons (hmade Sx fx) (.cons (.write (.disk (c:=12+its.length) (by rw[hmd]) (by omega) (by rw[hmd];exact hc1) hpos hfl (by rw[hmd];show 0+it.data.length≤it.f.size;omega) (by rw[hmd];show it.f.size<_;omega) (by rw[hmd];show S.pos+it.data.length≤S.max;omega))) .nil),?_⟩
     rw[hmd]
     have e2:({S with M:=D0 S.M it.dir q (newP it.f (12+its.length) inl) (esOf its it.dir) it.nm,cur:=some (12+its.length),dw:=0,dm:=it.f.size}:PS).wrote it.data
       = {S with M:=D0 S.M it.dir q (newP it.f (12+its.length) inl) (esOf its it.dir) it.nm,B:=BG S.B S.pos it.data,pos:=pos1,cur:=some (12+its.length),dw:=it.data.length,dm:=it.f.size}:=by
      unfold PS.wrote
      rw[A29]
     rw[e2]
     have f:=Fin.big (S:={S with M:=D0 S.M it.dir q (newP it.f (12+its.length) inl) (esOf its it.dir) it.nm,B:=BG S.B S.pos it.data,pos:=pos1,cur:=some (12+its.length),dw:=it.data.length,dm:=it.f.size}) (c:=12+its.length) rfl (by omega) hc1 (by show it.data.length=it.f.size;omega) (by show 1≤it.f.size;omega) hfl (by show it.data.length≤S.pos+it.data.length;omega) (by show (S.pos+it.data.length-it.data.length)%4096=0;omega) (by show (BG S.B S.pos it.data).length≤pos1;omega) (by show it.data.length≤134000000;omega) (by show S.pos+it.data.length+4096≤S.max;omega) (by show (0:Nat)<1000000;decide)
     have e3:({S with M:=D0 S.M it.dir q (newP it.f (12+its.length) inl) (esOf its it.dir) it.nm,B:=BG S.B S.pos it.data,pos:=pos1,cur:=some (12+its.length),dw:=it.data.length,dm:=it.f.size}:PS).shut (12+its.length) {newP it.f (12+its.length) inl with links:=(newP it.f (12+its.length) inl).links+1}
       = {S with M:=(D0 S.M it.dir q (newP it.f (12+its.length) inl) (esOf its it.dir) it.nm).set S.M.length (some p'),B:=I1 (BG S.B S.pos it.data) pos1,pos:=Eu pos1,cur:=none,dw:=0,dm:=0}:=by
      unfold PS.shut PN.ext
      have x1:pos1-it.data.length=S.pos:=by show S.pos+it.data.length-it.data.length=_;omega
      have x2:(Eu pos1-S.pos)/4096=len:=by show _=(it.data.length+4095)/4096;omega
      have x3:flK inl (kindB (modeK it.f.mode)) it.f.size ||| 524288=786432:=by rw[hfl];decide
      rw[show 12+its.length-1=S.M.length by omega]
      show ({S with M:=(D0 S.M it.dir q (newP it.f (12+its.length) inl) (esOf its it.dir) it.nm).set S.M.length (some {newP it.f (12+its.length) inl with links:=_,dbs:=extRoot ((Eu pos1-(pos1-it.data.length))/4096) ((pos1-it.data.length)/4096),flags:=flK inl (kindB (modeK it.f.mode)) it.f.size ||| 524288,bcnt:=0+(Eu pos1-(pos1-it.data.length))/4096}),B:=_,pos:=_,cur:=_,dw:=_,dm:=_}:PS)=_
      rw[x1,x2,x3,A29]
     rw[←e3]
     exact f
    ·rw[a3 p']
     have hlen2:len=(it.data.length+4095)/4096:=rfl
     have hst:leL (extRoot len (S.pos/4096)) 20 4=S.pos/4096:=by
      obtain⟨x1,_⟩:=ES (len:=len) (st:=S.pos/4096) (by omega) (by omega)
      have:=x1.st
      rw[EQ (by omega),DQ] at this
      exact this
     have hbx:bx (I1 (BG S.B S.pos it.data) pos1) (Eu pos1)=bx S.B S.pos++(it.data++List.replicate (Eu pos1-pos1) 0):=by
      rw[VA hB'l,hB']
     have h1:=X7 (p':=p') (B':=I1 (BG S.B S.pos it.data) pos1) (pos':=Eu pos1) (Y:=it.data++List.replicate (Eu pos1-pos1) 0) w hio hi hq (Tt hio hi rfl) ⟨?_⟩ (by omega) (by have:pos1=S.pos+it.data.length:=rfl;omega) hup1.2.2 hbx ?_
     ·rw[hkm]
      obtain⟨b1,b2,b3,b4,b5,b6,b7,b8,b9,b10,b11,b12,b13⟩:=h1
      exact⟨rfl,b2,b3,b4,b5,b6,b7,b8,b9,b10,b11,b12,b13⟩
     ·rw[A05 hc,A05 hd0]
      refine⟨S.pos/4096,rfl,rfl,rfl,by omega,by show (S.pos/4096+len)*4096≤Eu pos1;omega,?_⟩
      rw[hbx]
      exact Fa (by rw[Ee hB];omega) rfl
     ·unfold Nz
      rw[A03 rfl]
      show (List.range len).map (leL (extRoot len (S.pos/4096)) 20 4 + ·)=_
      rw[hst]
      congr 2
      omega
 ·rw[A05 hkd] at hdat
  have hkd':¬kindB (modeK it.f.mode)=32768:=hkd
  have hmd:S.made it.dir q (esOf its it.dir) it.nm it.f = {S with M:=D0 S.M it.dir q (newP it.f (12+its.length) inl) (esOf its it.dir) it.nm}:=by
   unfold PS.made
   simp only
   rw[A05 hkd',hp0]
  have hni:inlK inl it.kd it.f.size=false:=by
   unfold inlK
   have:(it.kd == 32768)=false:=by simpa using hkd
   rw[this];simp
  refine⟨{S with M:=D0 S.M it.dir q (newP it.f (12+its.length) inl) (esOf its it.dir) it.nm},fun Sx fx=>⟨_,Mc (hmade Sx fx) hdat,?_⟩,?_,by show S.pos≤_;omega,rfl⟩
  ·rw[hmd];exact .none w.cur
  ·have h1:=same {newP it.f (12+its.length) inl with links:=(newP it.f (12+its.length) inl).links+1} ?_ rfl ⟨?_⟩
   ·rw[ON a1] at h1
    exact h1
   ·unfold Nz
    rw[A05]
    show ¬flK inl it.kd it.f.size=786432
    unfold flK;split<;>decide
   ·rw[hni]
    show if false=true then _ else if it.data=[] then flK inl it.kd it.f.size=262144∧datK inl it.kd it.f.size=[]∧(0:Nat)=0 else _
    rw[A05 (by decide),A03 hdat]
    unfold flK datK
    rw[hni]
    exact⟨rfl,rfl,rfl⟩
end
end
end Go.Proofs.YtollddkkdgoonaaGreatDoor
