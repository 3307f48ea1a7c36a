/- A part of a proof over images that are written and read. No condition; a step. -/
import Derived.Test.YtollddkkdgoonaaGreatDoorM8
namespace Go.Proofs.YtollddkkdgoonaaGreatDoor
open Go
set_option linter.unusedVariables false
set_option linter.unusedSimpArgs false
set_option maxRecDepth 100000
section
variable {h:H} {k:Value→Prop} {kt Q:Kt} {x y r:Res} {wb:Nat} {S S':PS} {ad:Nat→Nat}
theorem BM.opened (p:BM wb ad S x h):∃ r,AN (r+x) h∧∀ x' h',AN (r+x') h'→BM wb ad S x' h':=by
 obtain⟨s,L,tr,a,w⟩:=p
 exact⟨FR s ad L tr,w,fun x' h' w'=>⟨s,L,tr,a,w'⟩⟩
theorem A4 (p:BM wb ad S x h){b o:Nat}{c:Array Value}{T:TypeId}{fz:Nat×Nat}[CO b x (.cells c T fz)]:AB false 1 (.pointer (some ⟨b,o,none⟩)) h k=U3 c[o]? k:=by
 obtain⟨r,w,_⟩:=p.opened
 exact AF w
theorem IM (p:BM wb ad S x h){b o:Nat}{c:Array Value}{T:TypeId}{fz:Nat×Nat}{v:Value}[CO b x (.cells c T fz)](hv:c[o]? = some v):AB false 1 (.pointer (some ⟨b,o,none⟩)) h fun u=>u=v:=by
 rw[A4 p,hv];rfl
theorem DD (p:BM wb ad S x h){x':Res}{b o n:Nat}{v:Value}{c:Array Value}(c':Array Value){T:TypeId}{kh:H→Prop}[CO b x (.cells c T (0,0))][U2 b x (.cells c T (0,0)) (.cells c' T (0,0)) x']
  (hc:Ai c o v.cells.toList=c') (hv:v.cells.size=n) (hle:o+n≤c.size) (ho:v.cells.toList.all Value.oneCell'=true) (K:∀ h,BM wb ad S x' h→kh h):AJ n (.pointer (some ⟨b,o,none⟩)) v h kh:=by
 obtain⟨r,w,cl⟩:=p.opened
 exact AL w c' hc hv hle ho fun h w=>K h (cl _ _ w)
theorem M3 (p:BM wb ad S x h){T:TypeId}{cs:Array Value}(K:∀ b h,BM wb ad S (pts b (.cells cs T (0,0))+x) h→kt (Pt b) h):BB T cs h kt:=by
 obtain⟨r,w,cl⟩:=p.opened
 exact BJ w fun b h w=>K b h (cl _ _ (w.cast (by ac_rfl)))
theorem DG (p:BM wb ad S x h){z:Option Value}{zv:Value}{l:List Value}{T:TypeId}(hz:z=some zv)(hc:zv.cells=⟨l⟩)(K:∀ b h,BM wb ad S (pts b (.cells ⟨l⟩ T (0,0))+x) h→kt (Pt b) h):AQ z T h kt:=by
 obtain⟨r,w,cl⟩:=p.opened
 exact Ah w hz hc fun b h w=>K b h (cl _ _ (w.cast (by ac_rfl)))
theorem ADK (p:BM wb ad S x h){kl kc:IntKind}{n:Nat}(hn:n≤140737488355328)(K:∀ b h,BM wb ad S (buf b (List.replicate n 0)+x) h→kt (.slice (some ⟨b,0,none⟩) n n) h):AY (AG TP 5) 1 1 5 (.int kl (n:Int)) (.int kc (n:Int)) h kt:=by
 obtain⟨r,w,cl⟩:=p.opened
 exact ER w hn fun b h w=>K b h (cl _ _ (w.cast (by ac_rfl)))
def GD (ino rl nl ft:Nat):Bs:=Ac ino++Aq rl++[UInt8.ofNat nl,UInt8.ofNat ft]
theorem Hw (a b c d:Nat):(GD a b c d).length=8:=rfl
theorem KC {v:Value}{bs:Bs}{n:Nat}{y:Res}(b:BufV v bs r)(w:AN (r+y) h)(hn:n<256)(hl:bs.length+1≤140737488355328)(K:∀ v r h,BufV v (bs++[UInt8.ofNat n]) r→AN (r+y) h→kt v h) :
  AH (.arr 1) 5 (AG TP 5) 1 1 [(0,.int .u8 (n:Int))] h fun s h=>AM 5 (AG TP 5) 1 1 v s h kt:=by
 refine CZ (l:=[UInt8.ofNat n]) w (by decide) ?_ rfl fun b1 h w=>?_
 ·have:(.int .u8 (n:Int):Value)=bc (UInt8.ofNat n):=by
   rw[←MZ,A23 hn]
  rw[this];rfl
 ·rw[Res.left_comm] at w
  exact BU b w (Px w rfl) (by simpa using hl) fun v r h b w=>K v r h b (by rw[Res.left_comm] at w;exact w.right)
theorem AHY {a b c d:Nat}(w:AN x h)(hc:c<256)(hd:d<256)(K:∀ v r h,BufV v (GD a b c d) r→AN (r+x) h→Q v h):AAS (.agg ⟨[.int .u32 a,.int .u16 b,.int .u8 c,.int .u8 d]⟩) h Q:=by
 unfold AAS Ufl Ucl
 refine BJ w fun pb h w=>?_
 simp only[go_sem,AF w]
 refine Eo (OU (bs:=[]) .nil (w.cast (Res.zero_add _).symm) (by simp) fun v r h bv w=>?_)
 rw[AF w]
 simp only[go_sem]
 refine Ek (On bv w (by simp[Av]) fun v r h bv w=>?_)
 rw[AF w]
 simp only[go_sem]
 refine KC bv w hc (by simp[BI,Av]) fun v r h bv w=>?_
 rw[AF w]
 simp only[go_sem]
 refine KC bv w hd (by simp[BI,Av]) fun v r h bv w=>?_
 refine K v r h ?_ (AN.right (x:=pts pb _) (w.cast (Res.left_comm _ _ _)))
 simpa[GD] using bv
theorem Ty (p:BM wb ad S x h){a b c d:Nat}(hc:c<256)(hd:d<256)(K:∀ v r h,BufV v (GD a b c d) r→BM wb ad S (r+x) h→Q v h):AAS (.agg ⟨[.int .u32 a,.int .u16 b,.int .u8 c,.int .u8 d]⟩) h Q:=by
 obtain⟨r0,w,cl⟩:=p.opened
 exact AHY w hc hd fun v r h b w=>K v r h b (cl _ _ (w.cast (by ac_rfl)))
theorem JZ:AG TP 347=some (.agg ⟨[.int .u32 0,.int .u16 0,.int .u8 0,.int .u8 0]⟩):=by kernel_rfl
def EG (m:Nat):Nat:=if kindB m=32768 then 1 else if kindB m=16384 then 2 else if kindB m=8192 then 3 else if kindB m=24576 then 4 else if kindB m=4096 then 5 else if kindB m=49152 then 6 else if kindB m=40960 then 7 else 0
theorem M4 (m:Nat):EG m<256:=by unfold EG;(repeat' split)<;>omega
theorem AHz {m:Nat}(hm:m<65536)(K:Q (.int .u8 (EG m:Nat)) h):ABs (.int .u16 (m:Int)) h Q:=by
 unfold ABs Ucm
 simp (disch:=omega) only[go_sem]
 have hkk:(m &&& 61440)=kindB m:=rfl
 rw[hkk]
 unfold EG at K
 refine AX (fun h1=>?_) fun h1=>?_
 ·rw[A03 (by omega)] at K;exact K
 rw[A05 (by omega)] at K
 refine AX (fun h1=>?_) fun h1=>?_
 ·rw[A03 (by omega)] at K;exact K
 rw[A05 (by omega)] at K
 refine AX (fun h1=>?_) fun h1=>?_
 ·rw[A03 (by omega)] at K;exact K
 rw[A05 (by omega)] at K
 refine AX (fun h1=>?_) fun h1=>?_
 ·rw[A03 (by omega)] at K;exact K
 rw[A05 (by omega)] at K
 refine AX (fun h1=>?_) fun h1=>?_
 ·rw[A03 (by omega)] at K;exact K
 rw[A05 (by omega)] at K
 refine AX (fun h1=>?_) fun h1=>?_
 ·rw[A03 (by omega)] at K;exact K
 rw[A05 (by omega)] at K
 refine AX (fun h1=>?_) fun h1=>?_
 ·rw[A03 (by omega)] at K;exact K
 rw[A05 (by omega)] at K
 exact K
def HC (left:Nat):Bs:=GD 0 left 0 0++List.replicate (left-8) 0
def Dm (nm:Bs):Nat:=(8+nm.length+3)/4*4
def Eg (c ft:Nat)(nm:Bs):Bs:=GD c (Dm nm) nm.length ft++nm++List.replicate (Dm nm-(8+nm.length)) 0
structure FS (S:PS) (c:Nat) (n:PN) (room:Nat):Prop where
 cur:S.cur=some c
 pos:1≤c
 nd:S.M[c-1]? = some (some n)
 fl:n.flags=262144
 dm:S.dm=9223372036854775807
 dw:S.dw+room≤100000000
 max:S.pos+room≤S.max
theorem FS.wrote {c room:Nat}{n:PN}{bs:Bs}(a:FS S c n room)(hb:bs.length≤room):FS (S.wrote bs) c n (room-bs.length):=by
 refine⟨a.cur,a.pos,a.nd,a.fl,a.dm,?_,?_⟩
 ·show S.dw+bs.length+(room-bs.length)≤100000000
  have:=a.dw;omega
 ·show S.pos+bs.length+(room-bs.length)≤S.max
  have:=a.max;omega
theorem FS.wrt {c room:Nat}{n:PN}{bs:Bs}(a:FS S c n room)(hb:bs.length≤room)(h0:0<bs.length):Wrt bs S (S.wrote bs):=by
 have h1:=a.dw
 have h2:=a.dm
 have h3:=a.max
 exact .disk a.cur a.pos a.nd h0 a.fl (by omega) (by omega) (by omega)
theorem VL {B a b:Bs}{p:Nat}(h:B.length≤p):BG (BG B p a) (p+a.length) b=BG B p (a++b):=by
 have e:∀ (B m:Bs) (p:Nat),B.length≤p→BG B p m=B++List.replicate (p-B.length) 0++m:=by
  intro B m p h
  unfold BG setL
  have h1:(B++List.replicate (p+m.length-B.length) 0).take p=B++List.replicate (p-B.length) 0:=by
   rw[List.take_append,A43 (by omega),B49]
   congr 2;omega
  have h2:(B++List.replicate (p+m.length-B.length) 0).drop (p+m.length)=[]:=List.drop_eq_nil_iff.2 (by simp;omega)
  rw[h1,h2,A22]
 rw[e _ b _ (by rw[Ei];omega),e B a p h,e B (a++b) p h]
 have:p+a.length-(B++List.replicate (p-B.length) 0++a).length=0:=by simp;omega
 rw[this]
 simp
theorem EK {a b:Bs}(h:S.B.length≤S.pos):(S.wrote a).wrote b=S.wrote (a++b):=by
 unfold PS.wrote
 simp only[A01,VL h,B62]
theorem NN {a:Bs}(h:S.B.length≤S.pos):(S.wrote a).B.length≤(S.wrote a).pos:=by
 show (BG S.B S.pos a).length≤S.pos+a.length
 rw[Ei];omega
end
section
variable {h:H} {k:Value→Prop} {kt Q:Kt} {x y r:Res} {wb:Nat} {S S':PS} {ad:Nat→Nat}
theorem IF {n:Nat}{fst cap:Array Value}{args l:List Value}(hl:fst.toList++args++cap.toList=l)(hb:F9 TP n=true)(K:Call TP n l h kt):Bj TP (.func (.func n) fst cap) args h kt:=
 ⟨⟨n,fst,cap,rfl,hb⟩,n,fst,cap,rfl,by rw[hl];exact K⟩
theorem AEG {a:Nat}(ha:a<9223372036854775808):AD .and (.int .i64 (a:Int)) (.int .i64 (-4)) k=k (.int .i64 ((a/4*4:Nat):Int)):=by
 rw[←XR (k:=k) ha]
 have e:(BitVec.ofInt 64 (-4)) = ~~~ BitVec.ofInt 64 3:=by decide
 have:CT .and (.int .i64 (a:Int)) (.int .i64 (-4))=CT .andNot (.int .i64 (a:Int)) (.int .i64 3):=by
  show some (Value.int .i64 (IntKind.i64.wrap ((BitVec.ofInt 64 (a:Int) &&& BitVec.ofInt 64 (-4)).toNat:Int)))=some (Value.int .i64 (IntKind.i64.wrap ((BitVec.ofInt 64 (a:Int) &&& ~~~ BitVec.ofInt 64 3).toNat:Int)))
  rw[e]
 unfold AD
 rw[this]
theorem ZS {T:TypeId}{l:Bs}(w:AN x h)(K:∀ v r h,RdX r v l→AN (r+x) h→kt v h):Uv T (str l) h kt:=by
 refine⟨_,rfl,fun b cap h' hc e hb ho=>?_⟩
 rw[Cp] at hc ho
 have h1:Bw ⟨l.toArray⟩++Array.replicate (cap-l.length) (.int .u8 0)=bcs (l++List.replicate (cap-l.length) 0):=by
  rw[Fl,Dn]
  congr 1
  apply A56
  simp[Bw,bcs,bc]
 rw[h1] at ho
 rw[Cp]
 refine K _ (pts b (.cells (bcs (l++List.replicate (cap-l.length) 0)) T (cap,cap+1))) h' (.inr ⟨b,0,cap,_,T,_,0,rfl,(Res.add_zero _).symm,by simp,by simp,hc⟩) (w.new e hb ho)
theorem AAT (p:BM wb ad S x h){T:TypeId}{l:Bs}(K:∀ v r h,RdX r v l→BM wb ad S (r+x) h→kt v h):Uv T (str l) h kt:=by
 obtain⟨r,w,cl⟩:=p.opened
 exact ZS w fun v r' h d w=>K v r' h d (cl _ _ (w.cast (by ac_rfl)))
theorem TY (p:BM wb ad S x h){c:Nat}{n:PN}(h1:1≤c)(hn:S.M[c-1]? = some (some n)) :
  ∃ (nd:Nd) (r:Res),nd.pn=n∧AN (pts (ad c) (.cells nd.cells 197 (0,0))+(r+x)) h∧(∀ Q:Kt,Q (Pt (ad c)) h→U9 (Pt wb) (.int .u32 (c:Int)) h Q)∧nd.mode<65536:=by
 obtain⟨s,L,tr,a,w⟩:=p
 obtain⟨nd,hnd,hp⟩:=CF (a.M▸hn)
 obtain⟨w',hnum⟩:=CG a.ok h1 hnd w
 have hl:=(A02.1 hnd).1
 have hl2:=a.ok.len
 refine⟨nd,nd.dr+(nd.xr+nd.kr ad)+(s.res+(tr+sumR ad (L.set (c-1) none))),hp,w'.cast (by unfold Nd.res;rw[hnum];ac_rfl),fun Q hq=>?_,(a.ok.nd _ _ hnd).2.2.1⟩
 rw[←a.wb]
 refine ACV (i:=c) a.ok w h1 (by omega) ?_
 unfold HJ
 rw[hnd]
 simp only[ptrO]
 rw[hnum]
 exact hq
abbrev lbR (lb left:Nat):Res:=pts lb (.cells ⟨[.int .i64 left]⟩ 3 (0,0))
abbrev wvR (wv wb:Nat):Res:=pts wv (.cells ⟨[Pt wb]⟩ 126 (0,0))
theorem AFw {lb wv left c room:Nat}{n:PN}(p:BM wb ad S (lbR lb left+(wvR wv wb+x)) h)(a:FS S c n room)(hl:12≤left)(hl2:left≤4096)(hr:left≤room)(hB:S.B.length≤S.pos)
  (K:∀ h,BM wb ad (S.wrote (HC left)) (lbR lb 4096+(wvR wv wb+x)) h→Q .nilIface h):ADf (Pt lb) (Pt wv) h Q:=by
 unfold ADf Uld Ucm Umk Ucl Ukp
 simp (disch:=omega) only[go_sem,A4 p,A04]
 refine Au JZ rfl (rs:=[.int .u32 ((0:Nat):Int),.int .u16 left,.int .u8 ((0:Nat):Int),.int .u8 ((0:Nat):Int)]) rfl ?_
 refine DG p JZ rfl fun eb h p=>?_
 refine DD p ⟨[.int .u32 ((0:Nat):Int),.int .u16 left,.int .u8 ((0:Nat):Int),.int .u8 ((0:Nat):Int)]⟩ ((A2 _ _ _).trans rfl) rfl (by simp) rfl fun h p=>?_
 simp only[go_sem,A4 p]
 obtain⟨r0,w0,cl⟩:=p.opened
 rw[Am (w0.find (b:=eb)) (by simp)]
 refine SW (Ty (a:=0) (b:=left) (c:=0) (d:=0) p (by omega) (by omega) fun v r h bv p=>⟨IM p rfl,?_⟩)
 have hd8:=Hw 0 left 0 0
 refine Ip (G1 p bv.rdX.addL (a.wrt (by omega) (by omega)) fun h p=>?_)
 simp (disch:=omega) only[go_sem,A4 p]
 refine DD p ⟨[.int .i64 ((left-8:Nat):Int)]⟩ rfl rfl (by simp) rfl fun h p=>?_
 simp (disch:=omega) only[go_sem,A4 p,A08]
 refine ADK p (n:=left-8) (by omega) fun mb h p=>⟨IM p rfl,?_⟩
 have a2:=a.wrote (bs:=GD 0 left 0 0) (by omega)
 have d2:RdX (buf mb (List.replicate (left-8) 0)) (.slice (some ⟨mb,0,none⟩) (left-8) (left-8)) (List.replicate (left-8) 0):=.inr ⟨mb,0,left-8,(List.replicate (left-8) 0).map bc,5,(0,0),0,by simp,(Res.add_zero _).symm,by simp,by simp,by simp⟩
 refine Ip (G1 p d2.addL (a2.wrt (by simp;omega) (by simp;omega)) fun h p=>?_)
 simp (disch:=omega) only[go_sem]
 rw[EK hB] at p
 refine DD p ⟨[.int .i64 ((4096:Nat):Int)]⟩ rfl rfl (by simp) rfl fun h p=>?_
 exact K h (BM.mono (y:=r+pts eb (.cells ⟨[.int .u32 ((0:Nat):Int),.int .u16 left,.int .u8 ((0:Nat):Int),.int .u8 ((0:Nat):Int)]⟩ 347 (0,0))+buf mb (List.replicate (left-8) 0)) (p.cast (by ac_rfl)))
abbrev fvR (fv lb wv:Nat):Res:=pts fv (.cells ⟨[.func (.func 200) #[] #[Pt lb,Pt wv]]⟩ 141 (0,0))
theorem Vi {lb wv left c c' room:Nat}{n n':PN}{nm:Bs}(p:BM wb ad S (lbR lb left+(wvR wv wb+x)) h)(a:FS S c n room)(h1:1≤c')(hn:S.M[c'-1]? = some (some n'))(hm:n'.mode<65536)(hnm:1≤nm.length)(hnl:nm.length<256)(hc:c'<4294967296)
  (hl:Dm nm≤left) (hl2:left≤4096) (hr:Dm nm≤room) (hB:S.B.length≤S.pos)
  (K:∀ h,BM wb ad (S.wrote (Eg c' (EG n'.mode) nm)) (lbR lb (left-Dm nm)+(wvR wv wb+x)) h→Q .nilIface h):LU Q (.int .u32 (c':Int)) (str nm) (Pt lb) (Pt wv) (.int .i64 ((8+nm.length:Nat):Int)) (.int .i64 (Dm nm:Nat)) h:=by
 have hrl:8+nm.length≤Dm nm∧Dm nm<8+nm.length+4:=by unfold Dm;omega
 unfold LU Uld Ucl Unf Umk Ukp
 simp (disch:=omega) only[go_sem,A4 p]
 obtain⟨nd,nr,hnd,nw,nq,hmode⟩:=TY p h1 hn
 have hmd:nd.mode=n'.mode:=by rw[←hnd];rfl
 refine NS (nq _ ?_)
 simp (disch:=omega) only[go_sem,AF nw,hmd]
 refine AAk (AHz hm ?_)
 refine Au JZ rfl (rs:=[.int .u32 c',.int .u16 (Dm nm:Nat),.int .u8 (nm.length:Nat),.int .u8 (EG n'.mode:Nat)]) rfl ?_
 refine DG p JZ rfl fun eb h p=>?_
 refine DD p ⟨[.int .u32 c',.int .u16 (Dm nm:Nat),.int .u8 (nm.length:Nat),.int .u8 (EG n'.mode:Nat)]⟩ ((A2 _ _ _).trans rfl) rfl (by simp) rfl fun h p=>?_
 simp only[go_sem,A4 p]
 obtain⟨r0,w0,cl⟩:=p.opened
 rw[Am (w0.find (b:=eb)) (by simp)]
 refine SW (Ty (a:=c') (b:=Dm nm) (c:=nm.length) (d:=EG n'.mode) p hnl (M4 _) fun v r h bv p=>⟨IM p rfl,?_⟩)
 have hd8:=Hw c' (Dm nm) nm.length (EG n'.mode)
 refine Ip (G1 p bv.rdX.addL (a.wrt (by omega) (by omega)) fun h p=>?_)
 simp (disch:=omega) only[go_sem,A4 p]
 have a2:=a.wrote (bs:=GD c' (Dm nm) nm.length (EG n'.mode)) (by omega)
 refine AAT p fun v2 r2 h d2 p=>?_
 refine Ip (G1 p d2.addL (a2.wrt (by omega) (by omega)) fun h p=>?_)
 rw[EK hB] at p
 have a3:=a2.wrote (bs:=nm) (by omega)
 rw[EK hB] at a3
 simp (disch:=omega) only[go_sem]
 refine DG p SK rfl fun zb h p=>?_
 simp (disch:=omega) only[go_sem,A4 p]
 rw[JN (by omega) (by omega)]
 have d3:RdX (pts zb (.cells ⟨[.int .u8 0,.int .u8 0,.int .u8 0,.int .u8 0]⟩ 238 (0,0))) (.slice (some ⟨zb,0,none⟩) (Dm nm-(8+nm.length)) 4) (List.replicate (Dm nm-(8+nm.length)) 0):=
  .inr ⟨zb,0,4,(List.replicate 4 0).map bc,238,(0,0),0,by simp,(Res.add_zero _).symm,by simp;omega,by rw[A09,A68,←B11,B49,A30 (by omega)],by simp;omega⟩
 have wr:Wrt (List.replicate (Dm nm-(8+nm.length)) 0) (S.wrote (GD c' (Dm nm) nm.length (EG n'.mode)++nm)) (S.wrote (Eg c' (EG n'.mode) nm)):=by
  by_cases h0:Dm nm-(8+nm.length)=0
  ·unfold Eg
   rw[h0]
   simp only[B50,A22]
   exact .none rfl
  ·unfold Eg
   have a4:=a3.wrt (bs:=List.replicate (Dm nm-(8+nm.length)) 0) (by rw[A09];omega) (by rw[A09];omega)
   rw[EK hB] at a4
   exact a4
 refine Ip (G1 p d3.addL wr fun h p=>?_)
 simp (disch:=omega) only[go_sem,A4 p]
 refine DD p ⟨[.int .i64 ((left-Dm nm:Nat):Int)]⟩ rfl rfl (by simp) rfl fun h p=>?_
 exact K h (BM.mono (y:=r2+r+pts eb (.cells ⟨[.int .u32 c',.int .u16 (Dm nm:Nat),.int .u8 (nm.length:Nat),.int .u8 (EG n'.mode:Nat)]⟩ 347 (0,0))+pts zb (.cells ⟨[.int .u8 0,.int .u8 0,.int .u8 0,.int .u8 0]⟩ 238 (0,0))) (p.cast (by ac_rfl)))
def Dk (left c ft:Nat)(nm:Bs):Nat×Bs:=if left<Dm nm+12 then (4096-Dm nm,HC left++Eg c ft nm) else (left-Dm nm,Eg c ft nm)
theorem GR {left:Nat}(h:8≤left):(HC left).length=left:=by unfold HC;rw[A01,Hw,A09];omega
theorem IK (c ft:Nat)(nm:Bs):(Eg c ft nm).length=Dm nm:=by
 unfold Eg;rw[A01,A01,Hw,A09];unfold Dm;omega
theorem AC5 {lb wv fv left c c' room:Nat}{n n':PN}{nm:Bs}(p:BM wb ad S (lbR lb left+(wvR wv wb+(fvR fv lb wv+x))) h)(a:FS S c n room)(h1:1≤c')(hn:S.M[c'-1]? = some (some n'))(hm:n'.mode<65536)(hnm:1≤nm.length)(hnl:nm.length<256)(hc:c'<4294967296)
  (hl:12≤left) (hl2:left≤4096) (hr:4500≤room) (hB:S.B.length≤S.pos)
  (K:∀ h,BM wb ad (S.wrote (Dk left c' (EG n'.mode) nm).2) (lbR lb (Dk left c' (EG n'.mode) nm).1+(wvR wv wb+(fvR fv lb wv+x))) h→Q .nilIface h):ACo (.int .u32 (c':Int)) (str nm) (Pt lb) (Pt fv) (Pt wv) h Q:=by
 have hrl:8+nm.length≤Dm nm∧Dm nm<8+nm.length+4:=by unfold Dm;omega
 have hrd:(8+nm.length+3)/4*4=Dm nm:=rfl
 unfold ACo Uld Ucm
 have e8:(AD .add (.int .i64 8) (.int .i64 (nm.length:Nat)))=fun k=>k (.int .i64 ((8+nm.length:Nat):Int)):=funext fun k=>by rw[A0,←Ci (m:=8+nm.length) (by omega)];rfl
 simp (disch:=omega) only[go_sem,e8,AEG,hrd,A4 p]
 refine AX (fun hc'=>?_) (fun hc'=>?_)
 ·refine IF (l:=[Pt lb,Pt wv]) rfl (by kernel_rfl) (SS (AFw p a hl hl2 (by omega) hB fun h p=>?_))
  simp only[go_sem]
  have hf:=GR (left:=left) (by omega)
  refine Vi (x:=fvR fv lb wv+x) (left:=4096) p (a.wrote (bs:=HC left) (by omega)) h1 hn hm hnm hnl hc (by omega) (by omega) (by omega) (NN hB) fun h p=>K h ?_
  rw[EK hB] at p
  unfold Dk
  rw[A03 (by omega)]
  exact p
 ·refine Vi (x:=fvR fv lb wv+x) p a h1 hn hm hnm hnl hc (by omega) (by omega) (by omega) hB fun h p=>K h ?_
  unfold Dk
  rw[A05 (by omega)]
  exact p
end
section
variable {h:H} {k:Value→Prop} {kt Q:Kt} {x y r:Res} {wb:Nat} {S S':PS} {ad:Nat→Nat}
theorem DM (p:BM wb ad S x h){c:Nat}{n:PN}(h1:1≤c)(hn:S.M[c-1]? = some (some n)):∃ (nd:Nd) (r:Res),nd.pn=n∧nd.num=c∧AN (nd.res ad+(r+x)) h∧∀ x' h',AN (nd.res ad+(r+x')) h'→BM wb ad S x' h':=by
 obtain⟨s,L,tr,a,w⟩:=p
 obtain⟨nd,hnd,hp⟩:=CF (a.M▸hn)
 obtain⟨w',hnum⟩:=CG a.ok h1 hnd w
 refine⟨nd,s.res+(tr+sumR ad (L.set (c-1) none)),hp,hnum,w'.cast (by ac_rfl),fun x' h' w=>⟨s,L,tr,a,w.cast ?_⟩⟩
 unfold FR
 rw[Fs hnd]
 ac_rfl
theorem DS {T:TypeId}{v u:Value}{n i:Nat}{kk:IntKind}{vs:List Value}{kh:H→Prop}(d:Vec T 1 v n vs r)(w:AN (r+x) h)(hi:i<n)(hu:u.cells=#[u])(ho:Value.oneCell' u=true)
  (K:∀ r h,Vec T 1 v n (vs.set i u) r→AN (r+x) h→kh h):AI (.slice 1) v (.int kk (i:Int)) fun a=>AJ 1 a u h kh:=by
 cases d with
 | nil=>omega
 | own hn hc=>
  rename_i b c all
  rw[Cg hi,A29]
  refine AL w ⟨all.set i u⟩ ?_ (by rw[hu];rfl) (by simp;omega) (by rw[hu];simp[ho]) fun h w=>?_
  ·rw[hu,A2];rfl
  ·refine K _ h (Vec.own' (n:=n) hn (by simp;omega) ?_) w
   rw[List.take_set]
theorem Dw (p:BM wb ad S (r+x) h){T:TypeId}{v u:Value}{n i:Nat}{kk:IntKind}{vs:List Value}(d:Vec T 1 v n vs r)(hu:vs[i]? = some u)(K:k u):AI (.slice 1) v (.int kk (i:Int)) fun a=>AB false 1 a h k:=by
 obtain⟨r0,w,_⟩:=p.opened
 exact Bu d (w.cast (Res.left_comm _ _ _)) hu K
theorem O4 (p:BM wb ad S (r+x) h){T:TypeId}{v u:Value}{n i:Nat}{kk:IntKind}{vs:List Value}{kh:H→Prop}(d:Vec T 1 v n vs r)(hi:i<n)(hu:u.cells=#[u])(ho:Value.oneCell' u=true)
  (K:∀ r h,Vec T 1 v n (vs.set i u) r→BM wb ad S (r+x) h→kh h):AI (.slice 1) v (.int kk (i:Int)) fun a=>AJ 1 a u h kh:=by
 obtain⟨r0,w,cl⟩:=p.opened
 exact DS d (w.cast (Res.left_comm _ _ _)) hi hu ho fun r h d w=>K r h d (cl _ _ (w.cast (Res.left_comm _ _ _)))
def lessE (es:List (Bs×Nat))(a b:Bs):Bool:=match lookE es a,lookE es b with
 | some i,some j=>if i=j then Op.bytesLess a b else decide (i<j)
 | _,_=>false
def strs (l:List Bs):List Value:=l.map str
abbrev dvR (dv p:Nat):Res:=pts dv (.cells ⟨[Pt p]⟩ 182 (0,0))
abbrev cvR (cv:Nat)(v:Value):Res:=pts cv (.cells ⟨[v]⟩ 49 (0,0))
theorem SC {a b:Bs}:AD .lss (str a) (str b) k=k (.bool (Op.bytesLess a b)):=by
 refine Fo ?_
 simp only[CT,ByteArray.toList_eq]
def KidsIn (S:PS)(es:List (Bs×Nat)):Prop:=∀ e∈es,1≤e.2∧∃ n,S.M[e.2-1]? = some (some n)
theorem AA0 {dv cv c i j m:Nat}{n:PN}{es:List (Bs×Nat)}{l:List Bs}{v:Value}{a b:Bs}(p:BM wb ad S (r+(dvR dv (ad c)+(cvR cv v+x))) h)(d:Vec 9 1 v m (strs l) r)(h1:1≤c)(hn:S.M[c-1]? = some (some n))(hk:n.kids=some es)
  (hki:KidsIn S es) (hi:l[i]? = some a) (hj:l[j]? = some b) (ha:∃ x,lookE es a=some x) (hb:∃ x,lookE es b=some x) (K:Q (.bool (lessE es a b)) h) {x0 x1:Value} (e0:x0=.int .i64 i) (e1:x1=.int .i64 j) :
  AB false 1 (Pt dv) h fun x9=>AE x9 fun x10=>AC 17 x10 fun x11=>AB false 1 x11 h fun x12=>AB false 1 (Pt cv) h fun x13=>AI (.slice 1) x13 x0 fun x15=>AB false 1 x15 h fun x16=>CC (some .string) (AG TP 182) false x12 x16 h fun x17=>AE x17 fun x18=>AC 5 x18 fun x19=>AB false 1 x19 h fun x20=>AB false 1 (Pt dv) h fun x21=>AE x21 fun x22=>AC 17 x22 fun x23=>AB false 1 x23 h fun x24=>AB false 1 (Pt cv) h fun x25=>AI (.slice 1) x25 x1 fun x27=>AB false 1 x27 h fun x28=>CC (some .string) (AG TP 182) false x24 x28 h fun x29=>AE x29 fun x30=>AC 5 x30 fun x31=>AB false 1 x31 h fun x32=>AD .eql x20 x32 fun x35=>AK x35
 (AB false 1 (Pt cv) h fun x36=>AI (.slice 1) x36 x0 fun x38=>AB false 1 x38 h fun x39=>AB false 1 (Pt cv) h fun x40=>AI (.slice 1) x40 x1 fun x42=>AB false 1 x42 h fun x43=>AD .lss x39 x43 fun x44=>Q x44 h)
 (AD .lss x20 x32 fun x47=>Q x47 h):=by
 subst e0 e1
 obtain⟨ki,hai⟩:=ha
 obtain⟨kj,hbj⟩:=hb
 obtain⟨nd,rr,hnd,hnum,w,_⟩:=DM p h1 hn
 obtain⟨mb,hd⟩:∃ mb,nd.dir=some (mb,es):=by
  have:nd.dir.map (·.2)=some es:=by rw[←hk,←hnd];rfl
  rw[A74] at this
  obtain⟨⟨mb,es'⟩,e1,e2⟩:=this
  cases e2
  exact⟨mb,e1⟩
 obtain⟨hi1,ni,hni⟩:=hki _ (Gt hai)
 obtain⟨hj1,nj,hnj⟩:=hki _ (Gt hbj)
 obtain⟨ndi,ri,hpi,hnumi,wi,_⟩:=DM p hi1 hni
 obtain⟨ndj,rj,hpj,hnumj,wj,_⟩:=DM p hj1 hnj
 have gi:(strs l)[i]? = some (str a):=by unfold strs;rw[A21,hi];rfl
 have gj:(strs l)[j]? = some (str b):=by unfold strs;rw[A21,hj];rfl
 have wl:AN (pts (ad c) (.cells nd.cells 197 (0,0))+(nd.dr+(nd.xr+nd.kr ad))+(rr+(r+(dvR dv (ad c)+(cvR cv v+x))))) h:=w.cast (by unfold Nd.res;rw[hnum])
 have wi':AN (pts (ad ki) (.cells ndi.cells 197 (0,0))+(ndi.dr+(ndi.xr+ndi.kr ad))+(ri+(r+(dvR dv (ad c)+(cvR cv v+x))))) h:=wi.cast (by unfold Nd.res;rw[hnumi])
 have wj':AN (pts (ad kj) (.cells ndj.cells 197 (0,0))+(ndj.dr+(ndj.xr+ndj.kr ad))+(rj+(r+(dvR dv (ad c)+(cvR cv v+x))))) h:=wj.cast (by unfold Nd.res;rw[hnumj])
 simp only[go_sem,A4 p]
 rw[AF wl]
 simp only[go_sem]
 refine Dw p d gi ?_
 refine EJ w ?_
 simp only[hd,hai,go_sem]
 rw[AF wi']
 simp only[go_sem]
 rw[AF wl]
 simp only[go_sem]
 refine Dw p d gj ?_
 refine EJ w ?_
 simp only[hd,hbj,go_sem]
 rw[AF wj']
 simp only[go_sem]
 have hle:lessE es a b=if ki=kj then Op.bytesLess a b else decide (ki<kj):=by unfold lessE;rw[hai,hbj]
 rw[hle] at K
 have hn1:ndi.num=ki:=hnumi
 have hn2:ndj.num=kj:=hnumj
 refine AX (fun he=>?_) (fun he=>?_)
 ·refine Dw p d gi ?_
  refine Dw p d gj ?_
  rw[SC]
  rw[A03 (by omega)] at K
  exact K
 ·rw[A05 (by omega)] at K
  have:decide ((ndi.num:Int)<(ndj.num:Int))=decide (ki<kj):=decide_eq_decide.2 (by omega)
  rw[this]
  exact K
theorem AHo {dv cv c i j m:Nat}{n:PN}{es:List (Bs×Nat)}{l:List Bs}{v:Value}{a b:Bs}(p:BM wb ad S (r+(dvR dv (ad c)+(cvR cv v+x))) h)(d:Vec 9 1 v m (strs l) r)(h1:1≤c)(hn:S.M[c-1]? = some (some n))(hk:n.kids=some es)
  (hki:KidsIn S es) (hi:l[i]? = some a) (hj:l[j]? = some b) (ha:∃ x,lookE es a=some x) (hb:∃ x,lookE es b=some x) (K:Q (.bool (lessE es a b)) h):ADV (.int .i64 i) (.int .i64 j) (Pt dv) (Pt cv) h Q:=by
 unfold ADV Uld Unf Uil Ucm
 exact AA0 p d h1 hn hk hki hi hj ha hb K rfl rfl
theorem AHs {dv cv c i j m:Nat}{n:PN}{es:List (Bs×Nat)}{l:List Bs}{v:Value}{a b:Bs}(p:BM wb ad S (r+(dvR dv (ad c)+(cvR cv v+x))) h)(d:Vec 9 1 v m (strs l) r)(h1:1≤c)(hn:S.M[c-1]? = some (some n))(hk:n.kids=some es)
  (hki:KidsIn S es) (hi:l[i]? = some a) (hj:l[j]? = some b) (ha:∃ x,lookE es a=some x) (hb:∃ x,lookE es b=some x) (K:Q (.bool (lessE es a b)) h):AD9 (.int .i64 i) (.int .i64 j) (Pt dv) (Pt cv) h Q:=by
 unfold AD9 Uld Unf Uil Ucm
 exact AA0 p d h1 hn hk hki hi hj ha hb K rfl rfl
def JA (l:List Bs)(j:Nat):List Bs:=(l.set j (l.getD (j-1) [])).set (j-1) (l.getD j [])
def Fc (less:Bs→Bs→Bool):Nat→List Bs→List Bs
 | 0,l=>l
 | j+1,l=>if less (l.getD (j+1) []) (l.getD j [])=true then Fc less j (JA l (j+1)) else l
def sortL (less:Bs→Bs→Bool):Nat→Nat→List Bs→List Bs
 | 0,_,l=>l
 | m+1,i,l=>sortL less m (i+1) (Fc less i l)
theorem H8 (l:List Bs)(j:Nat):(JA l j).length=l.length:=by simp[JA]
theorem H0 (less:Bs→Bs→Bool):∀ (j:Nat) (l:List Bs),(Fc less j l).length=l.length
 | 0,_=>rfl
 | j+1,l=>by
  unfold Fc
  split
  ·rw[H0 less j,H8]
  ·rfl
theorem LB {l:List Bs}{j:Nat}(h1:1≤j)(hj:j<l.length):(JA l j).Perm l:=by
 unfold JA
 have e1:l.getD (j-1) []=l[j-1]'(by omega):=by rw[A10,A00 (by omega)];rfl
 have e2:l.getD j []=l[j]:=by rw[A10,A00 (by omega)];rfl
 rw[e1,e2]
 exact List.set_set_perm (by omega) (by omega)
theorem HR (less:Bs→Bs→Bool):∀ (j:Nat) (l:List Bs),j<l.length→(Fc less j l).Perm l
 | 0,_,_=>List.Perm.refl _
 | j+1,l,h=>by
  unfold Fc
  split
  ·exact (HR less j _ (by rw[H8];omega)).trans (LB (by omega) h)
  ·exact List.Perm.refl _
theorem KK (less:Bs→Bs→Bool):∀ (m i:Nat) (l:List Bs),i+m≤l.length→(sortL less m i l).Perm l
 | 0,_,_,_=>List.Perm.refl _
 | m+1,i,l,h=>by
  unfold sortL
  exact (KK less m (i+1) _ (by rw[H0];omega)).trans (HR less i l (by omega))
theorem Of (l:List Bs)(i:Nat)(a:Bs):(strs l).set i (str a)=strs (l.set i a):=by unfold strs;rw[B22]
end
section
variable {h:H} {k:Value→Prop} {kt Q:Kt} {x y r:Res} {wb:Nat} {S S':PS} {ad:Nat→Nat}
theorem Iq (f:Nat→Value)(es:List (Bs×Nat))(i:Nat):(DP f es)[i]? = (es[i]?).map fun e=>(⟨str e.1,f e.2,i⟩:MapEntry):=by
 unfold DP
 rw[B37,A21,List.getElem?_zipIdx]
 cases es[i]?<;>simp
theorem Ih {f:Nat→Value}{es:List (Bs×Nat)}{e:MapEntry}(he:e∈DP f es):∃ i a,es[i]? = some a∧e=⟨str a.1,f a.2,i⟩:=by
 obtain⟨i,hi⟩:=Array.mem_iff_getElem?.1 he
 rw[Iq,A74] at hi
 obtain⟨a,h1,h2⟩:=hi
 exact⟨i,a,h1,h2.symm⟩
theorem Rl (f:Nat→Value){es:List (Bs×Nat)}{i:Nat}{a:Bs×Nat}(ha:es[i]? = some a):(DP f es).find? (·.born == i)=some ⟨str a.1,f a.2,i⟩:=by
 have hm:(⟨str a.1,f a.2,i⟩:MapEntry)∈DP f es:=by
  refine B24 (i:=i) ?_
  rw[Iq,ha];rfl
 cases hf:(DP f es).find? (·.born == i) with
 | none=>
  rw[Array.find?_eq_none] at hf
  exact absurd (by simp) (hf _ hm)
 | some e=>
  have h1:=Array.mem_of_find?_eq_some hf
  have h2:=Array.find?_some hf
  obtain⟨j,b,hb,rfl⟩:=Ih h1
  simp only[beq_iff_eq] at h2
  subst h2
  rw[ha] at hb
  cases hb
  rfl
theorem O8 {α:Type}(es:List α)(I:List Nat)(hnd:I.Nodup)(hlt:∀ i∈I,i<es.length)(hall:∀ i,i<es.length→i∈I):(I.filterMap fun i=>es[i]?).Perm es:=by
 have h1:I.Perm (List.range es.length):=by
  refine (List.perm_ext_iff_of_nodup hnd List.nodup_range).2 fun i=>?_
  rw[A96]
  exact⟨hlt i,hall i⟩
 have h2:(List.range es.length).filterMap (fun i=>es[i]?)=es:=by
  apply A60
  intro i
  have:(List.range es.length).filterMap (fun i=>es[i]?)=es:=by
   have h3:∀ (l:List α) (f:Nat→Option α),(∀ i,i<l.length→f i=l[i]?)→(List.range l.length).filterMap f=l:=by
    intro l
    induction l with
    | nil=>intro f _;rfl
    | cons a l ih=>
     intro f hf
     rw[A19,List.range_succ_eq_map,List.filterMap_cons]
     have h0:=hf 0 (by simp)
     simp only[A51] at h0
     rw[h0]
     simp only
     rw[List.filterMap_map]
     congr 1
     refine ih (f∘Nat.succ) fun i hi=>?_
     have:=hf (i+1) (by simp;omega)
     simpa using this
   exact h3 es _ fun i _=>rfl
  rw[this]
 have h4:=h1.filterMap (fun i=>es[i]?)
 rwa [h2] at h4
theorem Ho:AG TP 9=some (str []):=by kernel_rfl
theorem Wz {E:H→Prop}{mb ib cv:Nat}{es:List (Bs×Nat)}(hel:es.length≤100000)(w:AN (pts mb (CP ad es)+(pts ib (.mapIter (some mb) es.length #[] es.length)+(cvR cv (.slice none 0 0)+x))) h)
  (K:∀ l v r h,List.Perm l (es.map (·.1))→Vec 9 1 v es.length (strs l) r→AN (pts mb (CP ad es)+(r+(cvR cv v+x))) h→E h) :
  Kv (fun rec4 h=>HM (Pt ib) h fun x56 h=>AO x56 0 fun x57=>AK x57
   (Hb (Pt ib) h fun x58=>AO x58 0 fun x59=>AB false 1 (Pt cv) h fun x60=>AH (.arr 1) 9 (AG TP 9) 1 1 [(0,x59)] h fun x62 h=>AM 9 (AG TP 9) 1 16 x60 x62 h fun x63 h=>AJ 1 (Pt cv) x63 h fun h=>rec4 h)
   (E h)) h:=by
 have hbx:∀ (I:List Nat),I.Nodup→(∀ i∈I,i<es.length)→I.length≤es.length:=fun I h1 h2=>by
  have:=List.Nodup.length_le_of_subset (l₂:=List.range es.length) h1 fun i hi=>A96.2 (h2 i hi)
  simpa using this
 refine ABT (fun m h'=>∃ (I:List Nat) (v:Value) (r:Res),m=es.length-I.length∧I.Nodup∧(∀ i∈I,i<es.length)∧Vec 9 1 v I.length (strs ((I.filterMap fun i=>es[i]?).map (·.1))) r∧AN (pts mb (CP ad es)+(pts ib (.mapIter (some mb) es.length I.toArray es.length)+(r+(cvR cv v+x)))) h') es.length
  ⟨[],.slice none 0 0,0,by simp,List.nodup_nil,by simp,.nil,by rw[Res.zero_add];exact w⟩ ?_
 rintro rec m h' ⟨I,v,r,rfl,hnd,hlt,d,w⟩ hrec
 have hIl:=hbx I hnd hlt
 have hfl:(I.filterMap fun i=>es[i]?).length=I.length:=by
  have:∀ (I:List Nat),(∀ i∈I,i<es.length)→(I.filterMap fun i=>es[i]?).length=I.length:=by
   intro I
   induction I with
   | nil=>intro _;rfl
   | cons a I ih=>
    intro hh
    rw[List.filterMap_cons,A00 (hh a (by simp))]
    simp[ih fun i hi=>hh i (by simp[hi])]
  exact this I hlt
 refine⟨ib,rfl,.inr ⟨mb,es.length,I.toArray,DP (fun c=>Pt (ad c)) es,?_,w.left.one,?_,fun hall=>?_,fun e he hns=>?_⟩⟩
 ·exact w.find
 ·intro e he
  obtain⟨i,a,h1,rfl⟩:=Ih he
  exact (A02.1 h1).1
 ·simp only[go_sem]
  have hI:∀ i,i<es.length→i∈I:=fun i hi=>by
   have:=hall ⟨str es[i].1,Pt (ad es[i].2),i⟩ (by
    refine B24 (i:=i) ?_
    rw[Iq,A00 hi];rfl)
   simpa using this
  have hpm:=O8 es I hnd hlt hI
  have hln:I.length=es.length:=by rw[←hfl];exact hpm.length_eq
  rw[hln] at d
  exact K _ v r _ (hpm.map _) d (AN.right (x:=pts ib (.mapIter (some mb) es.length I.toArray es.length)) (w.cast (by ac_rfl)))
 ·obtain⟨i,a,h1,rfl⟩:=Ih he
  have hil:=(A02.1 h1).1
  have hni:i∉I:=by simpa using hns
  simp only[go_sem]
  have w2:AN (pts ib (.mapIter (some mb) es.length (I++[i]).toArray es.length)+(pts mb (CP ad es)+(r+(cvR cv v+x)))) (h'.setIfInBounds ib (.mapIter (some mb) es.length (I.toArray.push i) es.length)):=by
   have e:I.toArray.push i=(I++[i]).toArray:=by simp
   rw[e]
   exact (w.cast (y:=pts ib (.mapIter (some mb) es.length I.toArray es.length)+(pts mb (CP ad es)+(r+(cvR cv v+x)))) (by ac_rfl)).set
  refine⟨ib,mb,es.length,(I++[i]).toArray,DP (fun c=>Pt (ad c)) es,es.length,i,⟨str a.1,Pt (ad a.2),i⟩,rfl,w2.find,by simp,?_,Rl _ h1,?_⟩
  ·exact w2.right.left.one
  ·simp only[go_sem,AF w2]
   refine EY (x:=pts ib (.mapIter (some mb) es.length (I++[i]).toArray es.length)+(pts mb (CP ad es)+(cvR cv v+x))) d (w2.cast (by ac_rfl)) Ho rfl rfl rfl (by omega) (by omega) fun v' r' h d w=>?_
   refine AL w ⟨[v']⟩ (by obtain⟨⟨a,c,rfl⟩,_⟩:=d.len;rfl) (by obtain⟨⟨a,c,rfl⟩,_⟩:=d.len;rfl) (by simp) (by obtain⟨⟨a,c,rfl⟩,_⟩:=d.len;rfl) fun h w=>?_
   have hnd':(I++[i]).Nodup:=by
    rw[A65]
    exact⟨hnd,by simp,by intro a ha b hb;simp at hb;subst hb;intro e;subst e;exact hni ha⟩
   have hlt':∀ j∈I++[i],j<es.length:=by
    intro j hj
    rcases A88.1 hj with hj|hj
    ·exact hlt j hj
    ·simp at hj;subst hj;exact hil
   have hle:=hbx _ hnd' hlt'
   rw[A01,A57] at hle
   refine hrec (es.length-(I++[i]).length) h ⟨I++[i],v',r',rfl,hnd',hlt',?_,w.cast (by unfold cvR;ac_rfl)⟩ (by rw[A01,A57];omega)
   have:(I++[i]).filterMap (fun i=>es[i]?)=(I.filterMap fun i=>es[i]?)++[a]:=by
    rw[List.filterMap_append];simp[h1]
   rw[this]
   unfold strs at d ⊢
   simpa using d
end
section
variable {h:H} {k:Value→Prop} {kt Q:Kt} {x y r:Res} {wb:Nat} {S S':PS} {ad:Nat→Nat}
theorem Gf {l:List Bs}{i:Nat}{a:Bs}(h:l[i]? = some a):(strs l)[i]? = some (str a):=by unfold strs;rw[A21,h];rfl
theorem MJ {E:H→Prop}{F dv cv c:Nat}{es:List (Bs×Nat)}{l0:List Bs}{v:Value}(p:BM wb ad S (r+(dvR dv (ad c)+(cvR cv v+x))) h)(d:Vec 9 1 v l0.length (strs l0) r)(hl0:l0.length≤100000)(hall:∀ a∈l0,∃ k,lookE es a=some k)(hFb:F9 TP F=true)
  (hF:∀ (i j:Nat) (l:List Bs) (r:Res) (Q:Kt) (h:H) (a b:Bs),BM wb ad S (r+(dvR dv (ad c)+(cvR cv v+x))) h→Vec 9 1 v l0.length (strs l) r→l[i]? = some a→l[j]? = some b→(∃ k,lookE es a=some k)→(∃ k,lookE es b=some k)→Q (.bool (lessE es a b)) h →
   Call TP F [.int .i64 i,.int .i64 j,Pt dv,Pt cv] h Q)
  (K:∀ r h,Vec 9 1 v l0.length (strs (sortL (lessE es) (l0.length-1) 1 l0)) r→BM wb ad S (r+(dvR dv (ad c)+(cvR cv v+x))) h→E h) :
  A1 (fun rec2 x16 h=>AB false 1 (Pt cv) h fun x66=>Ab x66 fun x67=>AD .lss x16 x67 fun x68=>AK x68
   (A1 (fun rec3 x17 h=>AD .gtr x17 (.int .i64 0) fun x73=>Az x73 true (AD .sub x17 (.int .i64 1) fun x78=>Bj TP (.func (.func F) #[] #[Pt dv,Pt cv]) [x17,x78] h fun x79 h=>AK x79
    (AB false 1 (Pt cv) h fun x83=>AB false 1 (Pt cv) h fun x85=>AD .sub x17 (.int .i64 1) fun x87=>AB false 1 (Pt cv) h fun x88=>AD .sub x17 (.int .i64 1) fun x90=>AI (.slice 1) x88 x90 fun x91=>AB false 1 x91 h fun x92=>AB false 1 (Pt cv) h fun x93=>AI (.slice 1) x93 x17 fun x95=>AB false 1 x95 h fun x96=>AI (.slice 1) x83 x17 fun x97=>AJ 1 x97 x92 h fun h=>((AB false 1 (Pt cv) h fun v=>v=x85)∧AI (.slice 1) x85 x87 fun x98=>AJ 1 x98 x96 h fun h=>AD .sub x17 (.int .i64 1) fun x82=>rec3 x82 h))
    (AD .add x16 (.int .i64 1) fun x70=>rec2 x70 h)) (AD .add x16 (.int .i64 1) fun x70=>rec2 x70 h)) x16 h)
   (E h)) (.int .i64 1) h:=by
 have hgd:∀ (l:List Bs) (i:Nat),i<l.length→l[i]? = some (l.getD i []):=fun l i hi=>by rw[A10,A00 hi];rfl
 have hknown:∀ (l:List Bs) (i:Nat),l.Perm l0→i<l.length→∃ k,lookE es (l.getD i [])=some k:=fun l i hp hi=>hall _ (hp.mem_iff.1 (A28 (hgd l i hi)))
 have hv:∃ a m,v=.slice a l0.length m:=by obtain⟨⟨a,m,e⟩,_⟩:=d.len;exact⟨a,m,e⟩
 obtain⟨va,vm,hv⟩:=hv
 refine Ba (fun m u h'=>∃ (i:Nat) (l:List Bs) (r:Res),m=l0.length+1-i∧1≤i∧u=.int .i64 (i:Nat)∧l.Perm l0∧sortL (lessE es) (l0.length-i) i l=sortL (lessE es) (l0.length-1) 1 l0∧Vec 9 1 v l0.length (strs l) r∧BM wb ad S (r+(dvR dv (ad c)+(cvR cv v+x))) h') l0.length
  ⟨1,l0,r,rfl,A07 _,rfl,List.Perm.refl _,rfl,d,p⟩ ?_
 rintro rec2 m u h' ⟨i,l,r,rfl,hi1,rfl,hpm,hs,d,p⟩ hrec2
 have hll:=hpm.length_eq
 simp only[go_sem,A4 p]
 rw[hv]
 simp only[go_sem]
 refine AX (fun hlt=>?_) (fun hge=>?_)
 ·have hlt':i<l0.length:=by omega
  have hm:l0.length-i=(l0.length-(i+1))+1:=by omega
  rw[hm,sortL] at hs
  have next:∀ (l':List Bs) (r:Res) (h:H),l'=Fc (lessE es) i l→Vec 9 1 v l0.length (strs l') r→BM wb ad S (r+(dvR dv (ad c)+(cvR cv v+x))) h→rec2 (.int .i64 ((i+1:Nat):Int)) h:=fun l' r h e d p=>by
   subst e
   exact hrec2 _ _ _ ⟨i+1,Fc (lessE es) i l,r,rfl,by omega,rfl,(HR _ _ _ (by omega)).trans hpm,hs,d,p⟩ (by omega)
  refine Ba (fun m u h'=>∃ (j:Nat) (l':List Bs) (r:Res),m=j∧j≤i∧u=.int .i64 (j:Nat)∧l'.Perm l0∧Fc (lessE es) j l'=Fc (lessE es) i l∧Vec 9 1 v l0.length (strs l') r∧BM wb ad S (r+(dvR dv (ad c)+(cvR cv v+x))) h') i ⟨i,l,r,rfl,A07 _,rfl,hpm,rfl,d,p⟩ ?_
  rintro rec3 m u h' ⟨j,l',r,hmj,hji,rfl,hpm',hs',d,p⟩ hrec3
  have hll':=hpm'.length_eq
  simp (disch:=omega) only[go_sem]
  refine C3 (fun hj=>?_) (fun hj=>?_)
  ·obtain⟨j',rfl⟩:∃ j',j=j'+1:=⟨j-1,by omega⟩
   have ga:=hgd l' (j'+1) (by omega)
   have gb:=hgd l' j' (by omega)
   simp (disch:=omega) only[go_sem,A79]
   refine IF (l:=[.int .i64 ((j'+1:Nat):Int),.int .i64 (j':Int),Pt dv,Pt cv]) rfl hFb (hF (j'+1) j' l' r _ h' _ _ p d ga gb (hknown l' _ hpm' (by omega)) (hknown l' _ hpm' (by omega)) ?_)
   rw[Fc] at hs'
   cases hle:lessE es (l'.getD (j'+1) []) (l'.getD j' []) with
   | false=>
    rw[hle,A05 (by simp)] at hs'
    simp (disch:=omega) only[go_sem]
    exact next l' r _ hs' d p
   | true=>
    rw[hle,A03 rfl] at hs'
    simp (disch:=omega) only[go_sem,A4 p]
    refine Dw p d (Gf gb) ?_
    refine Dw p d (Gf ga) ?_
    refine O4 p d (by omega) rfl rfl fun r h d p=>?_
    refine⟨IM p rfl,?_⟩
    refine O4 p d (by omega) rfl rfl fun r h d p=>?_
    rw[Of,Of] at d
    exact hrec3 j' _ _ ⟨j',JA l' (j'+1),r,rfl,by omega,rfl,(LB (by omega) (by omega)).trans hpm',hs',d,p⟩ (by omega)
  ·have hj0:j=0:=by omega
   subst hj0
   exact next l' r _ hs' d p
 ·have h0:l0.length-i=0:=by omega
  rw[h0,sortL] at hs
  subst hs
  exact K r _ d p
end
section
variable {h:H} {k:Value→Prop} {kt Q:Kt} {x y r:Res} {wb:Nat} {S S':PS} {ad:Nat→Nat}
theorem Uo {c n:Nat}{nm:ByteArray}(p:BM wb ad S x h)(hc:S.cur=none)(K:∀ h,BM wb ad {S with cur:=some c,dw:=0,dm:=n} x h→Q (.tuple #[]) h):f96 (Pt wb) (.string nm) (Pt (ad c)) (.int .i64 (n:Int)) h Q:=by
 obtain⟨s,L,tr,a,w⟩:=p
 rw[←a.wb]
 refine s96 (x:=tr+sumR ad L+x) (w.cast (by unfold FR;ac_rfl)) (by rw[a.cur,hc];rfl) ⟨_,rfl⟩ fun h w=>K h ⟨{s with nm:=.string nm,cur:=Pt (ad c),dw:=0,dm:=n},L,tr,⟨a.ok.ws' ⟨a.ok.ws.buf,a.ok.ws.len,a.ok.ws.max⟩ rfl,a.wb,a.ini,a.M,a.B,a.pos,a.dpos,rfl,rfl,rfl,a.inl,a.max,a.gd,a.db⟩,w.cast (by unfold FR;ac_rfl)⟩
def BZ:Nat→List (Nat×Nat×Bs)→Nat×Bs
 | left,[]=>(left,[])
 | left,e::r=>((BZ (Dk left e.1 e.2.1 e.2.2).1 r).1,(Dk left e.1 e.2.1 e.2.2).2++(BZ (Dk left e.1 e.2.1 e.2.2).1 r).2)
def Bg (l:List (Nat×Nat×Bs)):Bs:=(BZ 4096 l).2++HC (BZ 4096 l).1
def modeAt (M:List (Option PN))(k:Nat):Nat:=match M[k-1]? with|some (some n)=>n.mode|_=>0
def FX (M:List (Option PN))(es:List (Bs×Nat))(nm:Bs):Nat×Nat×Bs:=((lookE es nm).getD 0,EG (modeAt M ((lookE es nm).getD 0)),nm)
def Cf (M:List (Option PN))(c pp:Nat)(es:List (Bs×Nat))(l:List Bs):List (Nat×Nat×Bs):=(c,EG (modeAt M c),[46])::(pp,EG (modeAt M pp),[46,46])::l.map (FX M es)
theorem Mt {left c ft:Nat}{nm:Bs}(h1:12≤left)(h2:left≤4096)(hn:nm.length<256):12≤(Dk left c ft nm).1∧(Dk left c ft nm).1≤4096∧(Dk left c ft nm).2.length≤552:=by
 have hrl:8+nm.length≤Dm nm∧Dm nm<8+nm.length+4:=by unfold Dm;omega
 unfold Dk
 split
 ·simp only[A01,GR (show 8≤left by omega),IK];omega
 ·simp only[IK];omega
def PS.dirOpen (S:PS)(c:Nat)(bs:Bs):PS:=PS.wrote {S with cur:=some c,dw:=0,dm:=9223372036854775807} bs
def PS.dirDone (S:PS)(c:Nat)(n:PN)(bs:Bs):PS:={S.dirOpen c bs with M:=S.M.set (c-1) (some {n with size:=bs.length}),dm:=bs.length}
theorem GX {c:Nat}{a b:Bs}(h:S.B.length≤S.pos):(S.dirOpen c a).wrote b=S.dirOpen c (a++b):=EK h
theorem KP {c room:Nat}{n:PN}{bs:Bs}(h1:1≤c)(hn:S.M[c-1]? = some (some n))(hfl:n.flags=262144)(hd:bs.length+room≤100000000)(hm:S.pos+bs.length+room≤S.max):FS (S.dirOpen c bs) c n room:=
 ⟨rfl,h1,hn,hfl,rfl,by show 0+bs.length+room≤100000000;omega,by show S.pos+bs.length+room≤S.max;omega⟩
theorem IN (p:BM wb ad S x h){c:Nat}{n:PN}(h1:1≤c)(hn:S.M[c-1]? = some (some n)):n.mode<65536∧c<4294967296∧n.num=c:=by
 obtain⟨s,L,tr,a,w⟩:=p
 obtain⟨nd,hnd,rfl⟩:=CF (a.M▸hn)
 have hl:=(A02.1 hnd).1
 have hl2:=a.ok.len
 have:=a.ok.num _ _ hnd
 exact⟨(a.ok.nd _ _ hnd).2.2.1,by omega,by show nd.num=c;omega⟩
theorem AFk {wv c:Nat}{n:PN}{bs:Bs}(p:BM wb ad (S.dirOpen c bs) (wvR wv wb+x) h)(h1:1≤c)(hn:S.M[c-1]? = some (some n))(K:∀ h,BM wb ad (S.dirDone c n bs) (wvR wv wb+x) h→Q .nilIface h) :
  AB false 1 (Pt wv) h fun x127=>AE x127 fun x128=>AC 3 x128 fun x129=>AB false 1 x129 h fun x130=>AB false 1 (Pt wv) h fun x131=>AE x131 fun x132=>AC 5 x132 fun x133=>AB false 1 x133 h fun x134=>AE x130 fun x135=>AC 0 x135 fun x136=>AJ 1 x136 x134 h fun h=>AB false 1 (Pt wv) h fun x137=>AB false 1 (Pt wv) h fun x138=>AE x138 fun x139=>AC 5 x139 fun x140=>AB false 1 x140 h fun x141=>AE x137 fun x142=>AC 6 x142 fun x143=>AJ 1 x143 x141 h fun h=>Q .nilIface h:=by
 obtain⟨s,L,tr,a,w⟩:=p
 obtain⟨nd,hnd,hp⟩:=CF (a.M▸(show (S.dirOpen c bs).M[c-1]? = some (some n) from hn))
 obtain⟨w',hnum⟩:=CG a.ok h1 hnd w
 have hcur:s.cur=Pt (ad c):=a.cur
 have hdw:s.dw=bs.length:=by rw[a.dw];show 0+bs.length=_;omega
 have hl:=(A02.1 hnd).1
 have wl:AN (s.res+(pts (ad c) (.cells nd.cells 197 (0,0))+(wvR wv wb+(nd.dr+(nd.xr+nd.kr ad)+(tr+sumR ad (L.set (c-1) none))+x)))) h:=w'.cast (by unfold Nd.res;rw[show ad nd.num=ad c by rw[hnum]];ac_rfl)
 rw[←a.wb] at wl
 simp only[go_sem,AF wl,hcur,hdw]
 refine AL wl (Nd.cells {nd with size:=bs.length}) rfl rfl (by simp) rfl fun h w=>?_
 simp only[go_sem,AF w,hdw]
 refine AL w (WS.cells {s with dm:=bs.length}) rfl rfl (by simp) rfl fun h w=>?_
 have hnd':=a.ok.ndOK hnd
 refine K h ⟨{s with dm:=bs.length},L.set (c-1) (some {nd with size:=bs.length}),tr,⟨F7 a.ok ⟨a.ok.ws.buf,a.ok.ws.len,a.ok.ws.max⟩ rfl hnd rfl hnd',a.wb,a.ini,?_,a.B,a.pos,a.dpos,a.dw,rfl,a.cur,a.inl,a.max,a.gd,a.db⟩,?_⟩
 ·unfold pnL
  rw[B22]
  have hM:pnL L=S.M:=a.M
  show (pnL L).set (c-1) (some {nd.pn with size:=bs.length})=S.M.set (c-1) (some {n with size:=bs.length})
  rw[hM,hp]
 ·rw[a.wb] at w
  refine w.cast ?_
  unfold FR
  rw[GN hl]
  unfold Nd.res WS.res Nd.kr
  dsimp only
  rw[show ad nd.num=ad c by rw[hnum],a.wb]
  ac_rfl
end
section
variable {h:H} {k:Value→Prop} {kt Q:Kt} {x y r:Res} {wb:Nat} {S S':PS} {ad:Nat→Nat}
theorem HL:AG TP 3=some (.int .i64 0):=by kernel_rfl
theorem AAi:AG TP 141=some .nilFunc:=by kernel_rfl
theorem XJ:AG TP 49=some (.slice none 0 0):=by kernel_rfl
structure F0 (S:PS) (c pp:Nat) (n np:PN) (es:List (Bs×Nat)) (srt:List Bs):Prop where
 cur:S.cur=none
 c1:1≤c
 nd:S.M[c-1]? = some (some n)
 kids:n.kids=some es
 kin:KidsIn S es
 nms:∀ e∈es,1≤e.1.length∧e.1.length<256
 pp1:1≤pp
 pnd:S.M[pp-1]? = some (some np)
 fl:n.flags=262144
 B:S.B.length≤S.pos
 room:S.pos+560*es.length+10000≤S.max
 few:es.length≤10000
 srt:∀ l:List Bs,l.Perm (es.map (·.1))→sortL (lessE es) (l.length-1) 1 l=srt
 known:∀ a∈es.map (·.1),∃ k,lookE es a=some k
theorem F0.sperm {c pp:Nat}{n np:PN}{es:List (Bs×Nat)}{srt:List Bs}(d:F0 S c pp n np es srt):srt.Perm (es.map (·.1)):=by
 have:=d.srt (es.map (·.1)) (List.Perm.refl _)
 rw[←this]
 cases h:es.map (·.1) with
 | nil=>exact List.Perm.refl _
 | cons a l=>exact KK _ _ _ _ (by simp;omega)
theorem ADW {dv wv lb fv c pp:Nat}{n np:PN}{es:List (Bs×Nat)}{srt:List Bs}{v:Value}{pre bs:Bs}{left:Nat}(d:F0 S c pp n np es srt)(dv':Vec 9 1 v srt.length (strs srt) r)
  (p:BM wb ad (S.dirOpen c pre) (lbR lb left+(wvR wv wb+(fvR fv lb wv+(dvR dv (ad c)+(r+x))))) h) (hl1:12≤left) (hl2:left≤4096) (hpre:pre.length≤1104)
  (hbs:pre++((BZ left (srt.map (FX S.M es))).2++HC (BZ left (srt.map (FX S.M es))).1)=bs)
  (K:∀ h,BM wb ad (S.dirDone c n bs) x h→Q .nilIface h) :
  Pu Q (Pt wv) (Pt dv) (Pt fv) (.func (.func 202) #[] #[Pt lb,Pt fv,Pt wv]) v (.int .i64 (srt.length:Nat)) (.int .i64 ((0:Nat):Int)) h:=by
 have hsl:srt.length=es.length:=by have:=d.sperm.length_eq;simpa using this
 have hfew:=d.few
 have hroom:=d.room
 unfold Pu
 refine Ba (fun m u h'=>∃ (i:Nat) (left:Nat) (pre:Bs),m=srt.length-i∧i≤srt.length∧u=.int .i64 (i:Nat)∧12≤left∧left≤4096∧pre.length≤1104+552*i ∧
   pre++((BZ left ((srt.drop i).map (FX S.M es))).2++HC (BZ left ((srt.drop i).map (FX S.M es))).1)=bs ∧
   BM wb ad (S.dirOpen c pre) (lbR lb left+(wvR wv wb+(fvR fv lb wv+(dvR dv (ad c)+(r+x))))) h') srt.length
  ⟨0,left,pre,rfl,A39 _,rfl,hl1,hl2,hpre,by rw[A68];exact hbs,p⟩ ?_
 rintro rec m u h' ⟨i,left,pre,rfl,hi,rfl,hl1,hl2,hpre,hbs,p⟩ hrec
 have hat:FS (S.dirOpen c pre) c n (560*es.length+10000-pre.length):=KP d.c1 d.nd d.fl (by omega) (by omega)
 have hB':(S.dirOpen c pre).B.length≤(S.dirOpen c pre).pos:=NN (S:={S with cur:=some c,dw:=0,dm:=9223372036854775807}) d.B
 unfold QL Ucm Uil Uld Unf Uff
 simp (disch:=omega) only[go_sem]
 refine AX (fun hlt=>?_) (fun hge=>?_)
 ·have hlt':i<srt.length:=by omega
  have gi:srt[i]? = some srt[i]:=A00 hlt'
  obtain⟨k,hk⟩:=d.known srt[i] (d.sperm.mem_iff.1 (Q3 hlt'))
  have hmem:=Gt hk
  obtain⟨hk1,nk,hnk⟩:=d.kin _ hmem
  obtain⟨hn1,hn2⟩:=d.nms _ hmem
  obtain⟨hm,hk4,hknum⟩:=IN p hk1 hnk
  refine Dw (r:=r) (x:=lbR lb left+(wvR wv wb+(fvR fv lb wv+(dvR dv (ad c)+x)))) (p.cast (by ac_rfl)) dv' (Gf gi) ?_
  obtain⟨nd,rr,hnd,hnum,w,_⟩:=DM p d.c1 d.nd
  obtain⟨mb,hdir⟩:∃ mb,nd.dir=some (mb,es):=by
   have:nd.dir.map (·.2)=some es:=by rw[←d.kids,←hnd];rfl
   rw[A74] at this
   obtain⟨⟨mb,es'⟩,e1,e2⟩:=this
   cases e2
   exact⟨mb,e1⟩
  have wl:AN (pts (ad c) (.cells nd.cells 197 (0,0))+(nd.dr+(nd.xr+nd.kr ad))+(rr+(lbR lb left+(wvR wv wb+(fvR fv lb wv+(dvR dv (ad c)+(r+x))))))) h':=w.cast (by unfold Nd.res;rw[hnum])
  rw[A4 p]
  simp only[go_sem]
  rw[AF wl]
  simp only[go_sem]
  refine EJ w ?_
  simp only[hdir,hk,go_sem]
  obtain⟨ndk,rk,hpk,hnumk,wk,_⟩:=DM p hk1 hnk
  have wk':AN (pts (ad k) (.cells ndk.cells 197 (0,0))+(ndk.dr+(ndk.xr+ndk.kr ad))+(rk+(lbR lb left+(wvR wv wb+(fvR fv lb wv+(dvR dv (ad c)+(r+x))))))) h':=wk.cast (by unfold Nd.res;rw[hnumk])
  rw[AF wk']
  simp only[go_sem]
  have hnk':ndk.num=k:=hnumk
  rw[hnk']
  refine IF (l:=[.int .u32 (k:Nat),str srt[i],Pt lb,Pt fv,Pt wv]) rfl (by kernel_rfl) (Mn (AC5 (x:=dvR dv (ad c)+(r+x)) p hat hk1 hnk hm hn1 hn2 hk4 hl1 hl2 (by omega) hB' fun h p=>?_))
  simp (disch:=omega) only[go_sem]
  rw[GX d.B] at p
  have hd:srt.drop i=srt[i]::srt.drop (i+1):=A50 hlt'
  have he:FX S.M es srt[i]=(k,EG nk.mode,srt[i]):=by
   have hma:modeAt S.M k=nk.mode:=by
    have:S.M[k-1]? = some (some nk):=hnk
    unfold modeAt;rw[this]
   unfold FX
   rw[hk,B52,hma]
  rw[hd,A33,he,BZ] at hbs
  simp only at hbs
  obtain⟨q1,q2,q3⟩:=Mt (c:=k) (ft:=EG nk.mode) (nm:=srt[i]) hl1 hl2 hn2
  refine hrec _ _ _ ⟨i+1,(Dk left k (EG nk.mode) srt[i]).1,pre++(Dk left k (EG nk.mode) srt[i]).2,rfl,by omega,rfl,q1,q2,by rw[A01];omega,?_,p⟩ (by omega)
  rw[←hbs]
  simp only[A12]
 ·have hi':i=srt.length:=by omega
  rw[hi',B15,B46,BZ,A34] at hbs
  simp only at hbs
  rw[A4 p]
  simp only[go_sem]
  refine IF (l:=[Pt lb,Pt wv]) rfl (by kernel_rfl) (SS (AFw (x:=fvR fv lb wv+(dvR dv (ad c)+(r+x))) p hat hl1 hl2 (by omega) hB' fun h p=>?_))
  simp (disch:=omega) only[LE]
  simp only[AU]
  rw[GX d.B,hbs] at p
  refine AFk (wv:=wv) (x:=lbR lb 4096+(fvR fv lb wv+(dvR dv (ad c)+(r+x)))) (p.cast (by ac_rfl)) d.c1 d.nd fun h p=>?_
  exact K h (BM.mono (y:=wvR wv wb+(lbR lb 4096+(fvR fv lb wv+(dvR dv (ad c)+r)))) (p.cast (by ac_rfl)))
theorem AGv {dv wv lb fv c pp l1:Nat}{n np:PN}{es:List (Bs×Nat)}{srt:List Bs}{pre bs:Bs}(d:F0 S c pp n np es srt)(hfew:es.length≤10000)(p:BM wb ad (S.dirOpen c pre) (lbR lb l1+(wvR wv wb+(fvR fv lb wv+(dvR dv (ad c)+x)))) h)(b1:12≤l1)(b2:l1≤4096)(hprel:pre.length≤1104)
  (hbs:pre++((BZ l1 (srt.map (FX S.M es))).2++HC (BZ l1 (srt.map (FX S.M es))).1)=bs) (K:∀ h,BM wb ad (S.dirDone c n bs) x h→Q .nilIface h) :
  AQ (AG TP 49) 49 h fun x13 h=>AB false 1 (Pt dv) h fun x51=>AE x51 fun x52=>AC 17 x52 fun x53=>AB false 1 x53 h fun x54=>D5 x54 h fun x55 h=>Qf Q (Pt wv) (Pt dv) (Pt fv) (.func (.func 202) #[] #[Pt lb,Pt fv,Pt wv]) x13 x55 h:=by
 refine DG p XJ rfl fun cv h p=>?_
 simp only[go_sem,A4 p]
 have p:BM wb ad (S.dirOpen c pre) (lbR lb l1+(wvR wv wb+(fvR fv lb wv+(dvR dv (ad c)+(cvR cv (.slice none 0 0)+x))))) h:=p.cast (by unfold lbR wvR fvR dvR cvR;ac_rfl)
 obtain⟨nd,rr,hnd,hnum,w,cl⟩:=DM p d.c1 d.nd
 obtain⟨mb,hdir⟩:∃ mb,nd.dir=some (mb,es):=by
  have:nd.dir.map (·.2)=some es:=by rw[←d.kids,←hnd];rfl
  rw[A74] at this
  obtain⟨⟨mb,es'⟩,e1,e2⟩:=this
  cases e2
  exact⟨mb,e1⟩
 have hkr:nd.kr ad=pts mb (CP ad es):=by unfold Nd.kr;rw[hdir]
 have hkv:nd.kids=.map (some mb):=by unfold Nd.kids;rw[hdir];rfl
 have wl:AN (pts (ad c) (.cells nd.cells 197 (0,0))+(pts mb (CP ad es)+(nd.dr+nd.xr+rr+(lbR lb l1+(wvR wv wb+(fvR fv lb wv+(dvR dv (ad c)+(cvR cv (.slice none 0 0)+x)))))))) h:=w.cast (by unfold Nd.res lbR wvR fvR dvR cvR;rw[hnum,hkr];ac_rfl)
 rw[AF wl]
 simp only[go_sem]
 rw[hkv]
 refine Ir (m:=mb) wl fun ib h w=>?_
 have w2:AN (pts mb (CP ad es)+(pts ib (.mapIter (some mb) es.length #[] es.length)+(cvR cv (.slice none 0 0)+(pts (ad c) (.cells nd.cells 197 (0,0))+(nd.dr+nd.xr+rr+(lbR lb l1+(wvR wv wb+(fvR fv lb wv+(dvR dv (ad c)+x))))))))) h:=by
  have key:∀ A B C D E1 E2 E3 E4 V X:Res,A+(C+(B+(D+(E1+(E2+(E3+(E4+(V+X))))))))=B+(A+(V+(C+(D+(E1+(E2+(E3+(E4+X)))))))):=by intros;ac_rfl
  exact w.cast (key _ _ _ _ _ _ _ _ _ _)
 unfold Qf RY Uld
 refine Wz (E:=Qb Q (Pt wv) (Pt dv) (Pt fv) (.func (.func 202) #[] #[Pt lb,Pt fv,Pt wv]) (Pt cv) (.func (.func 204) #[] #[Pt dv,Pt cv]) (.int .i64 1)) (ib:=ib) (cv:=cv) (ad:=ad) (es:=es) (x:=pts (ad c) (.cells nd.cells 197 (0,0))+(nd.dr+nd.xr+rr+(lbR lb l1+(wvR wv wb+(fvR fv lb wv+(dvR dv (ad c)+x)))))) (by omega) w2 fun l v r h hperm dvec w=>?_
 have p:BM wb ad (S.dirOpen c pre) (r+(dvR dv (ad c)+(cvR cv v+(lbR lb l1+(wvR wv wb+(fvR fv lb wv+x)))))) h:=cl _ _ (w.cast (by unfold Nd.res lbR wvR fvR dvR cvR;rw[hnum,hkr];ac_rfl))
 have hll:l.length=es.length:=by have:=hperm.length_eq;simpa using this
 rw[←hll] at dvec
 unfold Qb P7 Vu Qg R9 Uld Ucm Ucg Uil Ukp
 refine MJ (F:=204) (c:=c) (es:=es) p dvec (by omega) (fun a ha=>d.known a (hperm.mem_iff.1 ha)) (by kernel_rfl) (fun i j l' r Q h a b p dv hi hj ha hb K=>AAM (AHo p dv d.c1 d.nd d.kids d.kin hi hj ha hb K)) fun r h dvec p=>?_
 rw[d.srt l hperm] at dvec
 have hsl:srt.length=l.length:=by have:=d.sperm.length_eq;simp at this;omega
 rw[←hsl] at dvec
 simp only[go_sem,A4 p]
 obtain⟨⟨va,vc,hv⟩,_⟩:=dvec.len
 rw[hv]
 simp only[go_sem]
 rw[←hv]
 refine ADW (x:=cvR cv v+x) d dvec (p.cast (by ac_rfl)) b1 b2 hprel hbs fun h p=>K h (BM.mono (y:=cvR cv v) (p.cast (Res.comm _ _)))
theorem Vc {c room:Nat}{n:PN}(h1:1≤c)(hn:S.M[c-1]? = some (some n))(hfl:n.flags=262144)(hd:room≤100000000)(hm:S.pos+room≤S.max):FS {S with cur:=some c,dw:=0,dm:=9223372036854775807} c n room:=
 ⟨rfl,h1,hn,hfl,rfl,by show 0+room≤100000000;omega,hm⟩
theorem AHq {c pp:Nat}{n np:PN}{es:List (Bs×Nat)}{srt:List Bs}{S0:PS}(d:F0 S c pp n np es srt)(p:BM wb ad S0 x h)(fin:Fin S0 S)(K:∀ h,BM wb ad (S.dirDone c n (Bg (Cf S.M c pp es srt))) x h→Q .nilIface h) :
  AEW (Pt wb) (Pt (ad c)) (Pt (ad pp)) h Q:=by
 have hfew:=d.few
 have hroom:=d.room
 have hr1:560*es.length+10000≤100000000:=B28 (Nat.add_le_add_right (Nat.mul_le_mul_left 560 hfew) 10000) (by decide)
 have hr2:S.pos+(560*es.length+10000)≤S.max:=B28 (Nat.le_of_eq (B62 _ _ _).symm) hroom
 unfold AEW Uld Ucl Umk Unf
 refine M3 p fun wv h p=>?_
 have p:BM wb ad S0 (wvR wv wb+x) h:=p
 refine M3 p fun dv h p=>?_
 have p:BM wb ad S0 (dvR dv (ad c)+(wvR wv wb+x)) h:=p
 simp only[go_sem,A4 p,Value.cells]
 refine ND (Jq p fin fun h p=>?_)
 simp only[go_sem,A4 p]
 refine Vx (Uo (n:=9223372036854775807) p d.cur fun h p=>?_)
 refine DG p HL rfl fun lb h p=>?_
 refine DD p ⟨[.int .i64 ((4096:Nat):Int)]⟩ rfl rfl (by simp) rfl fun h p=>?_
 refine DG p AAi rfl fun fv h p=>?_
 refine DD p ⟨[.func (.func 200) #[] #[Pt lb,Pt wv]]⟩ rfl rfl (by simp) rfl fun h p=>?_
 simp only[go_sem,A4 p]
 have p:BM wb ad {S with cur:=some c,dw:=0,dm:=9223372036854775807} (lbR lb 4096+(wvR wv wb+(fvR fv lb wv+(dvR dv (ad c)+x)))) h:=p.cast (by unfold lbR wvR fvR dvR;ac_rfl)
 obtain⟨nd,rr,hnd,hnum,w,_⟩:=DM p d.c1 d.nd
 have wl:AN (pts (ad c) (.cells nd.cells 197 (0,0))+(nd.dr+(nd.xr+nd.kr ad))+(rr+(lbR lb 4096+(wvR wv wb+(fvR fv lb wv+(dvR dv (ad c)+x)))))) h:=w.cast (by unfold Nd.res;rw[hnum])
 rw[AF wl]
 simp only[go_sem,hnum]
 have hat:FS {S with cur:=some c,dw:=0,dm:=9223372036854775807} c n (560*es.length+10000):=Vc (S:=S) (room:=560*es.length+10000) d.c1 d.nd d.fl hr1 hr2
 obtain⟨hm,hc4,_⟩:=IN p d.c1 d.nd
 obtain⟨hmp,hp4,_⟩:=IN p d.pp1 d.pnd
 have hs1:(Value.string ⟨#[46]⟩)=str [46]:=rfl
 have hs2:(Value.string ⟨#[46,46]⟩)=str [46,46]:=rfl
 rw[hs1,hs2]
 refine IF (l:=[.int .u32 (c:Nat),str [46],Pt lb,Pt fv,Pt wv]) rfl (by kernel_rfl) (Mn (AC5 (x:=dvR dv (ad c)+x) p hat d.c1 d.nd hm (by decide) (by decide) hc4 (by omega) (by omega) (by omega) d.B fun h p=>?_))
 obtain⟨a1,a2,a3⟩:=Mt (left:=4096) (c:=c) (ft:=EG n.mode) (nm:=[46]) (by omega) (by omega) (by decide)
 have p:BM wb ad (S.dirOpen c (Dk 4096 c (EG n.mode) [46]).2) (lbR lb (Dk 4096 c (EG n.mode) [46]).1+(wvR wv wb+(fvR fv lb wv+(dvR dv (ad c)+x)))) h:=p
 simp only[go_sem]
 obtain⟨nd,rr,hnd,hnum,w,_⟩:=DM p d.pp1 d.pnd
 have wl:AN (pts (ad pp) (.cells nd.cells 197 (0,0))+(nd.dr+(nd.xr+nd.kr ad))+(rr+(lbR lb (Dk 4096 c (EG n.mode) [46]).1+(wvR wv wb+(fvR fv lb wv+(dvR dv (ad c)+x)))))) h:=w.cast (by unfold Nd.res;rw[hnum])
 rw[AF wl]
 simp only[go_sem,hnum]
 have hat2:FS (S.dirOpen c (Dk 4096 c (EG n.mode) [46]).2) c n (560*es.length+9000):=KP d.c1 d.nd d.fl (by omega) (by omega)
 have hB2:(S.dirOpen c (Dk 4096 c (EG n.mode) [46]).2).B.length≤(S.dirOpen c (Dk 4096 c (EG n.mode) [46]).2).pos:=NN (S:={S with cur:=some c,dw:=0,dm:=9223372036854775807}) d.B
 refine IF (l:=[.int .u32 (pp:Nat),str [46,46],Pt lb,Pt fv,Pt wv]) rfl (by kernel_rfl) (Mn (AC5 (x:=dvR dv (ad c)+x) p hat2 d.pp1 d.pnd hmp (by decide) (by decide) hp4 a1 a2 (by omega) hB2 fun h p=>?_))
 rw[GX d.B] at p
 obtain⟨b1,b2,b3⟩:=Mt (left:=(Dk 4096 c (EG n.mode) [46]).1) (c:=pp) (ft:=EG np.mode) (nm:=[46,46]) a1 a2 (by decide)
 obtain⟨l1,hl1⟩:∃ l1,l1=(Dk (Dk 4096 c (EG n.mode) [46]).1 pp (EG np.mode) [46,46]).1:=⟨_,rfl⟩
 obtain⟨pre,hpre⟩:∃ pre,pre=(Dk 4096 c (EG n.mode) [46]).2++(Dk (Dk 4096 c (EG n.mode) [46]).1 pp (EG np.mode) [46,46]).2:=⟨_,rfl⟩
 have hbs:pre++((BZ l1 (srt.map (FX S.M es))).2++HC (BZ l1 (srt.map (FX S.M es))).1)=Bg (Cf S.M c pp es srt):=by
  have hmc:modeAt S.M c=n.mode:=by unfold modeAt;rw[d.nd]
  have hmp:modeAt S.M pp=np.mode:=by unfold modeAt;rw[d.pnd]
  unfold Bg Cf
  rw[hmc,hmp,BZ,BZ]
  simp only
  rw[←hl1,hpre]
  simp only[A12]
 rw[←hl1] at b1 b2 p
 rw[←hpre] at p
 have hprel:pre.length≤1104:=by rw[hpre,A01];omega
 simp only[go_sem]
 exact AGv d hfew p b1 b2 hprel hbs K
end
end Go.Proofs.YtollddkkdgoonaaGreatDoor
