/- A part of a proof over images that are written and read. No condition; a step. -/
import Derived.Test.YtollddkkdgoonaaGreatDoorM22
namespace Go.Proofs.YtollddkkdgoonaaGreatDoor
open Go
set_option linter.unusedVariables false
set_option linter.unusedSimpArgs false
section
open Go Go.ChangeShapes Go.WideShapes
theorem ty4:TP.underlying 4=some .bool:=by kernel_rfl
theorem ty5:TP.underlying 5=some (.int .u8):=by kernel_rfl
theorem ty9:TP.underlying 9=some .string:=by kernel_rfl
theorem AHe:TP.underlying 30=some (.slice 5):=by kernel_rfl
theorem ACz:TP.underlying 76=some (.slice 30):=by kernel_rfl
theorem AGM:TP.underlying 342=some (.array 7 341):=by kernel_rfl
theorem ce5:TP.cellsOf 5=1:=by kernel_rfl
theorem ce9:TP.cellsOf 9=1:=by kernel_rfl
theorem AIE:TP.cellsOf 30=1:=by kernel_rfl
theorem AA5:TP.cellsOf 341=2:=by kernel_rfl
section
variable {K:Type} {enc:TypeId×Value→K} {w:World} {base:Nat} {sp:Nat→Bool} {held:Bool} {fuel:Nat} {t e:TypeId} {v:Value} {d:DataW K} {p:List MemPlace}
theorem Qy {k:IntKind}{n:Int}(ht:TP.underlying t=some (.int k))(h:DataW.trod enc TP w base sp held fuel t [v]=some (.lit (.int k n),p)):v=.int k n:=by
 cases fuel with
 | zero=>simp[DataW.trod] at h
 | succ m=>
  cases v<;>simp[DataW.trod,ht] at h
  rename_i k' n'
  obtain⟨⟨rfl,_⟩,rfl,_⟩:=h
  rfl
theorem RB {l:Bs}(ht:TP.underlying t=some .string)(h:DataW.trod enc TP w base sp held fuel t [v]=some (.lit (.string l),p)):v=str l:=by
 cases fuel with
 | zero=>simp[DataW.trod] at h
 | succ m=>
  cases v<;>simp[DataW.trod,ht] at h
  rename_i s
  obtain⟨_,rfl,_⟩:=h
  rfl
set_option maxRecDepth 100000 in
theorem Z7 {cs:List Value}{n:Int}{l:Bs}(h:DataW.trod enc TP w base sp held fuel 341 cs=some (.agg [.lit (.int .u8 n),.lit (.string l)],p)):cs=[.int .u8 n,str l]:=by
 obtain⟨y0,y1,m,hx,hl,h0,h1⟩:=trod_struct2 Tryz.underlying341 h
 rw[AA5] at hl
 match cs,hl with
 | [c0,c1],_=>
  simp only[Prod.mk.injEq,DataW.agg.injEq,List.cons.injEq,and_true] at hx
  obtain⟨⟨e0,e1⟩,_⟩:=hx
  have g0:DataW.trod enc TP w base sp held m 5 [c0]=some y0:=by
   rw[←h0]
   show _=DataW.trod enc TP w base sp held m 5 (([c0,c1].drop 0).take (TP.cellsOf 5))
   rw[ce5];rfl
  have g1:DataW.trod enc TP w base sp held m 9 [c1]=some y1:=by
   rw[←h1]
   show _=DataW.trod enc TP w base sp held m 9 (([c0,c1].drop 1).take (TP.cellsOf 9))
   rw[ce9];rfl
  have f0:y0=(.lit (.int .u8 n),y0.2):=by rw[e0]
  have f1:y1=(.lit (.string l),y1.2):=by rw[e1]
  rw[f0] at g0
  rw[f1] at g1
  rw[Qy ty5 g0,RB ty9 g1]
end
def pxD {K:Type}(q:Nat×Bs):DataW K:=.agg [.lit (.int .u8 (q.1:Nat)),.lit (.string q.2)]
set_option maxRecDepth 100000 in
theorem Zn {K:Type}:(Rows.laid_pub_marram_pub_hcsshim_ext4_inner_compactext4_xattrPrefixes:DataW K)=.agg (PX.map pxD):=rfl
set_option maxRecDepth 100000 in
theorem ADS {W:World}(h:laidMet TP [("pub-marram/pub/hcsshim/ext4/inner/compactext4.xattrPrefixes",Rows.laid_pub_marram_pub_hcsshim_ext4_inner_compactext4_xattrPrefixes)] W):JX (allR W.heap):=by
 obtain⟨ps,⟨g,t,cs,fuel,p,q,hg,ht,hvar,hd,_,_⟩,_⟩:=h
 have hg4 : TP.globalNamed "pub-marram/pub/hcsshim/ext4/inner/compactext4.xattrPrefixes" = some 4:=by kernel_rfl
 have ht4:(TP.globals[4]?).map (·.type)=some 342:=by kernel_rfl
 obtain rfl:4=g:=Option.some.inj (hg4.symm.trans hg)
 obtain rfl:342=t:=Option.some.inj (ht4.symm.trans ht)
 unfold World.var? at hvar
 rw[hg4] at hvar
 simp only[Option.bind_some] at hvar
 split at hvar
 ·rename_i c T fz hb
  simp only[Option.some.injEq] at hvar
  subst hvar
  obtain⟨y,hy⟩:=U8 hb
  refine⟨c,T,fz,y,hy,fun i hi=>?_⟩
  rw[Zn] at hd
  obtain⟨xs,m,_,hx,hl,hlen,hel⟩:=DataW.trod_array AGM hd
  simp only[Prod.mk.injEq,DataW.agg.injEq] at hx
  obtain⟨hx,_⟩:=hx
  rw[AA5] at hel
  have hj:∀ j (r:Nat×Bs),PX[j]? = some r→(c.toList.drop (j*2)).take 2=[.int .u8 (r.1:Nat),str r.2]:=fun j r hr=>by
   have hjl:j<7:=(List.getElem?_eq_some_iff.1 hr).1
   have h1:=hel j hjl
   have h2:xs[j]?.map (·.1)=some (pxD r):=by
    rw[←List.getElem?_map,←hx,List.getElem?_map,hr];rfl
   cases hxj:xs[j]? with
   | none=>rw[hxj] at h2;cases h2
   | some x=>
    rw[hxj] at h1 h2
    simp only[Option.map_some,Option.some.injEq] at h2
    have:x=(pxD r,x.2):=by rw[←h2]
    rw[this] at h1
    exact Z7 h1
  have hc:∀ j (r:Nat×Bs),PX[j]? = some r→c[j*2]? = some (.int .u8 (r.1:Nat))∧c[j*2+1]? = some (str r.2):=fun j r hr=>by
   have e:=hj j r hr
   have e0:=congrArg (fun l:List Value=>l[0]?) e
   have e1:=congrArg (fun l:List Value=>l[1]?) e
   simp only[List.getElem?_take,List.getElem?_drop,Array.getElem?_toList] at e0 e1
   exact⟨e0,e1⟩
  have hi14:i=0∨i=1∨i=2∨i=3∨i=4∨i=5∨i=6∨i=7∨i=8∨i=9∨i=10∨i=11∨i=12∨i=13:=by omega
  rcases hi14 with rfl|rfl|rfl|rfl|rfl|rfl|rfl|rfl|rfl|rfl|rfl|rfl|rfl|rfl
  ·exact (hc 0 _ rfl).1
  ·exact (hc 0 _ rfl).2
  ·exact (hc 1 _ rfl).1
  ·exact (hc 1 _ rfl).2
  ·exact (hc 2 _ rfl).1
  ·exact (hc 2 _ rfl).2
  ·exact (hc 3 _ rfl).1
  ·exact (hc 3 _ rfl).2
  ·exact (hc 4 _ rfl).1
  ·exact (hc 4 _ rfl).2
  ·exact (hc 5 _ rfl).1
  ·exact (hc 5 _ rfl).2
  ·exact (hc 6 _ rfl).1
  ·exact (hc 6 _ rfl).2
 ·cases hvar
theorem Xr {f:FuncId}{args:List Value}{W:World}(h:Call TP f args W.heap fun v h'=>v=.bool true∧∃ y,AN (y+allR W.heap) h') :
  Calls TP f args.toArray W fun e W'=>e=.returned (.bool true)∧W'.os=W.os∧W'.output=W.output∧∀ (b:Nat) (o:Obj),W.heap[b]? = some o→W'.heap[b]? = some o:=by
 refine (h W rfl).mono fun e W' q=>?_
 cases e with
 | returned v=>
  obtain⟨⟨s1,s2⟩,rfl,y,w⟩:=q
  exact⟨rfl,s1,s2,fun b o hb=>Wu w hb⟩
 | _=>exact q.elim
theorem Zl {W W':World}{may:MemPlace→Prop}(h1:W'.os=W.os)(h2:W'.output=W.output)(h3:∀ (b:Nat) (o:Obj),W.heap[b]? = some o→W'.heap[b]? = some o):W.keptBut W' may:=by
 refine⟨h1,h2,fun i hi=>?_⟩
 have hg:W.heap[i]? = some W.heap[i]:=Array.getElem?_eq_getElem hi
 rw[h3 i _ hg,hg]
 cases W.heap[i]<;>simp
theorem Yd {W W':World}{ps:List MemPlace}(hlt:∀ p∈ps,p.block<W.heap.size)(h3:∀ (b:Nat) (o:Obj),W.heap[b]? = some o→W'.heap[b]? = some o):∀ p∈ps,W.sameAt W' p:=fun p hp=>by
 have hb:=hlt p hp
 cases p with
 | cell b off=>
  have hg:W.heap[b]? = some W.heap[b]:=Array.getElem?_eq_getElem hb
  show W'.cell? _=W.cell? _
  unfold World.cell?
  simp only[h3 b _ hg,hg]
 | map b=>
  have hg:W.heap[b]? = some W.heap[b]:=Array.getElem?_eq_getElem hb
  show W'.heap[b]? = W.heap[b]?
  rw[h3 b _ hg,hg]
end
theorem Dy {a r:Bs}{p q n:Nat}(h:p=a.length+q):leL (a++r) p n=leL r q n:=by
 subst h
 unfold leL
 rw[←List.drop_drop,List.drop_left]
theorem GS {a r:Bs}{p n:Nat}(h:p+n≤a.length):leL (a++r) p n=leL a p n:=by
 unfold leL
 rw[List.drop_append_of_le_length (by omega),List.take_append_of_le_length (by rw[List.length_drop];omega)]
theorem DQ {b:Bs}{k p n:Nat}:leL (b.drop k) p n=leL b (k+p) n:=by
 unfold leL
 rw[List.drop_drop]
theorem EQ {b:Bs}{k p n:Nat}(h:p+n≤k):leL (b.take k) p n=leL b p n:=by
 unfold leL
 rw[List.drop_take,List.take_take,Nat.min_eq_left (by omega)]
theorem Lw:∀ n,IT (List.replicate n 0)=0
 | 0=>rfl
 | n+1=>by rw[List.replicate_succ,IT,Lw n];rfl
theorem FJ {m p n:Nat}:leL (List.replicate m 0) p n=0:=by
 unfold leL
 rw[List.drop_replicate,List.take_replicate,Lw]
theorem Vs (a:Nat):IT (Aq a)=a%65536:=by
 simp only[Aq,IT,UInt8.toNat_ofNat']
 omega
theorem WT (a:Nat):IT (Ac a)=a%4294967296:=by
 simp only[Ac,IT,UInt8.toNat_ofNat']
 omega
theorem Eh {a p n:Nat}{r:Bs}:leL (Aq a++r) (p+2) n=leL r p n:=Dy (by rw[BI];omega)
theorem Bo {a p n:Nat}{r:Bs}:leL (Ac a++r) (p+4) n=leL r p n:=Dy (by rw[Av];omega)
theorem BX {a:Nat}{r:Bs}:leL (Aq a++r) 0 2=a%65536:=by
 rw[GS (by rw[BI];omega),←Vs];rfl
theorem An {a:Nat}{r:Bs}:leL (Ac a++r) 0 4=a%4294967296:=by
 rw[GS (by rw[Av];omega),←WT];rfl
theorem XG {a:Nat}{r:Bs}(h:a<256):leL ([UInt8.ofNat a]++r) 0 1=a:=by
 show (UInt8.ofNat a).toNat+256*0=a
 rw[UInt8.toNat_ofNat']
 omega
theorem XP {c:UInt8}{p n:Nat}{r:Bs}:leL ([c]++r) (p+1) n=leL r p n:=rfl
theorem ACM {m p n:Nat}{r:Bs}:leL (List.replicate m 0++r) (p+m) n=leL r p n:=Dy (by rw[List.length_replicate];omega)
theorem ZY {a p n:Nat}{r:Bs}:leL (E5 a++r) (p+8) n=leL r p n:=Dy (by show _=8+_;omega)
theorem AEE {f:Nat→Nat}:leL (HH f) 0 4=f 0%4294967296∧leL (HH f) 4 4=f 1%4294967296∧leL (HH f) 20 4=f 5%4294967296∧leL (HH f) 24 4=f 6%4294967296∧leL (HH f) 32 4=f 8%4294967296∧leL (HH f) 40 4=f 10%4294967296∧leL (HH f) 56 2=f 15%65536∧leL (HH f) 58 2=f 16%65536∧leL (HH f) 76 4=f 22%4294967296∧leL (HH f) 84 4=f 25%4294967296∧leL (HH f) 88 2=f 26%65536∧leL (HH f) 92 4=f 28%4294967296∧leL (HH f) 96 4=f 29%4294967296∧leL (HH f) 100 4=f 30%4294967296∧leL (HH f) 336 4=f 177%4294967296∧leL (HH f) 12 4=f 3%4294967296∧leL (HH f) 344 4=f 179%4294967296∧leL (HH f) 16 4=f 4%4294967296:=by
 have z16:∀ (a q n:Nat) (r:Bs),leL (Aq a++r) (q+2) n=leL r q n:=fun a q n r=>Eh
 have z32:∀ (a q n:Nat) (r:Bs),leL (Ac a++r) (q+4) n=leL r q n:=fun a q n r=>Bo
 have z64:∀ (a q n:Nat) (r:Bs),leL (E5 a++r) (q+8) n=leL r q n:=fun a q n r=>ZY
 have z8:∀ (c:UInt8) (q n:Nat) (r:Bs),leL ([c]++r) (q+1) n=leL r q n:=fun c q n r=>XP
 have zz:∀ (m q n:Nat) (r:Bs),leL (List.replicate m 0++r) (q+m) n=leL r q n:=fun m q n r=>ACM
 unfold HH
 simp only[List.nil_append,List.append_assoc,Nat.reduceMul]
 refine⟨?_,?_,?_,?_,?_,?_,?_,?_,?_,?_,?_,?_,?_,?_,?_,?_,?_,?_⟩
 ·exact An
 ·rw[z32 _ 0,An]
 ·rw[z32 _ 16,z32 _ 12,z32 _ 8,z32 _ 4,z32 _ 0,An]
 ·rw[z32 _ 20,z32 _ 16,z32 _ 12,z32 _ 8,z32 _ 4,z32 _ 0,An]
 ·rw[z32 _ 28,z32 _ 24,z32 _ 20,z32 _ 16,z32 _ 12,z32 _ 8,z32 _ 4,z32 _ 0,An]
 ·rw[z32 _ 36,z32 _ 32,z32 _ 28,z32 _ 24,z32 _ 20,z32 _ 16,z32 _ 12,z32 _ 8,z32 _ 4,z32 _ 0,An]
 ·rw[z32 _ 52,z32 _ 48,z32 _ 44,z32 _ 40,z32 _ 36,z32 _ 32,z32 _ 28,z32 _ 24,z32 _ 20,z32 _ 16,z32 _ 12,z32 _ 8,z32 _ 4,z16 _ 2,z16 _ 0,BX]
 ·rw[z32 _ 54,z32 _ 50,z32 _ 46,z32 _ 42,z32 _ 38,z32 _ 34,z32 _ 30,z32 _ 26,z32 _ 22,z32 _ 18,z32 _ 14,z32 _ 10,z32 _ 6,z16 _ 4,z16 _ 2,z16 _ 0,BX]
 ·rw[z32 _ 72,z32 _ 68,z32 _ 64,z32 _ 60,z32 _ 56,z32 _ 52,z32 _ 48,z32 _ 44,z32 _ 40,z32 _ 36,z32 _ 32,z32 _ 28,z32 _ 24,z16 _ 22,z16 _ 20,z16 _ 18,z16 _ 16,z16 _ 14,z16 _ 12,z32 _ 8,z32 _ 4,z32 _ 0,An]
 ·rw[z32 _ 80,z32 _ 76,z32 _ 72,z32 _ 68,z32 _ 64,z32 _ 60,z32 _ 56,z32 _ 52,z32 _ 48,z32 _ 44,z32 _ 40,z32 _ 36,z32 _ 32,z16 _ 30,z16 _ 28,z16 _ 26,z16 _ 24,z16 _ 22,z16 _ 20,z32 _ 16,z32 _ 12,z32 _ 8,z32 _ 4,z16 _ 2,z16 _ 0,An]
 ·rw[z32 _ 84,z32 _ 80,z32 _ 76,z32 _ 72,z32 _ 68,z32 _ 64,z32 _ 60,z32 _ 56,z32 _ 52,z32 _ 48,z32 _ 44,z32 _ 40,z32 _ 36,z16 _ 34,z16 _ 32,z16 _ 30,z16 _ 28,z16 _ 26,z16 _ 24,z32 _ 20,z32 _ 16,z32 _ 12,z32 _ 8,z16 _ 6,z16 _ 4,z32 _ 0,BX]
 ·rw[z32 _ 88,z32 _ 84,z32 _ 80,z32 _ 76,z32 _ 72,z32 _ 68,z32 _ 64,z32 _ 60,z32 _ 56,z32 _ 52,z32 _ 48,z32 _ 44,z32 _ 40,z16 _ 38,z16 _ 36,z16 _ 34,z16 _ 32,z16 _ 30,z16 _ 28,z32 _ 24,z32 _ 20,z32 _ 16,z32 _ 12,z16 _ 10,z16 _ 8,z32 _ 4,z16 _ 2,z16 _ 0,An]
 ·rw[z32 _ 92,z32 _ 88,z32 _ 84,z32 _ 80,z32 _ 76,z32 _ 72,z32 _ 68,z32 _ 64,z32 _ 60,z32 _ 56,z32 _ 52,z32 _ 48,z32 _ 44,z16 _ 42,z16 _ 40,z16 _ 38,z16 _ 36,z16 _ 34,z16 _ 32,z32 _ 28,z32 _ 24,z32 _ 20,z32 _ 16,z16 _ 14,z16 _ 12,z32 _ 8,z16 _ 6,z16 _ 4,z32 _ 0,An]
 ·rw[z32 _ 96,z32 _ 92,z32 _ 88,z32 _ 84,z32 _ 80,z32 _ 76,z32 _ 72,z32 _ 68,z32 _ 64,z32 _ 60,z32 _ 56,z32 _ 52,z32 _ 48,z16 _ 46,z16 _ 44,z16 _ 42,z16 _ 40,z16 _ 38,z16 _ 36,z32 _ 32,z32 _ 28,z32 _ 24,z32 _ 20,z16 _ 18,z16 _ 16,z32 _ 12,z16 _ 10,z16 _ 8,z32 _ 4,z32 _ 0,An]
 ·rw[z32 _ 332,z32 _ 328,z32 _ 324,z32 _ 320,z32 _ 316,z32 _ 312,z32 _ 308,z32 _ 304,z32 _ 300,z32 _ 296,z32 _ 292,z32 _ 288,z32 _ 284,z16 _ 282,z16 _ 280,z16 _ 278,z16 _ 276,z16 _ 274,z16 _ 272,z32 _ 268,z32 _ 264,z32 _ 260,z32 _ 256,z16 _ 254,z16 _ 252,z32 _ 248,z16 _ 246,z16 _ 244,z32 _ 240,z32 _ 236,z32 _ 232,zz 16 216,zz 16 200,zz 64 136,z32 _ 132,z8 _ 131,z8 _ 130,z16 _ 128,zz 16 112,z32 _ 108,z32 _ 104,z32 _ 100,zz 16 84,z8 _ 83,z8 _ 82,z16 _ 80,z32 _ 76,z32 _ 72,z32 _ 68,zz 68 0,An]
 ·rw[z32 _ 8,z32 _ 4,z32 _ 0,An]
 ·rw[z32 _ 340,z32 _ 336,z32 _ 332,z32 _ 328,z32 _ 324,z32 _ 320,z32 _ 316,z32 _ 312,z32 _ 308,z32 _ 304,z32 _ 300,z32 _ 296,z32 _ 292,z16 _ 290,z16 _ 288,z16 _ 286,z16 _ 284,z16 _ 282,z16 _ 280,z32 _ 276,z32 _ 272,z32 _ 268,z32 _ 264,z16 _ 262,z16 _ 260,z32 _ 256,z16 _ 254,z16 _ 252,z32 _ 248,z32 _ 244,z32 _ 240,zz 16 224,zz 16 208,zz 64 144,z32 _ 140,z8 _ 139,z8 _ 138,z16 _ 136,zz 16 120,z32 _ 116,z32 _ 112,z32 _ 108,zz 16 92,z8 _ 91,z8 _ 90,z16 _ 88,z32 _ 84,z32 _ 80,z32 _ 76,zz 68 8,z32 _ 4,z32 _ 0,An]
 ·rw[z32 _ 12,z32 _ 8,z32 _ 4,z32 _ 0,An]
theorem AGu {ipg vd fi inc:Nat}(hi:ipg<4294967296)(hv:vd<4294967296)(hf:fi<4294967296)(hinc:inc=578∨inc=33346):SbOK (HH (JQ ipg vd fi inc)) vd ipg∧leL (HH (JQ ipg vd fi inc)) 12 4=0∧leL (HH (JQ ipg vd fi inc)) 344 4=0∧leL (HH (JQ ipg vd fi inc)) 16 4=fi:=by
 have hl:=Gm (JQ ipg vd fi inc)
 obtain⟨a1,a2,a3,a4,a5,a6,a7,a8,a9,a10,a11,a12,a13,a14,a15,a16,a17,a18⟩:=AEE (f:=JQ ipg vd fi inc)
 have hc:inc%4294967296=inc:=by rcases hinc with rfl|rfl<;>rfl
 refine⟨⟨hl,a1.trans (Nat.mod_eq_of_lt hi),a2.trans (Nat.mod_eq_of_lt hv),a3,a4,a5,a6.trans (Nat.mod_eq_of_lt hi),a7,a8,a9,a10,a11,a12,?_,a14,a15⟩,a16,a17,a18.trans (Nat.mod_eq_of_lt hf)⟩
 rw[a13]
 show inc%4294967296=578∨inc%4294967296=33346
 rw[hc];exact hinc
section
def Pq (l:List Nat)(o:Bs):Bs:=l.foldl (fun o n=>setL o n [1]) o
theorem Ts {o:Bs}{n:Nat}(h:n<o.length):setL o n [1]=o.set n 1:=by
 unfold setL
 rw[List.set_eq_take_append_cons_drop,if_pos h]
 simp
theorem NU:∀ (l:List Nat) (o:Bs) (i:Nat),(∀ n∈l,n<o.length)→i<o.length→(Pq l o)[i]? = if i∈l then some 1 else o[i]?
 | [],_,_,_,_=>by simp[Pq]
 | n::l,o,i,h,hi=>by
  have h1:n<o.length:=h n (List.mem_cons_self ..)
  have e:(setL o n [1]).length=o.length:=AS (by show n+1≤_;omega)
  show (Pq l (setL o n [1]))[i]? = _
  rw[NU l _ i (fun k hk=>by rw[e];exact h k (List.mem_cons_of_mem _ hk)) (by rw[e];exact hi),Ts h1,List.getElem?_set]
  by_cases h2:i∈l
  ·rw[if_pos h2,if_pos (List.mem_cons_of_mem _ h2)]
  ·by_cases h3:n=i
   ·subst h3;rw[if_neg h2,if_pos rfl,if_pos h1,if_pos (List.mem_cons_self ..)]
   ·rw[if_neg h2,if_neg h3,if_neg (by simp[h2];exact fun hh=>h3 hh.symm)]
theorem Zk (l m:List Nat)(o:Bs):Pq (l++m) o=Pq m (Pq l o):=List.foldl_append ..
theorem NV:∀ (m:List Nat) (o:Bs),m.Nodup→(∀ n∈m,o[n]? = some 0)→Clm m o (Pq m o)
 | [],_,_,_=>.nil
 | n::m,o,hd,h=>by
  have h0:=h n (List.mem_cons_self ..)
  have h1:n<o.length:=(List.getElem?_eq_some_iff.1 h0).1
  rw[List.nodup_cons] at hd
  refine .cons h0 (NV m _ hd.2 fun k hk=>?_)
  rw[Ts h1,List.getElem?_set,if_neg (fun e=>hd.1 (by rw[e];exact hk))]
  exact h k (List.mem_cons_of_mem _ hk)
theorem H7 {α:Type}[DecidableEq α]:∀ (l V:List α),l.Nodup→(∀ a∈l,a∈V)→∃ V',V.Perm (l++V')
 | [],V,_,_=>⟨V,.refl _⟩
 | a::l,V,hd,h=>by
  rw[List.nodup_cons] at hd
  have ha:=h a (List.mem_cons_self ..)
  obtain⟨V',hv⟩:=H7 l (V.erase a) hd.2 fun b hb=>(List.mem_erase_of_ne fun (e:b=a)=>hd.1 (e▸hb)).2 (h b (List.mem_cons_of_mem _ hb))
  exact⟨V',(List.perm_cons_erase ha).trans (hv.cons a)⟩
theorem Jz {α:Type}[DecidableEq α](f:α→Nat){l V:List α}(hd:l.Nodup)(h:∀ a∈l,a∈V):(l.map f).sum≤(V.map f).sum:=by
 obtain⟨V',hv⟩:=H7 l V hd h
 rw[(hv.map f).sum_nat,List.map_append,List.sum_append]
 omega
theorem Sn {α:Type}[DecidableEq α]{l V:List α}(hd:l.Nodup)(h:∀ a∈l,a∈V):l.length≤V.length:=by
 obtain⟨V',hv⟩:=H7 l V hd h
 rw[hv.length_eq,List.length_append]
 omega
theorem W7 {α β:Type}[DecidableEq α]{X:List β}{f:α→List β}{l V:List α}(hd:l.Nodup)(h:∀ a∈l,a∈V)(hn:(X++V.flatMap f).Nodup):(X++l.flatMap f).Nodup:=by
 obtain⟨V',hv⟩:=H7 l V hd h
 have:=((hv.flatMap_right f).append_left X).nodup_iff.1 hn
 rw[List.flatMap_append,←List.append_assoc,List.nodup_append] at this
 exact this.1
theorem IH {α:Type}[DecidableEq α]:∀ (l V:List α),l.Nodup→V.Nodup→(∀ a,a∈l↔a∈V)→l.Perm V
 | [],V,_,_,h=>by
  cases V with
  | nil=>exact .refl _
  | cons b V=>exact absurd ((h b).2 (List.mem_cons_self ..)) (by simp)
 | a::l,V,hd,hv,h=>by
  rw[List.nodup_cons] at hd
  have ha:=(h a).1 (List.mem_cons_self ..)
  refine List.Perm.trans (List.Perm.cons a (IH l (V.erase a) hd.2 (hv.erase a) fun b=>?_)) (List.perm_cons_erase ha).symm
  rw[hv.mem_erase_iff]
  constructor
  ·intro hb
   exact⟨fun e=>hd.1 (by rw[←e];exact hb),(h b).1 (List.mem_cons_of_mem _ hb)⟩
  ·rintro⟨h1,h2⟩
   rcases List.mem_cons.1 ((h b).2 h2) with h3|h3
   ·exact absurd h3 h1
   ·exact h3
structure GV (I:Bs) (nb ipg:Nat) (V:List Nat) (io:Nat→AA) (la:Nat→List (Bs×Bs)) (cl:Nat→List Nat) (par:Nat→Nat) (rest:Nat→List EN):Prop where
 nd:V.Nodup
 two:2∈V
 rng:∀ c∈V,1≤c∧c≤ipg
 ino:∀ c∈V,InoOK I nb (rawL I c) c (io c).X (io c).C (la c) (cl c)
 la:∀ c∈V,(io c).l=xaOf (la c)
 file:∀ c∈V,kindL (io c).X.mode≠2→(io c).E=[]∧rest c=[]
 dir:∀ c∈V,kindL (io c).X.mode=2→(io c).X.inl=false∧BlkR (io c).C (io c).E∧(io c).C.length<10000000∧NamesOK (io c).E∧(io c).E=([46],c,2)::([46,46],par c,2)::rest c
 root:kindL (io 2).X.mode=2∧par 2=2
 kid:∀ c∈V,∀ e∈rest c,e.2.1∈V∧11≤e.2.1∧e.2.2=kindL (io e.2.1).X.mode
 par:∀ c∈V,∀ e∈rest c,e.2.2=2→par e.2.1=c
 one:∀ c∈V,((rest c).filter fun e=>decide (e.2.2=2)).Pairwise fun a b=>a.2.1≠b.2.1
 up:∀ c∈V,c≠2→∃ d∈V,(∃ e∈rest d,e.2.1=c)∧(kindL (io c).X.mode=2→d<c)
 links:∀ c∈V,(io c).X.links=if kindL (io c).X.mode=2 then ((rest c).filter fun e=>decide (e.2.2=2)).length+2 else ((V.flatMap rest).map (·.2.1)).count c
 blk:(grpL I ipg++V.flatMap cl).Nodup
 blt:∀ n∈grpL I ipg++V.flatMap cl,n<nb
 few:V.length<100000
 few2:(V.map fun c=>(rest c).length).sum<100000
structure WI (V:List Nat) (io:Nat→AA) (par:Nat→Nat) (N:Nat) (D:List Nat) (A:List (Nat×EN)) (S:TS):Prop where
 l1:S.seen.length=N
 l2:S.par.length=N
 l3:S.nam.length=N
 l4:S.sub.length=N
 nd:(D++S.q).Nodup
 sub:∀ c∈D++S.q,c∈V
 two:2∈D++S.q
 seen:∀ c,c<N→(S.seen.getD c false=true↔c∈D++S.q)
 nam:∀ c,c<N→S.nam.getD c 0=(A.map (·.2.2.1)).count c
 subs:∀ c,c<N→S.sub.getD c 0=(A.filter fun a=>decide (a.1=c)&&decide (a.2.2.2=2)).length
 par:∀ c∈D++S.q,kindL (io c).X.mode=2→S.par.getD c 0=par c
 cov:∀ a∈A,a.2.2.1∈D++S.q
 why:∀ c∈D++S.q,c=2∨∃ a∈A,a.2.2.1=c
theorem DV {α:Type}{l:List α}{i c:Nat}{v d:α}(h:i<l.length):(l.set i v).getD c d=if i=c then v else l.getD c d:=by
 rw[List.getD_eq_getElem?_getD,List.getElem?_set,List.getD_eq_getElem?_getD]
 by_cases hc:i=c
 ·subst hc;rw[if_pos rfl,if_pos rfl,if_pos h];rfl
 ·rw[if_neg hc,if_neg hc]
section
variable {I:Bs} {nb ipg N n:Nat} {V:List Nat} {io:Nat→AA} {la:Nat→List (Bs×Bs)} {cl:Nat→List Nat} {par:Nat→Nat} {rest:Nat→List EN} {D:List Nat} {A:List (Nat×EN)} {S:TS} {e:EN}
theorem AEM (t:GV I nb ipg V io la cl par rest)(hN:N=ipg+1)(wi:WI V io par N D A S)(hn:n∈D)(he:e∈rest n)(hf:e.2.2=2→∀ a∈A,a.2.2.1≠e.2.1) :
  EntOK I ipg S e∧WI V io par N D (A++[(n,e)]) (S.ent n e)∧∃ q,(S.ent n e).q=S.q++q:=by
 have hnV:n∈V:=wi.sub n (List.mem_append_left _ hn)
 obtain⟨k1,k2,k3⟩:=t.kid n hnV e he
 obtain⟨r1,r2⟩:=t.rng _ k1
 obtain⟨s1,s2⟩:=t.rng n hnV
 have hcN:e.2.1<N:=by omega
 have hnN:n<N:=by omega
 have hmode:(io e.2.1).X.mode=leL (rawL I e.2.1) 0 2:=by
  have cf:=Fj (t.ino _ k1).con
  exact cf.2.2.1
 have hdir:e.2.2=2→e.2.1∉D++S.q:=fun h2 hin=>by
  rcases wi.why _ hin with h3|⟨a,ha,h3⟩
  ·omega
  ·exact hf h2 a ha h3
 have hnam:∀ c,c<N→(S.nam.set e.2.1 (S.nam.getD e.2.1 0+1)).getD c 0=((A++[(n,e)]).map (·.2.2.1)).count c:=fun c hc=>by
  rw[DV (by rw[wi.l3];exact hcN),List.map_append,List.count_append,←wi.nam c hc]
  show _=_+List.count c [e.2.1]
  by_cases h1:e.2.1=c
  ·subst h1;rw[if_pos rfl,List.count_singleton_self]
  ·rw[if_neg h1,List.count_singleton,if_neg (by simpa using h1)];rfl
 have hsub:∀ c,c<N→(if e.2.2=2 then S.sub.set n (S.sub.getD n 0+1) else S.sub).getD c 0=((A++[(n,e)]).filter fun a=>decide (a.1=c)&&decide (a.2.2.2=2)).length:=fun c hc=>by
  rw[List.filter_append,List.length_append,←wi.subs c hc]
  by_cases h2:e.2.2=2
  ·rw[if_pos h2,DV (by rw[wi.l4];exact hnN)]
   by_cases h1:n=c
   ·subst h1;rw[if_pos rfl];simp[h2]
   ·rw[if_neg h1];simp[h1]
  ·rw[if_neg h2];simp[h2]
 have hsl:(if e.2.2=2 then S.sub.set n (S.sub.getD n 0+1) else S.sub).length=N:=by
  split
  ·rw[List.length_set];exact wi.l4
  ·exact wi.l4
 refine⟨⟨k2,r2,by rw[←hmode];exact k3.symm,fun h2=>?_⟩,?_,?_⟩
 ·cases hs:S.seen.getD e.2.1 false with
  | false=>rfl
  | true=>exact absurd ((wi.seen _ hcN).1 hs) (hdir h2)
 ·unfold TS.ent TS.see
  by_cases hs:S.seen.getD e.2.1 false=true
  ·rw[if_pos hs]
   have hin:=(wi.seen _ hcN).1 hs
   refine⟨wi.l1,wi.l2,by show (S.nam.set _ _).length=N;rw[List.length_set];exact wi.l3,hsl,wi.nd,wi.sub,wi.two,wi.seen,hnam,hsub,wi.par,fun a ha=>?_,fun c hc=>?_⟩
   ·rcases List.mem_append.1 ha with h1|h1
    ·exact wi.cov a h1
    ·rw[List.mem_singleton] at h1;subst h1;exact hin
   ·rcases wi.why c hc with h1|⟨a,ha,h1⟩
    ·exact .inl h1
    ·exact .inr ⟨a,List.mem_append_left _ ha,h1⟩
  ·rw[if_neg hs]
   have hin:e.2.1∉D++S.q:=fun h1=>hs ((wi.seen _ hcN).2 h1)
   have hq:∀ c,c∈D++(S.q++[e.2.1])↔c∈D++S.q∨c=e.2.1:=fun c=>by simp[or_assoc]
   refine⟨by show (S.seen.set _ _).length=N;rw[List.length_set];exact wi.l1,by show (S.par.set _ _).length=N;rw[List.length_set];exact wi.l2,by show (S.nam.set _ _).length=N;rw[List.length_set];exact wi.l3,hsl,?_,?_,?_,?_,hnam,hsub,?_,?_,?_⟩
   ·show (D++(S.q++[e.2.1])).Nodup
    rw[←List.append_assoc,List.nodup_append]
    refine⟨wi.nd,by simp,fun a ha b hb=>?_⟩
    rw[List.mem_singleton] at hb;subst hb
    exact fun e1=>hin (e1▸ha)
   ·intro c hc
    rcases (hq c).1 hc with h1|h1
    ·exact wi.sub c h1
    ·rw[h1];exact k1
   ·exact (hq 2).2 (.inl wi.two)
   ·intro c hc
    show (S.seen.set e.2.1 true).getD c false=true↔c∈D++(S.q++[e.2.1])
    rw[DV (by rw[wi.l1];exact hcN),hq]
    by_cases h1:e.2.1=c
    ·rw[if_pos h1];simp[h1]
    ·rw[if_neg h1,wi.seen c hc]
     exact⟨.inl,fun h2=>h2.resolve_right fun h3=>h1 h3.symm⟩
   ·intro c hc hk
    show (S.par.set e.2.1 n).getD c 0=par c
    rw[DV (by rw[wi.l2];exact hcN)]
    rcases (hq c).1 hc with h1|h1
    ·rw[if_neg (fun (h2:e.2.1=c)=>hin (h2▸h1))];exact wi.par c h1 hk
    ·rw[if_pos h1.symm,h1]
     exact (t.par n hnV e he (by rw[k3,←h1];exact hk)).symm
   ·intro a ha
    rcases List.mem_append.1 ha with h1|h1
    ·exact (hq _).2 (.inl (wi.cov a h1))
    ·rw[List.mem_singleton] at h1;subst h1;exact (hq _).2 (.inr rfl)
   ·intro c hc
    rcases (hq c).1 hc with h1|h1
    ·rcases wi.why c h1 with h2|⟨a,ha,h2⟩
     ·exact .inl h2
     ·exact .inr ⟨a,List.mem_append_left _ ha,h2⟩
    ·exact .inr ⟨(n,e),List.mem_append_right _ (List.mem_singleton.2 rfl),h1.symm⟩
 ·unfold TS.ent TS.see
  by_cases hs:S.seen.getD e.2.1 false=true
  ·rw[if_pos hs];exact⟨[],(List.append_nil _).symm⟩
  ·rw[if_neg hs];exact⟨[e.2.1],rfl⟩
def AP (rest:Nat→List EN)(P:List Nat):List (Nat×EN):=P.flatMap fun d=>(rest d).map fun e=>(d,e)
theorem YZ {P:List Nat}:AP rest (P++[n])=AP rest P++(rest n).map fun e=>(n,e):=by
 unfold AP
 rw[List.flatMap_append,List.flatMap_singleton]
theorem M6:∀ (P:List Nat),(AP rest P).length=(P.map fun c=>(rest c).length).sum
 | []=>rfl
 | a::P=>by
  have:=M6 P
  unfold AP at this ⊢
  rw[List.flatMap_cons,List.length_append,List.length_map,this,List.map_cons,List.sum_cons]
theorem ADj (P:List Nat):(AP rest P).map (·.2.2.1)=(P.flatMap rest).map (·.2.1):=by
 unfold AP
 rw[List.map_flatMap,List.map_flatMap]
 congr 1
 funext d
 rw[List.map_map]
 rfl
theorem WI.nam_le (wi:WI V io par N D A S)(c:Nat):S.nam.getD c 0≤A.length:=by
 by_cases hc:c<N
 ·rw[wi.nam c hc]
  exact Nat.le_trans List.count_le_length (by rw[List.length_map];exact Nat.le_refl _)
 ·rw[List.getD_eq_getElem?_getD,List.getElem?_eq_none (by rw[wi.l3];omega)]
  exact Nat.zero_le _
theorem WI.sub_le (wi:WI V io par N D A S)(c:Nat):S.sub.getD c 0≤A.length:=by
 by_cases hc:c<N
 ·rw[wi.subs c hc]
  exact List.length_filter_le ..
 ·rw[List.getD_eq_getElem?_getD,List.getElem?_eq_none (by rw[wi.l4];omega)]
  exact Nat.zero_le _
theorem WI.q_le (wi:WI V io par N D A S):(D++S.q).length≤V.length:=Sn wi.nd wi.sub
theorem GV.dots (t:GV I nb ipg V io la cl par rest)(hn:n∈V)(he:e∈rest n):¬(e.1=[46]∨e.1=[46,46]):=by
 have hk:kindL (io n).X.mode=2:=by
  rcases Decidable.em (kindL (io n).X.mode=2) with h1|h1
  ·exact h1
  ·rw[(t.file n hn h1).2] at he;cases he
 obtain⟨_,_,_,d4,d5⟩:=t.dir n hn hk
 obtain⟨j,hj,hje⟩:=List.getElem_of_mem he
 have hg:(io n).E[j+2]? = some e:=by
  rw[d5,List.getElem?_cons_succ,List.getElem?_cons_succ,List.getElem?_eq_getElem hj,hje]
 rintro (h1|h1)
 ·exact d4.nd (j+2) 0 e ([46],n,2) hg (by rw[d5];rfl) (by omega) h1
 ·exact d4.nd (j+2) 1 e ([46,46],par n,2) hg (by rw[d5];rfl) (by omega) h1
theorem Sr {P:List Nat}(t:GV I nb ipg V io la cl par rest)(hN:N=ipg+1)(hnP:n∉P) :
  ∀ (post pre:List EN) (S:TS),pre++post=rest n→WI V io par N (P++[n]) (AP rest P++pre.map fun e=>(n,e)) S →
   EntsR I ipg n S post∧WI V io par N (P++[n]) (AP rest P++(rest n).map fun e=>(n,e)) (post.foldl (TS.stp n) S)∧∃ q,(post.foldl (TS.stp n) S).q=S.q++q
 | [],pre,S,hp,wi=>by
  rw[List.append_nil] at hp
  rw[hp] at wi
  exact⟨.nil,wi,[],(List.append_nil _).symm⟩
 | e::post,pre,S,hp,wi=>by
  have hnV:n∈V:=wi.sub n (by simp)
  have he:e∈rest n:=by rw[←hp];simp
  have hfr:e.2.2=2→∀ a∈AP rest P++pre.map fun e=>(n,e),a.2.2.1≠e.2.1:=fun h2 a ha hae=>by
   rcases List.mem_append.1 ha with h1|h1
   ·unfold AP at h1
    rw[List.mem_flatMap] at h1
    obtain⟨d,hd,h1⟩:=h1
    rw[List.mem_map] at h1
    obtain⟨e',he',rfl⟩:=h1
    have hdV:d∈V:=wi.sub d (by simp[hd])
    have k1:=(t.kid d hdV e' he').2.2
    have k2:=(t.kid n hnV e he).2.2
    have hae:e'.2.1=e.2.1:=hae
    rw[hae,←k2] at k1
    have p1:=t.par d hdV e' he' (k1.trans h2)
    have p2:=t.par n hnV e he h2
    rw[hae] at p1
    rw[p1] at p2
    exact hnP (p2▸hd)
   ·rw[List.mem_map] at h1
    obtain⟨e',he',rfl⟩:=h1
    have hae:e'.2.1=e.2.1:=hae
    have he'n:e'∈rest n:=by rw[←hp];simp[he']
    have k1:=(t.kid n hnV e' he'n).2.2
    have k2:=(t.kid n hnV e he).2.2
    rw[hae,←k2] at k1
    have:=t.one n hnV
    rw[←hp,List.filter_append,List.pairwise_append] at this
    exact this.2.2 e' (List.mem_filter.2 ⟨he',by simp[k1,h2]⟩) e (List.mem_filter.2 ⟨List.mem_cons_self ..,by simp[h2]⟩) hae
  obtain⟨eo,wi2,q,hq⟩:=AEM t hN wi (n:=n) (by simp) he hfr
  have hst:S.stp n e=S.ent n e:=if_neg (t.dots hnV he)
  have hAl:(AP rest P++pre.map fun e=>(n,e)).length<100000:=by
   have h1:((P++[n]).map fun c=>(rest c).length).sum≤(V.map fun c=>(rest c).length).sum:=by
    refine Jz _ ?_ fun c hc=>wi.sub c (List.mem_append_left _ hc)
    exact (List.nodup_append.1 wi.nd).1
   rw[List.map_append,List.sum_append] at h1
   have h2:(rest n).length=pre.length+(post.length+1):=by rw[←hp];simp
   have h3:=t.few2
   rw[List.length_append,M6,List.length_map]
   simp only[List.map_cons,List.map_nil,List.sum_cons,List.sum_nil] at h1
   omega
  have hq1:=wi.q_le
  rw[List.length_append] at hq1
  have hb:=t.few
  obtain⟨er,wi3,q2,hq2⟩:=Sr t hN hnP post (pre++[e]) (S.ent n e) (by rw[←hp];simp) (by rw[List.map_append,←List.append_assoc];exact wi2)
  rw[←hst] at er wi3 hq2
  refine⟨.cons (.inr eo) ⟨by omega,?_,?_⟩ er,wi3,q++q2,?_⟩
  ·have:=wi.nam_le e.2.1;omega
  ·have:=wi.sub_le n;omega
  ·rw[List.foldl_cons,hq2,hst,hq,List.append_assoc]
theorem Yl {P:List Nat}(t:GV I nb ipg V io la cl par rest)(hd:(P++[n]).Nodup)(hs:∀ c∈P++[n],c∈V) :
  Clm (cl n) (Pq (grpL I ipg++P.flatMap cl) (List.replicate nb 0)) (Pq (grpL I ipg++(P++[n]).flatMap cl) (List.replicate nb 0)):=by
 have h1:=W7 (X:=grpL I ipg) hd hs t.blk
 have h2:∀ k∈grpL I ipg++(P++[n]).flatMap cl,k<nb:=fun k hk=>by
  refine t.blt k ?_
  rcases List.mem_append.1 hk with h|h
  ·exact List.mem_append_left _ h
  ·rw[List.mem_flatMap] at h
   obtain⟨c,hc,h⟩:=h
   exact List.mem_append_right _ (List.mem_flatMap.2 ⟨c,hs c hc,h⟩)
 rw[List.flatMap_append,List.flatMap_singleton,←List.append_assoc] at h1 h2 ⊢
 rw[List.nodup_append] at h1
 rw[Zk (grpL I ipg++P.flatMap cl) (cl n)]
 refine NV _ _ h1.2.1 fun k hk=>?_
 have hkn:=h2 k (List.mem_append_right _ hk)
 rw[NU _ _ _ (fun m hm=>by rw[List.length_replicate];exact h2 m (List.mem_append_left _ hm)) (by rw[List.length_replicate];exact hkn),if_neg fun hm=>h1.2.2 k hm k hk rfl]
 simp[hkn]
theorem WI.next {q:List Nat}{P:List Nat}(wi:WI V io par N P A S)(hq:S.q=n::q):WI V io par N (P++[n]) A {S with q:=q}:=by
 have e:(P++[n])++q=P++S.q:=by rw[hq];simp
 obtain⟨a1,a2,a3,a4,a5,a6,a7,a8,a9,a10,a11,a12,a13⟩:=wi
 rw[←e] at a5 a6 a7 a11 a12 a13
 exact⟨a1,a2,a3,a4,a5,a6,a7,fun c hc=>by rw[show (P++[n])++q=P++S.q from e];exact a8 c hc,a9,a10,a11,a12,a13⟩
theorem Xg (t:GV I nb ipg V io la cl par rest)(hN:N=ipg+1):∀ (m:Nat) (P:List Nat) (S:TS),WI V io par N P (AP rest P) S→V.length≤P.length+m →
  ∃ k R S',WalkR I nb ipg k (Pq (grpL I ipg++P.flatMap cl) (List.replicate nb 0)) S (P.map io) (Pq (grpL I ipg++(P++S.q++R).flatMap cl) (List.replicate nb 0)) S' ((P++S.q++R).map io)∧
   WI V io par N (P++S.q++R) (AP rest (P++S.q++R)) S'∧S'.q=[]∧P.length+k=(P++S.q++R).length:=by
 intro m
 induction m with
 | zero=>
  intro P S wi hm
  have h1:=wi.q_le
  rw[List.length_append] at h1
  have hq:S.q=[]:=List.length_eq_zero_iff.1 (by omega)
  refine⟨0,[],S,?_⟩
  rw[hq,List.append_nil,List.append_nil]
  exact⟨.done hq,wi,rfl,rfl⟩
 | succ m ih=>
  intro P S wi hm
  cases hq:S.q with
  | nil=>
   refine⟨0,[],S,?_⟩
   rw[List.append_nil,List.append_nil]
   exact⟨.done hq,wi,hq,rfl⟩
  | cons n q=>
   have wi1:=wi.next hq
   have hnd:(P++[n]).Nodup:=(List.nodup_append.1 wi1.nd).1
   have hsub:∀ c∈P++[n],c∈V:=fun c hc=>wi1.sub c (List.mem_append_left _ hc)
   have hnV:=hsub n (by simp)
   have hnP:n∉P:=fun h=>(List.nodup_append.1 hnd).2.2 n h n (by simp) rfl
   obtain⟨er,wi2,q2,hq2⟩:=Sr t hN hnP (rest n) [] {S with q:=q} rfl (by simpa using wi1)
   rw[←YZ] at wi2
   have hcl:=Yl t hnd hsub
   have hlen:V.length≤(P++[n]).length+m:=by simp;omega
   obtain⟨k,R,S',wr,wi3,hq3,hk⟩:=ih (P++[n]) _ wi2 hlen
   have e:P++[n]++((rest n).foldl (TS.stp n) {S with q:=q}).q++R=P++n::q++(q2++R):=by rw[hq2];simp
   rw[e] at wr wi3 hk
   have hP:(P++n::q++(q2++R))=(P++n::q++(q2++R)):=rfl
   refine⟨k+1,q2++R,S',?_,wi3,hq3,by rw[←hk];simp;omega⟩
   obtain⟨r1,r2⟩:=t.rng n hnV
   have hio:=t.ino n hnV
   by_cases hkd:kindL (io n).X.mode=2
   ·obtain⟨d1,d2,d3,d4,d5⟩:=t.dir n hnV hkd
    have hnum:(io n).X.num=n:=(EU hio).2
    have hpar:=wi.par n (by rw[hq];simp) hkd
    have hel:(io n).E.length<10000000:=by
     rw[d5]
     have h1:(([n]:List Nat).map fun c=>(rest c).length).sum≤(V.map fun c=>(rest c).length).sum:=Jz _ (by simp) (by simpa using hnV)
     have h2:=t.few2
     simp at h1 ⊢
     omega
    have hA:(AP rest P).length<100000:=by
     rw[M6]
     have:=Jz (fun c=>(rest c).length) (List.nodup_append.1 wi.nd).1 fun c hc=>wi.sub c (List.mem_append_left _ hc)
     have:=t.few2
     omega
    have hq1:=wi1.q_le
    rw[List.length_append] at hq1
    have hb:=t.few
    have hskip:∀ (S1:TS) (c:Nat) (a:Bs),(a=[46]∨a=[46,46])→S1.stp n (a,c,2)=S1:=fun S1 c a h=>if_pos h
    have hbd:∀ c:Nat,({S with q:=q}:TS).q.length<1000000∧({S with q:=q}:TS).nam.getD c 0<1000000∧({S with q:=q}:TS).sub.getD n 0<1000000:=fun c=>by
     have h1:=wi1.nam_le c
     have h2:=wi1.sub_le n
     exact⟨by omega,by omega,by omega⟩
    have her:EntsR I ipg n {S with q:=q} (io n).E:=by
     rw[d5]
     refine .cons (.inl (.inl rfl)) (hbd _) ?_
     rw[hskip _ _ _ (.inl rfl)]
     refine .cons (.inl (.inr rfl)) (hbd _) ?_
     rw[hskip _ _ _ (.inr rfl)]
     exact er
    have hfold:(io n).E.foldl (TS.stp n) {S with q:=q}=(rest n).foldl (TS.stp n) {S with q:=q}:=by
     rw[d5,List.foldl_cons,hskip _ _ _ (.inl rfl),List.foldl_cons,hskip _ _ _ (.inr rfl)]
    have hion:io n=⟨(io n).X,(io n).C,xaOf (la n),(io n).E⟩:=by rw[←t.la n hnV]
    rw[List.map_append] at wr
    simp only[List.map_cons,List.map_nil] at wr
    rw[hion] at wr
    refine .dir hq r1 r2 hio hcl hkd d1 d2 d3 d4 (by rw[d5,hnum];rfl) (by rw[d5,hpar];rfl) hel her ?_
    rw[hfold]
    exact wr
   ·obtain⟨f1,f2⟩:=t.file n hnV hkd
    have hion:io n=⟨(io n).X,(io n).C,xaOf (la n),[]⟩:=by rw[←t.la n hnV,←f1]
    rw[f2] at wr
    rw[List.map_append] at wr
    simp only[List.map_cons,List.map_nil] at wr
    rw[hion] at wr
    exact .file hq r1 r2 hio hcl hkd wr
theorem Up (t:GV I nb ipg V io la cl par rest)(hit:itL I*4096+ipg*256≤I.length) :
  ∃ R S' k,(2::R).Perm V∧WalkOK I nb ipg (Pq (grpL I ipg) (List.replicate nb 0)) (Pq (grpL I ipg++(2::R).flatMap cl) (List.replicate nb 0)) S' ((2::R).map io) k:=by
 obtain⟨r1,r2⟩:=t.rng 2 t.two
 have wi0:WI V io par (ipg+1) [] (AP rest []) (TS0 (ipg+1)):=by
  refine⟨by simp[TS0],by simp[TS0],by simp[TS0],by simp[TS0],by simp[TS0],?_,by simp[TS0],?_,?_,?_,?_,?_,?_⟩
  ·intro c hc
   have:c=2:=by simpa[TS0] using hc
   rw[this];exact t.two
  ·intro c hc
   show ((List.replicate (ipg+1) false).set 2 true).getD c false=true↔c∈[]++[2]
   rw[DV (by simp;omega)]
   by_cases h:2=c
   ·subst h;simp
   ·rw[if_neg h]
    have:¬c=2:=fun e=>h e.symm
    simp[this,List.getD_eq_getElem?_getD,List.getElem?_replicate,hc]
  ·intro c hc
   simp[TS0,AP,List.getD_eq_getElem?_getD,List.getElem?_replicate,hc]
  ·intro c hc
   simp[TS0,AP,List.getD_eq_getElem?_getD,List.getElem?_replicate,hc]
  ·intro c hc _
   have hc2:c=2:=by simpa[TS0] using hc
   subst hc2
   show ((List.replicate (ipg+1) 0).set 2 2).getD 2 0=par 2
   rw[DV (by simp;omega),if_pos rfl,t.root.2]
  ·intro a ha;simp[AP] at ha
  ·intro c hc
   exact .inl (by simpa[TS0] using hc)
 obtain⟨k,R,S',wr,wi,hq,hk⟩:=Xg t rfl V.length [] _ wi0 (by simp)
 have e:[]++(TS0 (ipg+1)).q++R=2::R:=rfl
 rw[e] at wr wi hk
 have hnd:(2::R).Nodup:=(List.nodup_append.1 wi.nd).1
 have hsub:∀ c∈2::R,c∈V:=fun c hc=>wi.sub c (List.mem_append_left _ hc)
 have hcov:∀ d∈2::R,∀ e∈rest d,e.2.1∈2::R:=fun d hd e he=>by
  have:=wi.cov (d,e) (by unfold AP;exact List.mem_flatMap.2 ⟨d,hd,List.mem_map.2 ⟨e,he,rfl⟩⟩)
  rw[hq,List.append_nil] at this
  exact this
 have isdir:∀ d∈V,∀ e∈rest d,kindL (io d).X.mode=2:=fun d hd e he=>by
  rcases Decidable.em (kindL (io d).X.mode=2) with h1|h1
  ·exact h1
  ·rw[(t.file d hd h1).2] at he;cases he
 have hdirs:∀ c,c∈V→kindL (io c).X.mode=2→c∈2::R:=by
  intro c
  induction c using Nat.strongRecOn with
  | ind c ih=>
   intro hc hk
   by_cases h2:c=2
   ·rw[h2];exact List.mem_cons_self ..
   ·obtain⟨d,hd,⟨e,he,hec⟩,hlt⟩:=t.up c hc h2
    have:=hcov d (ih d (hlt hk) hd (isdir d hd e he)) e he
    rw[hec] at this
    exact this
 have hall:∀ c∈V,c∈2::R:=fun c hc=>by
  by_cases h2:c=2
  ·rw[h2];exact List.mem_cons_self ..
  ·obtain⟨d,hd,⟨e,he,hec⟩,_⟩:=t.up c hc h2
   have:=hcov d (hdirs d hd (isdir d hd e he)) e he
   rw[hec] at this
   exact this
 have hp:(2::R).Perm V:=IH _ _ hnd t.nd fun a=>⟨hsub a,hall a⟩
 refine⟨R,S',k,hp,?_,?_,?_,?_,?_,hit⟩
 ·have:[].flatMap cl=[]:=rfl
  rw[this,List.append_nil] at wr
  exact wr
 ·have h1:=hp.length_eq
  have h2:=t.few
  rw[←hk] at h1
  simp at h1
  omega
 ·rw[List.length_map,←hk];simp
 ·intro o ho
  rw[List.mem_map] at ho
  obtain⟨c,hc,rfl⟩:=ho
  have hcV:=hsub c hc
  obtain⟨q1,q2⟩:=t.rng c hcV
  obtain⟨m1,m2⟩:=EU (t.ino c hcV)
  have hA:(AP rest (2::R)).length<100000:=by
   rw[M6]
   have:=Jz (fun c=>(rest c).length) hnd hsub
   have:=t.few2
   omega
  rw[m2]
  refine⟨by omega,m1,?_,?_⟩
  ·have:=wi.sub_le c;omega
  ·rw[t.links c hcV,wi.nam c (by omega),wi.subs c (by omega),ADj]
   by_cases hkd:kindL (io c).X.mode=2
   ·rw[if_pos hkd,if_pos hkd]
    congr 1
    obtain⟨P1,P2,hPP⟩:=List.append_of_mem hc
    rw[hPP] at hnd ⊢
    have hno:∀ P:List Nat,c∉P→((AP rest P).filter fun a=>decide (a.1=c)&&decide (a.2.2.2=2))=[]:=fun P hcP=>by
     rw[List.filter_eq_nil_iff]
     intro a ha
     unfold AP at ha
     obtain⟨d,hd,ha⟩:=List.mem_flatMap.1 ha
     obtain⟨e,_,rfl⟩:=List.mem_map.1 ha
     have:d≠c:=fun e=>hcP (e▸hd)
     simp[this]
    rw[List.nodup_append,List.nodup_cons] at hnd
    have c1:c∉P1:=fun h=>hnd.2.2 c h c (List.mem_cons_self ..) rfl
    have eA:AP rest (P1++c::P2)=AP rest P1++(((rest c).map fun e=>(c,e))++AP rest P2):=by
     unfold AP
     rw[List.flatMap_append,List.flatMap_cons]
    rw[eA,List.filter_append,List.filter_append,hno P1 c1,hno P2 hnd.2.1.1,List.nil_append,List.append_nil,List.filter_map,List.length_map]
    congr 1
    apply List.filter_congr
    intro e _
    simp
   ·rw[if_neg hkd,if_neg hkd]
    exact (((hp.flatMap_right rest).map (·.2.1)).count_eq c).symm
 ·exact⟨io 2,rfl,t.root.1⟩
end
end
def rdE (e:Nat×Nat×Bs):EN:=(e.2.2,e.1,e.2.1)
def ZP (e:Nat×Nat×Bs):Prop:=0<e.1∧e.1<4294967296∧e.2.1<256∧0<e.2.2.length∧e.2.2.length<256
theorem ABH (nm:Bs):Dm nm%4=0∧8+nm.length≤Dm nm∧Dm nm≤nm.length+11:=by unfold Dm;omega
theorem PG {c rl nl ft:Nat}{r:Bs}(h2:nl<256)(h3:ft<256):leL (GD c rl nl ft++r) 0 4=c%4294967296∧leL (GD c rl nl ft++r) 4 2=rl%65536∧leL (GD c rl nl ft++r) 6 1=nl∧leL (GD c rl nl ft++r) 7 1=ft:=by
 have e:GD c rl nl ft++r=Ac c++(Aq rl++([UInt8.ofNat nl]++([UInt8.ofNat ft]++r))):=by unfold GD;simp
 rw[e]
 refine⟨An,?_,?_,?_⟩
 ·rw[Bo (p:=0),BX]
 ·rw[Bo (p:=2),Eh (p:=0),XG h2]
 ·rw[Bo (p:=3),Eh (p:=1),XP (p:=0),XG h3]
theorem Sf {left:Nat}(h1:8≤left)(h2:left≤4096)(h3:left%4=0):EntR (HC left) []:=by
 have hl:=GR h1
 obtain⟨a1,a2,a3,_⟩:=PG (c:=0) (rl:=left) (nl:=0) (ft:=0) (r:=List.replicate (left-8) 0) (by omega) (by omega)
 have e:HC left=GD 0 left 0 0++List.replicate (left-8) 0:=rfl
 rw[←e] at a1 a2 a3
 have hm:left%65536=left:=Nat.mod_eq_of_lt (by omega)
 refine .skip (by omega) (by omega) (by rw[a2,hm];exact h3) (by omega) (by omega) (by omega) ?_
 rw[a2,hm,List.drop_eq_nil_of_le (by omega)]
 exact .nil
theorem TZ {e:Nat×Nat×Bs}{a:Bs}{E:List EN}(ok:ZP e)(h:EntR a E):EntR (Eg e.1 e.2.1 e.2.2++a) (rdE e::E):=by
 obtain⟨c,ft,nm⟩:=e
 obtain⟨o1,o2,o3,o4,o5⟩:=ok
 simp only at o1 o2 o3 o4 o5
 obtain⟨b1,b2,b3⟩:=ABH nm
 have el:=IK c ft nm
 obtain⟨a1,a2,a3,a4⟩:=PG (c:=c) (rl:=Dm nm) (nl:=nm.length) (ft:=ft) (r:=nm++(List.replicate (Dm nm-(8+nm.length)) 0++a)) o5 o3
 have e:Eg c ft nm++a=GD c (Dm nm) nm.length ft++(nm++(List.replicate (Dm nm-(8+nm.length)) 0++a)):=by unfold Eg;simp
 have hm:Dm nm%65536=Dm nm:=Nat.mod_eq_of_lt (by omega)
 have hc:c%4294967296=c:=Nat.mod_eq_of_lt o2
 have hdr:(Eg c ft nm++a).drop (Dm nm)=a:=by rw[←el,List.drop_left]
 have hnm:((Eg c ft nm++a).drop 8).take nm.length=nm:=by
  rw[e,show (8:Nat)=(GD c (Dm nm) nm.length ft).length from rfl,List.drop_left,List.take_left]
 rw[←e] at a1 a2 a3 a4
 rw[hm] at a2
 rw[hc] at a1
 have hl:(Eg c ft nm++a).length=Dm nm+a.length:=by rw[List.length_append,el]
 have:=EntR.step (b:=Eg c ft nm++a) (l:=E) (by omega) (by omega) (by rw[a2];exact b1) (by omega) (by omega) (by omega) (by omega) (by rw[a2,hdr];exact h)
 rw[a1,a3,a4,hnm] at this
 exact this
theorem KO:∀ (l:List (Nat×Nat×Bs)) (left:Nat),12≤left→left≤4096→left%4=0→(∀ e∈l,ZP e)→
  ∃ a r E1 E2,(BZ left l).2++HC (BZ left l).1=a++r∧a.length=left∧EntR a E1∧BlkR r E2∧E1++E2=l.map rdE∧r.length%4096=0∧r.length≤4096*l.length
 | [],left,h1,h2,h3,_=>⟨HC left,[],[],[],by simp[BZ],GR (by omega),Sf (by omega) h2 h3,.nil,rfl,rfl,Nat.zero_le _⟩
 | e::l,left,h1,h2,h3,hok=>by
  have ok:=hok e (List.mem_cons_self ..)
  obtain⟨c,ft,nm⟩:=e
  have o5:nm.length<256:=ok.2.2.2.2
  obtain⟨b1,b2,b3⟩:=ABH nm
  have el:=IK c ft nm
  by_cases hc:left<Dm nm+12
  ·obtain⟨a,r,E1,E2,k1,k2,k3,k4,k5,k6,k7⟩:=KO l (4096-Dm nm) (by omega) (by omega) (by omega) fun e he=>hok e (List.mem_cons_of_mem _ he)
   have e1:(BZ left ((c,ft,nm)::l))=((BZ (4096-Dm nm) l).1,(HC left++Eg c ft nm)++(BZ (4096-Dm nm) l).2):=by
    rw[BZ]
    unfold Dk
    rw[if_pos hc]
   refine⟨HC left,Eg c ft nm++(a++r),[],rdE (c,ft,nm)::(E1++E2),?_,GR (by omega),Sf (by omega) h2 h3,?_,by rw[k5];rfl,?_,?_⟩
   ·rw[e1,←k1];simp
   ·have hl:(Eg c ft nm++a).length=4096:=by rw[List.length_append,el,k2];omega
    have e2:Eg c ft nm++(a++r)=(Eg c ft nm++a)++r:=by simp
    rw[e2,←List.cons_append]
    refine .cons (by rw[List.length_append];omega) ?_ ?_
    ·rw[←hl,List.take_left];exact TZ ok k3
    ·rw[←hl,List.drop_left];exact k4
   ·rw[List.length_append,List.length_append,el,k2];omega
   ·rw[List.length_append,List.length_append,el,k2,List.length_cons];omega
  ·obtain⟨a,r,E1,E2,k1,k2,k3,k4,k5,k6,k7⟩:=KO l (left-Dm nm) (by omega) (by omega) (by omega) fun e he=>hok e (List.mem_cons_of_mem _ he)
   have e1:(BZ left ((c,ft,nm)::l))=((BZ (left-Dm nm) l).1,Eg c ft nm++(BZ (left-Dm nm) l).2):=by
    rw[BZ]
    unfold Dk
    rw[if_neg hc]
   refine⟨Eg c ft nm++a,r,rdE (c,ft,nm)::E1,E2,?_,by rw[List.length_append,el,k2];omega,TZ ok k3,k4,by rw[List.cons_append,k5];rfl,k6,by rw[List.length_cons];omega⟩
   rw[e1,List.append_assoc,k1];simp
theorem Oo {l:List (Nat×Nat×Bs)}(hok:∀ e∈l,ZP e):BlkR (Bg l) (l.map rdE)∧(Bg l).length%4096=0∧4096≤(Bg l).length∧(Bg l).length≤4096*(l.length+1):=by
 obtain⟨a,r,E1,E2,k1,k2,k3,k4,k5,k6,k7⟩:=KO l 4096 (by omega) (by omega) rfl hok
 have e:Bg l=a++r:=k1
 rw[e,←k5,List.length_append,k2]
 refine⟨.cons (by rw[List.length_append];omega) ?_ ?_,by omega,by omega,by omega⟩
 ·rw[←k2,List.take_left];exact k3
 ·rw[←k2,List.drop_left];exact k4
section
section
variable {less:Bs→Bs→Bool}
def Hz (less:Bs→Bs→Bool)(x:Bs):List Bs→List Bs
 | []=>[x]
 | y::R=>if less x y=true then y::Hz less x R else x::y::R
theorem Gr (x:Bs):∀ R,(Hz less x R).Perm (x::R)
 | []=>.refl _
 | y::R=>by
  unfold Hz
  split
  ·exact ((Gr x R).cons y).trans (List.Perm.swap ..)
  ·exact .refl _
theorem Pf (x:Bs):∀ (R B:List Bs),Fc less R.length (R.reverse++x::B)=(Hz less x R).reverse++B
 | [],B=>rfl
 | y::R,B=>by
  have e:(y::R).reverse++x::B=R.reverse++y::x::B:=by simp
  have hl:R.reverse.length=R.length:=List.length_reverse ..
  have g1:(R.reverse++y::x::B).getD (R.length+1) []=x:=by
   rw[List.getD_eq_getElem?_getD,List.getElem?_append_right (by omega),hl,show R.length+1-R.length=1 by omega];rfl
  have g0:(R.reverse++y::x::B).getD R.length []=y:=by
   rw[List.getD_eq_getElem?_getD,List.getElem?_append_right (by omega),hl,Nat.sub_self];rfl
  rw[e,List.length_cons,Fc,g1,g0]
  unfold Hz
  by_cases h:less x y=true
  ·rw[if_pos h,if_pos h]
   have sw:JA (R.reverse++y::x::B) (R.length+1)=R.reverse++x::(y::B):=by
    unfold JA
    rw[Nat.add_sub_cancel,g1,g0,List.set_append_right _ _ (by omega),hl,show R.length+1-R.length=1 by omega,List.set_append_right _ _ (by omega),hl,Nat.sub_self]
    rfl
   rw[sw,Pf x R (y::B)]
   simp
  ·rw[if_neg h,if_neg h]
   simp
theorem O2:∀ (B R:List Bs),sortL less B.length R.length (R.reverse++B)=(B.foldl (fun R x=>Hz less x R) R).reverse
 | [],R=>by rw[List.append_nil];rfl
 | x::B,R=>by
  rw[List.length_cons,sortL,Pf,List.foldl_cons]
  have:=O2 B (Hz less x R)
  rw[(Gr x R).length_eq,List.length_cons] at this
  exact this
theorem XE (l:List Bs):sortL less (l.length-1) 1 l=(l.foldl (fun R x=>Hz less x R) []).reverse:=by
 cases l with
 | nil=>rfl
 | cons x B=>exact O2 B [x]
theorem PY (P:Bs→Prop)(tot:∀ a b,P a→P b→a≠b→less a b=false→less b a=true)(tr:∀ a b c,P a→P b→P c→less a b=true→less b c=true→less a c=true) :
  ∀ (l R:List Bs),(∀ a∈l,P a)→(∀ a∈R,P a)→(l++R).Nodup→R.Pairwise (fun a b=>less b a=true)→(l.foldl (fun R x=>Hz less x R) R).Pairwise (fun a b=>less b a=true)∧(l.foldl (fun R x=>Hz less x R) R).Perm (l++R)
 | [],R,_,_,_,h=>⟨h,.refl _⟩
 | x::l,R,hl,hR,hd,h=>by
  have hx:=hl x (List.mem_cons_self ..)
  have hxR:x∉R:=fun hm=>by
   rw[List.cons_append,List.nodup_cons] at hd
   exact hd.1 (List.mem_append_right _ hm)
  have ins:∀ R:List Bs,(∀ a∈R,P a)→x∉R→R.Pairwise (fun a b=>less b a=true)→(Hz less x R).Pairwise (fun a b=>less b a=true):=by
   intro R
   induction R with
   | nil=>intro _ _ _;exact List.pairwise_singleton ..
   | cons y R ih=>
    intro hR hx' h
    have hy:=hR y (List.mem_cons_self ..)
    rw[List.pairwise_cons] at h
    unfold Hz
    by_cases hc:less x y=true
    ·rw[if_pos hc,List.pairwise_cons]
     refine⟨fun b hb=>?_,ih (fun a ha=>hR a (List.mem_cons_of_mem _ ha)) (fun hm=>hx' (List.mem_cons_of_mem _ hm)) h.2⟩
     rcases List.mem_cons.1 ((Gr x R).mem_iff.1 hb) with h1|h1
     ·rw[h1];exact hc
     ·exact h.1 b h1
    ·rw[if_neg hc,List.pairwise_cons,List.pairwise_cons]
     have hyx:less y x=true:=tot x y hx hy (fun e=>hx' (e▸List.mem_cons_self ..)) (by simpa using hc)
     refine⟨fun b hb=>?_,h⟩
     rcases List.mem_cons.1 hb with h1|h1
     ·rw[h1];exact hyx
     ·exact tr b y x (hR b hb) hy hx (h.1 b h1) hyx
  have hp:=Gr (less:=less) x R
  obtain⟨q1,q2⟩:=PY P tot tr l (Hz less x R) (fun a ha=>hl a (List.mem_cons_of_mem _ ha)) (fun a ha=>by
    rcases List.mem_cons.1 (hp.mem_iff.1 ha) with h1|h1
    ·rw[h1];exact hx
    ·exact hR a h1) (by
    have h2:(l++Hz less x R).Perm (x::l++R):=(hp.append_left l).trans (List.perm_middle)
    exact h2.nodup_iff.2 hd) (ins R hR hxR h)
  refine⟨q1,q2.trans ((hp.append_left l).trans List.perm_middle)⟩
theorem I6 {r:Bs→Bs→Prop}:∀ (l m:List Bs),(∀ a∈l,∀ b∈l,r a b→r b a→False)→l.Perm m→l.Pairwise r→m.Pairwise r→l=m
 | [],m,_,hp,_,_=>(List.nil_perm.1 hp).symm
 | a::l,[],_,hp,_,_=>by cases hp.length_eq
 | a::l,b::m,ir,hp,h1,h2=>by
  rw[List.pairwise_cons] at h1 h2
  have hab:a=b:=by
   rcases List.mem_cons.1 (hp.mem_iff.1 (List.mem_cons_self ..)) with e|e
   ·exact e
   ·rcases List.mem_cons.1 (hp.mem_iff.2 (List.mem_cons_self (a:=b))) with e2|e2
    ·exact e2.symm
    ·exact (ir a (List.mem_cons_self ..) b (List.mem_cons_of_mem _ e2) (h1.1 b e2) (h2.1 a e)).elim
  subst hab
  rw[I6 l m (fun x hx y hy=>ir x (List.mem_cons_of_mem _ hx) y (List.mem_cons_of_mem _ hy)) (List.perm_cons _ |>.1 hp) h1.2 h2.2]
theorem AAe {es:List (Bs×Nat)}(hd:(es.map (·.1)).Nodup)(hn:es.Pairwise fun a b=>a.2<b.2):∀ l:List Bs,l.Perm (es.map (·.1))→sortL (lessE es) (l.length-1) 1 l=es.map (·.1):=by
 intro l hp
 have look:∀ e∈es,lookE es e.1=some e.2:=by
  intro e he
  clear hn hp
  induction es with
  | nil=>cases he
  | cons x es ih=>
   rw[List.map_cons,List.nodup_cons] at hd
   unfold lookE
   rw[List.find?_cons]
   rcases List.mem_cons.1 he with h|h
   ·subst h;simp
   ·have hne:(x.1 == e.1)=false:=by
     apply beq_eq_false_iff_ne.2
     intro e1
     exact hd.1 (e1▸List.mem_map.2 ⟨e,h,rfl⟩)
    rw[hne]
    exact ih hd.2 h
 have known:∀ a∈es.map (·.1),∃ e∈es,a=e.1∧lookE es a=some e.2:=fun a ha=>by
  obtain⟨e,he,rfl⟩:=List.mem_map.1 ha
  exact⟨e,he,rfl,look e he⟩
 have inj:∀ e∈es,∀ e'∈es,e.2=e'.2→e=e':=by
  intro e he e' he' h
  obtain⟨i,hi,rfl⟩:=List.getElem_of_mem he
  obtain⟨j,hj,rfl⟩:=List.getElem_of_mem he'
  rw[List.pairwise_iff_getElem] at hn
  rcases Nat.lt_trichotomy i j with h1|h1|h1
  ·have:=hn i j hi hj h1;omega
  ·subst h1;rfl
  ·have:=hn j i hj hi h1;omega
 have less_eq:∀ e∈es,∀ e'∈es,e≠e'→lessE es e.1 e'.1=decide (e.2<e'.2):=by
  intro e he e' he' hne
  unfold lessE
  rw[look e he,look e' he']
  show (if e.2=e'.2 then _ else _)=_
  rw[if_neg fun h=>hne (inj e he e' he' h)]
 have irr:∀ e∈es,lessE es e.1 e.1=true→False:=fun e he h=>by
  unfold lessE at h
  rw[look e he] at h
  simp only[if_true] at h
  revert h
  generalize e.1=a
  induction a with
  | nil=>intro h;cases h
  | cons c a ih=>intro h;simp[Op.bytesLess] at h;exact ih h
 let P:Bs→Prop:=fun a=>a∈es.map (·.1)
 have lt_of:∀ e∈es,∀ e'∈es,lessE es e.1 e'.1=true→e.2<e'.2:=by
  intro e he e' he' h
  by_cases hne:e=e'
  ·subst hne;exact (irr e he h).elim
  ·rw[less_eq e he e' he' hne] at h
   exact of_decide_eq_true h
 have of_lt:∀ e∈es,∀ e'∈es,e.2<e'.2→lessE es e.1 e'.1=true:=by
  intro e he e' he' h
  rw[less_eq e he e' he' (fun e1=>by subst e1;omega)]
  exact decide_eq_true h
 have tot:∀ a b,P a→P b→a≠b→lessE es a b=false→lessE es b a=true:=by
  intro a b ha hb hne h
  obtain⟨e,he,rfl,_⟩:=known a ha
  obtain⟨e',he',rfl,_⟩:=known b hb
  rcases Nat.lt_trichotomy e.2 e'.2 with h1|h1|h1
  ·rw[of_lt e he e' he' h1] at h;cases h
  ·exact absurd (congrArg Prod.fst (inj e he e' he' h1)) hne
  ·exact of_lt e' he' e he h1
 have tr:∀ a b c,P a→P b→P c→lessE es a b=true→lessE es b c=true→lessE es a c=true:=by
  intro a b c ha hb hc h1 h2
  obtain⟨e,he,rfl,_⟩:=known a ha
  obtain⟨e',he',rfl,_⟩:=known b hb
  obtain⟨e2,he2,rfl,_⟩:=known c hc
  have:=lt_of e he e' he' h1
  have:=lt_of e' he' e2 he2 h2
  exact of_lt e he e2 he2 (by omega)
 rw[XE]
 obtain⟨q1,q2⟩:=PY P tot tr l [] (fun a ha=>hp.mem_iff.1 ha) (by simp) (by rw[List.append_nil];exact hp.nodup_iff.2 hd) .nil
 rw[List.append_nil] at q2
 refine I6 (r:=fun a b=>lessE es a b=true) _ _ ?_ ((List.reverse_perm _).trans (q2.trans hp)) (List.pairwise_reverse.2 q1) ?_
 ·intro a ha b hb h1 h2
  have pa:P a:=hp.mem_iff.1 (q2.mem_iff.1 (List.mem_reverse.1 ha))
  have pb:P b:=hp.mem_iff.1 (q2.mem_iff.1 (List.mem_reverse.1 hb))
  obtain⟨e,he,rfl,_⟩:=known a pa
  obtain⟨e',he',rfl,_⟩:=known b pb
  have:=lt_of e he e' he' h1
  have:=lt_of e' he' e he h2
  omega
 ·rw[List.pairwise_map]
  refine List.Pairwise.imp_of_mem ?_ hn
  intro a b ha hb h
  exact of_lt a ha b hb h
end
end
end Go.Proofs.YtollddkkdgoonaaGreatDoor
