/- A part of a proof over images that are written and read. No condition; a step. -/
import Derived.Test.YtollddkkdgoonaaGreatDoorM20
import Derived.Test.YtollddkkdgoonaaGreatDoorCards
import Derived.Test.YtollddkkdgoonaaGreatDoorTie
import Derived.WalkKit
import Derived.ProofKit
import Derived.OpenShut
import Derived.WideKeyArgs
import Derived.Deep.DeepHandedRow
import Derived.Lib.LaidTab
namespace Go.Proofs.YtollddkkdgoonaaGreatDoor
open Go
set_option linter.unusedVariables false
set_option linter.unusedSimpArgs false
set_option maxRecDepth 100000
section
variable {h:H} {k:Value→Prop} {kt Q:Kt} {x y z r:Res}
attribute [local irreducible] AK Az AQ BB Ae AY AH AM
def Cn (n:Nat):Bs:=if n<10 then [UInt8.ofNat (48+n)] else Cn (n/10)++[UInt8.ofNat (48+n%10)]
termination_by n
decreasing_by omega
theorem IC {n:Nat}(h:n<10):Cn n=[UInt8.ofNat (48+n)]:=by rw[Cn,A03 h]
theorem Hn {n:Nat}(h:¬n<10):Cn n=Cn (n/10)++[UInt8.ofNat (48+n%10)]:=by rw[Cn,A05 h]
theorem GM:∀ m n,n<10^m→(Cn n).length≤m+1
 | 0,n,h=>by
  have:n=0:=by omega
  subst this
  rw[IC (by omega)];simp
 | m+1,n,h=>by
  by_cases hc:n<10
  ·rw[IC hc];simp
  ·rw[Hn hc,A01]
   have:=GM m (n/10) (by rw[Nat.pow_succ] at h;omega)
   simp;omega
theorem KW {c:Nat}(hc:c<256)(w:AN x h)(K:∀ b h,AN (buf b [UInt8.ofNat c]+x) h→kt (.slice (some ⟨b,0,none⟩) 1 1) h):AH (.arr 1) 5 (AG TP 5) 1 1 [(0,.int .u8 (c:Nat))] h kt:=by
 refine CZ (n:=1) (l:=[UInt8.ofNat c]) w (by omega) ?_ rfl K
 have:(.int .u8 (c:Nat):Value)=bc (UInt8.ofNat c):=by rw[bc];simp;omega
 rw[this];rfl
theorem s27:∀ (n:Nat),n<1000000→∀ (x:Res) (h:H) (Q:Kt),AN x h→(∀ y h,AN (y+x) h→Q (str (Cn n)) h)→f27 (.int .i64 (n:Nat)) h Q:=by
 intro n
 induction n using Nat.strongRecOn with
 | ind n ih=>
  intro hn x h Q w K
  unfold f27 Ucm Ucl
  rw[AT]
  refine AX (fun hc=>?_) (fun hc=>?_)
  ·have hlt:n<10:=by omega
   have e1:∀ k:Value→Prop,AD .add (.int .i64 48) (.int .i64 (n:Nat)) k=k (.int .i64 (48+n:Nat)):=fun k=>by
    have:=AI5 (kk:=.i64) (a:=48) (b:=n) (k:=k)
    rw[Ci (by omega)] at this
    exact this
   rw[e1,DO,wu8 (by omega)]
   refine KW (by omega) w fun b h w=>?_
   refine (BufV.own' (b:=b) (all:=[UInt8.ofNat (48+n)]) (n:=1) (A07 _) rfl rfl:BufV _ [UInt8.ofNat (48+n)] _).rdX.addL.str w ?_
   have:=K _ h w
   rw[IC hlt] at this
   exact this
  ·have hge:¬n<10:=by omega
   have e1:∀ k:Value→Prop,AD .add (.int .i64 48) (.int .i64 (n%10:Nat)) k=k (.int .i64 (48+n%10:Nat)):=fun k=>by
    have:=AI5 (kk:=.i64) (a:=48) (b:=n%10) (k:=k)
    rw[Ci (by omega)] at this
    exact this
   rw[Rb (n:=10) (by decide),Ci (by omega),LI (n:=10) (by decide),e1,DO,wu8 (by omega)]
   have hq:=ih (n/10) (by omega) (by omega)
   have hll:=GM 6 (n/10) (by omega)
   refine And.intro ?_ ?_
   ·refine Mw (hq x h _ w fun y h w=>?_)
    refine KW (by omega) w fun b h w=>?_
    refine (BufV.own' (b:=b) (all:=[UInt8.ofNat (48+n%10)]) (n:=1) (A07 _) rfl rfl:BufV _ [UInt8.ofNat (48+n%10)] _).rdX.addL.str w ?_
    rw[H9 (by simp;omega)]
    have:=K _ h (w.cast (Res.assoc _ _ _).symm)
    rw[Hn hge] at this
    exact this
   ·refine KW (by omega) w fun b h w=>?_
    have rd:=(BufV.own' (b:=b) (all:=[UInt8.ofNat (48+n%10)]) (n:=1) (A07 _) rfl rfl:BufV _ [UInt8.ofNat (48+n%10)] _).rdX
    refine rd.addL.str w ?_
    refine Mw (hq _ h _ w fun y h w=>?_)
    refine And.intro (rd.addL.addR.str w rfl) ?_
    rw[H9 (by simp;omega)]
    have:=K _ h (w.cast (Res.assoc _ _ _).symm)
    rw[Hn hge] at this
    exact this
def Na (x:Res)(vs:List Value)(fs:List Bs):Prop:=vs.length=fs.length∧∀ (i:Nat) (b:Bs),fs[i]? = some b→∃ v,vs[i]? = some v∧RdX x v b
theorem Na.addR {vs:List Value}{fs:List Bs}(d:Na x vs fs):Na (y+x) vs fs:=⟨d.1,fun i b h=>by obtain⟨v,h1,h2⟩:=d.2 i b h;exact⟨v,h1,h2.addR⟩⟩
section
variable {fv:Value} {vs:List Value} {fs:List Bs}
theorem s26 (d:RdV 1 fv fs.length vs x)(f:Na x vs fs)(hn:fs.length≤2000000000)(hl:∀ b∈fs,b.length≤2000000000)(w:AN x h)(K:Q (.bool true) h):f26 fv h Q:=by
 obtain⟨⟨va,vc,hv⟩,_⟩:=d.len
 have hg:∀ n:Nat,n≤2000000000→∀ k:Value→Prop,AD .gtr (.int .i64 (n:Nat)) (.int .i64 2147483647) k=k (.bool false):=fun n hn k=>by rw[Ao,A08 (by omega)]
 unfold f26 Ucm
 rw[hv,Aw,hg _ hn,AU,Aw,←hv]
 unfold ABR
 refine Ba (fun mm u h'=>h'=h∧∃ i,mm+i=fs.length∧u=.int .i64 (i:Nat)) fs.length ⟨rfl,0,rfl,rfl⟩ ?_
 rintro rec mm u h' ⟨rfl,i,hi,rfl⟩ hrec
 unfold Vf Ucm Uil
 rw[AT]
 refine AX (fun hc=>?_) (fun hc=>K)
 have hil:i<fs.length:=by omega
 obtain⟨b,hb⟩:∃ b,fs[i]? = some b:=⟨_,A00 hil⟩
 obtain⟨v,h1,h2⟩:=f.2 i b hb
 obtain⟨a,c,hbv⟩:=h2.len
 refine d.get w h1 ?_
 rw[hbv,Aw,hg _ (hl b (A28 hb)),AU,BN (n:=1),Ci (by omega)]
 exact hrec (mm-1) _ _ ⟨rfl,i+1,by omega,rfl⟩ (by omega)
end
end
section
open Go Go.ChangeShapes Go.WideShapes
def allR (h:H):Res:=fun b=>match h[b]? with|some o=>.one o|none=>.no
theorem YW (h:H):AN (allR h) h:=fun b=>by
 unfold allR
 cases hb:h[b]? with
 | none=>trivial
 | some o=>exact rfl
theorem U8 {h:H}{b:Nat}{o:Obj}(hb:h[b]? = some o):∃ y,allR h=pts b o+y:=by
 let z:Res:=fun i=>if i=b then .no else allR h i
 refine⟨z,?_⟩
 funext i
 show allR h i=(pts b o i).add (if i=b then .no else allR h i)
 unfold pts
 by_cases hi:i=b
 ·subst hi
  simp only[if_true]
  unfold allR
  rw[hb];rfl
 ·simp only[hi,if_false]
  rfl
theorem Wu {h h':H}{y:Res}(w:AN (y+allR h) h'){b:Nat}{o:Obj}(hb:h[b]? = some o):h'[b]? = some o:=by
 have:=w.right b
 unfold allR at this
 rw[hb] at this
 exact this
theorem Wm {K:Type}(d:DataW K):1≤Rows.uptoBulk d:=by
 cases d with
 | lit l=>cases l<;>simp[Rows.uptoBulk]
 | nil=>simp[Rows.uptoBulk]
 | ptr d=>simp[Rows.uptoBulk]
 | slice elems spare=>simp[Rows.uptoBulk]
 | agg parts=>simp[Rows.uptoBulk]
 | iface t d=>simp[Rows.uptoBulk]
 | map entries=>simp[Rows.uptoBulk]
 | held h=>simp[Rows.uptoBulk]
theorem L5 {K:Type}{d:DataW K}{l:List (DataW K)}(h:d∈l):Rows.uptoBulk d≤Rows.uptoBulkAll l:=by
 induction l with
 | nil=>cases h
 | cons x r ih=>
  simp only[Rows.uptoBulkAll]
  rcases A32.1 h with e|e
  ·subst e;omega
  ·have:=ih e;omega
theorem OM {K:Type}(l:List (DataW K)):l.length≤Rows.uptoBulkAll l:=by
 induction l with
 | nil=>simp[Rows.uptoBulkAll]
 | cons x r ih=>have:=Wm x;simp only[Rows.uptoBulkAll,A19];omega
section
variable {K:Type} {enc:TypeId×Value→K} {w:World} {base:Nat} {sp:Nat→Bool} {held:Bool} {fuel:Nat} {t e:TypeId} {v:Value} {d:DataW K} {p:List MemPlace}
theorem cells_one {a:Addr}{c:List Value}(h:w.cells? base a 1=some c):∃ u,c=[u]∧w.cell? a=some u:=by
 unfold World.cells? at h
 split at h
 ·have e0:a.add 0=a:=by simp[Addr.add]
  simp only[List.range_succ,List.range_zero,A34,List.mapM_cons,List.mapM_nil,e0] at h
  cases hcc:w.cell? a with
  | none=>simp[hcc] at h
  | some c=>simp[hcc] at h;exact⟨c,h.symm,rfl⟩
 ·cases h
theorem Kf (ht:TP.underlying t=some (.slice e))(he:TP.cellsOf e=1)(h:DataW.trod enc TP w base sp held fuel t [v]=some (d,p)) :
  ∃ (vs:List Value) (ds:List (DataW K)),RdV 1 v vs.length vs (allR w.heap)∧vs.length=ds.length∧(∀ (i:Nat) (u:Value),vs[i]? = some u→∃ di n q,ds[i]? = some di∧DataW.trod enc TP w base sp held n e [u]=some (di,q))∧Rows.uptoBulkAll ds≤Rows.uptoBulk d:=by
 rcases DataW.trod_slice ht h with⟨h1,h2⟩|⟨a,len,cap,elems,rest,n,_,h1,h2,_,hle,_,hlen,hel,_⟩
 ·simp only[List.cons.injEq,and_true] at h1
  exact⟨[],[],.inl ⟨none,0,h1,rfl,rfl⟩,rfl,fun i u hu=>by simp at hu,by show 0≤_;omega⟩
 ·simp only[List.cons.injEq,and_true] at h1
  simp only[B43] at h2
  obtain⟨h2,_⟩:=h2
  have hb:Rows.uptoBulkAll (elems.map (·.1))≤Rows.uptoBulk d:=by
   rw[h2];simp only[Rows.uptoBulk];omega
  have hcell:∀ i,i<len→∃ u y,w.cell? (a.add i)=some u∧elems[i]? = some y∧DataW.trod enc TP w base sp held n e [u]=some y:=fun i hi=>by
   have hE:=hel i hi
   rw[he,A67] at hE
   obtain⟨y,hy⟩:∃ y,elems[i]? = some y:=⟨_,A00 (by omega)⟩
   rw[hy] at hE
   simp only[Option.bind_eq_some_iff] at hE
   obtain⟨c1,hc1,hy1⟩:=hE
   obtain⟨u,rfl,hu⟩:=cells_one hc1
   exact⟨u,y,hu,hy,hy1⟩
  by_cases h0:len=0
  ·subst h0
   exact⟨[],[],.inl ⟨some a,cap,h1,rfl,rfl⟩,rfl,fun i u hu=>by simp at hu,by show 0≤_;omega⟩
  ·obtain⟨b,o,spt⟩:=a
   have hblk:spt=none∧∃ c T fz,w.heap[b]? = some (.cells c T fz):=by
    obtain⟨u,y,hu,_⟩:=hcell 0 (by omega)
    have e0:(⟨b,o,spt⟩:Addr).add 0=⟨b,o,spt⟩:=by simp[Addr.add]
    rw[e0] at hu
    unfold World.cell? at hu
    split at hu
    ·rename_i c T fz hb
     split at hu
     ·cases hu
     ·rename_i hs
      exact⟨by simpa using hs,c,T,fz,hb⟩
    ·cases hu
   obtain⟨rfl,c,T,fz,hb2⟩:=hblk
   have hget:∀ i,i<len→∃ u y,c[o+i]? = some u∧elems[i]? = some y∧DataW.trod enc TP w base sp held n e [u]=some y:=fun i hi=>by
    obtain⟨u,y,hu,hy⟩:=hcell i hi
    rw[Bm] at hu
    unfold World.cell? at hu
    simp only[hb2,A86,A45,if_false] at hu
    exact⟨u,y,hu,hy⟩
   have hsz:o+len≤c.toList.length:=by
    obtain⟨u,y,hu,_⟩:=hget (len-1) (by omega)
    have:=(A46.1 hu).1
    rw[B21];omega
   have hvl:((c.toList.drop o).take len).length=len:=by rw[A20,A27];omega
   obtain⟨y,hy⟩:=U8 hb2
   refine⟨(c.toList.drop o).take len,elems.map (·.1),.inr ⟨b,o,cap,c.toList,T,fz,y,by rw[hvl];exact h1,by rw[hy],by rw[hvl,A67];exact hsz,by rw[hvl,A67],by rw[hvl];exact hle⟩,by rw[hvl,A25,hlen],fun i u hu=>?_,hb⟩
   have hi:i<len:=by have:=(A02.1 hu).1;omega
   obtain⟨u',y',h3,h4,h5⟩:=hget i hi
   rw[A41,A03 hi,A53,B41,h3,A26] at hu
   subst hu
   exact⟨y'.1,n,y'.2,by rw[A21,h4];rfl,by rw[h5]⟩
theorem AAq (ht:TP.underlying t=some (.int .u8))(h:DataW.trod enc TP w base sp held fuel t [v]=some (d,p)):∃ b,v=bc b:=by
 cases fuel with
 | zero=>simp[DataW.trod] at h
 | succ n=>
  cases v<;>simp[DataW.trod,ht] at h
  rename_i k m
  obtain⟨⟨rfl,hw⟩,_⟩:=h
  have hb:=bounds_u8 hw
  have e:((UInt8.ofNat m.toNat).toNat:Int)=m:=by rw[B09];omega
  refine⟨UInt8.ofNat m.toNat,?_⟩
  show _=Value.int .u8 ((UInt8.ofNat m.toNat).toNat:Int)
  rw[e]
theorem SY {α β:Type}{f:β→α}:∀ {l:List α},(∀ a∈l,∃ b,a=f b)→∃ m:List β,l=m.map f
 | [],_=>⟨[],rfl⟩
 | a::l,h=>by
  obtain⟨b,hb⟩:=h a (A13 ..)
  obtain⟨m,hm⟩:=SY fun x hx=>h x (A16 _ hx)
  exact⟨b::m,by rw[hb,hm];rfl⟩
theorem RdV.rdx {x:Res}{bs:Bs}(r:RdV 1 v bs.length (bs.map bc) x):RdX x v bs:=by
 rcases r with⟨a,c,h1,h2,h3⟩|⟨b,o,c,all,T,fz,y,h1,h2,h3,h4,h5⟩
 ·have:bs=[]:=List.eq_nil_of_length_eq_zero h2
  exact .inl ⟨a,c,by rw[h1],this⟩
 ·exact .inr ⟨b,o,c,all,T,fz,y,h1,h2,by omega,by rw[←h4,A67],h5⟩
theorem Qk (ht:TP.underlying t=some (.slice e))(hu:TP.underlying e=some (.int .u8))(he:TP.cellsOf e=1)(h:DataW.trod enc TP w base sp held fuel t [v]=some (d,p)):∃ bs,RdX (allR w.heap) v bs∧bs.length≤Rows.uptoBulk d:=by
 obtain⟨vs,ds,r,hl,hg,hb⟩:=Kf ht he h
 obtain⟨bs,rfl⟩:∃ bs:Bs,vs=bs.map bc:=SY fun a ha=>by
  obtain⟨i,hi,rfl⟩:=B00 ha
  obtain⟨di,n,q,_,h2⟩:=hg i _ (A00 hi)
  exact AAq hu h2
 rw[A25] at r hl
 have:=OM ds
 exact⟨bs,r.rdx,by omega⟩
theorem Se {α:Type}{P:Nat→α→Prop}:∀ (n:Nat),(∀ i,i<n→∃ a,P i a)→∃ l:List α,l.length=n∧∀ (i:Nat) (a:α),l[i]? = some a→P i a
 | 0,_=>⟨[],rfl,fun i a h=>by simp at h⟩
 | n+1,h=>by
  obtain⟨l,h1,h2⟩:=Se n fun i hi=>h i (by omega)
  obtain⟨a,ha⟩:=h n (by omega)
  refine⟨l++[a],by rw[A01,h1];rfl,fun i b hb=>?_⟩
  by_cases hi:i<n
  ·rw[A18 (by omega)] at hb
   exact h2 i b hb
  ·have hil:=(A02.1 hb).1
   rw[A01,A57] at hil
   have:i=n:=by omega
   subst this
   rw[A17 (by omega),h1,A87] at hb
   simp only[A51,A26] at hb
   subst hb;exact ha
end
end
section
open Go Go.ChangeShapes Go.WideShapes
theorem ty4:TP.underlying 4=some .bool:=by kernel_rfl
theorem ty5:TP.underlying 5=some (.int .u8):=by kernel_rfl
theorem ty9:TP.underlying 9=some .string:=by kernel_rfl
theorem AHe:TP.underlying 30=some (.slice 5):=by kernel_rfl
theorem AGM:TP.underlying 342=some (.array 7 341):=by kernel_rfl
theorem ce5:TP.cellsOf 5=1:=by kernel_rfl
theorem ce9:TP.cellsOf 9=1:=by kernel_rfl
theorem AA5:TP.cellsOf 341=2:=by kernel_rfl
section
variable {K:Type} {enc:TypeId×Value→K} {w:World} {base:Nat} {sp:Nat→Bool} {held:Bool} {fuel:Nat} {t e:TypeId} {v:Value} {d:DataW K} {p:List MemPlace}
theorem Qy {k:IntKind}{n:Int}(ht:TP.underlying t=some (.int k))(h:DataW.trod enc TP w base sp held fuel t [v]=some (.lit (.int k n),p)):v=.int k n:=by
 cases fuel with
 | zero=>simp[DataW.trod] at h
 | succ m=>
  cases v<;>simp[DataW.trod,ht] at h
  rename_i k' n'
  obtain⟨⟨rfl,_⟩,rfl,_⟩:=h
  rfl
theorem RB {l:Bs}(ht:TP.underlying t=some .string)(h:DataW.trod enc TP w base sp held fuel t [v]=some (.lit (.string l),p)):v=str l:=by
 cases fuel with
 | zero=>simp[DataW.trod] at h
 | succ m=>
  cases v<;>simp[DataW.trod,ht] at h
  rename_i s
  obtain⟨_,rfl,_⟩:=h
  rfl
theorem Z7 {cs:List Value}{n:Int}{l:Bs}(h:DataW.trod enc TP w base sp held fuel 341 cs=some (.agg [.lit (.int .u8 n),.lit (.string l)],p)):cs=[.int .u8 n,str l]:=by
 obtain⟨y0,y1,m,hx,hl,h0,h1⟩:=trod_struct2 Tryz.underlying341 h
 rw[AA5] at hl
 match cs,hl with
 | [c0,c1],_=>
  simp only[B43,DataW.agg.injEq,List.cons.injEq,and_true] at hx
  obtain⟨⟨e0,e1⟩,_⟩:=hx
  have g0:DataW.trod enc TP w base sp held m 5 [c0]=some y0:=by
   rw[←h0]
   show _=DataW.trod enc TP w base sp held m 5 (([c0,c1].drop 0).take (TP.cellsOf 5))
   rw[ce5];rfl
  have g1:DataW.trod enc TP w base sp held m 9 [c1]=some y1:=by
   rw[←h1]
   show _=DataW.trod enc TP w base sp held m 9 (([c0,c1].drop 1).take (TP.cellsOf 9))
   rw[ce9];rfl
  have f0:y0=(.lit (.int .u8 n),y0.2):=by rw[e0]
  have f1:y1=(.lit (.string l),y1.2):=by rw[e1]
  rw[f0] at g0
  rw[f1] at g1
  rw[Qy ty5 g0,RB ty9 g1]
end
def pxD {K:Type}(q:Nat×Bs):DataW K:=.agg [.lit (.int .u8 (q.1:Nat)),.lit (.string q.2)]
theorem Zn {K:Type}:(Rows.laid_pub_marram_pub_hcsshim_ext4_inner_compactext4_xattrPrefixes:DataW K)=.agg (PX.map pxD):=rfl
theorem ADS {W:World}(h:laidMet TP [("pub-marram/pub/hcsshim/ext4/inner/compactext4.xattrPrefixes",Rows.laid_pub_marram_pub_hcsshim_ext4_inner_compactext4_xattrPrefixes)] W):JX (allR W.heap):=by
 obtain⟨ps,⟨g,t,cs,fuel,p,q,hg,ht,hvar,hd,_,_⟩,_⟩:=h
 have hg4 : TP.globalNamed "pub-marram/pub/hcsshim/ext4/inner/compactext4.xattrPrefixes" = some 4:=by kernel_rfl
 have ht4:(TP.globals[4]?).map (·.type)=some 342:=by kernel_rfl
 obtain rfl:4=g:=A14 (hg4.symm.trans hg)
 obtain rfl:342=t:=A14 (ht4.symm.trans ht)
 unfold World.var? at hvar
 rw[hg4] at hvar
 simp only[Option.bind_some] at hvar
 split at hvar
 ·rename_i c T fz hb
  simp only[A26] at hvar
  subst hvar
  obtain⟨y,hy⟩:=U8 hb
  refine⟨c,T,fz,y,hy,fun i hi=>?_⟩
  rw[Zn] at hd
  obtain⟨xs,m,_,hx,hl,hlen,hel⟩:=DataW.trod_array AGM hd
  simp only[B43,DataW.agg.injEq] at hx
  obtain⟨hx,_⟩:=hx
  rw[AA5] at hel
  have hj:∀ j (r:Nat×Bs),PX[j]? = some r→(c.toList.drop (j*2)).take 2=[.int .u8 (r.1:Nat),str r.2]:=fun j r hr=>by
   have hjl:j<7:=(A02.1 hr).1
   have h1:=hel j hjl
   have h2:xs[j]?.map (·.1)=some (pxD r):=by
    rw[←A21,←hx,A21,hr];rfl
   cases hxj:xs[j]? with
   | none=>rw[hxj] at h2;cases h2
   | some x=>
    rw[hxj] at h1 h2
    simp only[A80,A26] at h2
    have:x=(pxD r,x.2):=by rw[←h2]
    rw[this] at h1
    exact Z7 h1
  have hc:∀ j (r:Nat×Bs),PX[j]? = some r→c[j*2]? = some (.int .u8 (r.1:Nat))∧c[j*2+1]? = some (str r.2):=fun j r hr=>by
   have e:=hj j r hr
   have e0:=A76 (fun l:List Value=>l[0]?) e
   have e1:=A76 (fun l:List Value=>l[1]?) e
   simp only[A41,A53,B41] at e0 e1
   exact⟨e0,e1⟩
  have hi14:i=0∨i=1∨i=2∨i=3∨i=4∨i=5∨i=6∨i=7∨i=8∨i=9∨i=10∨i=11∨i=12∨i=13:=by omega
  rcases hi14 with rfl|rfl|rfl|rfl|rfl|rfl|rfl|rfl|rfl|rfl|rfl|rfl|rfl|rfl
  ·exact (hc 0 _ rfl).1
  ·exact (hc 0 _ rfl).2
  ·exact (hc 1 _ rfl).1
  ·exact (hc 1 _ rfl).2
  ·exact (hc 2 _ rfl).1
  ·exact (hc 2 _ rfl).2
  ·exact (hc 3 _ rfl).1
  ·exact (hc 3 _ rfl).2
  ·exact (hc 4 _ rfl).1
  ·exact (hc 4 _ rfl).2
  ·exact (hc 5 _ rfl).1
  ·exact (hc 5 _ rfl).2
  ·exact (hc 6 _ rfl).1
  ·exact (hc 6 _ rfl).2
 ·cases hvar
theorem Xr {f:FuncId}{args:List Value}{W:World}(h:Call TP f args W.heap fun v h'=>v=.bool true∧∃ y,AN (y+allR W.heap) h') :
  Calls TP f args.toArray W fun e W'=>e=.returned (.bool true)∧W'.os=W.os∧W'.output=W.output∧∀ (b:Nat) (o:Obj),W.heap[b]? = some o→W'.heap[b]? = some o:=by
 refine (h W rfl).mono fun e W' q=>?_
 cases e with
 | returned v=>
  obtain⟨⟨s1,s2⟩,rfl,y,w⟩:=q
  exact⟨rfl,s1,s2,fun b o hb=>Wu w hb⟩
 | _=>exact q.elim
theorem Zl {W W':World}{may:MemPlace→Prop}(h1:W'.os=W.os)(h2:W'.output=W.output)(h3:∀ (b:Nat) (o:Obj),W.heap[b]? = some o→W'.heap[b]? = some o):W.keptBut W' may:=by
 refine⟨h1,h2,fun i hi=>?_⟩
 have hg:W.heap[i]? = some W.heap[i]:=Array.getElem?_eq_getElem hi
 rw[h3 i _ hg,hg]
 cases W.heap[i]<;>simp
theorem Yd {W W':World}{ps:List MemPlace}(hlt:∀ p∈ps,p.block<W.heap.size)(h3:∀ (b:Nat) (o:Obj),W.heap[b]? = some o→W'.heap[b]? = some o):∀ p∈ps,W.sameAt W' p:=fun p hp=>by
 have hb:=hlt p hp
 cases p with
 | cell b off=>
  have hg:W.heap[b]? = some W.heap[b]:=Array.getElem?_eq_getElem hb
  show W'.cell? _=W.cell? _
  unfold World.cell?
  simp only[h3 b _ hg,hg]
 | map b=>
  have hg:W.heap[b]? = some W.heap[b]:=Array.getElem?_eq_getElem hb
  show W'.heap[b]? = W.heap[b]?
  rw[h3 b _ hg,hg]
end
theorem Dy {a r:Bs}{p q n:Nat}(h:p=a.length+q):leL (a++r) p n=leL r q n:=by
 subst h
 unfold leL
 rw[←A64,A83]
theorem GS {a r:Bs}{p n:Nat}(h:p+n≤a.length):leL (a++r) p n=leL a p n:=by
 unfold leL
 rw[A52 (by omega),A24 (by rw[A27];omega)]
theorem DQ {b:Bs}{k p n:Nat}:leL (b.drop k) p n=leL b (k+p) n:=by
 unfold leL
 rw[A64]
theorem EQ {b:Bs}{k p n:Nat}(h:p+n≤k):leL (b.take k) p n=leL b p n:=by
 unfold leL
 rw[A49,A95,A30 (by omega)]
theorem Lw:∀ n,IT (List.replicate n 0)=0
 | 0=>rfl
 | n+1=>by rw[List.replicate_succ,IT,Lw n];rfl
theorem FJ {m p n:Nat}:leL (List.replicate m 0) p n=0:=by
 unfold leL
 rw[List.drop_replicate,B49,Lw]
theorem Vs (a:Nat):IT (Aq a)=a%65536:=by
 simp only[Aq,IT,B09]
 omega
theorem WT (a:Nat):IT (Ac a)=a%4294967296:=by
 simp only[Ac,IT,B09]
 omega
theorem Eh {a p n:Nat}{r:Bs}:leL (Aq a++r) (p+2) n=leL r p n:=Dy (by rw[BI];omega)
theorem Bo {a p n:Nat}{r:Bs}:leL (Ac a++r) (p+4) n=leL r p n:=Dy (by rw[Av];omega)
theorem BX {a:Nat}{r:Bs}:leL (Aq a++r) 0 2=a%65536:=by
 rw[GS (by rw[BI];omega),←Vs];rfl
theorem An {a:Nat}{r:Bs}:leL (Ac a++r) 0 4=a%4294967296:=by
 rw[GS (by rw[Av];omega),←WT];rfl
theorem XG {a:Nat}{r:Bs}(h:a<256):leL ([UInt8.ofNat a]++r) 0 1=a:=by
 show (UInt8.ofNat a).toNat+256*0=a
 rw[B09]
 omega
theorem XP {c:UInt8}{p n:Nat}{r:Bs}:leL ([c]++r) (p+1) n=leL r p n:=rfl
theorem ACM {m p n:Nat}{r:Bs}:leL (List.replicate m 0++r) (p+m) n=leL r p n:=Dy (by rw[A09];omega)
theorem ZY {a p n:Nat}{r:Bs}:leL (E5 a++r) (p+8) n=leL r p n:=Dy (by show _=8+_;omega)
theorem AEE {f:Nat→Nat}:leL (HH f) 0 4=f 0%4294967296∧leL (HH f) 4 4=f 1%4294967296∧leL (HH f) 20 4=f 5%4294967296∧leL (HH f) 24 4=f 6%4294967296∧leL (HH f) 32 4=f 8%4294967296∧leL (HH f) 40 4=f 10%4294967296∧leL (HH f) 56 2=f 15%65536∧leL (HH f) 58 2=f 16%65536∧leL (HH f) 76 4=f 22%4294967296∧leL (HH f) 84 4=f 25%4294967296∧leL (HH f) 88 2=f 26%65536∧leL (HH f) 92 4=f 28%4294967296∧leL (HH f) 96 4=f 29%4294967296∧leL (HH f) 100 4=f 30%4294967296∧leL (HH f) 336 4=f 177%4294967296∧leL (HH f) 12 4=f 3%4294967296∧leL (HH f) 344 4=f 179%4294967296∧leL (HH f) 16 4=f 4%4294967296:=by
 have z16:∀ (a q n:Nat) (r:Bs),leL (Aq a++r) (q+2) n=leL r q n:=fun a q n r=>Eh
 have z32:∀ (a q n:Nat) (r:Bs),leL (Ac a++r) (q+4) n=leL r q n:=fun a q n r=>Bo
 have z64:∀ (a q n:Nat) (r:Bs),leL (E5 a++r) (q+8) n=leL r q n:=fun a q n r=>ZY
 have z8:∀ (c:UInt8) (q n:Nat) (r:Bs),leL ([c]++r) (q+1) n=leL r q n:=fun c q n r=>XP
 have zz:∀ (m q n:Nat) (r:Bs),leL (List.replicate m 0++r) (q+m) n=leL r q n:=fun m q n r=>ACM
 unfold HH
 simp only[A34,A12,Nat.reduceMul]
 refine⟨?_,?_,?_,?_,?_,?_,?_,?_,?_,?_,?_,?_,?_,?_,?_,?_,?_,?_⟩
 ·exact An
 ·rw[z32 _ 0,An]
 ·rw[z32 _ 16,z32 _ 12,z32 _ 8,z32 _ 4,z32 _ 0,An]
 ·rw[z32 _ 20,z32 _ 16,z32 _ 12,z32 _ 8,z32 _ 4,z32 _ 0,An]
 ·rw[z32 _ 28,z32 _ 24,z32 _ 20,z32 _ 16,z32 _ 12,z32 _ 8,z32 _ 4,z32 _ 0,An]
 ·rw[z32 _ 36,z32 _ 32,z32 _ 28,z32 _ 24,z32 _ 20,z32 _ 16,z32 _ 12,z32 _ 8,z32 _ 4,z32 _ 0,An]
 ·rw[z32 _ 52,z32 _ 48,z32 _ 44,z32 _ 40,z32 _ 36,z32 _ 32,z32 _ 28,z32 _ 24,z32 _ 20,z32 _ 16,z32 _ 12,z32 _ 8,z32 _ 4,z16 _ 2,z16 _ 0,BX]
 ·rw[z32 _ 54,z32 _ 50,z32 _ 46,z32 _ 42,z32 _ 38,z32 _ 34,z32 _ 30,z32 _ 26,z32 _ 22,z32 _ 18,z32 _ 14,z32 _ 10,z32 _ 6,z16 _ 4,z16 _ 2,z16 _ 0,BX]
 ·rw[z32 _ 72,z32 _ 68,z32 _ 64,z32 _ 60,z32 _ 56,z32 _ 52,z32 _ 48,z32 _ 44,z32 _ 40,z32 _ 36,z32 _ 32,z32 _ 28,z32 _ 24,z16 _ 22,z16 _ 20,z16 _ 18,z16 _ 16,z16 _ 14,z16 _ 12,z32 _ 8,z32 _ 4,z32 _ 0,An]
 ·rw[z32 _ 80,z32 _ 76,z32 _ 72,z32 _ 68,z32 _ 64,z32 _ 60,z32 _ 56,z32 _ 52,z32 _ 48,z32 _ 44,z32 _ 40,z32 _ 36,z32 _ 32,z16 _ 30,z16 _ 28,z16 _ 26,z16 _ 24,z16 _ 22,z16 _ 20,z32 _ 16,z32 _ 12,z32 _ 8,z32 _ 4,z16 _ 2,z16 _ 0,An]
 ·rw[z32 _ 84,z32 _ 80,z32 _ 76,z32 _ 72,z32 _ 68,z32 _ 64,z32 _ 60,z32 _ 56,z32 _ 52,z32 _ 48,z32 _ 44,z32 _ 40,z32 _ 36,z16 _ 34,z16 _ 32,z16 _ 30,z16 _ 28,z16 _ 26,z16 _ 24,z32 _ 20,z32 _ 16,z32 _ 12,z32 _ 8,z16 _ 6,z16 _ 4,z32 _ 0,BX]
 ·rw[z32 _ 88,z32 _ 84,z32 _ 80,z32 _ 76,z32 _ 72,z32 _ 68,z32 _ 64,z32 _ 60,z32 _ 56,z32 _ 52,z32 _ 48,z32 _ 44,z32 _ 40,z16 _ 38,z16 _ 36,z16 _ 34,z16 _ 32,z16 _ 30,z16 _ 28,z32 _ 24,z32 _ 20,z32 _ 16,z32 _ 12,z16 _ 10,z16 _ 8,z32 _ 4,z16 _ 2,z16 _ 0,An]
 ·rw[z32 _ 92,z32 _ 88,z32 _ 84,z32 _ 80,z32 _ 76,z32 _ 72,z32 _ 68,z32 _ 64,z32 _ 60,z32 _ 56,z32 _ 52,z32 _ 48,z32 _ 44,z16 _ 42,z16 _ 40,z16 _ 38,z16 _ 36,z16 _ 34,z16 _ 32,z32 _ 28,z32 _ 24,z32 _ 20,z32 _ 16,z16 _ 14,z16 _ 12,z32 _ 8,z16 _ 6,z16 _ 4,z32 _ 0,An]
 ·rw[z32 _ 96,z32 _ 92,z32 _ 88,z32 _ 84,z32 _ 80,z32 _ 76,z32 _ 72,z32 _ 68,z32 _ 64,z32 _ 60,z32 _ 56,z32 _ 52,z32 _ 48,z16 _ 46,z16 _ 44,z16 _ 42,z16 _ 40,z16 _ 38,z16 _ 36,z32 _ 32,z32 _ 28,z32 _ 24,z32 _ 20,z16 _ 18,z16 _ 16,z32 _ 12,z16 _ 10,z16 _ 8,z32 _ 4,z32 _ 0,An]
 ·rw[z32 _ 332,z32 _ 328,z32 _ 324,z32 _ 320,z32 _ 316,z32 _ 312,z32 _ 308,z32 _ 304,z32 _ 300,z32 _ 296,z32 _ 292,z32 _ 288,z32 _ 284,z16 _ 282,z16 _ 280,z16 _ 278,z16 _ 276,z16 _ 274,z16 _ 272,z32 _ 268,z32 _ 264,z32 _ 260,z32 _ 256,z16 _ 254,z16 _ 252,z32 _ 248,z16 _ 246,z16 _ 244,z32 _ 240,z32 _ 236,z32 _ 232,zz 16 216,zz 16 200,zz 64 136,z32 _ 132,z8 _ 131,z8 _ 130,z16 _ 128,zz 16 112,z32 _ 108,z32 _ 104,z32 _ 100,zz 16 84,z8 _ 83,z8 _ 82,z16 _ 80,z32 _ 76,z32 _ 72,z32 _ 68,zz 68 0,An]
 ·rw[z32 _ 8,z32 _ 4,z32 _ 0,An]
 ·rw[z32 _ 340,z32 _ 336,z32 _ 332,z32 _ 328,z32 _ 324,z32 _ 320,z32 _ 316,z32 _ 312,z32 _ 308,z32 _ 304,z32 _ 300,z32 _ 296,z32 _ 292,z16 _ 290,z16 _ 288,z16 _ 286,z16 _ 284,z16 _ 282,z16 _ 280,z32 _ 276,z32 _ 272,z32 _ 268,z32 _ 264,z16 _ 262,z16 _ 260,z32 _ 256,z16 _ 254,z16 _ 252,z32 _ 248,z32 _ 244,z32 _ 240,zz 16 224,zz 16 208,zz 64 144,z32 _ 140,z8 _ 139,z8 _ 138,z16 _ 136,zz 16 120,z32 _ 116,z32 _ 112,z32 _ 108,zz 16 92,z8 _ 91,z8 _ 90,z16 _ 88,z32 _ 84,z32 _ 80,z32 _ 76,zz 68 8,z32 _ 4,z32 _ 0,An]
 ·rw[z32 _ 12,z32 _ 8,z32 _ 4,z32 _ 0,An]
theorem AGu {ipg vd fi inc:Nat}(hi:ipg<4294967296)(hv:vd<4294967296)(hf:fi<4294967296)(hinc:inc=578∨inc=33346):SbOK (HH (JQ ipg vd fi inc)) vd ipg∧leL (HH (JQ ipg vd fi inc)) 12 4=0∧leL (HH (JQ ipg vd fi inc)) 344 4=0∧leL (HH (JQ ipg vd fi inc)) 16 4=fi:=by
 have hl:=Gm (JQ ipg vd fi inc)
 obtain⟨a1,a2,a3,a4,a5,a6,a7,a8,a9,a10,a11,a12,a13,a14,a15,a16,a17,a18⟩:=AEE (f:=JQ ipg vd fi inc)
 have hc:inc%4294967296=inc:=by rcases hinc with rfl|rfl<;>rfl
 refine⟨⟨hl,a1.trans (A23 hi),a2.trans (A23 hv),a3,a4,a5,a6.trans (A23 hi),a7,a8,a9,a10,a11,a12,?_,a14,a15⟩,a16,a17,a18.trans (A23 hf)⟩
 rw[a13]
 show inc%4294967296=578∨inc%4294967296=33346
 rw[hc];exact hinc
section
def Pq (l:List Nat)(o:Bs):Bs:=l.foldl (fun o n=>setL o n [1]) o
theorem Ts {o:Bs}{n:Nat}(h:n<o.length):setL o n [1]=o.set n 1:=by
 unfold setL
 rw[List.set_eq_take_append_cons_drop,A03 h]
 simp
theorem NU:∀ (l:List Nat) (o:Bs) (i:Nat),(∀ n∈l,n<o.length)→i<o.length→(Pq l o)[i]? = if i∈l then some 1 else o[i]?
 | [],_,_,_,_=>by simp[Pq]
 | n::l,o,i,h,hi=>by
  have h1:n<o.length:=h n (A13 ..)
  have e:(setL o n [1]).length=o.length:=AS (by show n+1≤_;omega)
  show (Pq l (setL o n [1]))[i]? = _
  rw[NU l _ i (fun k hk=>by rw[e];exact h k (A16 _ hk)) (by rw[e];exact hi),Ts h1,A54]
  by_cases h2:i∈l
  ·rw[A03 h2,A03 (A16 _ h2)]
  ·by_cases h3:n=i
   ·subst h3;rw[A05 h2,A03 rfl,A03 h1,A03 (A13 ..)]
   ·rw[A05 h2,A05 h3,A05 (by simp[h2];exact fun hh=>h3 hh.symm)]
theorem Zk (l m:List Nat)(o:Bs):Pq (l++m) o=Pq m (Pq l o):=B19 ..
theorem NV:∀ (m:List Nat) (o:Bs),m.Nodup→(∀ n∈m,o[n]? = some 0)→Clm m o (Pq m o)
 | [],_,_,_=>.nil
 | n::m,o,hd,h=>by
  have h0:=h n (A13 ..)
  have h1:n<o.length:=(A02.1 h0).1
  rw[A90] at hd
  refine .cons h0 (NV m _ hd.2 fun k hk=>?_)
  rw[Ts h1,A54,A05 (fun e=>hd.1 (by rw[e];exact hk))]
  exact h k (A16 _ hk)
theorem H7 {α:Type}[DecidableEq α]:∀ (l V:List α),l.Nodup→(∀ a∈l,a∈V)→∃ V',V.Perm (l++V')
 | [],V,_,_=>⟨V,.refl _⟩
 | a::l,V,hd,h=>by
  rw[A90] at hd
  have ha:=h a (A13 ..)
  obtain⟨V',hv⟩:=H7 l (V.erase a) hd.2 fun b hb=>(List.mem_erase_of_ne fun (e:b=a)=>hd.1 (e▸hb)).2 (h b (A16 _ hb))
  exact⟨V',(List.perm_cons_erase ha).trans (hv.cons a)⟩
theorem Jz {α:Type}[DecidableEq α](f:α→Nat){l V:List α}(hd:l.Nodup)(h:∀ a∈l,a∈V):(l.map f).sum≤(V.map f).sum:=by
 obtain⟨V',hv⟩:=H7 l V hd h
 rw[(hv.map f).sum_nat,A36,B30]
 omega
theorem Sn {α:Type}[DecidableEq α]{l V:List α}(hd:l.Nodup)(h:∀ a∈l,a∈V):l.length≤V.length:=by
 obtain⟨V',hv⟩:=H7 l V hd h
 rw[hv.length_eq,A01]
 omega
theorem W7 {α β:Type}[DecidableEq α]{X:List β}{f:α→List β}{l V:List α}(hd:l.Nodup)(h:∀ a∈l,a∈V)(hn:(X++V.flatMap f).Nodup):(X++l.flatMap f).Nodup:=by
 obtain⟨V',hv⟩:=H7 l V hd h
 have:=((hv.flatMap_right f).append_left X).nodup_iff.1 hn
 rw[A73,←A12,A65] at this
 exact this.1
theorem IH {α:Type}[DecidableEq α]:∀ (l V:List α),l.Nodup→V.Nodup→(∀ a,a∈l↔a∈V)→l.Perm V
 | [],V,_,_,h=>by
  cases V with
  | nil=>exact .refl _
  | cons b V=>exact absurd ((h b).2 (A13 ..)) (by simp)
 | a::l,V,hd,hv,h=>by
  rw[A90] at hd
  have ha:=(h a).1 (A13 ..)
  refine List.Perm.trans (List.Perm.cons a (IH l (V.erase a) hd.2 (hv.erase a) fun b=>?_)) (List.perm_cons_erase ha).symm
  rw[hv.mem_erase_iff]
  constructor
  ·intro hb
   exact⟨fun e=>hd.1 (by rw[←e];exact hb),(h b).1 (A16 _ hb)⟩
  ·rintro⟨h1,h2⟩
   rcases A32.1 ((h b).2 h2) with h3|h3
   ·exact absurd h3 h1
   ·exact h3
structure GV (I:Bs) (nb ipg:Nat) (V:List Nat) (io:Nat→AA) (la:Nat→List (Bs×Bs)) (cl:Nat→List Nat) (par:Nat→Nat) (rest:Nat→List EN):Prop where
 nd:V.Nodup
 two:2∈V
 rng:∀ c∈V,1≤c∧c≤ipg
 ino:∀ c∈V,InoOK I nb (rawL I c) c (io c).X (io c).C (la c) (cl c)
 la:∀ c∈V,(io c).l=xaOf (la c)
 file:∀ c∈V,kindL (io c).X.mode≠2→(io c).E=[]∧rest c=[]
 dir:∀ c∈V,kindL (io c).X.mode=2→(io c).X.inl=false∧BlkR (io c).C (io c).E∧(io c).C.length<10000000∧NamesOK (io c).E∧(io c).E=([46],c,2)::([46,46],par c,2)::rest c
 root:kindL (io 2).X.mode=2∧par 2=2
 kid:∀ c∈V,∀ e∈rest c,e.2.1∈V∧11≤e.2.1∧e.2.2=kindL (io e.2.1).X.mode
 par:∀ c∈V,∀ e∈rest c,e.2.2=2→par e.2.1=c
 one:∀ c∈V,((rest c).filter fun e=>decide (e.2.2=2)).Pairwise fun a b=>a.2.1≠b.2.1
 up:∀ c∈V,c≠2→∃ d∈V,(∃ e∈rest d,e.2.1=c)∧(kindL (io c).X.mode=2→d<c)
 links:∀ c∈V,(io c).X.links=if kindL (io c).X.mode=2 then ((rest c).filter fun e=>decide (e.2.2=2)).length+2 else ((V.flatMap rest).map (·.2.1)).count c
 blk:(grpL I ipg++V.flatMap cl).Nodup
 blt:∀ n∈grpL I ipg++V.flatMap cl,n<nb
 few:V.length<100000
 few2:(V.map fun c=>(rest c).length).sum<100000
structure WI (V:List Nat) (io:Nat→AA) (par:Nat→Nat) (N:Nat) (D:List Nat) (A:List (Nat×EN)) (S:TS):Prop where
 l1:S.seen.length=N
 l2:S.par.length=N
 l3:S.nam.length=N
 l4:S.sub.length=N
 nd:(D++S.q).Nodup
 sub:∀ c∈D++S.q,c∈V
 two:2∈D++S.q
 seen:∀ c,c<N→(S.seen.getD c false=true↔c∈D++S.q)
 nam:∀ c,c<N→S.nam.getD c 0=(A.map (·.2.2.1)).count c
 subs:∀ c,c<N→S.sub.getD c 0=(A.filter fun a=>decide (a.1=c)&&decide (a.2.2.2=2)).length
 par:∀ c∈D++S.q,kindL (io c).X.mode=2→S.par.getD c 0=par c
 cov:∀ a∈A,a.2.2.1∈D++S.q
 why:∀ c∈D++S.q,c=2∨∃ a∈A,a.2.2.1=c
theorem DV {α:Type}{l:List α}{i c:Nat}{v d:α}(h:i<l.length):(l.set i v).getD c d=if i=c then v else l.getD c d:=by
 rw[A10,A54,A10]
 by_cases hc:i=c
 ·subst hc;rw[A03 rfl,A03 rfl,A03 h];rfl
 ·rw[A05 hc,A05 hc]
section
variable {I:Bs} {nb ipg N n:Nat} {V:List Nat} {io:Nat→AA} {la:Nat→List (Bs×Bs)} {cl:Nat→List Nat} {par:Nat→Nat} {rest:Nat→List EN} {D:List Nat} {A:List (Nat×EN)} {S:TS} {e:EN}
theorem AEM (t:GV I nb ipg V io la cl par rest)(hN:N=ipg+1)(wi:WI V io par N D A S)(hn:n∈D)(he:e∈rest n)(hf:e.2.2=2→∀ a∈A,a.2.2.1≠e.2.1) :
  EntOK I ipg S e∧WI V io par N D (A++[(n,e)]) (S.ent n e)∧∃ q,(S.ent n e).q=S.q++q:=by
 have hnV:n∈V:=wi.sub n (A81 _ hn)
 obtain⟨k1,k2,k3⟩:=t.kid n hnV e he
 obtain⟨r1,r2⟩:=t.rng _ k1
 obtain⟨s1,s2⟩:=t.rng n hnV
 have hcN:e.2.1<N:=by omega
 have hnN:n<N:=by omega
 have hmode:(io e.2.1).X.mode=leL (rawL I e.2.1) 0 2:=by
  have cf:=Fj (t.ino _ k1).con
  exact cf.2.2.1
 have hdir:e.2.2=2→e.2.1∉D++S.q:=fun h2 hin=>by
  rcases wi.why _ hin with h3|⟨a,ha,h3⟩
  ·omega
  ·exact hf h2 a ha h3
 have hnam:∀ c,c<N→(S.nam.set e.2.1 (S.nam.getD e.2.1 0+1)).getD c 0=((A++[(n,e)]).map (·.2.2.1)).count c:=fun c hc=>by
  rw[DV (by rw[wi.l3];exact hcN),A36,List.count_append,←wi.nam c hc]
  show _=_+List.count c [e.2.1]
  by_cases h1:e.2.1=c
  ·subst h1;rw[A03 rfl,List.count_singleton_self]
  ·rw[A05 h1,List.count_singleton,A05 (by simpa using h1)];rfl
 have hsub:∀ c,c<N→(if e.2.2=2 then S.sub.set n (S.sub.getD n 0+1) else S.sub).getD c 0=((A++[(n,e)]).filter fun a=>decide (a.1=c)&&decide (a.2.2.2=2)).length:=fun c hc=>by
  rw[B08,A01,←wi.subs c hc]
  by_cases h2:e.2.2=2
  ·rw[A03 h2,DV (by rw[wi.l4];exact hnN)]
   by_cases h1:n=c
   ·subst h1;rw[A03 rfl];simp[h2]
   ·rw[A05 h1];simp[h1]
  ·rw[A05 h2];simp[h2]
 have hsl:(if e.2.2=2 then S.sub.set n (S.sub.getD n 0+1) else S.sub).length=N:=by
  split
  ·rw[A89];exact wi.l4
  ·exact wi.l4
 refine⟨⟨k2,r2,by rw[←hmode];exact k3.symm,fun h2=>?_⟩,?_,?_⟩
 ·cases hs:S.seen.getD e.2.1 false with
  | false=>rfl
  | true=>exact absurd ((wi.seen _ hcN).1 hs) (hdir h2)
 ·unfold TS.ent TS.see
  by_cases hs:S.seen.getD e.2.1 false=true
  ·rw[A03 hs]
   have hin:=(wi.seen _ hcN).1 hs
   refine⟨wi.l1,wi.l2,by show (S.nam.set _ _).length=N;rw[A89];exact wi.l3,hsl,wi.nd,wi.sub,wi.two,wi.seen,hnam,hsub,wi.par,fun a ha=>?_,fun c hc=>?_⟩
   ·rcases A88.1 ha with h1|h1
    ·exact wi.cov a h1
    ·rw[A78] at h1;subst h1;exact hin
   ·rcases wi.why c hc with h1|⟨a,ha,h1⟩
    ·exact .inl h1
    ·exact .inr ⟨a,A81 _ ha,h1⟩
  ·rw[A05 hs]
   have hin:e.2.1∉D++S.q:=fun h1=>hs ((wi.seen _ hcN).2 h1)
   have hq:∀ c,c∈D++(S.q++[e.2.1])↔c∈D++S.q∨c=e.2.1:=fun c=>by simp[or_assoc]
   refine⟨by show (S.seen.set _ _).length=N;rw[A89];exact wi.l1,by show (S.par.set _ _).length=N;rw[A89];exact wi.l2,by show (S.nam.set _ _).length=N;rw[A89];exact wi.l3,hsl,?_,?_,?_,?_,hnam,hsub,?_,?_,?_⟩
   ·show (D++(S.q++[e.2.1])).Nodup
    rw[←A12,A65]
    refine⟨wi.nd,by simp,fun a ha b hb=>?_⟩
    rw[A78] at hb;subst hb
    exact fun e1=>hin (e1▸ha)
   ·intro c hc
    rcases (hq c).1 hc with h1|h1
    ·exact wi.sub c h1
    ·rw[h1];exact k1
   ·exact (hq 2).2 (.inl wi.two)
   ·intro c hc
    show (S.seen.set e.2.1 true).getD c false=true↔c∈D++(S.q++[e.2.1])
    rw[DV (by rw[wi.l1];exact hcN),hq]
    by_cases h1:e.2.1=c
    ·rw[A03 h1];simp[h1]
    ·rw[A05 h1,wi.seen c hc]
     exact⟨.inl,fun h2=>h2.resolve_right fun h3=>h1 h3.symm⟩
   ·intro c hc hk
    show (S.par.set e.2.1 n).getD c 0=par c
    rw[DV (by rw[wi.l2];exact hcN)]
    rcases (hq c).1 hc with h1|h1
    ·rw[A05 (fun (h2:e.2.1=c)=>hin (h2▸h1))];exact wi.par c h1 hk
    ·rw[A03 h1.symm,h1]
     exact (t.par n hnV e he (by rw[k3,←h1];exact hk)).symm
   ·intro a ha
    rcases A88.1 ha with h1|h1
    ·exact (hq _).2 (.inl (wi.cov a h1))
    ·rw[A78] at h1;subst h1;exact (hq _).2 (.inr rfl)
   ·intro c hc
    rcases (hq c).1 hc with h1|h1
    ·rcases wi.why c h1 with h2|⟨a,ha,h2⟩
     ·exact .inl h2
     ·exact .inr ⟨a,A81 _ ha,h2⟩
    ·exact .inr ⟨(n,e),List.mem_append_right _ (A78.2 rfl),h1.symm⟩
 ·unfold TS.ent TS.see
  by_cases hs:S.seen.getD e.2.1 false=true
  ·rw[A03 hs];exact⟨[],(A22 _).symm⟩
  ·rw[A05 hs];exact⟨[e.2.1],rfl⟩
def AP (rest:Nat→List EN)(P:List Nat):List (Nat×EN):=P.flatMap fun d=>(rest d).map fun e=>(d,e)
theorem YZ {P:List Nat}:AP rest (P++[n])=AP rest P++(rest n).map fun e=>(n,e):=by
 unfold AP
 rw[A73,B04]
theorem M6:∀ (P:List Nat),(AP rest P).length=(P.map fun c=>(rest c).length).sum
 | []=>rfl
 | a::P=>by
  have:=M6 P
  unfold AP at this ⊢
  rw[A37,A01,A25,this,A33,A75]
theorem ADj (P:List Nat):(AP rest P).map (·.2.2.1)=(P.flatMap rest).map (·.2.1):=by
 unfold AP
 rw[List.map_flatMap,List.map_flatMap]
 congr 1
 funext d
 rw[B05]
 rfl
theorem WI.nam_le (wi:WI V io par N D A S)(c:Nat):S.nam.getD c 0≤A.length:=by
 by_cases hc:c<N
 ·rw[wi.nam c hc]
  exact B28 List.count_le_length (by rw[A25];exact A07 _)
 ·rw[A10,A40 (by rw[wi.l3];omega)]
  exact A39 _
theorem WI.sub_le (wi:WI V io par N D A S)(c:Nat):S.sub.getD c 0≤A.length:=by
 by_cases hc:c<N
 ·rw[wi.subs c hc]
  exact B38 ..
 ·rw[A10,A40 (by rw[wi.l4];omega)]
  exact A39 _
theorem WI.q_le (wi:WI V io par N D A S):(D++S.q).length≤V.length:=Sn wi.nd wi.sub
theorem GV.dots (t:GV I nb ipg V io la cl par rest)(hn:n∈V)(he:e∈rest n):¬(e.1=[46]∨e.1=[46,46]):=by
 have hk:kindL (io n).X.mode=2:=by
  rcases Decidable.em (kindL (io n).X.mode=2) with h1|h1
  ·exact h1
  ·rw[(t.file n hn h1).2] at he;cases he
 obtain⟨_,_,_,d4,d5⟩:=t.dir n hn hk
 obtain⟨j,hj,hje⟩:=B00 he
 have hg:(io n).E[j+2]? = some e:=by
  rw[d5,A63,A63,A00 hj,hje]
 rintro (h1|h1)
 ·exact d4.nd (j+2) 0 e ([46],n,2) hg (by rw[d5];rfl) (by omega) h1
 ·exact d4.nd (j+2) 1 e ([46,46],par n,2) hg (by rw[d5];rfl) (by omega) h1
theorem Sr {P:List Nat}(t:GV I nb ipg V io la cl par rest)(hN:N=ipg+1)(hnP:n∉P) :
  ∀ (post pre:List EN) (S:TS),pre++post=rest n→WI V io par N (P++[n]) (AP rest P++pre.map fun e=>(n,e)) S →
   EntsR I ipg n S post∧WI V io par N (P++[n]) (AP rest P++(rest n).map fun e=>(n,e)) (post.foldl (TS.stp n) S)∧∃ q,(post.foldl (TS.stp n) S).q=S.q++q
 | [],pre,S,hp,wi=>by
  rw[A22] at hp
  rw[hp] at wi
  exact⟨.nil,wi,[],(A22 _).symm⟩
 | e::post,pre,S,hp,wi=>by
  have hnV:n∈V:=wi.sub n (by simp)
  have he:e∈rest n:=by rw[←hp];simp
  have hfr:e.2.2=2→∀ a∈AP rest P++pre.map fun e=>(n,e),a.2.2.1≠e.2.1:=fun h2 a ha hae=>by
   rcases A88.1 ha with h1|h1
   ·unfold AP at h1
    rw[A98] at h1
    obtain⟨d,hd,h1⟩:=h1
    rw[A35] at h1
    obtain⟨e',he',rfl⟩:=h1
    have hdV:d∈V:=wi.sub d (by simp[hd])
    have k1:=(t.kid d hdV e' he').2.2
    have k2:=(t.kid n hnV e he).2.2
    have hae:e'.2.1=e.2.1:=hae
    rw[hae,←k2] at k1
    have p1:=t.par d hdV e' he' (k1.trans h2)
    have p2:=t.par n hnV e he h2
    rw[hae] at p1
    rw[p1] at p2
    exact hnP (p2▸hd)
   ·rw[A35] at h1
    obtain⟨e',he',rfl⟩:=h1
    have hae:e'.2.1=e.2.1:=hae
    have he'n:e'∈rest n:=by rw[←hp];simp[he']
    have k1:=(t.kid n hnV e' he'n).2.2
    have k2:=(t.kid n hnV e he).2.2
    rw[hae,←k2] at k1
    have:=t.one n hnV
    rw[←hp,B08,List.pairwise_append] at this
    exact this.2.2 e' (B39.2 ⟨he',by simp[k1,h2]⟩) e (B39.2 ⟨A13 ..,by simp[h2]⟩) hae
  obtain⟨eo,wi2,q,hq⟩:=AEM t hN wi (n:=n) (by simp) he hfr
  have hst:S.stp n e=S.ent n e:=A05 (t.dots hnV he)
  have hAl:(AP rest P++pre.map fun e=>(n,e)).length<100000:=by
   have h1:((P++[n]).map fun c=>(rest c).length).sum≤(V.map fun c=>(rest c).length).sum:=by
    refine Jz _ ?_ fun c hc=>wi.sub c (A81 _ hc)
    exact (A65.1 wi.nd).1
   rw[A36,B30] at h1
   have h2:(rest n).length=pre.length+(post.length+1):=by rw[←hp];simp
   have h3:=t.few2
   rw[A01,M6,A25]
   simp only[A33,B46,A75,List.sum_nil] at h1
   omega
  have hq1:=wi.q_le
  rw[A01] at hq1
  have hb:=t.few
  obtain⟨er,wi3,q2,hq2⟩:=Sr t hN hnP post (pre++[e]) (S.ent n e) (by rw[←hp];simp) (by rw[A36,←A12];exact wi2)
  rw[←hst] at er wi3 hq2
  refine⟨.cons (.inr eo) ⟨by omega,?_,?_⟩ er,wi3,q++q2,?_⟩
  ·have:=wi.nam_le e.2.1;omega
  ·have:=wi.sub_le n;omega
  ·rw[A71,hq2,hst,hq,A12]
theorem Yl {P:List Nat}(t:GV I nb ipg V io la cl par rest)(hd:(P++[n]).Nodup)(hs:∀ c∈P++[n],c∈V) :
  Clm (cl n) (Pq (grpL I ipg++P.flatMap cl) (List.replicate nb 0)) (Pq (grpL I ipg++(P++[n]).flatMap cl) (List.replicate nb 0)):=by
 have h1:=W7 (X:=grpL I ipg) hd hs t.blk
 have h2:∀ k∈grpL I ipg++(P++[n]).flatMap cl,k<nb:=fun k hk=>by
  refine t.blt k ?_
  rcases A88.1 hk with h|h
  ·exact A81 _ h
  ·rw[A98] at h
   obtain⟨c,hc,h⟩:=h
   exact List.mem_append_right _ (A98.2 ⟨c,hs c hc,h⟩)
 rw[A73,B04,←A12] at h1 h2 ⊢
 rw[A65] at h1
 rw[Zk (grpL I ipg++P.flatMap cl) (cl n)]
 refine NV _ _ h1.2.1 fun k hk=>?_
 have hkn:=h2 k (List.mem_append_right _ hk)
 rw[NU _ _ _ (fun m hm=>by rw[A09];exact h2 m (A81 _ hm)) (by rw[A09];exact hkn),A05 fun hm=>h1.2.2 k hm k hk rfl]
 simp[hkn]
theorem WI.next {q:List Nat}{P:List Nat}(wi:WI V io par N P A S)(hq:S.q=n::q):WI V io par N (P++[n]) A {S with q:=q}:=by
 have e:(P++[n])++q=P++S.q:=by rw[hq];simp
 obtain⟨a1,a2,a3,a4,a5,a6,a7,a8,a9,a10,a11,a12,a13⟩:=wi
 rw[←e] at a5 a6 a7 a11 a12 a13
 exact⟨a1,a2,a3,a4,a5,a6,a7,fun c hc=>by rw[show (P++[n])++q=P++S.q from e];exact a8 c hc,a9,a10,a11,a12,a13⟩
theorem Xg (t:GV I nb ipg V io la cl par rest)(hN:N=ipg+1):∀ (m:Nat) (P:List Nat) (S:TS),WI V io par N P (AP rest P) S→V.length≤P.length+m →
  ∃ k R S',WalkR I nb ipg k (Pq (grpL I ipg++P.flatMap cl) (List.replicate nb 0)) S (P.map io) (Pq (grpL I ipg++(P++S.q++R).flatMap cl) (List.replicate nb 0)) S' ((P++S.q++R).map io)∧
   WI V io par N (P++S.q++R) (AP rest (P++S.q++R)) S'∧S'.q=[]∧P.length+k=(P++S.q++R).length:=by
 intro m
 induction m with
 | zero=>
  intro P S wi hm
  have h1:=wi.q_le
  rw[A01] at h1
  have hq:S.q=[]:=A69.1 (by omega)
  refine⟨0,[],S,?_⟩
  rw[hq,A22,A22]
  exact⟨.done hq,wi,rfl,rfl⟩
 | succ m ih=>
  intro P S wi hm
  cases hq:S.q with
  | nil=>
   refine⟨0,[],S,?_⟩
   rw[A22,A22]
   exact⟨.done hq,wi,hq,rfl⟩
  | cons n q=>
   have wi1:=wi.next hq
   have hnd:(P++[n]).Nodup:=(A65.1 wi1.nd).1
   have hsub:∀ c∈P++[n],c∈V:=fun c hc=>wi1.sub c (A81 _ hc)
   have hnV:=hsub n (by simp)
   have hnP:n∉P:=fun h=>(A65.1 hnd).2.2 n h n (by simp) rfl
   obtain⟨er,wi2,q2,hq2⟩:=Sr t hN hnP (rest n) [] {S with q:=q} rfl (by simpa using wi1)
   rw[←YZ] at wi2
   have hcl:=Yl t hnd hsub
   have hlen:V.length≤(P++[n]).length+m:=by simp;omega
   obtain⟨k,R,S',wr,wi3,hq3,hk⟩:=ih (P++[n]) _ wi2 hlen
   have e:P++[n]++((rest n).foldl (TS.stp n) {S with q:=q}).q++R=P++n::q++(q2++R):=by rw[hq2];simp
   rw[e] at wr wi3 hk
   have hP:(P++n::q++(q2++R))=(P++n::q++(q2++R)):=rfl
   refine⟨k+1,q2++R,S',?_,wi3,hq3,by rw[←hk];simp;omega⟩
   obtain⟨r1,r2⟩:=t.rng n hnV
   have hio:=t.ino n hnV
   by_cases hkd:kindL (io n).X.mode=2
   ·obtain⟨d1,d2,d3,d4,d5⟩:=t.dir n hnV hkd
    have hnum:(io n).X.num=n:=(EU hio).2
    have hpar:=wi.par n (by rw[hq];simp) hkd
    have hel:(io n).E.length<10000000:=by
     rw[d5]
     have h1:(([n]:List Nat).map fun c=>(rest c).length).sum≤(V.map fun c=>(rest c).length).sum:=Jz _ (by simp) (by simpa using hnV)
     have h2:=t.few2
     simp at h1 ⊢
     omega
    have hA:(AP rest P).length<100000:=by
     rw[M6]
     have:=Jz (fun c=>(rest c).length) (A65.1 wi.nd).1 fun c hc=>wi.sub c (A81 _ hc)
     have:=t.few2
     omega
    have hq1:=wi1.q_le
    rw[A01] at hq1
    have hb:=t.few
    have hskip:∀ (S1:TS) (c:Nat) (a:Bs),(a=[46]∨a=[46,46])→S1.stp n (a,c,2)=S1:=fun S1 c a h=>A03 h
    have hbd:∀ c:Nat,({S with q:=q}:TS).q.length<1000000∧({S with q:=q}:TS).nam.getD c 0<1000000∧({S with q:=q}:TS).sub.getD n 0<1000000:=fun c=>by
     have h1:=wi1.nam_le c
     have h2:=wi1.sub_le n
     exact⟨by omega,by omega,by omega⟩
    have her:EntsR I ipg n {S with q:=q} (io n).E:=by
     rw[d5]
     refine .cons (.inl (.inl rfl)) (hbd _) ?_
     rw[hskip _ _ _ (.inl rfl)]
     refine .cons (.inl (.inr rfl)) (hbd _) ?_
     rw[hskip _ _ _ (.inr rfl)]
     exact er
    have hfold:(io n).E.foldl (TS.stp n) {S with q:=q}=(rest n).foldl (TS.stp n) {S with q:=q}:=by
     rw[d5,A71,hskip _ _ _ (.inl rfl),A71,hskip _ _ _ (.inr rfl)]
    have hion:io n=⟨(io n).X,(io n).C,xaOf (la n),(io n).E⟩:=by rw[←t.la n hnV]
    rw[A36] at wr
    simp only[A33,B46] at wr
    rw[hion] at wr
    refine .dir hq r1 r2 hio hcl hkd d1 d2 d3 d4 (by rw[d5,hnum];rfl) (by rw[d5,hpar];rfl) hel her ?_
    rw[hfold]
    exact wr
   ·obtain⟨f1,f2⟩:=t.file n hnV hkd
    have hion:io n=⟨(io n).X,(io n).C,xaOf (la n),[]⟩:=by rw[←t.la n hnV,←f1]
    rw[f2] at wr
    rw[A36] at wr
    simp only[A33,B46] at wr
    rw[hion] at wr
    exact .file hq r1 r2 hio hcl hkd wr
theorem Up (t:GV I nb ipg V io la cl par rest)(hit:itL I*4096+ipg*256≤I.length) :
  ∃ R S' k,(2::R).Perm V∧WalkOK I nb ipg (Pq (grpL I ipg) (List.replicate nb 0)) (Pq (grpL I ipg++(2::R).flatMap cl) (List.replicate nb 0)) S' ((2::R).map io) k:=by
 obtain⟨r1,r2⟩:=t.rng 2 t.two
 have wi0:WI V io par (ipg+1) [] (AP rest []) (TS0 (ipg+1)):=by
  refine⟨by simp[TS0],by simp[TS0],by simp[TS0],by simp[TS0],by simp[TS0],?_,by simp[TS0],?_,?_,?_,?_,?_,?_⟩
  ·intro c hc
   have:c=2:=by simpa[TS0] using hc
   rw[this];exact t.two
  ·intro c hc
   show ((List.replicate (ipg+1) false).set 2 true).getD c false=true↔c∈[]++[2]
   rw[DV (by simp;omega)]
   by_cases h:2=c
   ·subst h;simp
   ·rw[A05 h]
    have:¬c=2:=fun e=>h e.symm
    simp[this,A10,B18,hc]
  ·intro c hc
   simp[TS0,AP,A10,B18,hc]
  ·intro c hc
   simp[TS0,AP,A10,B18,hc]
  ·intro c hc _
   have hc2:c=2:=by simpa[TS0] using hc
   subst hc2
   show ((List.replicate (ipg+1) 0).set 2 2).getD 2 0=par 2
   rw[DV (by simp;omega),A03 rfl,t.root.2]
  ·intro a ha;simp[AP] at ha
  ·intro c hc
   exact .inl (by simpa[TS0] using hc)
 obtain⟨k,R,S',wr,wi,hq,hk⟩:=Xg t rfl V.length [] _ wi0 (by simp)
 have e:[]++(TS0 (ipg+1)).q++R=2::R:=rfl
 rw[e] at wr wi hk
 have hnd:(2::R).Nodup:=(A65.1 wi.nd).1
 have hsub:∀ c∈2::R,c∈V:=fun c hc=>wi.sub c (A81 _ hc)
 have hcov:∀ d∈2::R,∀ e∈rest d,e.2.1∈2::R:=fun d hd e he=>by
  have:=wi.cov (d,e) (by unfold AP;exact A98.2 ⟨d,hd,A35.2 ⟨e,he,rfl⟩⟩)
  rw[hq,A22] at this
  exact this
 have isdir:∀ d∈V,∀ e∈rest d,kindL (io d).X.mode=2:=fun d hd e he=>by
  rcases Decidable.em (kindL (io d).X.mode=2) with h1|h1
  ·exact h1
  ·rw[(t.file d hd h1).2] at he;cases he
 have hdirs:∀ c,c∈V→kindL (io c).X.mode=2→c∈2::R:=by
  intro c
  induction c using Nat.strongRecOn with
  | ind c ih=>
   intro hc hk
   by_cases h2:c=2
   ·rw[h2];exact A13 ..
   ·obtain⟨d,hd,⟨e,he,hec⟩,hlt⟩:=t.up c hc h2
    have:=hcov d (ih d (hlt hk) hd (isdir d hd e he)) e he
    rw[hec] at this
    exact this
 have hall:∀ c∈V,c∈2::R:=fun c hc=>by
  by_cases h2:c=2
  ·rw[h2];exact A13 ..
  ·obtain⟨d,hd,⟨e,he,hec⟩,_⟩:=t.up c hc h2
   have:=hcov d (hdirs d hd (isdir d hd e he)) e he
   rw[hec] at this
   exact this
 have hp:(2::R).Perm V:=IH _ _ hnd t.nd fun a=>⟨hsub a,hall a⟩
 refine⟨R,S',k,hp,?_,?_,?_,?_,?_,hit⟩
 ·have:[].flatMap cl=[]:=rfl
  rw[this,A22] at wr
  exact wr
 ·have h1:=hp.length_eq
  have h2:=t.few
  rw[←hk] at h1
  simp at h1
  omega
 ·rw[A25,←hk];simp
 ·intro o ho
  rw[A35] at ho
  obtain⟨c,hc,rfl⟩:=ho
  have hcV:=hsub c hc
  obtain⟨q1,q2⟩:=t.rng c hcV
  obtain⟨m1,m2⟩:=EU (t.ino c hcV)
  have hA:(AP rest (2::R)).length<100000:=by
   rw[M6]
   have:=Jz (fun c=>(rest c).length) hnd hsub
   have:=t.few2
   omega
  rw[m2]
  refine⟨by omega,m1,?_,?_⟩
  ·have:=wi.sub_le c;omega
  ·rw[t.links c hcV,wi.nam c (by omega),wi.subs c (by omega),ADj]
   by_cases hkd:kindL (io c).X.mode=2
   ·rw[A03 hkd,A03 hkd]
    congr 1
    obtain⟨P1,P2,hPP⟩:=List.append_of_mem hc
    rw[hPP] at hnd ⊢
    have hno:∀ P:List Nat,c∉P→((AP rest P).filter fun a=>decide (a.1=c)&&decide (a.2.2.2=2))=[]:=fun P hcP=>by
     rw[List.filter_eq_nil_iff]
     intro a ha
     unfold AP at ha
     obtain⟨d,hd,ha⟩:=A98.1 ha
     obtain⟨e,_,rfl⟩:=A35.1 ha
     have:d≠c:=fun e=>hcP (e▸hd)
     simp[this]
    rw[A65,A90] at hnd
    have c1:c∉P1:=fun h=>hnd.2.2 c h c (A13 ..) rfl
    have eA:AP rest (P1++c::P2)=AP rest P1++(((rest c).map fun e=>(c,e))++AP rest P2):=by
     unfold AP
     rw[A73,A37]
    rw[eA,B08,B08,hno P1 c1,hno P2 hnd.2.1.1,A34,A22,List.filter_map,A25]
    congr 1
    apply List.filter_congr
    intro e _
    simp
   ·rw[A05 hkd,A05 hkd]
    exact (((hp.flatMap_right rest).map (·.2.1)).count_eq c).symm
 ·exact⟨io 2,rfl,t.root.1⟩
end
end
def rdE (e:Nat×Nat×Bs):EN:=(e.2.2,e.1,e.2.1)
def ZP (e:Nat×Nat×Bs):Prop:=0<e.1∧e.1<4294967296∧e.2.1<256∧0<e.2.2.length∧e.2.2.length<256
theorem ABH (nm:Bs):Dm nm%4=0∧8+nm.length≤Dm nm∧Dm nm≤nm.length+11:=by unfold Dm;omega
theorem PG {c rl nl ft:Nat}{r:Bs}(h2:nl<256)(h3:ft<256):leL (GD c rl nl ft++r) 0 4=c%4294967296∧leL (GD c rl nl ft++r) 4 2=rl%65536∧leL (GD c rl nl ft++r) 6 1=nl∧leL (GD c rl nl ft++r) 7 1=ft:=by
 have e:GD c rl nl ft++r=Ac c++(Aq rl++([UInt8.ofNat nl]++([UInt8.ofNat ft]++r))):=by unfold GD;simp
 rw[e]
 refine⟨An,?_,?_,?_⟩
 ·rw[Bo (p:=0),BX]
 ·rw[Bo (p:=2),Eh (p:=0),XG h2]
 ·rw[Bo (p:=3),Eh (p:=1),XP (p:=0),XG h3]
theorem Sf {left:Nat}(h1:8≤left)(h2:left≤4096)(h3:left%4=0):EntR (HC left) []:=by
 have hl:=GR h1
 obtain⟨a1,a2,a3,_⟩:=PG (c:=0) (rl:=left) (nl:=0) (ft:=0) (r:=List.replicate (left-8) 0) (by omega) (by omega)
 have e:HC left=GD 0 left 0 0++List.replicate (left-8) 0:=rfl
 rw[←e] at a1 a2 a3
 have hm:left%65536=left:=A23 (by omega)
 refine .skip (by omega) (by omega) (by rw[a2,hm];exact h3) (by omega) (by omega) (by omega) ?_
 rw[a2,hm,A59 (by omega)]
 exact .nil
theorem TZ {e:Nat×Nat×Bs}{a:Bs}{E:List EN}(ok:ZP e)(h:EntR a E):EntR (Eg e.1 e.2.1 e.2.2++a) (rdE e::E):=by
 obtain⟨c,ft,nm⟩:=e
 obtain⟨o1,o2,o3,o4,o5⟩:=ok
 simp only at o1 o2 o3 o4 o5
 obtain⟨b1,b2,b3⟩:=ABH nm
 have el:=IK c ft nm
 obtain⟨a1,a2,a3,a4⟩:=PG (c:=c) (rl:=Dm nm) (nl:=nm.length) (ft:=ft) (r:=nm++(List.replicate (Dm nm-(8+nm.length)) 0++a)) o5 o3
 have e:Eg c ft nm++a=GD c (Dm nm) nm.length ft++(nm++(List.replicate (Dm nm-(8+nm.length)) 0++a)):=by unfold Eg;simp
 have hm:Dm nm%65536=Dm nm:=A23 (by omega)
 have hc:c%4294967296=c:=A23 o2
 have hdr:(Eg c ft nm++a).drop (Dm nm)=a:=by rw[←el,A83]
 have hnm:((Eg c ft nm++a).drop 8).take nm.length=nm:=by
  rw[e,show (8:Nat)=(GD c (Dm nm) nm.length ft).length from rfl,A83,B26]
 rw[←e] at a1 a2 a3 a4
 rw[hm] at a2
 rw[hc] at a1
 have hl:(Eg c ft nm++a).length=Dm nm+a.length:=by rw[A01,el]
 have:=EntR.step (b:=Eg c ft nm++a) (l:=E) (by omega) (by omega) (by rw[a2];exact b1) (by omega) (by omega) (by omega) (by omega) (by rw[a2,hdr];exact h)
 rw[a1,a3,a4,hnm] at this
 exact this
theorem KO:∀ (l:List (Nat×Nat×Bs)) (left:Nat),12≤left→left≤4096→left%4=0→(∀ e∈l,ZP e)→
  ∃ a r E1 E2,(BZ left l).2++HC (BZ left l).1=a++r∧a.length=left∧EntR a E1∧BlkR r E2∧E1++E2=l.map rdE∧r.length%4096=0∧r.length≤4096*l.length
 | [],left,h1,h2,h3,_=>⟨HC left,[],[],[],by simp[BZ],GR (by omega),Sf (by omega) h2 h3,.nil,rfl,rfl,A39 _⟩
 | e::l,left,h1,h2,h3,hok=>by
  have ok:=hok e (A13 ..)
  obtain⟨c,ft,nm⟩:=e
  have o5:nm.length<256:=ok.2.2.2.2
  obtain⟨b1,b2,b3⟩:=ABH nm
  have el:=IK c ft nm
  by_cases hc:left<Dm nm+12
  ·obtain⟨a,r,E1,E2,k1,k2,k3,k4,k5,k6,k7⟩:=KO l (4096-Dm nm) (by omega) (by omega) (by omega) fun e he=>hok e (A16 _ he)
   have e1:(BZ left ((c,ft,nm)::l))=((BZ (4096-Dm nm) l).1,(HC left++Eg c ft nm)++(BZ (4096-Dm nm) l).2):=by
    rw[BZ]
    unfold Dk
    rw[A03 hc]
   refine⟨HC left,Eg c ft nm++(a++r),[],rdE (c,ft,nm)::(E1++E2),?_,GR (by omega),Sf (by omega) h2 h3,?_,by rw[k5];rfl,?_,?_⟩
   ·rw[e1,←k1];simp
   ·have hl:(Eg c ft nm++a).length=4096:=by rw[A01,el,k2];omega
    have e2:Eg c ft nm++(a++r)=(Eg c ft nm++a)++r:=by simp
    rw[e2,←A82]
    refine .cons (by rw[A01];omega) ?_ ?_
    ·rw[←hl,B26];exact TZ ok k3
    ·rw[←hl,A83];exact k4
   ·rw[A01,A01,el,k2];omega
   ·rw[A01,A01,el,k2,A19];omega
  ·obtain⟨a,r,E1,E2,k1,k2,k3,k4,k5,k6,k7⟩:=KO l (left-Dm nm) (by omega) (by omega) (by omega) fun e he=>hok e (A16 _ he)
   have e1:(BZ left ((c,ft,nm)::l))=((BZ (left-Dm nm) l).1,Eg c ft nm++(BZ (left-Dm nm) l).2):=by
    rw[BZ]
    unfold Dk
    rw[A05 hc]
   refine⟨Eg c ft nm++a,r,rdE (c,ft,nm)::E1,E2,?_,by rw[A01,el,k2];omega,TZ ok k3,k4,by rw[A82,k5];rfl,k6,by rw[A19];omega⟩
   rw[e1,A12,k1];simp
theorem Oo {l:List (Nat×Nat×Bs)}(hok:∀ e∈l,ZP e):BlkR (Bg l) (l.map rdE)∧(Bg l).length%4096=0∧4096≤(Bg l).length∧(Bg l).length≤4096*(l.length+1):=by
 obtain⟨a,r,E1,E2,k1,k2,k3,k4,k5,k6,k7⟩:=KO l 4096 (by omega) (by omega) rfl hok
 have e:Bg l=a++r:=k1
 rw[e,←k5,A01,k2]
 refine⟨.cons (by rw[A01];omega) ?_ ?_,by omega,by omega,by omega⟩
 ·rw[←k2,B26];exact k3
 ·rw[←k2,A83];exact k4
end Go.Proofs.YtollddkkdgoonaaGreatDoor
