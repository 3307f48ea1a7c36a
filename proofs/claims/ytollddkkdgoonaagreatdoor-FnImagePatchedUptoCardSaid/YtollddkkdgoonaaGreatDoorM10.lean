/- A part of a proof over images that are written and read. No condition; a step. -/
import Derived.Test.YtollddkkdgoonaaGreatDoorM9
namespace Go.Proofs.YtollddkkdgoonaaGreatDoor
open Go
set_option linter.unusedVariables false
set_option linter.unusedSimpArgs false
section
variable {h:H} {k:Value→Prop} {kt Q:Kt} {x y r:Res} {wb:Nat} {S S':PS} {ad:Nat→Nat}
theorem Iq (f:Nat→Value)(es:List (Bs×Nat))(i:Nat):(DP f es)[i]? = (es[i]?).map fun e=>(⟨str e.1,f e.2,i⟩:MapEntry):=by
 unfold DP
 rw[List.getElem?_toArray,List.getElem?_map,List.getElem?_zipIdx]
 cases es[i]?<;>simp
theorem Ih {f:Nat→Value}{es:List (Bs×Nat)}{e:MapEntry}(he:e∈DP f es):∃ i a,es[i]? = some a∧e=⟨str a.1,f a.2,i⟩:=by
 obtain⟨i,hi⟩:=Array.mem_iff_getElem?.1 he
 rw[Iq,Option.map_eq_some_iff] at hi
 obtain⟨a,h1,h2⟩:=hi
 exact⟨i,a,h1,h2.symm⟩
theorem Rl (f:Nat→Value){es:List (Bs×Nat)}{i:Nat}{a:Bs×Nat}(ha:es[i]? = some a):(DP f es).find? (·.born == i)=some ⟨str a.1,f a.2,i⟩:=by
 have hm:(⟨str a.1,f a.2,i⟩:MapEntry)∈DP f es:=by
  refine Array.mem_of_getElem? (i:=i) ?_
  rw[Iq,ha];rfl
 cases hf:(DP f es).find? (·.born == i) with
 | none=>
  rw[Array.find?_eq_none] at hf
  exact absurd (by simp) (hf _ hm)
 | some e=>
  have h1:=Array.mem_of_find?_eq_some hf
  have h2:=Array.find?_some hf
  obtain⟨j,b,hb,rfl⟩:=Ih h1
  simp only[beq_iff_eq] at h2
  subst h2
  rw[ha] at hb
  cases hb
  rfl
theorem O8 {α:Type}(es:List α)(I:List Nat)(hnd:I.Nodup)(hlt:∀ i∈I,i<es.length)(hall:∀ i,i<es.length→i∈I):(I.filterMap fun i=>es[i]?).Perm es:=by
 have h1:I.Perm (List.range es.length):=by
  refine (List.perm_ext_iff_of_nodup hnd List.nodup_range).2 fun i=>?_
  rw[List.mem_range]
  exact⟨hlt i,hall i⟩
 have h2:(List.range es.length).filterMap (fun i=>es[i]?)=es:=by
  apply List.ext_getElem?
  intro i
  have:(List.range es.length).filterMap (fun i=>es[i]?)=es:=by
   have h3:∀ (l:List α) (f:Nat→Option α),(∀ i,i<l.length→f i=l[i]?)→(List.range l.length).filterMap f=l:=by
    intro l
    induction l with
    | nil=>intro f _;rfl
    | cons a l ih=>
     intro f hf
     rw[List.length_cons,List.range_succ_eq_map,List.filterMap_cons]
     have h0:=hf 0 (by simp)
     simp only[List.getElem?_cons_zero] at h0
     rw[h0]
     simp only
     rw[List.filterMap_map]
     congr 1
     refine ih (f∘Nat.succ) fun i hi=>?_
     have:=hf (i+1) (by simp;omega)
     simpa using this
   exact h3 es _ fun i _=>rfl
  rw[this]
 have h4:=h1.filterMap (fun i=>es[i]?)
 rwa [h2] at h4
theorem Ho:AG TP 9=some (str []):=by kernel_rfl
theorem Wz {E:H→Prop}{mb ib cv:Nat}{es:List (Bs×Nat)}(hel:es.length≤100000)(w:AN (pts mb (CP ad es)+(pts ib (.mapIter (some mb) es.length #[] es.length)+(cvR cv (.slice none 0 0)+x))) h)
  (K:∀ l v r h,List.Perm l (es.map (·.1))→Vec 9 1 v es.length (strs l) r→AN (pts mb (CP ad es)+(r+(cvR cv v+x))) h→E h) :
  Kv (fun rec4 h=>HM (Pt ib) h fun x56 h=>AO x56 0 fun x57=>AK x57
   (Hb (Pt ib) h fun x58=>AO x58 0 fun x59=>AB false 1 (Pt cv) h fun x60=>AH (.arr 1) 9 (AG TP 9) 1 1 [(0,x59)] h fun x62 h=>AM 9 (AG TP 9) 1 16 x60 x62 h fun x63 h=>AJ 1 (Pt cv) x63 h fun h=>rec4 h)
   (E h)) h:=by
 have hbx:∀ (I:List Nat),I.Nodup→(∀ i∈I,i<es.length)→I.length≤es.length:=fun I h1 h2=>by
  have:=List.Nodup.length_le_of_subset (l₂:=List.range es.length) h1 fun i hi=>List.mem_range.2 (h2 i hi)
  simpa using this
 refine ABT (fun m h'=>∃ (I:List Nat) (v:Value) (r:Res),m=es.length-I.length∧I.Nodup∧(∀ i∈I,i<es.length)∧Vec 9 1 v I.length (strs ((I.filterMap fun i=>es[i]?).map (·.1))) r∧AN (pts mb (CP ad es)+(pts ib (.mapIter (some mb) es.length I.toArray es.length)+(r+(cvR cv v+x)))) h') es.length
  ⟨[],.slice none 0 0,0,by simp,List.nodup_nil,by simp,.nil,by rw[Res.zero_add];exact w⟩ ?_
 rintro rec m h' ⟨I,v,r,rfl,hnd,hlt,d,w⟩ hrec
 have hIl:=hbx I hnd hlt
 have hfl:(I.filterMap fun i=>es[i]?).length=I.length:=by
  have:∀ (I:List Nat),(∀ i∈I,i<es.length)→(I.filterMap fun i=>es[i]?).length=I.length:=by
   intro I
   induction I with
   | nil=>intro _;rfl
   | cons a I ih=>
    intro hh
    rw[List.filterMap_cons,List.getElem?_eq_getElem (hh a (by simp))]
    simp[ih fun i hi=>hh i (by simp[hi])]
  exact this I hlt
 refine⟨ib,rfl,.inr ⟨mb,es.length,I.toArray,DP (fun c=>Pt (ad c)) es,?_,w.left.one,?_,fun hall=>?_,fun e he hns=>?_⟩⟩
 ·exact w.find
 ·intro e he
  obtain⟨i,a,h1,rfl⟩:=Ih he
  exact (List.getElem?_eq_some_iff.1 h1).1
 ·simp only[go_sem]
  have hI:∀ i,i<es.length→i∈I:=fun i hi=>by
   have:=hall ⟨str es[i].1,Pt (ad es[i].2),i⟩ (by
    refine Array.mem_of_getElem? (i:=i) ?_
    rw[Iq,List.getElem?_eq_getElem hi];rfl)
   simpa using this
  have hpm:=O8 es I hnd hlt hI
  have hln:I.length=es.length:=by rw[←hfl];exact hpm.length_eq
  rw[hln] at d
  exact K _ v r _ (hpm.map _) d (AN.right (x:=pts ib (.mapIter (some mb) es.length I.toArray es.length)) (w.cast (by ac_rfl)))
 ·obtain⟨i,a,h1,rfl⟩:=Ih he
  have hil:=(List.getElem?_eq_some_iff.1 h1).1
  have hni:i∉I:=by simpa using hns
  simp only[go_sem]
  have w2:AN (pts ib (.mapIter (some mb) es.length (I++[i]).toArray es.length)+(pts mb (CP ad es)+(r+(cvR cv v+x)))) (h'.setIfInBounds ib (.mapIter (some mb) es.length (I.toArray.push i) es.length)):=by
   have e:I.toArray.push i=(I++[i]).toArray:=by simp
   rw[e]
   exact (w.cast (y:=pts ib (.mapIter (some mb) es.length I.toArray es.length)+(pts mb (CP ad es)+(r+(cvR cv v+x)))) (by ac_rfl)).set
  refine⟨ib,mb,es.length,(I++[i]).toArray,DP (fun c=>Pt (ad c)) es,es.length,i,⟨str a.1,Pt (ad a.2),i⟩,rfl,w2.find,by simp,?_,Rl _ h1,?_⟩
  ·exact w2.right.left.one
  ·simp only[go_sem,AF w2]
   refine EY (x:=pts ib (.mapIter (some mb) es.length (I++[i]).toArray es.length)+(pts mb (CP ad es)+(cvR cv v+x))) d (w2.cast (by ac_rfl)) Ho rfl rfl rfl (by omega) (by omega) fun v' r' h d w=>?_
   refine AL w ⟨[v']⟩ (by obtain⟨⟨a,c,rfl⟩,_⟩:=d.len;rfl) (by obtain⟨⟨a,c,rfl⟩,_⟩:=d.len;rfl) (by simp) (by obtain⟨⟨a,c,rfl⟩,_⟩:=d.len;rfl) fun h w=>?_
   have hnd':(I++[i]).Nodup:=by
    rw[List.nodup_append]
    exact⟨hnd,by simp,by intro a ha b hb;simp at hb;subst hb;intro e;subst e;exact hni ha⟩
   have hlt':∀ j∈I++[i],j<es.length:=by
    intro j hj
    rcases List.mem_append.1 hj with hj|hj
    ·exact hlt j hj
    ·simp at hj;subst hj;exact hil
   have hle:=hbx _ hnd' hlt'
   rw[List.length_append,List.length_singleton] at hle
   refine hrec (es.length-(I++[i]).length) h ⟨I++[i],v',r',rfl,hnd',hlt',?_,w.cast (by unfold cvR;ac_rfl)⟩ (by rw[List.length_append,List.length_singleton];omega)
   have:(I++[i]).filterMap (fun i=>es[i]?)=(I.filterMap fun i=>es[i]?)++[a]:=by
    rw[List.filterMap_append];simp[h1]
   rw[this]
   unfold strs at d ⊢
   simpa using d
end
section
variable {h:H} {k:Value→Prop} {kt Q:Kt} {x y r:Res} {wb:Nat} {S S':PS} {ad:Nat→Nat}
theorem Gf {l:List Bs}{i:Nat}{a:Bs}(h:l[i]? = some a):(strs l)[i]? = some (str a):=by unfold strs;rw[List.getElem?_map,h];rfl
set_option maxRecDepth 20000 in
theorem MJ {E:H→Prop}{F dv cv c:Nat}{es:List (Bs×Nat)}{l0:List Bs}{v:Value}(p:BM wb ad S (r+(dvR dv (ad c)+(cvR cv v+x))) h)(d:Vec 9 1 v l0.length (strs l0) r)(hl0:l0.length≤100000)(hall:∀ a∈l0,∃ k,lookE es a=some k)(hFb:F9 TP F=true)
  (hF:∀ (i j:Nat) (l:List Bs) (r:Res) (Q:Kt) (h:H) (a b:Bs),BM wb ad S (r+(dvR dv (ad c)+(cvR cv v+x))) h→Vec 9 1 v l0.length (strs l) r→l[i]? = some a→l[j]? = some b→(∃ k,lookE es a=some k)→(∃ k,lookE es b=some k)→Q (.bool (lessE es a b)) h →
   Call TP F [.int .i64 i,.int .i64 j,Pt dv,Pt cv] h Q)
  (K:∀ r h,Vec 9 1 v l0.length (strs (sortL (lessE es) (l0.length-1) 1 l0)) r→BM wb ad S (r+(dvR dv (ad c)+(cvR cv v+x))) h→E h) :
  A1 (fun rec2 x16 h=>AB false 1 (Pt cv) h fun x66=>Ab x66 fun x67=>AD .lss x16 x67 fun x68=>AK x68
   (A1 (fun rec3 x17 h=>AD .gtr x17 (.int .i64 0) fun x73=>Az x73 true (AD .sub x17 (.int .i64 1) fun x78=>Bj TP (.func (.func F) #[] #[Pt dv,Pt cv]) [x17,x78] h fun x79 h=>AK x79
    (AB false 1 (Pt cv) h fun x83=>AB false 1 (Pt cv) h fun x85=>AD .sub x17 (.int .i64 1) fun x87=>AB false 1 (Pt cv) h fun x88=>AD .sub x17 (.int .i64 1) fun x90=>AI (.slice 1) x88 x90 fun x91=>AB false 1 x91 h fun x92=>AB false 1 (Pt cv) h fun x93=>AI (.slice 1) x93 x17 fun x95=>AB false 1 x95 h fun x96=>AI (.slice 1) x83 x17 fun x97=>AJ 1 x97 x92 h fun h=>((AB false 1 (Pt cv) h fun v=>v=x85)∧AI (.slice 1) x85 x87 fun x98=>AJ 1 x98 x96 h fun h=>AD .sub x17 (.int .i64 1) fun x82=>rec3 x82 h))
    (AD .add x16 (.int .i64 1) fun x70=>rec2 x70 h)) (AD .add x16 (.int .i64 1) fun x70=>rec2 x70 h)) x16 h)
   (E h)) (.int .i64 1) h:=by
 have hgd:∀ (l:List Bs) (i:Nat),i<l.length→l[i]? = some (l.getD i []):=fun l i hi=>by rw[List.getD_eq_getElem?_getD,List.getElem?_eq_getElem hi];rfl
 have hknown:∀ (l:List Bs) (i:Nat),l.Perm l0→i<l.length→∃ k,lookE es (l.getD i [])=some k:=fun l i hp hi=>hall _ (hp.mem_iff.1 (List.mem_of_getElem? (hgd l i hi)))
 have hv:∃ a m,v=.slice a l0.length m:=by obtain⟨⟨a,m,e⟩,_⟩:=d.len;exact⟨a,m,e⟩
 obtain⟨va,vm,hv⟩:=hv
 refine Ba (fun m u h'=>∃ (i:Nat) (l:List Bs) (r:Res),m=l0.length+1-i∧1≤i∧u=.int .i64 (i:Nat)∧l.Perm l0∧sortL (lessE es) (l0.length-i) i l=sortL (lessE es) (l0.length-1) 1 l0∧Vec 9 1 v l0.length (strs l) r∧BM wb ad S (r+(dvR dv (ad c)+(cvR cv v+x))) h') l0.length
  ⟨1,l0,r,rfl,Nat.le_refl _,rfl,List.Perm.refl _,rfl,d,p⟩ ?_
 rintro rec2 m u h' ⟨i,l,r,rfl,hi1,rfl,hpm,hs,d,p⟩ hrec2
 have hll:=hpm.length_eq
 simp only[go_sem,A4 p]
 rw[hv]
 simp only[go_sem]
 refine AX (fun hlt=>?_) (fun hge=>?_)
 ·have hlt':i<l0.length:=by omega
  have hm:l0.length-i=(l0.length-(i+1))+1:=by omega
  rw[hm,sortL] at hs
  have next:∀ (l':List Bs) (r:Res) (h:H),l'=Fc (lessE es) i l→Vec 9 1 v l0.length (strs l') r→BM wb ad S (r+(dvR dv (ad c)+(cvR cv v+x))) h→rec2 (.int .i64 ((i+1:Nat):Int)) h:=fun l' r h e d p=>by
   subst e
   exact hrec2 _ _ _ ⟨i+1,Fc (lessE es) i l,r,rfl,by omega,rfl,(HR _ _ _ (by omega)).trans hpm,hs,d,p⟩ (by omega)
  refine Ba (fun m u h'=>∃ (j:Nat) (l':List Bs) (r:Res),m=j∧j≤i∧u=.int .i64 (j:Nat)∧l'.Perm l0∧Fc (lessE es) j l'=Fc (lessE es) i l∧Vec 9 1 v l0.length (strs l') r∧BM wb ad S (r+(dvR dv (ad c)+(cvR cv v+x))) h') i ⟨i,l,r,rfl,Nat.le_refl _,rfl,hpm,rfl,d,p⟩ ?_
  rintro rec3 m u h' ⟨j,l',r,hmj,hji,rfl,hpm',hs',d,p⟩ hrec3
  have hll':=hpm'.length_eq
  simp (disch:=omega) only[go_sem]
  refine C3 (fun hj=>?_) (fun hj=>?_)
  ·obtain⟨j',rfl⟩:∃ j',j=j'+1:=⟨j-1,by omega⟩
   have ga:=hgd l' (j'+1) (by omega)
   have gb:=hgd l' j' (by omega)
   simp (disch:=omega) only[go_sem,Nat.add_sub_cancel]
   refine IF (l:=[.int .i64 ((j'+1:Nat):Int),.int .i64 (j':Int),Pt dv,Pt cv]) rfl hFb (hF (j'+1) j' l' r _ h' _ _ p d ga gb (hknown l' _ hpm' (by omega)) (hknown l' _ hpm' (by omega)) ?_)
   rw[Fc] at hs'
   cases hle:lessE es (l'.getD (j'+1) []) (l'.getD j' []) with
   | false=>
    rw[hle,if_neg (by simp)] at hs'
    simp (disch:=omega) only[go_sem]
    exact next l' r _ hs' d p
   | true=>
    rw[hle,if_pos rfl] at hs'
    simp (disch:=omega) only[go_sem,A4 p]
    refine Dw p d (Gf gb) ?_
    refine Dw p d (Gf ga) ?_
    refine O4 p d (by omega) rfl rfl fun r h d p=>?_
    refine⟨IM p rfl,?_⟩
    refine O4 p d (by omega) rfl rfl fun r h d p=>?_
    rw[Of,Of] at d
    exact hrec3 j' _ _ ⟨j',JA l' (j'+1),r,rfl,by omega,rfl,(LB (by omega) (by omega)).trans hpm',hs',d,p⟩ (by omega)
  ·have hj0:j=0:=by omega
   subst hj0
   exact next l' r _ hs' d p
 ·have h0:l0.length-i=0:=by omega
  rw[h0,sortL] at hs
  subst hs
  exact K r _ d p
end
section
variable {h:H} {k:Value→Prop} {kt Q:Kt} {x y r:Res} {wb:Nat} {S S':PS} {ad:Nat→Nat}
theorem Uo {c n:Nat}{nm:ByteArray}(p:BM wb ad S x h)(hc:S.cur=none)(K:∀ h,BM wb ad {S with cur:=some c,dw:=0,dm:=n} x h→Q (.tuple #[]) h):f96 (Pt wb) (.string nm) (Pt (ad c)) (.int .i64 (n:Int)) h Q:=by
 obtain⟨s,L,tr,a,w⟩:=p
 rw[←a.wb]
 refine s96 (x:=tr+sumR ad L+x) (w.cast (by unfold FR;ac_rfl)) (by rw[a.cur,hc];rfl) ⟨_,rfl⟩ fun h w=>K h ⟨{s with nm:=.string nm,cur:=Pt (ad c),dw:=0,dm:=n},L,tr,⟨a.ok.ws' ⟨a.ok.ws.buf,a.ok.ws.len,a.ok.ws.max⟩ rfl,a.wb,a.ini,a.M,a.B,a.pos,a.dpos,rfl,rfl,rfl,a.inl,a.max,a.gd,a.db⟩,w.cast (by unfold FR;ac_rfl)⟩
def BZ:Nat→List (Nat×Nat×Bs)→Nat×Bs
 | left,[]=>(left,[])
 | left,e::r=>((BZ (Dk left e.1 e.2.1 e.2.2).1 r).1,(Dk left e.1 e.2.1 e.2.2).2++(BZ (Dk left e.1 e.2.1 e.2.2).1 r).2)
def Bg (l:List (Nat×Nat×Bs)):Bs:=(BZ 4096 l).2++HC (BZ 4096 l).1
def modeAt (M:List (Option PN))(k:Nat):Nat:=match M[k-1]? with|some (some n)=>n.mode|_=>0
def FX (M:List (Option PN))(es:List (Bs×Nat))(nm:Bs):Nat×Nat×Bs:=((lookE es nm).getD 0,EG (modeAt M ((lookE es nm).getD 0)),nm)
def Cf (M:List (Option PN))(c pp:Nat)(es:List (Bs×Nat))(l:List Bs):List (Nat×Nat×Bs):=(c,EG (modeAt M c),[46])::(pp,EG (modeAt M pp),[46,46])::l.map (FX M es)
theorem Mt {left c ft:Nat}{nm:Bs}(h1:12≤left)(h2:left≤4096)(hn:nm.length<256):12≤(Dk left c ft nm).1∧(Dk left c ft nm).1≤4096∧(Dk left c ft nm).2.length≤552:=by
 have hrl:8+nm.length≤Dm nm∧Dm nm<8+nm.length+4:=by unfold Dm;omega
 unfold Dk
 split
 ·simp only[List.length_append,GR (show 8≤left by omega),IK];omega
 ·simp only[IK];omega
def PS.dirOpen (S:PS)(c:Nat)(bs:Bs):PS:=PS.wrote {S with cur:=some c,dw:=0,dm:=9223372036854775807} bs
def PS.dirDone (S:PS)(c:Nat)(n:PN)(bs:Bs):PS:={S.dirOpen c bs with M:=S.M.set (c-1) (some {n with size:=bs.length}),dm:=bs.length}
theorem GX {c:Nat}{a b:Bs}(h:S.B.length≤S.pos):(S.dirOpen c a).wrote b=S.dirOpen c (a++b):=EK h
theorem KP {c room:Nat}{n:PN}{bs:Bs}(h1:1≤c)(hn:S.M[c-1]? = some (some n))(hfl:n.flags=262144)(hd:bs.length+room≤100000000)(hm:S.pos+bs.length+room≤S.max):FS (S.dirOpen c bs) c n room:=
 ⟨rfl,h1,hn,hfl,rfl,by show 0+bs.length+room≤100000000;omega,by show S.pos+bs.length+room≤S.max;omega⟩
theorem IN (p:BM wb ad S x h){c:Nat}{n:PN}(h1:1≤c)(hn:S.M[c-1]? = some (some n)):n.mode<65536∧c<4294967296∧n.num=c:=by
 obtain⟨s,L,tr,a,w⟩:=p
 obtain⟨nd,hnd,rfl⟩:=CF (a.M▸hn)
 have hl:=(List.getElem?_eq_some_iff.1 hnd).1
 have hl2:=a.ok.len
 have:=a.ok.num _ _ hnd
 exact⟨(a.ok.nd _ _ hnd).2.2.1,by omega,by show nd.num=c;omega⟩
set_option maxRecDepth 20000 in
theorem AFk {wv c:Nat}{n:PN}{bs:Bs}(p:BM wb ad (S.dirOpen c bs) (wvR wv wb+x) h)(h1:1≤c)(hn:S.M[c-1]? = some (some n))(K:∀ h,BM wb ad (S.dirDone c n bs) (wvR wv wb+x) h→Q .nilIface h) :
  AB false 1 (Pt wv) h fun x127=>AE x127 fun x128=>AC 3 x128 fun x129=>AB false 1 x129 h fun x130=>AB false 1 (Pt wv) h fun x131=>AE x131 fun x132=>AC 5 x132 fun x133=>AB false 1 x133 h fun x134=>AE x130 fun x135=>AC 0 x135 fun x136=>AJ 1 x136 x134 h fun h=>AB false 1 (Pt wv) h fun x137=>AB false 1 (Pt wv) h fun x138=>AE x138 fun x139=>AC 5 x139 fun x140=>AB false 1 x140 h fun x141=>AE x137 fun x142=>AC 6 x142 fun x143=>AJ 1 x143 x141 h fun h=>Q .nilIface h:=by
 obtain⟨s,L,tr,a,w⟩:=p
 obtain⟨nd,hnd,hp⟩:=CF (a.M▸(show (S.dirOpen c bs).M[c-1]? = some (some n) from hn))
 obtain⟨w',hnum⟩:=CG a.ok h1 hnd w
 have hcur:s.cur=Pt (ad c):=a.cur
 have hdw:s.dw=bs.length:=by rw[a.dw];show 0+bs.length=_;omega
 have hl:=(List.getElem?_eq_some_iff.1 hnd).1
 have wl:AN (s.res+(pts (ad c) (.cells nd.cells 197 (0,0))+(wvR wv wb+(nd.dr+(nd.xr+nd.kr ad)+(tr+sumR ad (L.set (c-1) none))+x)))) h:=w'.cast (by unfold Nd.res;rw[show ad nd.num=ad c by rw[hnum]];ac_rfl)
 rw[←a.wb] at wl
 simp only[go_sem,AF wl,hcur,hdw]
 refine AL wl (Nd.cells {nd with size:=bs.length}) rfl rfl (by simp) rfl fun h w=>?_
 simp only[go_sem,AF w,hdw]
 refine AL w (WS.cells {s with dm:=bs.length}) rfl rfl (by simp) rfl fun h w=>?_
 have hnd':=a.ok.ndOK hnd
 refine K h ⟨{s with dm:=bs.length},L.set (c-1) (some {nd with size:=bs.length}),tr,⟨F7 a.ok ⟨a.ok.ws.buf,a.ok.ws.len,a.ok.ws.max⟩ rfl hnd rfl hnd',a.wb,a.ini,?_,a.B,a.pos,a.dpos,a.dw,rfl,a.cur,a.inl,a.max,a.gd,a.db⟩,?_⟩
 ·unfold pnL
  rw[List.map_set]
  have hM:pnL L=S.M:=a.M
  show (pnL L).set (c-1) (some {nd.pn with size:=bs.length})=S.M.set (c-1) (some {n with size:=bs.length})
  rw[hM,hp]
 ·rw[a.wb] at w
  refine w.cast ?_
  unfold FR
  rw[GN hl]
  unfold Nd.res WS.res Nd.kr
  dsimp only
  rw[show ad nd.num=ad c by rw[hnum],a.wb]
  ac_rfl
end
section
variable {h:H} {k:Value→Prop} {kt Q:Kt} {x y r:Res} {wb:Nat} {S S':PS} {ad:Nat→Nat}
theorem HL:AG TP 3=some (.int .i64 0):=by kernel_rfl
theorem AAi:AG TP 141=some .nilFunc:=by kernel_rfl
theorem XJ:AG TP 49=some (.slice none 0 0):=by kernel_rfl
structure F0 (S:PS) (c pp:Nat) (n np:PN) (es:List (Bs×Nat)) (srt:List Bs):Prop where
 cur:S.cur=none
 c1:1≤c
 nd:S.M[c-1]? = some (some n)
 kids:n.kids=some es
 kin:KidsIn S es
 nms:∀ e∈es,1≤e.1.length∧e.1.length<256
 pp1:1≤pp
 pnd:S.M[pp-1]? = some (some np)
 fl:n.flags=262144
 B:S.B.length≤S.pos
 room:S.pos+560*es.length+10000≤S.max
 few:es.length≤10000
 srt:∀ l:List Bs,l.Perm (es.map (·.1))→sortL (lessE es) (l.length-1) 1 l=srt
 known:∀ a∈es.map (·.1),∃ k,lookE es a=some k
theorem F0.sperm {c pp:Nat}{n np:PN}{es:List (Bs×Nat)}{srt:List Bs}(d:F0 S c pp n np es srt):srt.Perm (es.map (·.1)):=by
 have:=d.srt (es.map (·.1)) (List.Perm.refl _)
 rw[←this]
 cases h:es.map (·.1) with
 | nil=>exact List.Perm.refl _
 | cons a l=>exact KK _ _ _ _ (by simp;omega)
set_option maxRecDepth 20000 in
theorem ADW {dv wv lb fv c pp:Nat}{n np:PN}{es:List (Bs×Nat)}{srt:List Bs}{v:Value}{pre bs:Bs}{left:Nat}(d:F0 S c pp n np es srt)(dv':Vec 9 1 v srt.length (strs srt) r)
  (p:BM wb ad (S.dirOpen c pre) (lbR lb left+(wvR wv wb+(fvR fv lb wv+(dvR dv (ad c)+(r+x))))) h) (hl1:12≤left) (hl2:left≤4096) (hpre:pre.length≤1104)
  (hbs:pre++((BZ left (srt.map (FX S.M es))).2++HC (BZ left (srt.map (FX S.M es))).1)=bs)
  (K:∀ h,BM wb ad (S.dirDone c n bs) x h→Q .nilIface h) :
  Pu Q (Pt wv) (Pt dv) (Pt fv) (.func (.func 202) #[] #[Pt lb,Pt fv,Pt wv]) v (.int .i64 (srt.length:Nat)) (.int .i64 ((0:Nat):Int)) h:=by
 have hsl:srt.length=es.length:=by have:=d.sperm.length_eq;simpa using this
 have hfew:=d.few
 have hroom:=d.room
 unfold Pu
 refine Ba (fun m u h'=>∃ (i:Nat) (left:Nat) (pre:Bs),m=srt.length-i∧i≤srt.length∧u=.int .i64 (i:Nat)∧12≤left∧left≤4096∧pre.length≤1104+552*i ∧
   pre++((BZ left ((srt.drop i).map (FX S.M es))).2++HC (BZ left ((srt.drop i).map (FX S.M es))).1)=bs ∧
   BM wb ad (S.dirOpen c pre) (lbR lb left+(wvR wv wb+(fvR fv lb wv+(dvR dv (ad c)+(r+x))))) h') srt.length
  ⟨0,left,pre,rfl,Nat.zero_le _,rfl,hl1,hl2,hpre,by rw[List.drop_zero];exact hbs,p⟩ ?_
 rintro rec m u h' ⟨i,left,pre,rfl,hi,rfl,hl1,hl2,hpre,hbs,p⟩ hrec
 have hat:FS (S.dirOpen c pre) c n (560*es.length+10000-pre.length):=KP d.c1 d.nd d.fl (by omega) (by omega)
 have hB':(S.dirOpen c pre).B.length≤(S.dirOpen c pre).pos:=NN (S:={S with cur:=some c,dw:=0,dm:=9223372036854775807}) d.B
 unfold QL
 simp (disch:=omega) only[go_sem]
 refine AX (fun hlt=>?_) (fun hge=>?_)
 ·have hlt':i<srt.length:=by omega
  have gi:srt[i]? = some srt[i]:=List.getElem?_eq_getElem hlt'
  obtain⟨k,hk⟩:=d.known srt[i] (d.sperm.mem_iff.1 (List.getElem_mem hlt'))
  have hmem:=Gt hk
  obtain⟨hk1,nk,hnk⟩:=d.kin _ hmem
  obtain⟨hn1,hn2⟩:=d.nms _ hmem
  obtain⟨hm,hk4,hknum⟩:=IN p hk1 hnk
  refine Dw (r:=r) (x:=lbR lb left+(wvR wv wb+(fvR fv lb wv+(dvR dv (ad c)+x)))) (p.cast (by ac_rfl)) dv' (Gf gi) ?_
  obtain⟨nd,rr,hnd,hnum,w,_⟩:=DM p d.c1 d.nd
  obtain⟨mb,hdir⟩:∃ mb,nd.dir=some (mb,es):=by
   have:nd.dir.map (·.2)=some es:=by rw[←d.kids,←hnd];rfl
   rw[Option.map_eq_some_iff] at this
   obtain⟨⟨mb,es'⟩,e1,e2⟩:=this
   cases e2
   exact⟨mb,e1⟩
  have wl:AN (pts (ad c) (.cells nd.cells 197 (0,0))+(nd.dr+(nd.xr+nd.kr ad))+(rr+(lbR lb left+(wvR wv wb+(fvR fv lb wv+(dvR dv (ad c)+(r+x))))))) h':=w.cast (by unfold Nd.res;rw[hnum])
  rw[A4 p]
  simp only[go_sem]
  rw[AF wl]
  simp only[go_sem]
  refine EJ w ?_
  simp only[hdir,hk,go_sem]
  obtain⟨ndk,rk,hpk,hnumk,wk,_⟩:=DM p hk1 hnk
  have wk':AN (pts (ad k) (.cells ndk.cells 197 (0,0))+(ndk.dr+(ndk.xr+ndk.kr ad))+(rk+(lbR lb left+(wvR wv wb+(fvR fv lb wv+(dvR dv (ad c)+(r+x))))))) h':=wk.cast (by unfold Nd.res;rw[hnumk])
  rw[AF wk']
  simp only[go_sem]
  have hnk':ndk.num=k:=hnumk
  rw[hnk']
  refine IF (l:=[.int .u32 (k:Nat),str srt[i],Pt lb,Pt fv,Pt wv]) rfl (by kernel_rfl) (Mn _ _ _ _ _ _ _ (AC5 (x:=dvR dv (ad c)+(r+x)) p hat hk1 hnk hm hn1 hn2 hk4 hl1 hl2 (by omega) hB' fun h p=>?_))
  simp (disch:=omega) only[go_sem]
  rw[GX d.B] at p
  have hd:srt.drop i=srt[i]::srt.drop (i+1):=List.drop_eq_getElem_cons hlt'
  have he:FX S.M es srt[i]=(k,EG nk.mode,srt[i]):=by
   have hma:modeAt S.M k=nk.mode:=by
    have:S.M[k-1]? = some (some nk):=hnk
    unfold modeAt;rw[this]
   unfold FX
   rw[hk,Option.getD_some,hma]
  rw[hd,List.map_cons,he,BZ] at hbs
  simp only at hbs
  obtain⟨q1,q2,q3⟩:=Mt (c:=k) (ft:=EG nk.mode) (nm:=srt[i]) hl1 hl2 hn2
  refine hrec _ _ _ ⟨i+1,(Dk left k (EG nk.mode) srt[i]).1,pre++(Dk left k (EG nk.mode) srt[i]).2,rfl,by omega,rfl,q1,q2,by rw[List.length_append];omega,?_,p⟩ (by omega)
  rw[←hbs]
  simp only[List.append_assoc]
 ·have hi':i=srt.length:=by omega
  rw[hi',List.drop_length,List.map_nil,BZ,List.nil_append] at hbs
  simp only at hbs
  rw[A4 p]
  simp only[go_sem]
  refine IF (l:=[Pt lb,Pt wv]) rfl (by kernel_rfl) (SS _ _ _ _ (AFw (x:=fvR fv lb wv+(dvR dv (ad c)+(r+x))) p hat hl1 hl2 (by omega) hB' fun h p=>?_))
  simp (disch:=omega) only[LE]
  simp only[AU]
  rw[GX d.B,hbs] at p
  refine AFk (wv:=wv) (x:=lbR lb 4096+(fvR fv lb wv+(dvR dv (ad c)+(r+x)))) (p.cast (by ac_rfl)) d.c1 d.nd fun h p=>?_
  exact K h (BM.mono (y:=wvR wv wb+(lbR lb 4096+(fvR fv lb wv+(dvR dv (ad c)+r)))) (p.cast (by ac_rfl)))
set_option maxRecDepth 20000 in
theorem AGv {dv wv lb fv c pp l1:Nat}{n np:PN}{es:List (Bs×Nat)}{srt:List Bs}{pre bs:Bs}(d:F0 S c pp n np es srt)(hfew:es.length≤10000)(p:BM wb ad (S.dirOpen c pre) (lbR lb l1+(wvR wv wb+(fvR fv lb wv+(dvR dv (ad c)+x)))) h)(b1:12≤l1)(b2:l1≤4096)(hprel:pre.length≤1104)
  (hbs:pre++((BZ l1 (srt.map (FX S.M es))).2++HC (BZ l1 (srt.map (FX S.M es))).1)=bs) (K:∀ h,BM wb ad (S.dirDone c n bs) x h→Q .nilIface h) :
  AQ (AG TP 49) 49 h fun x13 h=>AB false 1 (Pt dv) h fun x51=>AE x51 fun x52=>AC 17 x52 fun x53=>AB false 1 x53 h fun x54=>D5 x54 h fun x55 h=>Qf Q (Pt wv) (Pt dv) (Pt fv) (.func (.func 202) #[] #[Pt lb,Pt fv,Pt wv]) x13 x55 h:=by
 refine DG p XJ rfl fun cv h p=>?_
 simp only[go_sem,A4 p]
 have p:BM wb ad (S.dirOpen c pre) (lbR lb l1+(wvR wv wb+(fvR fv lb wv+(dvR dv (ad c)+(cvR cv (.slice none 0 0)+x))))) h:=p.cast (by unfold lbR wvR fvR dvR cvR;ac_rfl)
 obtain⟨nd,rr,hnd,hnum,w,cl⟩:=DM p d.c1 d.nd
 obtain⟨mb,hdir⟩:∃ mb,nd.dir=some (mb,es):=by
  have:nd.dir.map (·.2)=some es:=by rw[←d.kids,←hnd];rfl
  rw[Option.map_eq_some_iff] at this
  obtain⟨⟨mb,es'⟩,e1,e2⟩:=this
  cases e2
  exact⟨mb,e1⟩
 have hkr:nd.kr ad=pts mb (CP ad es):=by unfold Nd.kr;rw[hdir]
 have hkv:nd.kids=.map (some mb):=by unfold Nd.kids;rw[hdir];rfl
 have wl:AN (pts (ad c) (.cells nd.cells 197 (0,0))+(pts mb (CP ad es)+(nd.dr+nd.xr+rr+(lbR lb l1+(wvR wv wb+(fvR fv lb wv+(dvR dv (ad c)+(cvR cv (.slice none 0 0)+x)))))))) h:=w.cast (by unfold Nd.res lbR wvR fvR dvR cvR;rw[hnum,hkr];ac_rfl)
 rw[AF wl]
 simp only[go_sem]
 rw[hkv]
 refine Ir (m:=mb) wl fun ib h w=>?_
 have w2:AN (pts mb (CP ad es)+(pts ib (.mapIter (some mb) es.length #[] es.length)+(cvR cv (.slice none 0 0)+(pts (ad c) (.cells nd.cells 197 (0,0))+(nd.dr+nd.xr+rr+(lbR lb l1+(wvR wv wb+(fvR fv lb wv+(dvR dv (ad c)+x))))))))) h:=by
  have key:∀ A B C D E1 E2 E3 E4 V X:Res,A+(C+(B+(D+(E1+(E2+(E3+(E4+(V+X))))))))=B+(A+(V+(C+(D+(E1+(E2+(E3+(E4+X)))))))):=by intros;ac_rfl
  exact w.cast (key _ _ _ _ _ _ _ _ _ _)
 unfold Qf RY
 refine Wz (E:=Qb Q (Pt wv) (Pt dv) (Pt fv) (.func (.func 202) #[] #[Pt lb,Pt fv,Pt wv]) (Pt cv) (.func (.func 204) #[] #[Pt dv,Pt cv]) (.int .i64 1)) (ib:=ib) (cv:=cv) (ad:=ad) (es:=es) (x:=pts (ad c) (.cells nd.cells 197 (0,0))+(nd.dr+nd.xr+rr+(lbR lb l1+(wvR wv wb+(fvR fv lb wv+(dvR dv (ad c)+x)))))) (by omega) w2 fun l v r h hperm dvec w=>?_
 have p:BM wb ad (S.dirOpen c pre) (r+(dvR dv (ad c)+(cvR cv v+(lbR lb l1+(wvR wv wb+(fvR fv lb wv+x)))))) h:=cl _ _ (w.cast (by unfold Nd.res lbR wvR fvR dvR cvR;rw[hnum,hkr];ac_rfl))
 have hll:l.length=es.length:=by have:=hperm.length_eq;simpa using this
 rw[←hll] at dvec
 unfold Qb P7 Vu Qg R9
 refine MJ (F:=204) (c:=c) (es:=es) p dvec (by omega) (fun a ha=>d.known a (hperm.mem_iff.1 ha)) (by kernel_rfl) (fun i j l' r Q h a b p dv hi hj ha hb K=>AAM _ _ _ _ _ _ (AHo p dv d.c1 d.nd d.kids d.kin hi hj ha hb K)) fun r h dvec p=>?_
 rw[d.srt l hperm] at dvec
 have hsl:srt.length=l.length:=by have:=d.sperm.length_eq;simp at this;omega
 rw[←hsl] at dvec
 simp only[go_sem,A4 p]
 obtain⟨⟨va,vc,hv⟩,_⟩:=dvec.len
 rw[hv]
 simp only[go_sem]
 rw[←hv]
 refine ADW (x:=cvR cv v+x) d dvec (p.cast (by ac_rfl)) b1 b2 hprel hbs fun h p=>K h (BM.mono (y:=cvR cv v) (p.cast (Res.comm _ _)))
theorem Vc {c room:Nat}{n:PN}(h1:1≤c)(hn:S.M[c-1]? = some (some n))(hfl:n.flags=262144)(hd:room≤100000000)(hm:S.pos+room≤S.max):FS {S with cur:=some c,dw:=0,dm:=9223372036854775807} c n room:=
 ⟨rfl,h1,hn,hfl,rfl,by show 0+room≤100000000;omega,hm⟩
set_option maxRecDepth 20000 in
theorem AHq {c pp:Nat}{n np:PN}{es:List (Bs×Nat)}{srt:List Bs}{S0:PS}(d:F0 S c pp n np es srt)(p:BM wb ad S0 x h)(fin:Fin S0 S)(K:∀ h,BM wb ad (S.dirDone c n (Bg (Cf S.M c pp es srt))) x h→Q .nilIface h) :
  AEW (Pt wb) (Pt (ad c)) (Pt (ad pp)) h Q:=by
 have hfew:=d.few
 have hroom:=d.room
 have hr1:560*es.length+10000≤100000000:=Nat.le_trans (Nat.add_le_add_right (Nat.mul_le_mul_left 560 hfew) 10000) (by decide)
 have hr2:S.pos+(560*es.length+10000)≤S.max:=Nat.le_trans (Nat.le_of_eq (Nat.add_assoc _ _ _).symm) hroom
 unfold AEW
 refine M3 p fun wv h p=>?_
 have p:BM wb ad S0 (wvR wv wb+x) h:=p
 refine M3 p fun dv h p=>?_
 have p:BM wb ad S0 (dvR dv (ad c)+(wvR wv wb+x)) h:=p
 simp only[go_sem,A4 p,Value.cells]
 refine ND _ _ _ (Jq p fin fun h p=>?_)
 simp only[go_sem,A4 p]
 refine Vx _ _ _ _ _ _ (Uo (n:=9223372036854775807) p d.cur fun h p=>?_)
 refine DG p HL rfl fun lb h p=>?_
 refine DD p ⟨[.int .i64 ((4096:Nat):Int)]⟩ rfl rfl (by simp) rfl fun h p=>?_
 refine DG p AAi rfl fun fv h p=>?_
 refine DD p ⟨[.func (.func 200) #[] #[Pt lb,Pt wv]]⟩ rfl rfl (by simp) rfl fun h p=>?_
 simp only[go_sem,A4 p]
 have p:BM wb ad {S with cur:=some c,dw:=0,dm:=9223372036854775807} (lbR lb 4096+(wvR wv wb+(fvR fv lb wv+(dvR dv (ad c)+x)))) h:=p.cast (by unfold lbR wvR fvR dvR;ac_rfl)
 obtain⟨nd,rr,hnd,hnum,w,_⟩:=DM p d.c1 d.nd
 have wl:AN (pts (ad c) (.cells nd.cells 197 (0,0))+(nd.dr+(nd.xr+nd.kr ad))+(rr+(lbR lb 4096+(wvR wv wb+(fvR fv lb wv+(dvR dv (ad c)+x)))))) h:=w.cast (by unfold Nd.res;rw[hnum])
 rw[AF wl]
 simp only[go_sem,hnum]
 have hat:FS {S with cur:=some c,dw:=0,dm:=9223372036854775807} c n (560*es.length+10000):=Vc (S:=S) (room:=560*es.length+10000) d.c1 d.nd d.fl hr1 hr2
 obtain⟨hm,hc4,_⟩:=IN p d.c1 d.nd
 obtain⟨hmp,hp4,_⟩:=IN p d.pp1 d.pnd
 have hs1:(Value.string ⟨#[46]⟩)=str [46]:=rfl
 have hs2:(Value.string ⟨#[46,46]⟩)=str [46,46]:=rfl
 rw[hs1,hs2]
 refine IF (l:=[.int .u32 (c:Nat),str [46],Pt lb,Pt fv,Pt wv]) rfl (by kernel_rfl) (Mn _ _ _ _ _ _ _ (AC5 (x:=dvR dv (ad c)+x) p hat d.c1 d.nd hm (by decide) (by decide) hc4 (by omega) (by omega) (by omega) d.B fun h p=>?_))
 obtain⟨a1,a2,a3⟩:=Mt (left:=4096) (c:=c) (ft:=EG n.mode) (nm:=[46]) (by omega) (by omega) (by decide)
 have p:BM wb ad (S.dirOpen c (Dk 4096 c (EG n.mode) [46]).2) (lbR lb (Dk 4096 c (EG n.mode) [46]).1+(wvR wv wb+(fvR fv lb wv+(dvR dv (ad c)+x)))) h:=p
 simp only[go_sem]
 obtain⟨nd,rr,hnd,hnum,w,_⟩:=DM p d.pp1 d.pnd
 have wl:AN (pts (ad pp) (.cells nd.cells 197 (0,0))+(nd.dr+(nd.xr+nd.kr ad))+(rr+(lbR lb (Dk 4096 c (EG n.mode) [46]).1+(wvR wv wb+(fvR fv lb wv+(dvR dv (ad c)+x)))))) h:=w.cast (by unfold Nd.res;rw[hnum])
 rw[AF wl]
 simp only[go_sem,hnum]
 have hat2:FS (S.dirOpen c (Dk 4096 c (EG n.mode) [46]).2) c n (560*es.length+9000):=KP d.c1 d.nd d.fl (by omega) (by omega)
 have hB2:(S.dirOpen c (Dk 4096 c (EG n.mode) [46]).2).B.length≤(S.dirOpen c (Dk 4096 c (EG n.mode) [46]).2).pos:=NN (S:={S with cur:=some c,dw:=0,dm:=9223372036854775807}) d.B
 refine IF (l:=[.int .u32 (pp:Nat),str [46,46],Pt lb,Pt fv,Pt wv]) rfl (by kernel_rfl) (Mn _ _ _ _ _ _ _ (AC5 (x:=dvR dv (ad c)+x) p hat2 d.pp1 d.pnd hmp (by decide) (by decide) hp4 a1 a2 (by omega) hB2 fun h p=>?_))
 rw[GX d.B] at p
 obtain⟨b1,b2,b3⟩:=Mt (left:=(Dk 4096 c (EG n.mode) [46]).1) (c:=pp) (ft:=EG np.mode) (nm:=[46,46]) a1 a2 (by decide)
 obtain⟨l1,hl1⟩:∃ l1,l1=(Dk (Dk 4096 c (EG n.mode) [46]).1 pp (EG np.mode) [46,46]).1:=⟨_,rfl⟩
 obtain⟨pre,hpre⟩:∃ pre,pre=(Dk 4096 c (EG n.mode) [46]).2++(Dk (Dk 4096 c (EG n.mode) [46]).1 pp (EG np.mode) [46,46]).2:=⟨_,rfl⟩
 have hbs:pre++((BZ l1 (srt.map (FX S.M es))).2++HC (BZ l1 (srt.map (FX S.M es))).1)=Bg (Cf S.M c pp es srt):=by
  have hmc:modeAt S.M c=n.mode:=by unfold modeAt;rw[d.nd]
  have hmp:modeAt S.M pp=np.mode:=by unfold modeAt;rw[d.pnd]
  unfold Bg Cf
  rw[hmc,hmp,BZ,BZ]
  simp only
  rw[←hl1,hpre]
  simp only[List.append_assoc]
 rw[←hl1] at b1 b2 p
 rw[←hpre] at p
 have hprel:pre.length≤1104:=by rw[hpre,List.length_append];omega
 simp only[go_sem]
 exact AGv d hfew p b1 b2 hprel hbs K
end
section
variable {h:H} {k:Value→Prop} {kt Q:Kt} {x y r:Res} {wb:Nat} {S S':PS} {ad:Nat→Nat}
def Um (R:PS→Nat→Nat→PS→Prop)(c:Nat)(es:List (Bs×Nat)):PS→List Bs→PS→Prop
 | S,[],S'=>S'=S
 | S,nm::l,S'=>∃ n k nk,S.M[c-1]? = some (some n)∧n.kids=some es∧lookE es nm=some k∧1≤k∧S.M[k-1]? = some (some nk)∧(if kindB nk.mode=16384 then ∃ S1,R S k c S1∧Um R c es S1 l S' else Um R c es S l S')
def RecD:Nat→PS→Nat→Nat→PS→Prop
 | 0,_,_,_,_=>False
 | f+1,S0,c,pp,S'=>∃ S n np es srt,Fin S0 S∧F0 S c pp n np es srt∧Um (RecD f) c es (S.dirDone c n (Bg (Cf S.M c pp es srt))) srt S'
theorem N9 {c:Nat}{n:PN}{bs:Bs}{i:Nat}{m:PN}(h:S.M[i]? = some (some m)):∃ m',(S.dirDone c n bs).M[i]? = some (some m'):=by
 show ∃ m',(S.M.set (c-1) (some {n with size:=bs.length}))[i]? = some (some m')
 have hl:=(List.getElem?_eq_some_iff.1 h).1
 rw[List.getElem?_set]
 by_cases hc:c-1=i
 ·subst hc;rw[if_pos rfl,if_pos hl];exact⟨_,rfl⟩
 ·rw[if_neg hc];exact⟨m,h⟩
set_option maxRecDepth 20000 in
theorem ACb {f dv c:Nat}{es:List (Bs×Nat)}{srt:List Bs}{v:Value}{S0 S':PS}
  (ih:∀ (S0:PS) (c pp:Nat) (S':PS) (x:Res) (h:H) (Q:Kt),RecD f S0 c pp S'→BM wb ad S0 x h→(∀ h,BM wb ad S' x h→Q .nilIface h)→ZJ (Pt wb) (Pt (ad c)) (Pt (ad pp)) h Q)
  (d:Vec 9 1 v srt.length (strs srt) r) (hc1:1≤c) (hfew:srt.length≤10000) (p:BM wb ad S0 (r+(dvR dv (ad c)+x)) h) (hr:Um (RecD f) c es S0 srt S') (K:∀ h,BM wb ad S' x h→Q .nilIface h) :
  RI Q (Pt wb) (Pt dv) v (.int .i64 (srt.length:Nat)) (.int .i64 ((0:Nat):Int)) h:=by
 unfold RI
 refine Ba (fun m u h'=>∃ (i:Nat) (S:PS),m=srt.length-i∧i≤srt.length∧u=.int .i64 (i:Nat)∧Um (RecD f) c es S (srt.drop i) S'∧BM wb ad S (r+(dvR dv (ad c)+x)) h') srt.length ⟨0,S0,rfl,Nat.zero_le _,rfl,by rw[List.drop_zero];exact hr,p⟩ ?_
 rintro rec m u h' ⟨i,S,rfl,hi,rfl,hr,p⟩ hrec
 unfold Rt
 simp (disch:=omega) only[go_sem]
 refine AX (fun hlt=>?_) (fun hge=>?_)
 ·have hlt':i<srt.length:=by omega
  have gi:srt[i]? = some srt[i]:=List.getElem?_eq_getElem hlt'
  have hd:srt.drop i=srt[i]::srt.drop (i+1):=List.drop_eq_getElem_cons hlt'
  rw[hd] at hr
  obtain⟨n,k,nk,hn,hkids,hk,hk1,hnk,hr⟩:=hr
  refine Dw p d (Gf gi) ?_
  obtain⟨nd,rr,hnd,hnum,w,_⟩:=DM p hc1 hn
  obtain⟨mb,hdir⟩:∃ mb,nd.dir=some (mb,es):=by
   have:nd.dir.map (·.2)=some es:=by rw[←hkids,←hnd];rfl
   rw[Option.map_eq_some_iff] at this
   obtain⟨⟨mb,es'⟩,e1,e2⟩:=this
   cases e2
   exact⟨mb,e1⟩
  have wl:AN (pts (ad c) (.cells nd.cells 197 (0,0))+(nd.dr+(nd.xr+nd.kr ad))+(rr+(r+(dvR dv (ad c)+x)))) h':=w.cast (by unfold Nd.res;rw[hnum])
  rw[A4 p]
  simp only[go_sem]
  rw[AF wl]
  simp only[go_sem]
  refine EJ w ?_
  simp only[hdir,hk]
  obtain⟨ndk,rk,hpk,hnumk,wk,_⟩:=DM p hk1 hnk
  have wk':AN (pts (ad k) (.cells ndk.cells 197 (0,0))+(ndk.dr+(ndk.xr+ndk.kr ad))+(rk+(r+(dvR dv (ad c)+x)))) h':=wk.cast (by unfold Nd.res;rw[hnumk])
  obtain⟨hm,_,_⟩:=IN p hk1 hnk
  have hmk:ndk.mode=nk.mode:=by rw[←hpk];rfl
  refine Pz _ _ _ (s93 wk' (by rw[hmk];exact hm) ?_)
  rw[hmk]
  by_cases hdk:kindB nk.mode=16384
  ·rw[if_pos hdk] at hr
   obtain⟨S1,h1,h2⟩:=hr
   rw[decide_eq_true hdk]
   simp only[go_sem,A4 p]
   refine SZ _ _ _ _ _ (ih S k c S1 _ _ _ h1 p fun h p=>?_)
   simp (disch:=omega) only[go_sem]
   exact hrec _ _ _ ⟨i+1,S1,rfl,by omega,rfl,h2,p⟩ (by omega)
  ·rw[if_neg hdk] at hr
   rw[decide_eq_false hdk]
   simp (disch:=omega) only[go_sem]
   exact hrec _ _ _ ⟨i+1,S,rfl,by omega,rfl,hr,p⟩ (by omega)
 ·have hi':i=srt.length:=by omega
  rw[hi',List.drop_length] at hr
  have hr:S'=S:=hr
  subst hr
  exact K _ (BM.mono (y:=r+dvR dv (ad c)) (p.cast (by ac_rfl)))
set_option maxRecDepth 20000 in
theorem AFV:∀ (f:Nat) (S0:PS) (c pp:Nat) (S':PS) (x:Res) (h:H) (Q:Kt),RecD f S0 c pp S'→BM wb ad S0 x h→(∀ h,BM wb ad S' x h→Q .nilIface h)→ZJ (Pt wb) (Pt (ad c)) (Pt (ad pp)) h Q
 | 0,_,_,_,_,_,_,_,hr,_,_=>hr.elim
 | f+1,S0,c,pp,S',x,h,Q,hr,p,K=>by
  obtain⟨S,n,np,es,srt,fin,d,hl⟩:=hr
  have hfew:=d.few
  unfold ZJ
  refine M3 p fun dv h p=>?_
  have p:BM wb ad S0 (dvR dv (ad c)+x) h:=p
  rw[A4 p]
  simp only[go_sem]
  refine AAa _ _ _ _ _ (AHq d p fin fun h p=>?_)
  simp only[go_sem]
  refine DG p XJ rfl fun cv h p=>?_
  simp only[go_sem,A4 p]
  obtain⟨n',hn'⟩:∃ n',n'=({n with size:=(Bg (Cf S.M c pp es srt)).length}:PN):=⟨_,rfl⟩
  have hnd':(S.dirDone c n (Bg (Cf S.M c pp es srt))).M[c-1]? = some (some n'):=by
   show (S.M.set (c-1) (some _))[c-1]? = _
   rw[List.getElem?_set_self (List.getElem?_eq_some_iff.1 d.nd).1,hn']
  have hk':n'.kids=some es:=by rw[hn'];exact d.kids
  have hkin:KidsIn (S.dirDone c n (Bg (Cf S.M c pp es srt))) es:=fun e he=>by
   obtain⟨h1,m,hm⟩:=d.kin e he
   exact⟨h1,N9 hm⟩
  have p:BM wb ad (S.dirDone c n (Bg (Cf S.M c pp es srt))) (cvR cv (.slice none 0 0)+(dvR dv (ad c)+x)) h:=p
  obtain⟨nd,rr,hnd,hnum,w,cl⟩:=DM p d.c1 hnd'
  obtain⟨mb,hdir⟩:∃ mb,nd.dir=some (mb,es):=by
   have:nd.dir.map (·.2)=some es:=by rw[←hk',←hnd];rfl
   rw[Option.map_eq_some_iff] at this
   obtain⟨⟨mb,es'⟩,e1,e2⟩:=this
   cases e2
   exact⟨mb,e1⟩
  have hkr:nd.kr ad=pts mb (CP ad es):=by unfold Nd.kr;rw[hdir]
  have hkv:nd.kids=.map (some mb):=by unfold Nd.kids;rw[hdir];rfl
  have k1:∀ A B D1 D2 R V W X:Res,A+(D1+(D2+B))+(R+(V+(W+X)))=A+(B+(D1+D2+R+(V+(W+X)))):=by intros;ac_rfl
  have wl:AN (pts (ad c) (.cells nd.cells 197 (0,0))+(pts mb (CP ad es)+(nd.dr+nd.xr+rr+(cvR cv (.slice none 0 0)+(dvR dv (ad c)+x))))) h:=w.cast (by unfold Nd.res;rw[hnum,hkr];exact k1 _ _ _ _ _ _ _ _)
  rw[AF wl]
  simp only[go_sem]
  rw[hkv]
  refine Ir (m:=mb) wl fun ib h w=>?_
  have k2:∀ I A B Y V W X:Res,I+(A+(B+(Y+(V+(W+X)))))=B+(I+(V+(A+(Y+(W+X))))):=by intros;ac_rfl
  unfold Vm Qu
  refine Wz (E:=Rs Q (Pt wb) (Pt dv) (Pt cv) (.func (.func 167) #[] #[Pt dv,Pt cv]) (.int .i64 1)) (ib:=ib) (cv:=cv) (ad:=ad) (es:=es) (x:=pts (ad c) (.cells nd.cells 197 (0,0))+(nd.dr+nd.xr+rr+(dvR dv (ad c)+x))) (by omega) (w.cast (k2 _ _ _ _ _ _ _)) fun l v r h hperm dvec w=>?_
  have k3:∀ A B D1 D2 R0 R V W X:Res,B+(R+(V+(A+(D1+D2+R0+(W+X)))))=A+(D1+(D2+B))+(R0+(R+(W+(V+X)))):=by intros;ac_rfl
  have p:BM wb ad (S.dirDone c n (Bg (Cf S.M c pp es srt))) (r+(dvR dv (ad c)+(cvR cv v+x))) h:=cl _ _ (w.cast (by unfold Nd.res;rw[hnum,hkr];exact k3 _ _ _ _ _ _ _ _ _))
  have hll:l.length=es.length:=by have:=hperm.length_eq;simpa using this
  rw[←hll] at dvec
  unfold Rs Q7 Wi Rf Q8
  refine MJ (F:=167) (c:=c) (es:=es) p dvec (by omega) (fun a ha=>d.known a (hperm.mem_iff.1 ha)) (by kernel_rfl) (fun i j l' r Q h a b p dv hi hj ha hb K=>Yc _ _ _ _ _ _ (AHs p dv d.c1 hnd' hk' hkin hi hj ha hb K)) fun r h dvec p=>?_
  rw[d.srt l hperm] at dvec
  have hsl:srt.length=l.length:=by have:=d.sperm.length_eq;simp at this;omega
  rw[←hsl] at dvec
  simp only[go_sem,A4 p]
  obtain⟨⟨va,vc,hv⟩,_⟩:=dvec.len
  rw[hv]
  simp only[go_sem]
  rw[←hv]
  refine ACb (x:=cvR cv v+x) (AFV f) dvec d.c1 (by omega) p hl fun h p=>K h (BM.mono (y:=cvR cv v) (p.cast (Res.comm _ _)))
end
end Go.Proofs.YtollddkkdgoonaaGreatDoor
