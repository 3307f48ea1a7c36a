/- A part of a proof over images that are written and read. No condition; a step. -/
import Derived.Test.YtollddkkdgoonaaGreatDoorM25
namespace Go.Proofs.YtollddkkdgoonaaGreatDoor
open Go
set_option linter.unusedVariables false
set_option linter.unusedSimpArgs false
set_option maxRecDepth 100000
section
variable {h:H} {k:Value→Prop} {kt Q:Kt} {x y z r:Res}
attribute [local irreducible] AK Az AQ BB Ae AY AH AM PIt.cells
def elF:Bs→Bs→List Bs
 | [],cur=>if cur=[] then [] else [cur]
 | b::l,cur=>if b=47 then (if cur=[] then [] else [cur])++elF l [] else elF l (cur++[b])
def AJQ (st:List Bs):Bs:=st.flatMap fun e=>47::e
theorem AKM:∀ (e l cur:Bs),(47:UInt8)∉e→elF (e++l) cur=elF l (cur++e)
 | [],l,cur,_=>by simp
 | b::e,l,cur,h=>by
  have hb:b≠47:=fun e=>h (by rw[e];exact A13 ..)
  rw[A82,elF,A05 hb,AKM e l _ fun hm=>h (A16 _ hm),A12];rfl
theorem AJ0:∀ (st:List Bs) (cur:Bs),(∀ e∈st,e≠[]∧(47:UInt8)∉e)→elF (AJQ st) cur=(if cur=[] then [] else [cur])++st
 | [],cur,_=>by rw[A22];rfl
 | e::st,cur,h=>by
  obtain⟨h1,h2⟩:=h e (A13 ..)
  have e1:AJQ (e::st)=47::(e++AJQ st):=by unfold AJQ;rw[A37,A82]
  rw[e1,elF,A03 rfl,AKM e _ _ h2,A34,AJ0 st e fun x hx=>h x (A16 _ hx),A05 h1];rfl
theorem AJV (l:List Bs)(a:Bs):strs (l++[a])=strs l++[str a]:=by unfold strs;rw[A36];rfl
theorem s29 {p:Bs}(hp:p.length≤1000000)(w:AN x h)(K:∀ v r y h,Vec 9 1 v (elF p []).length (strs (elF p [])) r→AN (r+(y+x)) h→Q v h):f29 (str p) h Q:=by
 unfold f29
 refine Dg w Ho fun u0 r0 h a w=>?_
 unfold AKl
 refine MA (fun mm u0 u1 u2 h'=>∃ i f out r y,mm+i=p.length+1∧u1=.int .i64 (f:Nat)∧u2=.int .i64 (i:Nat)∧Vec 9 1 u0 out.length (strs out) r∧out.length≤i∧f≤i∧(i≤p.length∧out++elF (p.drop i) ((p.take i).drop f)=elF p []∨i=p.length+1∧out=elF p [])∧AN (r+(y+x)) h') (p.length+1)
  ⟨0,0,[],r0,0,rfl,rfl,rfl,a,A07 _,A07 _,.inl ⟨A39 _,by simp⟩,w.cast (by rw[Res.zero_add])⟩ ?_
 rintro rec mm u0 u1 u2 h' ⟨i,f,out,r,y,hi,rfl,rfl,a,hol,hfi,hst,w⟩ hrec
 unfold AJ7 Ucm Ucf
 rw[AGz,BW]
 refine AX (fun hc=>?_) (fun hc=>?_)
 ·have hil:i≤p.length:=by omega
  obtain⟨_,heq⟩:i≤p.length∧out++elF (p.drop i) ((p.take i).drop f)=elF p []:=by
   rcases hst with h|h
   ·exact h
   ·omega
  have hcl:((p.take i).drop f).length=i-f:=by rw[A27,A20];omega
  have tr:∀ rest:List Bs,out++((if (p.take i).drop f=[] then [] else [(p.take i).drop f])++rest)=elF p []→(i+1≤p.length∧rest=elF (p.drop (i+1)) []∨i=p.length∧rest=[])→AJY Q rec (str p) u0 (.int .i64 (f:Nat)) (.int .i64 (i:Nat)) (.bool true) h':=fun rest h1 h2=>by
   have fin:∀ (out':List Bs) u0 r h,Vec 9 1 u0 out'.length (strs out') r→out'.length≤i+1→out'=out++(if (p.take i).drop f=[] then [] else [(p.take i).drop f])→AN (r+(y+x)) h→rec u0 (.int .i64 (i+1:Nat)) (.int .i64 (i+1:Nat)) h:=fun out' u0 r h a hl ho w=>by
    refine hrec (mm-1) _ _ _ _ ⟨i+1,i+1,out',r,y,by omega,rfl,rfl,a,hl,A07 _,?_,w⟩ (by omega)
    rw[←A12,←ho] at h1
    rcases h2 with⟨h2,h3⟩|⟨h2,h3⟩
    ·refine .inl ⟨h2,?_⟩
     have e0:(p.take (i+1)).drop (i+1)=[]:=List.drop_of_length_le (by rw[A20];omega)
     rw[e0,←h3]
     exact h1
    ·refine .inr ⟨by omega,?_⟩
     rw[h3,A22] at h1
     exact h1
   unfold AJY Ucm
   rw[Ak,Ao]
   refine AX (fun hgt=>?_) (fun hgt=>?_)
   ·have hne:(p.take i).drop f≠[]:=fun e=>by rw[e] at hcl;simp at hcl;omega
    rw[A05 hne] at fin
    rw[Z9 (by omega) hil]
    refine EY a w Ho rfl rfl rfl (by omega) (by omega) fun u0 r h a w=>?_
    rw[BN (n:=1),Ci (by omega),BN (n:=1),Ci (by omega)]
    exact fin (out++[(p.take i).drop f]) u0 r h (by rw[AJV,A01];exact a) (by rw[A01];simp;omega) rfl w
   ·have hne:(p.take i).drop f=[]:=List.eq_nil_of_length_eq_zero (by omega)
    rw[A03 hne,A22] at fin
    rw[BN (n:=1),Ci (by omega),BN (n:=1),Ci (by omega)]
    exact fin out u0 r h' a (by omega) rfl w
  rw[AGz,Aa]
  by_cases he:i=p.length
  ·rw[A04 (by omega),PD]
   refine tr [] ?_ (.inr ⟨he,rfl⟩)
   rw[List.drop_of_length_le (by omega)] at heq
   rw[A22];exact heq
  ·rw[A08 (by omega),Cr]
   have hlt:i<p.length:=by omega
   obtain⟨c,hcb⟩:∃ c,p[i]? = some c:=⟨_,A00 hlt⟩
   have hc2:p[i]=c:=by rw[A00 hlt] at hcb;exact A14 hcb
   rw[A50 hlt,hc2,elF] at heq
   have f1:∀ k:Value→Prop,AD .eql (bc c) (.int .u8 47) k=k (.bool (decide (c=47))):=fun k=>by
    show AD .eql (.int .u8 (c.toNat:Nat)) (.int .u8 47) k=_
    rw[Aa]
    congr 2
    have:((c.toNat:Nat):Int)=47↔c=47:=by
     constructor
     ·intro h;apply A97.1;show c.toNat=47;omega
     ·intro h;subst h;rfl
    simp[this]
   rw[CD hcb,f1]
   by_cases h47:c=47
   ·rw[A04 h47]
    rw[A03 h47] at heq
    exact tr _ heq (.inl ⟨hlt,rfl⟩)
   ·rw[A08 h47]
    rw[A05 h47] at heq
    unfold AJY Ucm
    rw[AU,BN (n:=1),Ci (by omega)]
    refine hrec (mm-1) _ _ _ _ ⟨i+1,f,out,r,y,by omega,rfl,rfl,a,by omega,by omega,.inl ⟨hlt,?_⟩,w⟩ (by omega)
    rw[A85,hcb,A52 (by rw[A20];omega)]
    exact heq
 ·have:out=elF p []:=by
   rcases hst with h|h
   ·omega
   ·exact h.2
  subst this
  exact K _ _ _ _ a w
def lostP:Bs:=[47,108,111,115,116,43,102,111,117,110,100]
theorem s71 {a:Bs}(K:∀ b:Bool,Q (.bool b) h):f71 (str a) (str lostP) h Q:=by
 have e0:∀ k:Value→Prop,AD .eql (str lostP) (.string ⟨#[47]⟩) k=k (.bool false):=fun k=>by
  rw[show (.string ⟨#[47]⟩:Value)=str [47] from rfl,NZ];rfl
 unfold f71 Ucm Ucg
 rw[e0,AU,AGz,AGz,Ao]
 refine C3 (fun hg=>?_) (fun _=>K false)
 rw[AGz,Pl (by omega),NZ]
 refine C3 (fun _=>?_) (fun _=>K false)
 obtain⟨c,hcb⟩:∃ c,a[lostP.length]? = some c:=⟨_,A00 (by omega)⟩
 rw[AGz,CD hcb]
 show AD .eql (.int .u8 (c.toNat:Nat)) (.int .u8 47) _
 rw[Aa]
 exact K _
end
section
variable {h:H} {k:Value→Prop} {kt Q:Kt} {x y z r:Res}
attribute [local irreducible] AK Az AQ BB Ae AY AH AM PIt.cells
def inD (l:List PIt)(i:Nat)(p:PIt):Bool:=decide (0≤p.up)&&(decide (p.up<(i:Int))&&((l[p.up.toNat]?.map (·.dir)).getD false))
def AJd (ps:List Bs)(p:PIt)(b:Bool):Bs:=(if b then ps.getD p.up.toNat [] else [])++47::p.nm
abbrev pthI (l:List PIt)(ps:List Bs)(i:Nat)(p:PIt):Bs:=AJd ps p (inD l i p)
structure ALU (p:PIt) (ps:List Bs) (path:Bs) (n:Nat):Prop where
 base:p.nm≠[]∧p.nm≠[46]∧p.nm≠[46,46]∧p.nm.length≤255
 sl:(47:UInt8)∉p.nm
 sum:n+p.data.length≤1048576
 lost:path≠lostP
 pl:path.length≤3000
 new:path∉ps
def AKP (rec1:R3)(p:PIt)(ps:List Bs)(path:Bs)(i n:Nat)(x:Res):Prop:=ALU p ps path n→∀ u r y h,Vec 9 1 u (ps.length+1) (strs (ps++[path])) r→AN (r+(y+x)) h→rec1 u (.int .i64 (n+p.data.length:Nat)) (.int .i64 (i+1:Nat)) h
section
variable {v v4 dv x15 x16:Value} {vs:List Value} {l:List PIt} {p:PIt} {ps:List Bs} {path:Bs} {i n b7:Nat} {fit:Bool} {rec1:R3}
theorem AKf (hdv:∃ a c,dv=.slice a p.data.length c)(hnl:p.nm.length≤2000000)(hn:n≤1048576)(hdl:p.data.length≤2000000)(hi:i≤400)(hpl:path.length≤2000000)(hps:ps.length≤400)(a:Vec 9 1 v4 ps.length (strs ps) r)(hfit:fit=true→p.nm≠[]∧p.nm≠[46]∧p.nm≠[46,46]∧p.nm.length≤255)
  (w:AN (pts b7 (.cells ⟨p.cells dv⟩ 149 (0,0))+(r+(y+x))) h) (K0:Q (.tuple #[.slice none 0 0,.bool false]) h) (K1:AKP rec1 p ps path i n x) :
  AJx Q rec1 v v4 (.int .i64 (n:Nat)) (Pt b7) (str path) x15 x16 (.int .i64 (i:Nat)) (.bool fit) (.int .i64 0) h:=by
 obtain⟨da,dc,hdv⟩:=hdv
 unfold AJx
 refine DE (fun mm u0 u1 h'=>h'=h∧∃ j b,mm+j=p.nm.length∧u0=.bool b∧u1=.int .i64 (j:Nat)∧(b=true→fit=true∧(47:UInt8)∉p.nm.take j)) p.nm.length ⟨rfl,0,fit,rfl,rfl,rfl,fun e=>⟨e,by simp⟩⟩ ?_
 rintro rec mm u0 u1 h' ⟨rfl,j,b,hj,rfl,rfl,hb⟩ hrec
 unfold AJ6 Ufl Ucm Ucg Ucf Ucl
 rw[AIq]
 refine AW w PIt.g1 ?_
 rw[AGz,AT]
 refine AX (fun hc=>?_) (fun hc=>?_)
 ·have hjl:j<p.nm.length:=by omega
  obtain⟨c,hcb⟩:∃ c,p.nm[j]? = some c:=⟨_,A00 hjl⟩
  have go:∀ b':Bool,(b'=true→b=true∧c≠47)→AD .add (.int .i64 (j:Nat)) (.int .i64 1) fun x74=>rec (.bool b') x74 h':=fun b' hb'=>by
   rw[BN (n:=1),Ci (by omega)]
   refine hrec (mm-1) _ _ _ ⟨rfl,j+1,b',by omega,rfl,rfl,fun e=>?_⟩ (by omega)
   obtain⟨e1,e2⟩:=hb' e
   obtain⟨e3,e4⟩:=hb e1
   refine⟨e3,?_⟩
   rw[A85,hcb,A88]
   rintro (h1|h1)
   ·exact e4 h1
   ·simp at h1
    exact e2 h1.symm
  cases b with
  | false=>rw[SR];exact go false (by simp)
  | true=>
   have f1:∀ k:Value→Prop,AD .neq (bc c) (.int .u8 47) k=k (.bool (decide (c≠47))):=fun k=>by
    show AD .neq (.int .u8 (c.toNat:Nat)) (.int .u8 47) k=_
    rw[A3]
    congr 2
    have:((c.toNat:Nat):Int)=47↔c=47:=by
     constructor
     ·intro h;apply A97.1;show c.toNat=47;omega
     ·intro h;subst h;rfl
    simp[this]
   rw[Cq,AIq]
   refine AW w PIt.g1 ?_
   rw[CD hcb,f1]
   refine C3 (fun h47=>?_) (fun _=>go false (by simp))
   rw[AIq]
   refine AW w PIt.g1 ?_
   rw[CD hcb]
   show AD .neq (.int .u8 (c.toNat:Nat)) (.int .u8 0) _
   rw[A3]
   exact go _ fun _=>⟨rfl,h47⟩
 ·have hjn:p.nm.take j=p.nm:=A43 (by omega)
  rw[hjn] at hb
  rw[AIq]
  refine AW w PIt.g4 ?_
  rw[hdv,Aw,AI5,Ci (by omega),F1]
  cases b with
  | false=>rw[B44,PD];exact K0
  | true=>
   obtain⟨h1,h2⟩:=hb rfl
   have eL:∀ k:Value→Prop,AD .eql (str path) (.string ⟨#[47,108,111,115,116,43,102,111,117,110,100]⟩) k=k (.bool (decide (path=lostP))):=fun k=>NZ
   rw[A91,Cr,Ao]
   refine J2 (fun g1=>?_) (fun _=>K0)
   rw[eL]
   refine J2 (fun g2=>?_) (fun _=>K0)
   rw[AGz,Ao]
   refine J2 (fun g3=>?_) (fun _=>K0)
   refine AKs (s49 (l:=ps) a.rdv.addL.addR (by omega) w ?_)
   refine AX (fun _=>K0) (fun g4=>?_)
   refine AKw (s71 fun b=>?_)
   cases b with
   | true=>rw[Ak];exact K0
   | false=>
    rw[AU]
    refine EY a (w.cast (Kq3 _ _ _ _)) Ho rfl rfl rfl (by omega) (by omega) fun u r h a w=>?_
    rw[BN (n:=1),Ci (by omega)]
    exact K1 ⟨hfit h1,h2,by omega,g2,by omega,g4⟩ u r _ h (by rw[AJV];exact a) w
theorem AK1 {b:Bool}(hb:b=true→∃ j:Nat,p.up=(j:Int)∧j<ps.length)(hpb:∀ q∈ps,q.length≤3000)(hdv:∃ a c,dv=.slice a p.data.length c)(hnl:p.nm.length≤1100000)(hn:n≤1048576)(hdl:p.data.length≤2000000)(hi:i≤400)(hps:ps.length≤400)(a:Vec 9 1 v4 ps.length (strs ps) r)
  (hfit:fit=true→p.nm≠[]∧p.nm≠[46]∧p.nm≠[46,46]∧p.nm.length≤255) (w:AN (pts b7 (.cells ⟨p.cells dv⟩ 149 (0,0))+(r+(y+x))) h) (K0:Q (.tuple #[.slice none 0 0,.bool false]) h) (K1:AKP rec1 p ps (AJd ps p b) i n x) :
  AJK Q rec1 v v4 (.int .i64 (n:Nat)) (Pt b7) (str (47::p.nm)) (.bool fit) x15 x16 (.int .i64 (i:Nat)) (.bool b) h:=by
 unfold AJd at K1
 unfold AJK Ufl Uil
 cases b with
 | false=>
  rw[AU]
  exact AKf hdv (by omega) hn hdl hi (by rw[A19];omega) hps a hfit w K0 K1
 | true=>
  obtain⟨j,hj,hjl⟩:=hb rfl
  obtain⟨q,hq⟩:∃ q,ps[j]? = some q:=⟨_,A00 hjl⟩
  have hql:=hpb q (A28 hq)
  rw[hj,A77,A03 rfl,A10,hq,B52] at K1
  rw[Ak,AIq]
  refine AW w PIt.g0 ?_
  rw[hj]
  refine (a.rdv.addL.addR:RdV 1 v4 ps.length (strs ps) _).get w (NX hq) ?_
  rw[H9 (by rw[A19];omega)]
  exact AKf hdv (by omega) hn hdl hi (by rw[A01,A19];omega) hps a hfit w K0 K1
theorem AI7.cell {j o:Nat}{q:PIt}{u:Value}(pv:AI7 x vs l)(hq:l[j]? = some q)(ho:o<5)(hu:∀ dv,(⟨q.cells dv⟩:Array Value)[o]? = some u):vs[j*5+o]? = some u:=by
 obtain⟨dv,h1,_⟩:=pv j q hq
 have h2:=hu dv
 rw[←h1] at h2
 have h3:((vs.drop (j*5)).take 5)[o]? = some u:=by simpa using h2
 rw[A41,A03 ho,A53] at h3
 exact h3
theorem AK2 (d:RdV 5 v l.length vs x)(pv:AI7 x vs l)(hil:i<l.length)(hpi:ps.length=i)(hpb:∀ q∈ps,q.length≤3000)(hdv:∃ a c,dv=.slice a p.data.length c)(hnl:p.nm.length≤1100000)(hn:n≤1048576)(hdl:p.data.length≤2000000)(hi:i≤400)(a:Vec 9 1 v4 ps.length (strs ps) r)
  (hfit:fit=true→p.nm≠[]∧p.nm≠[46]∧p.nm≠[46,46]∧p.nm.length≤255) (w:AN (pts b7 (.cells ⟨p.cells dv⟩ 149 (0,0))+(r+(y+x))) h) (K0:Q (.tuple #[.slice none 0 0,.bool false]) h) (K1:AKP rec1 p ps (pthI l ps i p) i n x) :
  AJG Q rec1 v v4 (.int .i64 (n:Nat)) (.int .i64 (i:Nat)) (Pt b7) (str (47::p.nm)) (.bool fit) x15 x16 (.int .i64 (i:Nat)) h:=by
 have go:∀ b,inD l i p=b→AJK Q rec1 v v4 (.int .i64 (n:Nat)) (Pt b7) (str (47::p.nm)) (.bool fit) x15 x16 (.int .i64 (i:Nat)) (.bool b) h:=fun b e=>by
  unfold pthI at K1
  rw[e] at K1
  refine AK1 (fun hb=>?_) hpb hdv hnl hn hdl hi (by omega) a hfit w K0 K1
  rw[hb] at e
  unfold inD at e
  simp only[A42,A84] at e
  exact⟨p.up.toNat,by omega,by omega⟩
 unfold inD at go
 unfold AJG Ufl Ucg
 rw[AIq]
 refine AW w PIt.g0 ?_
 rw[BD]
 refine C3 (fun g1=>?_) (fun g1=>go false (by rw[A08 (by omega)];rfl))
 rw[AIq]
 refine AW w PIt.g0 ?_
 rw[AT]
 refine C3 (fun g2=>?_) (fun g2=>go false (by rw[A08 g2];simp))
 obtain⟨j,hj⟩:∃ j:Nat,p.up=(j:Int):=⟨p.up.toNat,by omega⟩
 rw[hj] at g1 g2
 obtain⟨q,hq⟩:∃ q,l[j]? = some q:=⟨_,A00 (by omega)⟩
 rw[AIq]
 refine AW w PIt.g0 ?_
 rw[hj]
 refine (d.addR.addR.addR:RdV 5 v l.length vs _).cell w (by omega) (by omega) (pv.cell hq (by omega) fun dv=>PIt.g2) ?_
 refine go _ ?_
 rw[hj,A04 g1,A04 g2,A77,hq]
 rfl
structure PlnI (l:List PIt) (ps:List Bs) (i:Nat) (p:PIt):Prop where
 base:p.nm≠[]∧p.nm≠[46]∧p.nm≠[46,46]∧p.nm.length≤255
 sl:(47:UInt8)∉p.nm
 path:ps[i]? = some (pthI l ps i p)
 lost:pthI l ps i p≠lostP
 pl:(pthI l ps i p).length≤3000
 new:pthI l ps i p∉ps.take i
theorem AJh {q:Bs}(h:i≤ps.length):pthI l (ps++[q]) i p=pthI l ps i p:=by
 unfold pthI AJd
 cases e:inD l i p with
 | false=>rfl
 | true=>
  unfold inD at e
  simp only[A42,A84] at e
  rw[A03 rfl,A03 rfl,A10,A10,A18 (by omega)]
theorem PlnI.app {q:Bs}(d:PlnI l ps i p):PlnI l (ps++[q]) i p:=by
 have hl:=(A02.1 d.path).1
 have e:pthI l (ps++[q]) i p=pthI l ps i p:=AJh (by omega)
 refine⟨d.base,d.sl,?_,?_,?_,?_⟩
 ·rw[e,A18 hl];exact d.path
 ·rw[e];exact d.lost
 ·rw[e];exact d.pl
 ·rw[e,A24 (by omega)];exact d.new
structure AJE (l:List PIt) (ps:List Bs):Prop where
 len:l.length≤400
 psl:ps.length=l.length
 sum:(l.map fun p=>p.data.length).sum≤1048576
 it:∀ (i:Nat) (p:PIt),l[i]? = some p→PlnI l ps i p
theorem s34 (d:RdV 5 v l.length vs x)(pv:AI7 x vs l)(hb:∀ p∈l,p.nm.length≤1100000∧p.data.length≤2000000)(w:AN x h)(K0:∀ y h,AN (y+x) h→Q (.tuple #[.slice none 0 0,.bool false]) h)
  (K1:∀ ps u r y h,AJE l ps→Vec 9 1 u ps.length (strs ps) r→AN (r+(y+x)) h→Q (.tuple #[u,.bool true]) h):f34 v h Q:=by
 obtain⟨⟨va,vc,hv⟩,_⟩:=d.len
 unfold f34 Ucm
 refine Dg w Ho fun u0 r0 h a w=>?_
 rw[hv,Aw,Ao]
 refine AX (fun _=>K0 r0 h w) (fun h400=>?_)
 rw[Aw,←hv]
 unfold AKb
 refine MA (fun mm u0 u1 u2 h'=>∃ i ps r y,mm+i=l.length∧u1=.int .i64 (((l.take i).map fun p=>p.data.length).sum:Nat)∧u2=.int .i64 (i:Nat)∧((l.take i).map fun p=>p.data.length).sum≤1048576∧ps.length=i∧Vec 9 1 u0 ps.length (strs ps) r∧(∀ (j:Nat) (p:PIt),j<i→l[j]? = some p→PlnI l ps j p)∧AN (r+(y+x)) h') l.length
  ⟨0,[],r0,0,rfl,rfl,rfl,A39 _,rfl,a,fun j p hj=>by omega,w.cast (by rw[Res.zero_add])⟩ ?_
 rintro rec mm u0 u1 u2 h' ⟨i,ps,r,y,hi,rfl,rfl,hsum,hpi,a,hit,w⟩ hrec
 unfold AJ9 Ucm Umk Ufl Ucg
 rw[AT]
 refine AX (fun hc=>?_) (fun hc=>?_)
 ·have hil:i<l.length:=by omega
  obtain⟨p,hp⟩:∃ p,l[i]? = some p:=⟨_,A00 hil⟩
  obtain⟨dv,h1,h2⟩:=pv i p hp
  obtain⟨b1,b2⟩:=hb p (A28 hp)
  obtain⟨da,dc,hdv⟩:=h2.len
  have hpb:∀ q∈ps,q.length≤3000:=fun q hq=>by
   obtain⟨j,hj,e⟩:=B00 hq
   obtain⟨p',hp'⟩:∃ p',l[j]? = some p':=⟨_,A00 (by omega)⟩
   have t:=hit j p' (by omega) hp'
   have t1:=t.path
   rw[A00 hj,e,A26] at t1
   rw[t1];exact t.pl
  refine (d.addR.addR:RdV 5 v l.length vs _).agg w hil ?_
  rw[h1]
  refine Ah w AJH rfl fun b7 h w=>?_
  refine AL w ⟨p.cells dv⟩ (Ar (by rw[A31,PIt.len];exact PIt.len)) (by show (p.cells dv).length=5;exact PIt.len) (by rw[A31,PIt.len];omega) (by rw[hdv];exact PIt.one) fun h w=>?_
  have K0':Q (.tuple #[.slice none 0 0,.bool false]) h:=K0 _ h (w.cast (by
   exact Kq4 _ _ _ _))
  have hse:((l.take (i+1)).map fun p=>p.data.length).sum=((l.take i).map fun p=>p.data.length).sum+p.data.length:=by
   rw[A85,hp,A36,B30];simp
  have K1':AKP rec p ps (pthI l ps i p) i (((l.take i).map fun p=>p.data.length).sum) x:=fun st u r y h a w=>by
   refine hrec (mm-1) _ _ _ _ ⟨i+1,ps++[pthI l ps i p],r,y,by omega,?_,rfl,?_,by rw[A01,hpi];rfl,by rw[A01];exact a,fun j q hj hq=>?_,w⟩ (by omega)
   ·rw[hse]
   ·rw[hse];exact st.sum
   ·by_cases hji:j<i
    ·exact (hit j q hji hq).app
    ·have:j=i:=by omega
     subst this
     rw[hp,A26] at hq
     subst hq
     have e:pthI l (ps++[pthI l ps j p]) j p=pthI l ps j p:=AJh (by omega)
     refine⟨st.base,st.sl,?_,?_,?_,?_⟩
     ·rw[e,A17 (by omega),hpi,A87];rfl
     ·rw[e];exact st.lost
     ·rw[e];exact st.pl
     ·rw[e,A24 (by omega),A43 (by omega)];exact st.new
  have e0:∀ k:Value→Prop,AD .neq (str p.nm) (.string ⟨#[]⟩) k=k (.bool (decide (p.nm≠[]))):=fun k=>Fq
  have e1:∀ k:Value→Prop,AD .neq (str p.nm) (.string ⟨#[46]⟩) k=k (.bool (decide (p.nm≠[46]))):=fun k=>Fq
  have e2:∀ k:Value→Prop,AD .neq (str p.nm) (.string ⟨#[46,46]⟩) k=k (.bool (decide (p.nm≠[46,46]))):=fun k=>Fq
  have e3:∀ k:Value→Prop,AD .add (.string ⟨#[47]⟩) (str p.nm) k=k (str (47::p.nm)):=fun k=>H9 (a:=[47]) (by simp;omega)
  have fl:∀ fit:Bool,(fit=true→p.nm≠[]∧p.nm≠[46]∧p.nm≠[46,46]∧p.nm.length≤255)→AJG Q rec v u0 (.int .i64 (((l.take i).map fun p=>p.data.length).sum:Nat)) (.int .i64 (i:Nat)) (Pt b7) (str (47::p.nm)) (.bool fit) v (.int .i64 (l.length:Nat)) (.int .i64 (i:Nat)) h:=fun fit hf=>
   AK2 d pv hil hpi hpb ⟨da,dc,hdv⟩ b1 hsum b2 (by omega) a hf w K0' K1'
  rw[AIq]
  refine AW w PIt.g1 ?_
  rw[e3,AIq]
  refine AW w PIt.g1 ?_
  rw[e0]
  refine C3 (fun g0=>?_) (fun _=>fl false (by simp))
  rw[AIq]
  refine AW w PIt.g1 ?_
  rw[e1]
  refine C3 (fun g1=>?_) (fun _=>fl false (by simp))
  rw[AIq]
  refine AW w PIt.g1 ?_
  rw[e2]
  refine C3 (fun g2=>?_) (fun _=>fl false (by simp))
  rw[AIq]
  refine AW w PIt.g1 ?_
  rw[AGz,BW]
  refine fl _ fun e=>⟨g0,g1,g2,?_⟩
  have:=of_decide_eq_true e
  omega
 ·have:i=l.length:=by omega
  rw[this,A38] at hsum
  exact K1 ps u0 r y h' ⟨by omega,by omega,hsum,fun j p hp=>hit j p (by have:=(A02.1 hp).1;omega) hp⟩ a w
end
end
section
def AI1 (l:List PIt)(ps:List Bs)(i:Nat)(p:PIt):It:=⟨if inD l i p then 12+p.up.toNat else 2,p.nm,Me (if p.dir then 0 else p.data.length) (umL (ppL p.perm p.dir)),if p.dir then [] else p.data,ps.getD i [],!p.dir⟩
def AIz (l:List PIt)(ps:List Bs):List It:=l.zipIdx.map fun q=>AI1 l ps q.2 q.1
section
variable {l:List PIt} {ps:List Bs}
theorem AI8 (i:Nat):(AIz l ps)[i]? = (l[i]?).map (AI1 l ps i):=by
 unfold AIz
 rw[A21,List.getElem?_zipIdx]
 cases l[i]? with
 | none=>rfl
 | some p=>simp
theorem AI9:(AIz l ps).length=l.length:=by unfold AIz;rw[A25,List.length_zipIdx]
theorem AJn (i:Nat)(p:PIt):(AI1 l ps i p).kd=if p.dir then 16384 else 32768:=by
 obtain⟨_,h2,h3⟩:=AKK p.perm p.dir
 show kindB (modeK (umL (ppL p.perm p.dir)))=_
 rw[h3,h2]
theorem AJz (i:Nat)(p:PIt):(AI1 l ps i p).isD=p.dir:=by
 unfold It.isD
 rw[AJn]
 cases p.dir<;>rfl
theorem AJU:∀ (a:Bs) (r:List Bs),AJQ (a::r)=47::joinL (a::r)
 | a,[]=>by simp[AJQ,joinL]
 | a,b::r=>by
  have:=AJU b r
  rw[joinL,←this];rfl
def stI (ps:List Bs)(i:Nat):List Bs:=elF (ps.getD i []) []
theorem AJc {i:Nat}{p:PIt}(h:inD l i p=true):∃ (j:Nat) (q:PIt),p.up=(j:Int)∧j<i∧l[j]? = some q∧q.dir=true:=by
 unfold inD at h
 simp only[A42,A84] at h
 obtain⟨h1,h2,h3⟩:=h
 cases hq:l[p.up.toNat]? with
 | none=>rw[hq] at h3;simp at h3
 | some q=>rw[hq] at h3;exact⟨p.up.toNat,q,by omega,by omega,hq,h3⟩
theorem AJq (ok:AJE l ps):∀ (i:Nat) (p:PIt),l[i]? = some p→AJQ (stI ps i)=ps.getD i []∧(∀ e∈stI ps i,YC e)∧stI ps i=(if inD l i p then stI ps p.up.toNat else [])++[p.nm]:=by
 intro i
 induction i using Nat.strongRecOn with
 | ind i ih=>
  intro p hp
  have t:=ok.it i p hp
  obtain⟨n1,n2,n3,n4⟩:=t.base
  have hpl:YC p.nm:=⟨n1,n2,n3,t.sl⟩
  have e1:ps.getD i []=pthI l ps i p:=by rw[A10,t.path];rfl
  have main:∀ st:List Bs,(∀ e∈st,YC e)→pthI l ps i p=AJQ st++47::p.nm→AJQ (stI ps i)=ps.getD i []∧(∀ e∈stI ps i,YC e)∧stI ps i=st++[p.nm]:=fun st h1 h2=>by
   have h3:ps.getD i []=AJQ (st++[p.nm]):=by
    rw[e1,h2]
    unfold AJQ
    rw[A73];simp
   have h4:∀ e∈st++[p.nm],YC e:=fun e he=>by
    rcases A88.1 he with h|h
    ·exact h1 e h
    ·rw[A78] at h
     rw[h];exact hpl
   have h5:stI ps i=st++[p.nm]:=by
    unfold stI
    rw[h3,AJ0 _ _ fun e he=>⟨(h4 e he).1,(h4 e he).2.2.2⟩];rfl
   rw[h5,h3]
   exact⟨rfl,h4,rfl⟩
  cases hb:inD l i p with
  | false=>
   refine main [] (by simp) ?_
   unfold pthI AJd
   rw[hb];rfl
  | true=>
   obtain⟨j,q,h1,h2,h3,h4⟩:=AJc hb
   obtain⟨a1,a2,a3⟩:=ih j h2 q h3
   rw[A03 rfl,h1,A77]
   refine main (stI ps j) a2 ?_
   rw[a1]
   unfold pthI AJd
   rw[hb,A03 rfl,h1,A77]
theorem AKV (ok:AJE l ps):∀ (i:Nat) (p:PIt),l[i]? = some p→p.dir=true→∀ m,i<m→Way ((AIz l ps).take m) (12+i) (stI ps i):=by
 intro i
 induction i using Nat.strongRecOn with
 | ind i ih=>
  intro p hp hd m hm
  obtain⟨a1,a2,a3⟩:=AJq ok i p hp
  have hg:((AIz l ps).take m)[i]? = some (AI1 l ps i p):=by rw[A41,A03 hm,AI8,hp];rfl
  have hw:Way ((AIz l ps).take m) (AI1 l ps i p).dir (if inD l i p then stI ps p.up.toNat else [])∧(AI1 l ps i p).dir<12+i:=by
   show Way _ (if inD l i p then 12+p.up.toNat else 2) _∧(if inD l i p then 12+p.up.toNat else 2)<_
   cases hb:inD l i p with
   | false=>exact⟨.root,by show 2<_;omega⟩
   | true=>
    obtain⟨j,q,h1,h2,h3,h4⟩:=AJc hb
    rw[A03 rfl,A03 rfl,h1,A77]
    exact⟨ih j h2 q h3 h4 m (by omega),by omega⟩
  have:=Way.down hg (by rw[AJz];exact hd) hw.2 hw.1
  rw[a3];exact this
theorem AJZ:∀ {l:List PIt} {p:PIt},p∈l→p.data.length≤(l.map fun p=>p.data.length).sum
 | a::l,p,h=>by
  rw[A33,A75]
  rcases A32.1 h with rfl|h
  ·omega
  ·have:=AJZ h;omega
theorem AKF (ok:AJE l ps):A7 (AIz l ps):=by
 intro i it hi
 rw[AI8] at hi
 obtain⟨p,hp,rfl⟩:=A74.1 hi
 obtain⟨a1,a2,a3⟩:=AJq ok i p hp
 have t:=ok.it i p hp
 obtain⟨n1,n2,n3,n4⟩:=t.base
 have e1:ps.getD i []=pthI l ps i p:=by rw[A10,t.path];rfl
 have hs:=ok.sum
 have hd:=AJZ (A28 hp)
 obtain⟨m1,m2,m3⟩:=AKK p.perm p.dir
 refine⟨⟨if inD l i p then stI ps p.up.toNat else [],?_,?_⟩,?_,?_,n4,t.sl,⟨n2,n3⟩,?_,?_,?_,?_,?_,?_⟩
 ·show Way _ (if inD l i p then 12+p.up.toNat else 2) _
  cases hb:inD l i p with
  | false=>exact .root
  | true=>
   obtain⟨j,q,h1,h2,h3,h4⟩:=AJc hb
   rw[A03 rfl,A03 rfl,h1,A77]
   exact AKV ok j q h3 h4 i h2
 ·show cleanR (ps.getD i [])=_++[p.nm]
  rw[←a3,←a1]
  cases hst:stI ps i with
  | nil=>rw[a3] at hst;simp at hst
  | cons a r=>
   rw[AJU,←hst]
   exact (Rv a2).2
 ·show (ps.getD i []).length≤100000
  rw[e1]
  have:=t.pl
  omega
 ·show 1≤p.nm.length
  exact A99.2 n1
 ·intro x0 hx0 hdir hnm
  obtain⟨j,hj,e⟩:=B00 hx0
  rw[A20] at hj
  have hg:((AIz l ps).take i)[j]? = some x0:=by rw[←e];exact A00 _
  rw[A41,A03 (by omega),AI8] at hg
  obtain⟨q,hq,rfl⟩:=A74.1 hg
  have tq:=ok.it j q hq
  have hpe:pthI l ps j q=pthI l ps i p:=by
   have hdir:(if inD l j q then 12+q.up.toNat else 2)=if inD l i p then 12+p.up.toNat else 2:=hdir
   have hnm:q.nm=p.nm:=hnm
   unfold pthI AJd
   rw[hnm]
   congr 1
   cases h1:inD l j q<;>cases h2:inD l i p<;>rw[h1,h2] at hdir
   ·rfl
   ·have hdir:2=12+p.up.toNat:=hdir
    omega
   ·have hdir:12+q.up.toNat=2:=hdir
    omega
   ·have hdir:12+q.up.toNat=12+p.up.toNat:=hdir
    rw[show q.up.toNat=p.up.toNat by omega]
  refine t.new ?_
  rw[←hpe]
  exact List.mem_take_iff_getElem.2 ⟨j,by have:=(A02.1 tq.path).1;omega,by
   have:=tq.path
   rw[A00 (by have:=(A02.1 tq.path).1;omega),A26] at this
   exact this⟩
 ·intro h2 hl
  have h2:(if inD l i p then 12+p.up.toNat else 2)=2:=h2
  have hl:p.nm=lostN:=hl
  have:=t.lost
  unfold pthI AJd at this
  cases hb:inD l i p with
  | false=>
   rw[hb,hl] at this
   exact this rfl
  | true=>rw[hb,A03 rfl] at h2;omega
 ·refine⟨m1,?_,Th,Th,Th,Th,?_⟩
  ·show kindOk (kindB (modeK (umL (ppL p.perm p.dir))))
   rw[m3,m2]
   cases p.dir
   ·exact .inl rfl
   ·exact .inr (.inl rfl)
  ·show (if p.dir then 0 else p.data.length)≤_
   split<;>omega
 ·rw[AJn]
  show if _ then (if p.dir then 0 else p.data.length)=(if p.dir then [] else p.data).length else (if p.dir then [] else p.data)=[]
  cases p.dir<;>rfl
 ·show (if p.dir then [] else p.data).length≤_
  split
  ·exact A39 _
  ·omega
 ·intro hne
  have hne:(if p.dir then [] else p.data)≠[]:=hne
  show (!p.dir)=true
  cases hd2:p.dir with
  | false=>rfl
  | true=>rw[hd2] at hne;exact absurd rfl hne
theorem AK5:∀ it∈AIz l ps,Y6 it:=fun it h=>by
 unfold AIz at h
 obtain⟨q,_,rfl⟩:=A35.1 h
 exact⟨by show 0<_;decide,by show 0<_;decide,by show 0<_;decide,by show 0<_;decide⟩
theorem AKS (ok:AJE l ps):EW (AIz l ps)≤1048576+4095*400:=by
 have h1:=ok.sum
 have h2:=ok.len
 have:∀ (m:List PIt) (k:Nat),((m.zipIdx k).map fun q=>(AI1 l ps q.2 q.1).data.length+4095).sum≤(m.map fun p=>p.data.length).sum+4095*m.length:=by
  intro m
  induction m with
  | nil=>intro k;exact A07 _
  | cons a m ih=>
   intro k
   have:=ih (k+1)
   have ha:(AI1 l ps k a).data.length≤a.data.length:=by
    show (if a.dir then [] else a.data).length≤_
    split
    ·exact A39 _
    ·exact A07 _
   rw[List.zipIdx_cons,A33,A75,A33,A75,A19]
   show (AI1 l ps k a).data.length+4095+_≤_
   omega
 have:=this l 0
 unfold EW AIz
 rw[B05]
 show ((l.zipIdx).map fun q=>(AI1 l ps q.2 q.1).data.length+4095).sum≤_
 omega
theorem FindP.snoc {ts:List TN}{a b c:Nat}{st:List Bs}{t:TN}{nm:Bs}(h:FindP ts a st b)(h1:ts[b]? = some t)(h2:kidL t.ks nm=some c)(h3:kindB t.X.mode=16384):FindP ts a (st++[nm]) c:=by
 induction h with
 | nil=>exact .cons h1 h2 h3 .nil
 | cons g1 g2 g3 _ ih=>exact .cons g1 g2 g3 (ih h1)
theorem AKN {ts:List TN}{ix:Nat→Nat}(ok:AJE l ps)(tx:ABG (AIz l ps) ts ix):∀ (i:Nat) (p:PIt),l[i]? = some p→FindP ts 0 (stI ps i) (ix (12+i)):=by
 intro i
 induction i using Nat.strongRecOn with
 | ind i ih=>
  intro p hp
  obtain⟨a1,a2,a3⟩:=AJq ok i p hp
  have hg:(AIz l ps)[i]? = some (AI1 l ps i p):=by rw[AI8,hp];rfl
  have hf:FindP ts 0 (if inD l i p then stI ps p.up.toNat else []) (ix (AI1 l ps i p).dir)∧dirB (AIz l ps) (AI1 l ps i p).dir=true:=by
   show FindP ts 0 _ (ix (if inD l i p then 12+p.up.toNat else 2))∧dirB _ (if inD l i p then 12+p.up.toNat else 2)=true
   cases hb:inD l i p with
   | false=>
    refine⟨?_,Aj.2 (.inl rfl)⟩
    show FindP ts 0 [] (ix 2)
    rw[tx.root];exact .nil
   | true=>
    obtain⟨j,q,h1,h2,h3,h4⟩:=AJc hb
    rw[A03 rfl,A03 rfl,h1,A77]
    exact⟨ih j h2 q h3,Aj.2 (.inr (.inr ⟨j,_,by rw[AI8,h3];rfl,by rw[AJz];exact h4,rfl⟩))⟩
  have hv:(AI1 l ps i p).dir∈VV (AIz l ps):=by
   rcases Aj.1 hf.2 with h|h|⟨j,it,h1,_,h3⟩
   ·rw[h];exact BE.2 (.inl rfl)
   ·rw[h];exact BE.2 (.inr ⟨A07 _,by omega⟩)
   ·rw[h3]
    have:=(A02.1 h1).1
    exact BE.2 (.inr ⟨by omega,by omega⟩)
  obtain⟨t,ht,nt⟩:=tx.node _ hv
  obtain⟨d1,d2,d3⟩:=nt.dir hf.2
  rw[a3]
  exact hf.1.snoc ht (d3 (p.nm,12+i) (Co.2 (.inr ⟨i,_,hg,rfl,rfl⟩))) d1
end
end
section
variable {h:H} {k:Value→Prop} {kt Q:Kt} {x y z r:Res}
attribute [local irreducible] TN.cells XN.cells VS.cells Op1.cells
attribute [local irreducible] AK Az AQ BB Ae AY AH AM
section
variable {fv:Value} {vs:List Value} {fs:List Bs}
theorem AIY {iv:Value}{cs:List Value}{os:List AA}{b13:Nat}{nsv:Value}{n18:Nat}{ns:List Value}(df:RdV 1 fv fs.length vs x)(ff:Na x vs fs)(hl:fs.length≤60)
  (d:VecX 81 23 iv os.length cs x) (ov:OutV x cs os) (hos:∀ o∈os,o.X.num<12∨∃ j,o.X.num=12+j∧fs[j]? = some o.C) (hn:os.length<1000000) (dn:RdV 18 nsv n18 ns x) (hn18:n18=fs.length+2)
  (w:AN (pts b13 (.cells ⟨[nsv]⟩ 40 (0,0))+x) h) (K:∀ y h,AN (y+x) h→Q (.bool true) h):ACt Q fv (Pt b13) iv (.int .i64 (os.length:Nat)) (.int .i64 0) h:=by
 obtain⟨⟨va,vc,hv⟩,_⟩:=df.len
 obtain⟨⟨na,nc,hnv⟩,_⟩:=dn.len
 unfold ACt
 refine Ba (fun mm u h'=>∃ i y,mm+i=os.length∧u=.int .i64 (i:Nat)∧AN (pts b13 (.cells ⟨[nsv]⟩ 40 (0,0))+(y+x)) h') os.length ⟨0,0,rfl,rfl,w.cast (by rw[Res.zero_add])⟩ ?_
 rintro rec mm u h' ⟨i,y,hi,rfl,w⟩ hrec
 unfold ACf Ucm Umk Ufl Ucg Ucf Uil
 rw[AT]
 refine AX (fun hc=>?_) (fun hc=>?_)
 ·have hil:i<os.length:=by omega
  obtain⟨o,ho⟩:∃ o,os[i]? = some o:=⟨_,A00 hil⟩
  obtain⟨cv,ev,xv,xas,hcs,b,c,dd,f⟩:=ov.get ho
  obtain⟨ca,cc,hcv⟩:=b.len
  obtain⟨⟨ea,ec,hev⟩,_⟩:=c.len
  obtain⟨⟨xa,xc,hxv⟩,_⟩:=dd.len
  have hone:(o.X.cells cv ev xv).all Value.oneCell'=true:=by rw[hcv,hev,hxv];exact XN.one
  refine (d.addR.addR:VecX 81 23 iv os.length cs _).agg w hil ?_
  rw[hcs]
  refine Ah w Cy rfl fun b8 h w=>?_
  refine AL w ⟨o.X.cells cv ev xv⟩ (Ar (by rw[XN.size_];exact XN.len)) XN.size_ (by rw[XN.size_];omega) hone fun h w=>?_
  have w0:=w
  have w:=w.cast (Kq3 _ _ _ _)
  have go:rec (.int .i64 (i+1:Nat)) h:=hrec (mm-1) _ _ ⟨i+1,_,by omega,rfl,w⟩ (by omega)
  rw[AIq]
  refine AW w XN.g0 ?_
  rw[DO]
  rcases hos o (A28 ho) with hlt|⟨j,hj,hfj⟩
  ·have e1:∀ k:Value→Prop,AD .sub (.int .i64 (IntKind.i64.wrap (o.X.num:Nat))) (.int .i64 12) k=k (.int .i64 ((o.X.num:Int)-12)):=fun k=>by
    rw[Ci (by omega),Bv,Ge (by omega) (by omega)]
   have e2:∀ k:Value→Prop,AD .geq (.int .i64 ((o.X.num:Int)-12)) (.int .i64 0) k=k (.bool false):=fun k=>by
    rw[BD,A08 (by omega)]
   rw[e1,e2,SR,BN (n:=1),Ci (by omega)]
   exact go
  ·have hjl:=(A02.1 hfj).1
   have e2:∀ k:Value→Prop,AD .geq (.int .i64 (j:Nat)) (.int .i64 0) k=k (.bool true):=fun k=>by
    rw[BD,A04 (by omega)]
   have e3:∀ k:Value→Prop,AD .geq (.int .i64 (j:Nat)) (.int .i64 (fs.length:Nat)) k=k (.bool false):=fun k=>by
    rw[BD,A08 (by omega)]
   have e4:∀ k:Value→Prop,AD .neq (str o.C) (str o.C) k=k (.bool false):=fun k=>by
    rw[Fq];simp
   obtain⟨fvv,hfv,rd⟩:=ff.2 j o.C hfj
   rw[hj,Ci (by omega),Ra (n:=12) (by show (12:Int)≤_;omega),show 12+j-12=j by omega,Ci (by omega),e2,Cq,hv,Aw,e3,Cr,←hv,AIq]
   refine AW w XN.g18 ?_
   refine b.addR.addR.str w ?_
   refine (df.addR.addR:RdV 1 fv fs.length vs _).get w hfv ?_
   refine rd.addR.addR.str w ?_
   rw[e4,AU,BN (n:=1),Ci (by omega)]
   exact go
 ·have:i=os.length:=by omega
  subst this
  rw[AIq]
  refine AW w (show (⟨[nsv]⟩:Array Value)[0]? = some nsv from rfl) ?_
  have e1:∀ k:Value→Prop,AD .eql (.int .i64 (n18:Nat)) (.int .i64 (fs.length+2:Nat)) k=k (.bool true):=fun k=>by
   rw[Aa,hn18];simp
  rw[hnv,Aw,hv,Aw,BN (n:=2),Ci (by omega),e1]
  exact K _ h' (w.cast (Res.assoc _ _ _).symm)
theorem AHK {vb:Nat}{nsv:Value}{ns:List Value}{ts:List TN}{ix:Nat→Nat}{iv:Value}{cs:List Value}{os:List AA}{b13:Nat}(df:RdV 1 fv fs.length vs x)(ff:Na x vs fs)(hl:fs.length≤60)
  (hvb:∀ (k:Value→Prop) (y:Res) (h:H),AN (pts b13 (.cells ⟨[nsv]⟩ 40 (0,0))+(y+x)) h→k iv→AC 0 (Pt vb) fun p=>AB false 1 p h k)
  (d:VecX 81 23 iv os.length cs x) (ov:OutV x cs os) (hos:∀ o∈os,o.X.num<12∨∃ j,o.X.num=12+j∧fs[j]? = some o.C) (hn:os.length<1000000) (dn:RdV 18 nsv ts.length ns x) (hn18:ts.length=fs.length+2)
  (tv:TreeV x ns ts) (hts:∀ t∈ts,t.X.mode<65536∧t.ks.length<1000000000) (fi:∀ i b,fs[i]? = some b→FindP ts 0 [Cn i] (ix i)∧∃ t,ts[ix i]? = some t∧t.data=b)
  (w:AN (pts b13 (.cells ⟨[nsv]⟩ 40 (0,0))+x) h) (K:∀ y h,AN (y+x) h→Q (.bool true) h):ADH Q fv (Pt vb) (Pt b13) fv (.int .i64 (fs.length:Nat)) (.int .i64 0) h:=by
 obtain⟨⟨va,vc,hv⟩,_⟩:=df.len
 obtain⟨⟨ia,ic,hiv⟩,_⟩:=d.rdv.len
 unfold ADH
 refine Ba (fun mm u h'=>∃ i y,mm+i=fs.length∧u=.int .i64 (i:Nat)∧AN (pts b13 (.cells ⟨[nsv]⟩ 40 (0,0))+(y+x)) h') fs.length ⟨0,0,rfl,rfl,w.cast (by rw[Res.zero_add])⟩ ?_
 rintro rec mm u h' ⟨i,y,hi,rfl,w⟩ hrec
 unfold ABk Ucm Uil Ucl Ufl Unf
 rw[AT]
 refine AX (fun hc=>?_) (fun hc=>?_)
 ·have hil:i<fs.length:=by omega
  obtain⟨b,hb⟩:∃ b,fs[i]? = some b:=⟨_,A00 hil⟩
  obtain⟨v,hv1,rd⟩:=ff.2 i b hb
  obtain⟨fi1,t,ht,hd⟩:=fi i b hb
  obtain⟨dv,nv,kv,q1,q2,q3,q4⟩:=tv.get ht
  refine (df.addR.addR:RdV 1 fv fs.length vs _).get w hv1 ?_
  refine Cj w rfl ?_
  refine Mw (s27 i (by omega) _ _ _ w fun y2 h w=>?_)
  have hnl:=GM 6 i (by omega)
  refine And.intro (Cj w rfl rfl) ?_
  refine G5 w Ho rfl rfl rfl fun b9 h w=>?_
  refine And.intro (Cj w rfl rfl) ?_
  have Tf:RdV 1 (.slice (some ⟨b9,0,none⟩) 1 1) [Cn i].length (strs [Cn i]) (pts b9 (.cells ⟨[str (Cn i)]⟩ 9 (0,0))):=.inr ⟨b9,0,1,[str (Cn i)],9,(0,0),0,rfl,(Res.add_zero _).symm,by show 0+1*1≤1;omega,rfl,A07 _⟩
  have k1:∀ B9 Y2 B13 Y X:Res,B9+(Y2+(B13+(Y+X)))=(B9+(Y2+(B13+Y)))+X:=by intros;ac_rfl
  have w':=w.cast (k1 _ _ _ _ _)
  refine ACJ (s15 dn.addR tv.mono hts Tf.addL.addL (by show 1<_;omega) fi1 w' fun y3 h w=>?_)
  rw[DA,DH,F1,A91,Cr,AIq]
  have k2:∀ Y3 B9 Y2 B13 Y X:Res,Y3+((B9+(Y2+(B13+Y)))+X)=B13+((Y3+(B9+(Y2+Y)))+X):=by intros;ac_rfl
  have w:=w.cast (k2 _ _ _ _ _ _)
  refine AW w (show (⟨[nsv]⟩:Array Value)[0]? = some nsv from rfl) ?_
  have hil2:=(A02.1 ht).1
  have hcell:ns[ix i*18+13]? = some dv:=by
   have:=TN.g13 (t:=t) (dv:=dv) (xv:=.slice none 0 0) (nv:=nv) (kv:=kv)
   rw[←q1] at this
   have h2:((ns.drop (ix i*18)).take 18)[13]? = some dv:=by simpa using this
   rw[A41,A03 (by omega),A53] at h2
   exact h2
  refine (dn.addR.addR:RdV 18 nsv ts.length ns _).cell w hil2 (by omega) hcell ?_
  refine q2.addR.addR.str w ?_
  refine rd.addR.addR.str w ?_
  have e4:∀ k:Value→Prop,AD .neq (str t.data) (str b) k=k (.bool false):=fun k=>by
   rw[Fq,hd];simp
  rw[e4,AU,BN (n:=1),Ci (by omega)]
  exact hrec (mm-1) _ _ ⟨i+1,_,by omega,rfl,w⟩ (by omega)
 ·have:i=fs.length:=by omega
  subst this
  have nf:∀ (k:Value→Prop),(AE (Pt vb) k)=k (Pt vb):=fun k=>by simp only[go_sem]
  rw[nf]
  refine hvb _ y h' w ?_
  rw[hiv,Aw,←hiv]
  refine AIY df.addR ff.addR hl d.addR ov.mono hos hn dn.addR hn18 w fun y2 h w=>?_
  exact K (y2+y) h (w.cast (Res.assoc _ _ _).symm)
end
end
section
variable {h:H} {k:Value→Prop} {kt Q:Kt} {x y z r:Res}
attribute [local irreducible] TN.cells XN.cells VS.cells
attribute [local irreducible] AK Az AQ BB Ae AY AH AM
theorem Xk (l m:List U1):FC (l++m)=FC l++FC m:=by
 unfold FC
 rw[A73]
theorem WZ {sz:Nat}(K:k (.agg ⟨(Me sz 0).cells (.slice none 0 0)⟩)):Ae (.struct [(0,1),(1,1),(2,1),(3,1),(4,1),(5,3),(8,3),(11,3),(14,3),(17,1),(18,1),(19,1)]) (AG TP 28) [(1,.int .i64 (sz:Nat))] k:=
 Au ADo rfl (rs:=(Me sz 0).cells (.slice none 0 0)) rfl K
theorem ACO {nm:Bs}{f:FL}(K:k (.agg ⟨(Op1.create nm f).cells (.slice none 0 0)⟩)):Ae (.struct [(0,1),(1,1),(2,1),(3,20),(23,1)]) (AG TP 32) [(0,.int .i64 0),(1,str nm),(3,.agg ⟨f.cells (.slice none 0 0)⟩)] k:=
 Au Fy rfl (rs:=(Op1.create nm f).cells (.slice none 0 0)) (by kernel_rfl) K
theorem AEK {b:Bs}{v:Value}(hv:v.cells=#[v])(K:k (.agg ⟨(Op1.write b).cells v⟩)):Ae (.struct [(0,1),(1,1),(2,1),(3,20),(23,1)]) (AG TP 32) [(0,.int .i64 1),(4,v)] k:=
 Au Fy rfl (rs:=(Op1.write b).cells v) (by
  have e2:DC (Br (.struct [(0,1),(1,1),(2,1),(3,20),(23,1)])) ((Op1.write b).cells (.slice none 0 0)) [(4,v)]=some ((Op1.write b).cells v):=by
   unfold DC
   simp only[Br,hv]
   rfl
  exact e2) K
attribute [local irreducible] Op1.cells
theorem QJ {fs:List Bs}{b:Bs}(h:b∈fs):b.length≤(fs.map List.length).sum:=by
 induction fs with
 | nil=>simp at h
 | cons a l ih=>
  rw[A33,A75]
  rcases A32.1 h with rfl|h
  ·omega
  ·have:=ih h;omega
theorem YR {fs:List Bs}:EW (Ca fs fs.length)=(fs.map List.length).sum+4095*fs.length:=by
 rw[Sd fs _ (A07 _),A38]
 induction fs with
 | nil=>rfl
 | cons a l ih=>rw[A33,A75,ih,A33,A75,A19];omega
section
variable {fv:Value} {vs:List Value} {fs:List Bs} {inl:Bool}
theorem AH8 {u0:Value}{r0:Res}(df:RdV 1 fv fs.length vs x)(ff:Na x vs fs)(hl:fs.length≤60)(hs:(fs.map List.length).sum≤300000)(g:JX x)(a0:Vec 32 24 u0 0 [] r0)(w:AN (r0+x) h)
  (K:∀ y h,AN (y+x) h→Q (.bool true) h):ADN Q fv (.bool inl) fv (.int .i64 (fs.length:Nat)) u0 (.int .i64 0) h:=by
 have hio:=WC (fs:=fs) (fun b hb=>by have:=QJ hb;omega) fs.length (by omega)
 obtain⟨⟨va,vc,hv⟩,_⟩:=df.len
 unfold ADN
 refine DE (fun mm u0 u1 h'=>∃ i l' r y,mm+i=fs.length∧u1=.int .i64 (i:Nat)∧l'.length=2*i∧Vec 32 24 u0 (2*i) (FC l') r∧l'.map (·.1)=(Ca fs i).flatMap It.ops∧(∀ o∈l',RdX x o.2 o.1.data)∧AN (r+(y+x)) h') fs.length ⟨0,[],r0,0,rfl,rfl,rfl,a0,rfl,by simp,w.cast (by rw[Res.zero_add])⟩ ?_
 rintro rec mm u0 u1 h' ⟨i,l',r,y,hi,rfl,hl',a,hm,hd,w⟩ hrec
 unfold ADF Ucm Uil Ucl Unt Umk
 rw[AT]
 refine AX (fun hc=>?_) (fun hc=>?_)
 ·have hil:i<fs.length:=by omega
  obtain⟨b,hb⟩:∃ b,fs[i]? = some b:=⟨_,A00 hil⟩
  obtain⟨v,hv1,rd⟩:=ff.2 i b hb
  have hbl:=QJ (A28 hb)
  refine (df.addR.addR:RdV 1 fv fs.length vs _).get w hv1 ?_
  refine Mw (s27 i (by omega) _ _ _ w fun y2 h w=>?_)
  have hnl:=GM 6 i (by omega)
  have e1:∀ k:Value→Prop,AD .add (.string ⟨#[47]⟩) (str (Cn i)) k=k (str (47::Cn i)):=fun k=>H9 (a:=[47]) (by simp;omega)
  obtain⟨ca,cc,hbv⟩:=rd.len
  rw[e1,hbv,Aw,←hbv]
  refine WZ ?_
  refine ACO ?_
  refine AEK (b:=b) (by rw[hbv];rfl) ?_
  refine Qi w Fy (by omega) (by omega) (Op1.cells_len _ _) (Op1.cells_len _ _) fun v2 r2 h d2 w=>?_
  have k1:∀ R2 Y2 R Y X:Res,R2+(Y2+(R+(Y+X)))=R+(R2+((Y2+Y)+X)):=by intros;ac_rfl
  have w:=w.cast (k1 _ _ _ _ _)
  refine CA a (d2.addL) w Fy (by show (List.toArray _).size=24;rw[A31,Op1.cells_len]) (by omega) (by omega) (by
   rw[List.all_append,Op1.cells_one _ _ rd.one_,Op1.cells_one _ _ rfl];rfl) fun u0 r h a w=>?_
  rw[BN (n:=1),Ci (by omega)]
  refine hrec (mm-1) _ _ _ ⟨i+1,l'++[(.create (47::Cn i) (Me b.length 0),.slice none 0 0),(.write b,v)],r,_,by omega,rfl,by rw[A01,hl'];simp;omega,?_,?_,?_,w.cast (Kq2 _ _ _ _)⟩ (by omega)
  ·rw[Xk,show 2*(i+1)=2*i+2 by omega]
   have:FC [(.create (47::Cn i) (Me b.length 0),.slice none 0 0),(.write b,v)]=(Op1.create (47::Cn i) (Me b.length 0)).cells (.slice none 0 0)++(Op1.write b).cells v:=by
    unfold FC
    rw[A37,A37,List.flatMap_nil,A22]
   rw[this];exact a
  ·rw[A36,hm,Ca,A73]
   congr 1
   rw[A10,hb]
   rfl
  ·intro p hp
   rcases A88.1 hp with h1|h1
   ·exact hd p h1
   ·simp only[A32,B45,or_false] at h1
    rcases h1 with rfl|rfl
    ·exact .inl ⟨none,0,rfl,rfl⟩
    ·exact rd
 ·have:i=fs.length:=by omega
  subst this
  have hpl:=C6 fs fs.length
  have hsm:=YR (fs:=fs)
  have st:∀ db,∃ SE S,Steps (l'.map (·.1)) (S2 [] inl EA db) SE∧He SE S∧S.db=db∧Xp (To (Ca fs fs.length)) (BS S):=fun db=>by
   rw[hm]
   exact QD inl db hio (AEy fs _) (by omega) (by omega)
  have hdl:∀ o∈l',o.1.data.length≤100000000:=fun o ho=>by
   have:o.1∈l'.map (·.1):=A35.2 ⟨o,ho,rfl⟩
   rw[hm,A98] at this
   obtain⟨it,h1,h2⟩:=this
   obtain⟨j,hj,rfl⟩:=Fw h1
   have hg:fs[j]? = some fs[j]:=A00 hj
   have:=QJ (A28 hg)
   unfold It.ops Pm at h2
   rw[A10,hg] at h2
   simp only[A32,if_true,B45,or_false,B52] at h2
   rcases h2 with h2|h2<;>rw[h2]
   ·show 0≤_;omega
   ·show fs[j].length≤_;omega
  refine AEN (s13 (x:=r+(y+x)) (l:=l') (by rw[hl'];exact a.rdv.addL) (by omega) (fun o ho=>(hd o ho).addR.addR) hdl st g.addR.addR w fun v os cs z h dv ov ok hP hnum hnn w=>?_)
  rw[DA,DH,F1,A91,AU]
  refine ABt (AHp hio (by omega) hP ok dv.addL ov.addL hnum w fun nsv ns ts ix y2 h tx dn tv hts w=>?_)
  refine Ah w Re rfl fun b13 h w=>?_
  refine AL w ⟨[nsv]⟩ rfl rfl (by simp) (by obtain⟨⟨na,nc,hn⟩,_⟩:=dn.len;rw[hn];rfl) fun h w=>?_
  rw[hv,Aw,←hv]
  obtain⟨io,R,hos,hp,hf,hipg⟩:=hP
  refine AHK (x:=y2+(v.res+(z+(r+(y+x))))) (ix:=fun i=>ix (12+i)) df.addR.addR.addR.addR.addR ff.addR.addR.addR.addR.addR hl (fun k y h w hk=>by rw[AIq];exact AW w VS.g0 hk) dv.addL.addR.addR ov.addL.mono.mono ?_ hnn dn.addL (by rw[tx.len,hpl]) tv hts ?_ w fun y3 h w=>K _ h (w.cast (by rw[ALD,←Res.assoc]))
  ·intro o ho
   rw[hos] at ho
   obtain⟨c,hc,rfl⟩:=A35.1 ho
   have hcV:=hp.mem_iff.1 hc
   have f:=hf c hcV
   rw[f.num]
   rcases BE.1 hcV with h|⟨h1,h2⟩
   ·exact .inl (by omega)
   ·by_cases h3:c<12
    ·exact .inl h3
    ·refine .inr ⟨c-12,by omega,?_⟩
     rw[hpl] at h2
     have hg:=Fx fs fs.length (c-12) (by omega)
     have:=(f.it (c-12) _ (by omega) hg).2.2 (Ur fs _ (A28 hg))
     rw[this]
     show _=some (fs.getD (c-12) [])
     rw[A10,A00 (by omega)];rfl
  ·intro i b hb
   have hil:=(A02.1 hb).1
   have hg:=Fx fs fs.length i hil
   obtain⟨t0,ht0,n0⟩:=tx.node 2 (BE.2 (.inl rfl))
   rw[tx.root] at ht0
   obtain⟨d1,d2,d3⟩:=n0.dir (Aj.2 (.inl rfl))
   have hk:=d3 (Cn i,12+i) (Co.2 (.inr ⟨i,_,hg,rfl,rfl⟩))
   refine⟨.cons ht0 hk d1 .nil,?_⟩
   obtain⟨t,ht,nt⟩:=tx.node (12+i) (BE.2 (.inr ⟨by omega,by rw[hpl];omega⟩))
   refine⟨t,ht,?_⟩
   rw[(nt.it i _ rfl hg).2.2,Nl,A03 rfl]
   show fs.getD i []=b
   rw[A10,hb];rfl
theorem s6 (df:RdV 1 fv fs.length vs x)(ff:Na x vs fs)(hl:fs.length≤2000000)(hs:∀ b∈fs,b.length≤2000000)(g:JX x)(w:AN x h)
  (K:∀ y h,AN (y+x) h→Q (.bool true) h):f6 fv (.bool inl) h Q:=by
 obtain⟨⟨va,vc,hv⟩,_⟩:=df.len
 have hK:Q (.bool true) h:=K 0 h (w.cast (Res.zero_add _).symm)
 unfold f6 Ucl Unt
 refine AC8 (s26 df ff (by omega) (fun b hb=>by have:=hs b hb;omega) w ?_)
 rw[F1,A91,AU,hv,Aw,←hv]
 unfold AEw
 have hsum:∀ l:List Bs,(∀ b∈l,b.length≤2000000)→(l.map List.length).sum≤2000000*l.length:=by
  intro l
  induction l with
  | nil=>intro _;exact A07 _
  | cons a l ih=>
   intro h
   have h1:=ih fun b hb=>h b (A16 _ hb)
   have h2:=h a (A13 ..)
   rw[A33,A75,A19];omega
 refine DE (fun mm u0 u1 h'=>h'=h∧∃ i,mm+i=fs.length∧u0=.int .i64 (((fs.take i).map List.length).sum:Nat)∧u1=.int .i64 (i:Nat)) fs.length ⟨rfl,0,rfl,rfl,rfl⟩ ?_
 rintro rec mm u0 u1 h' ⟨rfl,i,hi,rfl,rfl⟩ hrec
 unfold AEX Ucm Uil Ucf
 rw[AT]
 refine AX (fun hc=>?_) (fun hc=>?_)
 ·have hil:i<fs.length:=by omega
  obtain⟨b,hb⟩:∃ b,fs[i]? = some b:=⟨_,A00 hil⟩
  obtain⟨v,hv1,rd⟩:=ff.2 i b hb
  obtain⟨ca,cc,hbv⟩:=rd.len
  have h1:=hsum (fs.take i) fun b hb=>hs b (List.mem_of_mem_take hb)
  have h2:=hs b (A28 hb)
  rw[A20] at h1
  refine df.get w hv1 ?_
  rw[hbv,Aw,AI5,Ci (by omega),BN (n:=1),Ci (by omega)]
  refine hrec (mm-1) _ _ _ ⟨rfl,i+1,by omega,?_,rfl⟩ (by omega)
  rw[A85,hb,A36,B30]
  simp
 ·have:i=fs.length:=by omega
  subst this
  rw[A38,hv,Aw,Ao]
  by_cases h60:(fs.length:Int)>60
  ·rw[A04 h60,PD];exact hK
  ·rw[A08 h60,Cr,Ao]
   refine AX (fun _=>hK) (fun hsm=>?_)
   unfold AEJ
   refine Dg w Fy fun u0 r0 h a w=>?_
   rw[Aw,←hv]
   exact AH8 df ff (by omega) (by omega) g a w K
end
end
section
variable {h:H} {k:Value→Prop} {kt Q:Kt} {x y z r:Res}
attribute [local irreducible] AK Az AQ BB Ae AY AH AM PIt.cells
theorem AK0 {m:Nat}(K:k (.agg ⟨(Me 0 m).cells (.slice none 0 0)⟩)):Ae (.struct [(0,1),(1,1),(2,1),(3,1),(4,1),(5,3),(8,3),(11,3),(14,3),(17,1),(18,1),(19,1)]) (AG TP 28) [(2,.int .u16 (m:Nat))] k:=
 Au ADo rfl (rs:=(Me 0 m).cells (.slice none 0 0)) (by kernel_rfl) K
attribute [local irreducible] Op1.cells
section
variable {v nv:Value} {vs:List Value} {l:List PIt} {ps:List Bs}
theorem s35 (d:RdV 5 v l.length vs x)(pv:AI7 x vs l)(ok:AJE l ps)(dn:RdV 1 nv ps.length (strs ps) x)(w:AN x h)
  (K:∀ u l' r y h,Vec 32 24 u l'.length (FC l') r→l'.length≤800→l'.map (·.1)=(AIz l ps).flatMap It.ops→(∀ o∈l',RdX x o.2 o.1.data∧o.1.data.length≤1048576)→AN (r+(y+x)) h→Q u h):f35 v nv h Q:=by
 obtain⟨⟨va,vc,hv⟩,_⟩:=d.len
 have hlen:=ok.len
 have hpl:=ok.psl
 unfold f35
 refine Dg w Fy fun u0 r0 h a w=>?_
 rw[hv,Aw,←hv]
 unfold AKk
 refine DE (fun mm u0 u1 h'=>∃ i l' r y,mm+i=l.length∧u1=.int .i64 (i:Nat)∧l'.length≤2*i∧Vec 32 24 u0 l'.length (FC l') r∧l'.map (·.1)=((AIz l ps).take i).flatMap It.ops∧(∀ o∈l',RdX x o.2 o.1.data∧o.1.data.length≤1048576)∧AN (r+(y+x)) h') l.length ⟨0,[],r0,0,rfl,rfl,A07 _,a,rfl,by simp,w.cast (by rw[Res.zero_add])⟩ ?_
 rintro rec mm u0 u1 h' ⟨i,l',r,y,hi,rfl,hl',a,hm,hd,w⟩ hrec
 unfold AKC Ucm Umk Ucl Ufl Uil
 rw[AT]
 refine AX (fun hc=>?_) (fun hc=>?_)
 ·have hil:i<l.length:=by omega
  obtain⟨p,hp⟩:∃ p,l[i]? = some p:=⟨_,A00 hil⟩
  obtain⟨dv,h1,h2⟩:=pv i p hp
  obtain⟨da,dc,hdv⟩:=h2.len
  have hpth:ps[i]? = some (ps.getD i []):=by rw[A10,A00 (by omega)];rfl
  have hsz:p.data.length≤1048576:=by
   have:=AJZ (A28 hp)
   have:=ok.sum
   omega
  have htk:(AIz l ps).take (i+1)=(AIz l ps).take i++[AI1 l ps i p]:=by
   rw[A85,AI8,hp];rfl
  refine (d.addR.addR:RdV 5 v l.length vs _).agg w hil ?_
  rw[h1]
  refine Ah w AJH rfl fun b7 h w=>?_
  refine AL w ⟨p.cells dv⟩ (Ar (by rw[A31,PIt.len];exact PIt.len)) (by show (p.cells dv).length=5;exact PIt.len) (by rw[A31,PIt.len];omega) (by rw[hdv];exact PIt.one) fun h w=>?_
  refine Cj w PIt.len ?_
  refine AJo (s73 w fun y2 h w=>?_)
  refine AKE (s72 AKL w fun y3 h w=>?_)
  refine AK0 ?_
  refine Ah w ADo rfl fun b8 h w=>?_
  refine AL w ⟨(Me 0 (umL (ppL p.perm p.dir))).cells (.slice none 0 0)⟩ (Ar (by rfl)) rfl (by show 0+20≤20;omega) rfl fun h w=>?_
  rw[AIq]
  refine AW w PIt.g2 ?_
  cases hdir:p.dir with
  | true=>
   have hf:(AI1 l ps i p).f=Me 0 (umL (ppL p.perm true)):=by
    show Me (if p.dir then 0 else p.data.length) (umL (ppL p.perm p.dir))=_
    rw[hdir];rfl
   have hops:(AI1 l ps i p).ops=[.create (ps.getD i []) (Me 0 (umL (ppL p.perm true)))]:=by
    unfold It.ops
    rw[hf]
    show _::(if (!p.dir)=true then _ else _)=_
    rw[hdir];rfl
   rw[hdir] at w
   rw[Ak]
   refine (dn.addR.addR.addR.addR.addR.addR:RdV 1 nv ps.length (strs ps) _).get w (NX hpth) ?_
   refine Cj w rfl ?_
   refine ACO ?_
   have w:=w.cast (ALS _ _ _ _ _ _ _)
   refine CW a w Fy (by show (List.toArray _).size=24;rw[A31,Op1.cells_len]) (Op1.cells_len _ _) (by omega) (by omega) (Op1.cells_one _ _ rfl) fun b9 h w=>?_
   refine B0 a w Fy (by show (List.toArray _).size=24;rw[A31,Op1.cells_len]) (Op1.cells_len _ _) (Op1.cells_one _ _ rfl) (by omega) (by omega) fun u0 r h a w=>?_
   rw[BN (n:=1),Ci (by omega)]
   refine hrec (mm-1) _ _ _ ⟨i+1,l'++[(.create (ps.getD i []) (Me 0 (umL (ppL p.perm true))),.slice none 0 0)],r,_,by omega,rfl,by rw[A01];simp;omega,?_,?_,?_,w⟩ (by omega)
   ·rw[Us,A01];exact a
   ·rw[A36,hm,htk,A73,B04,hops];rfl
   ·intro o ho
    rcases A88.1 ho with h|h
    ·exact hd o h
    ·rw[A78] at h
     subst h
     exact⟨.inl ⟨none,0,rfl,rfl⟩,A39 _⟩
  | false=>
   have hf:(AI1 l ps i p).f=Me p.data.length (umL (ppL p.perm false)):=by
    show Me (if p.dir then 0 else p.data.length) (umL (ppL p.perm p.dir))=_
    rw[hdir];rfl
   have hops:(AI1 l ps i p).ops=[.create (ps.getD i []) (Me p.data.length (umL (ppL p.perm false))),.write p.data]:=by
    unfold It.ops
    rw[hf]
    show _::(if (!p.dir)=true then [Op1.write (if p.dir then [] else p.data)] else _)=_
    rw[hdir];rfl
   rw[hdir] at w
   rw[AU,AIq]
   refine AW w PIt.g4 ?_
   rw[hdv,Aw,AIq]
   refine AL w ⟨(Me p.data.length (umL (ppL p.perm false))).cells (.slice none 0 0)⟩ ((A2 _ _ _).trans rfl) rfl (by show 1+1≤20;omega) rfl fun h w=>?_
   refine (dn.addR.addR.addR.addR.addR.addR:RdV 1 nv ps.length (strs ps) _).get w (NX hpth) ?_
   refine Cj w rfl ?_
   refine ACO ?_
   rw[AIq]
   refine AW w PIt.g4 ?_
   refine AEK (b:=p.data) (by rw[hdv];rfl) ?_
   refine Qi w Fy (by omega) (by omega) (Op1.cells_len _ _) (Op1.cells_len _ _) fun v2 r2 h d2 w=>?_
   have k2:∀ R2 B8 Y3 Y2 B7 R Y X:Res,R2+(B8+(Y3+(Y2+(B7+(R+(Y+X))))))=R+(R2+((B8+(Y3+(Y2+(B7+Y))))+X)):=by intros;ac_rfl
   have w:=w.cast (k2 _ _ _ _ _ _ _ _)
   refine CA a (d2.addL) w Fy (by show (List.toArray _).size=24;rw[A31,Op1.cells_len]) (by omega) (by omega) (by
    rw[List.all_append,Op1.cells_one _ _ h2.one_,Op1.cells_one _ _ rfl];rfl) fun u0 r h a w=>?_
   rw[BN (n:=1),Ci (by omega)]
   refine hrec (mm-1) _ _ _ ⟨i+1,l'++[(.create (ps.getD i []) (Me p.data.length (umL (ppL p.perm false))),.slice none 0 0),(.write p.data,dv)],r,_,by omega,rfl,by rw[A01];simp;omega,?_,?_,?_,w.cast (Kq2 _ _ _ _)⟩ (by omega)
   ·rw[Xk,A01]
    have:FC [(.create (ps.getD i []) (Me p.data.length (umL (ppL p.perm false))),.slice none 0 0),(.write p.data,dv)]=(Op1.create (ps.getD i []) (Me p.data.length (umL (ppL p.perm false)))).cells (.slice none 0 0)++(Op1.write p.data).cells dv:=by
     unfold FC
     rw[A37,A37,List.flatMap_nil,A22]
    rw[this];exact a
   ·rw[A36,hm,htk,A73,B04,hops];rfl
   ·intro o ho
    rcases A88.1 ho with h|h
    ·exact hd o h
    ·simp only[A32,B45,or_false] at h
     rcases h with rfl|rfl
     ·exact⟨.inl ⟨none,0,rfl,rfl⟩,A39 _⟩
     ·exact⟨h2,hsz⟩
 ·have:i=l.length:=by omega
  rw[this,A43 (by rw[AI9];exact A07 _)] at hm
  exact K u0 l' r y h' a (by omega) hm hd w
end
end
section
variable {h:H} {k:Value→Prop} {kt Q:Kt} {x y z r:Res}
attribute [local irreducible] AK Az AQ BB Ae AY AH AM PIt.cells TN.cells
def AJA (F:List Int):List Value:=F.map (Value.int .i64)
def AI3:List Int→Nat
 | []=>0
 | a::F=>(if 0≤a then 1 else 0)+AI3 F
def Vis (F:List Int)(a:Nat):Prop:=∃ e,F[a]? = some e∧0≤e
theorem AJy:∀ (F:List Int) (a:Nat) (e v:Int),F[a]? = some e→e<0→0≤v→AI3 (F.set a v)=AI3 F+1
 | [],_,_,_,h,_,_=>by simp at h
 | b::F,0,e,v,h,h1,h2=>by
  simp only[A51,A26] at h
  subst h
  rw[List.set_cons_zero,AI3,AI3,A03 h2,A05 (by omega)];omega
 | b::F,a+1,e,v,h,h1,h2=>by
  rw[A63] at h
  rw[List.set_cons_succ,AI3,AI3,AJy F a e v h h1 h2];omega
theorem AJw:∀ F:List Int,(∀ e∈F,0≤e)→AI3 F=F.length
 | [],_=>rfl
 | a::F,h=>by
  rw[AI3,A03 (h a (A13 ..)),AJw F fun e he=>h e (A16 _ he),A19];omega
theorem AJe:∀ F:List Int,(∀ e∈F,e<0)→AI3 F=0
 | [],_=>rfl
 | a::F,h=>by
  have:=h a (A13 ..)
  rw[AI3,A05 (by omega),AJe F fun e he=>h e (A16 _ he)]
theorem AJv:∀ F:List Int,AI3 F≤F.length
 | []=>A07 _
 | a::F=>by
  have:=AJv F
  rw[AI3,A19]
  split<;>omega
def AKx (F:List Int):Prop:=∀ e∈F,e = -1∨0≤e∧e<(AI3 F:Nat)
theorem AKy {F:List Int}{a:Nat}(f:AKx F)(h:F[a]? = some (-1)):AKx (F.set a (AI3 F:Nat))∧AI3 (F.set a (AI3 F:Nat))=AI3 F+1∧∀ b,Vis F b∨b=a→Vis (F.set a (AI3 F:Nat)) b:=by
 have hl:=(A02.1 h).1
 have hc:=AJy F a (-1) (AI3 F:Nat) h (by omega) (by omega)
 refine⟨fun e he=>?_,hc,fun b hb=>?_⟩
 ·rw[hc]
  rcases List.mem_or_eq_of_mem_set he with h1|h1
  ·rcases f e h1 with h2|⟨h2,h3⟩
   ·exact .inl h2
   ·exact .inr ⟨h2,by omega⟩
  ·exact .inr ⟨by omega,by omega⟩
 ·by_cases hba:b=a
  ·subst hba
   exact⟨_,List.getElem?_set_self hl,by omega⟩
  ·rcases hb with⟨e,h1,h2⟩|h1
   ·exact⟨e,by rw[List.getElem?_set_ne (Ne.symm hba)];exact h1,h2⟩
   ·exact absurd h1 hba
theorem AKY {F:List Int}{a b:Nat}{v:Int}(h:Vis (F.set a v) b):Vis F b∨b=a:=by
 by_cases hba:b=a
 ·exact .inr hba
 ·obtain⟨e,h1,h2⟩:=h
  rw[List.getElem?_set_ne (Ne.symm hba)] at h1
  exact .inl ⟨e,h1,h2⟩
section
variable {its:List It} {ts:List TN} {ix:Nat→Nat}
def AJ2 (its:List It)(ix:Nat→Nat)(S:List Nat)(F:List Int):Prop:=∀ c∈VV its,c∉S→Vis F (ix c)→∀ e∈esOf its c,Vis F (ix e.2)
theorem ALC (hio:A7 its){c:Nat}{e:Bs×Nat}(he:e∈esOf its c):e.2∈VV its∧c<e.2:=by
 obtain⟨a1,a2,a3,a4,a5⟩:=DT hio he
 exact⟨BE.2 (.inr ⟨a4,a3⟩),a1⟩
theorem AKQ (hio:A7 its){F:List Int}(iv:AJ2 its ix [] F)(hr:Vis F (ix 2)):∀ c∈VV its,Vis F (ix c):=by
 intro c
 induction c using Nat.strongRecOn with
 | ind c ih=>
  intro hc
  by_cases h2:c=2
  ·rw[h2];exact hr
  ·obtain⟨h1,nm,h3⟩:=JY hio hc h2
   obtain⟨a1,a2,a3,a4,a5⟩:=DT hio h3
   have hpv:parOf its c∈VV its:=by
    rcases Aj.1 h1 with h|h|⟨j,it,g1,_,g3⟩
    ·exact BE.2 (.inl h)
    ·rw[h];exact BE.2 (.inr ⟨A07 _,by omega⟩)
    ·have:=(A02.1 g1).1
     exact BE.2 (.inr ⟨by omega,by omega⟩)
   exact iv _ hpv (by simp) (ih _ a1 hpv) _ h3
end
theorem AJN {l:List Value}{i:Nat}{u:Value}(h:l[i]? = some u):(⟨l⟩:Array Value)[i]? = some u:=by simpa using h
theorem AKH {T:TypeId}{v u:Value}{n i j sz:Nat}{kk:IntKind}{vs:List Value}{kh:H→Prop}(d:Vec T sz v n vs r)(w:AN (r+x) h)(hi:i<n)(hj:j<sz)(hu:u.cells=#[u])(ho:Value.oneCell' u=true)
  (K:∀ vs r h,Vec T sz v n vs r→AN (r+x) h→kh h):AI (.slice sz) v (.int kk (i:Int)) fun a=>AC j a fun p=>AJ 1 p u h kh:=by
 cases d with
 | nil=>omega
 | own hn hc=>
  rename_i b c all
  have h1:(i+1)*sz≤c*sz:=A48 sz (by omega)
  rw[A93,B34] at h1
  rw[PQ hi]
  simp only[DW,Bm]
  refine AL w ⟨all.set (0+i*sz+j) u⟩ ?_ (by rw[hu];rfl) (by simp;omega) (by rw[hu];simp[ho]) fun h w=>?_
  ·rw[hu,A2];rfl
  ·exact K _ _ h (Vec.own' (n:=n) hn (by simp;omega) rfl) w
end
end Go.Proofs.YtollddkkdgoonaaGreatDoor
