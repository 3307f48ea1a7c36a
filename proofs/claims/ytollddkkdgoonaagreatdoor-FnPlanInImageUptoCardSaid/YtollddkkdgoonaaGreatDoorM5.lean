/- A part of a proof over images that are written and read. No condition; a step. -/
import Derived.Test.YtollddkkdgoonaaGreatDoorM4
namespace Go.Proofs.YtollddkkdgoonaaGreatDoor
open Go
set_option linter.unusedVariables false
set_option linter.unusedSimpArgs false
set_option maxRecDepth 100000
section
variable {h:H} {k:Value→Prop} {kt Q:Kt} {x y r:Res}
inductive LzB (s:Bs):Value→Bs→Res→Prop
 | no {c:Bs}:c.length≤s.length→s.take c.length=c→LzB s (.slice none 0 0) c 0
 | yes {b:Nat} {all c:Bs}:c.length≤s.length→all.length=s.length→all.take c.length=c→LzB s (.slice (some ⟨b,0,none⟩) s.length s.length) c (pts b (.cells (bcs all) 5 (0,0)))
abbrev lz (ob:Nat)(s:Bs)(bv:Value)(w:Nat):Res:=pts ob (.cells ⟨[str s,bv,.int .i64 w]⟩ 295 (0,0))
theorem LzB.len {s c:Bs}{bv:Value}(b:LzB s bv c r):c.length≤s.length:=by cases b<;>assumption
theorem LzB.cut {s c:Bs}{bv:Value}(b:LzB s bv c r)(n:Nat):LzB s bv (c.take n) r:=by
 cases b with
 | no h1 h2=>exact .no (by simp;omega) (by rw[←h2];simp[A95])
 | yes h1 h2 h3=>exact .yes (by simp;omega) h2 (by rw[←h3];simp[A95])
theorem Cg {b o n c i:Nat}{kk:IntKind}(hi:i<n):AI (.slice 1) (.slice (some ⟨b,o,none⟩) n c) (.int kk (i:Int)) k=k (.pointer (some ⟨b,o+i,none⟩)):=by
 unfold AI
 refine propext ⟨fun⟨kk',m,h1,a,l,c',h2,h3,h4,h5⟩=>?_,fun hk=>⟨kk,i,rfl,_,n,c,rfl,by omega,by omega,?_⟩⟩
 ·cases h1;cases h2
  rw[A77,A67,Bm] at h5
  exact h5
 ·rw[A77,A67,Bm];exact hk
theorem CM {b o:Nat}{l:Bs}{T:TypeId}{c:UInt8}{kh:H→Prop}(w:AN (pts b (.cells (bcs l) T (0,0))+x) h)(ho:o<l.length)(K:∀ h,AN (pts b (.cells (bcs (setL l o [c])) T (0,0))+x) h→kh h):AJ 1 (.pointer (some ⟨b,o,none⟩)) (bc c) h kh:=by
 refine AL w (bcs (setL l o [c])) ?_ rfl (by rw[CH];omega) rfl K
 rw[←Cc (by simp;omega)];rfl
theorem PL {b off n c:Nat}{T:TypeId}{all src:Bs}{kt:Kt}(w:AN (pts b (.cells (bcs all) T (0,0))+x) h)(hle:off+src.length≤all.length)(hn:src.length≤n)
  (K:∀ h,AN (pts b (.cells (bcs (setL all off src)) T (0,0))+x) h→kt (.int .i64 (src.length:Nat)) h):DI 1 (.slice (some ⟨b,off,none⟩) n c) (str src) h kt:=by
 refine⟨_,n,c,src.length,bcs src,rfl,by simp[srcLen,Cp],?_,.inr ⟨_,bcs all,T,rfl,rfl,w.left.one,by rw[CH,CH];exact hle,H6 _,?_⟩⟩
 ·rw[A30 hn]
  show some (Bw ((⟨src.toArray⟩:ByteArray).extract 0 src.length))=_
  rw[Et]
  simp[Bw,bcs,bc]
 ·rw[A30 hn]
  simp only
  rw[Cc hle]
  exact K _ w.set
@[go_sem] theorem AIf {c:Bool}{n m:Nat}{a:Option Addr}{n' m':Nat}:Bq .slice c false h (.slice none n m) (.slice a n' m') k=k (.bool a.isNone):=by simp[Bq,GG]
@[go_sem] theorem AIg {c:Bool}{n m:Nat}{a:Addr}{n' m':Nat}:Bq .slice c false h (.slice (some a) n m) (.slice none n' m') k=k (.bool false):=by simp[Bq,GG]
@[go_sem] theorem AIM {c:Bool}{n m:Nat}{a:Option Addr}{n' m':Nat}:Bq .slice c true h (.slice none n m) (.slice a n' m') k=k (.bool (!a.isNone)):=by simp[Bq,GG]
@[go_sem] theorem AHI {c:Bool}{n m:Nat}{a:Addr}{n' m':Nat}:Bq .slice c true h (.slice (some a) n m) (.slice none n' m') k=k (.bool true):=by simp[Bq,GG]
theorem ABC {ob:Nat}{s c all:Bs}{b:Nat}{u:UInt8}(w:AN (lz ob s (.slice (some ⟨b,0,none⟩) s.length s.length) c.length+(pts b (.cells (bcs all) 5 (0,0))+x)) h)(hc:c.length<s.length)(ha:all.length=s.length)(ht:all.take c.length=c)(hs:s.length<9223372036854775808)
  (K:∀ bv r h,LzB s bv (c++[u]) r→AN (lz ob s bv (c++[u]).length+(r+x)) h→Q (.tuple #[]) h):Kw Q (Pt ob) (bc u) h:=by
 unfold Kw Unf Uff
 simp (disch:=omega) only[go_sem,AF w,Cg,A29]
 refine CM (w.cast (Res.left_comm _ _ _)) (by omega) fun h w=>?_
 simp (disch:=omega) only[go_sem,AF w]
 refine AL w ⟨[str s,.slice (some ⟨b,0,none⟩) s.length s.length,.int .i64 ((c.length+1:Nat):Int)]⟩ rfl rfl (by simp) rfl fun h w=>?_
 have hle:c.length+[u].length≤all.length:=by simp;omega
 refine K _ _ _ (.yes (b:=b) (all:=setL all c.length [u]) (by simp;omega) ((AS hle).trans ha) ?_) (w.cast ?_)
 ·apply A60
  intro i
  rw[A41,DN hle]
  have:=A76 (·[i]?) ht
  simp only[A41] at this
  grind
 ·simp only[A01,A57];unfold lz;ac_rfl
theorem ADc {ob:Nat}{s c:Bs}{bv:Value}{u:UInt8}(b:LzB s bv c r)(w:AN (lz ob s bv c.length+(r+x)) h)(hc:c.length<s.length)(hs:s.length≤140737488355328)
  (K:∀ bv r h,LzB s bv (c++[u]) r→AN (lz ob s bv (c++[u]).length+(r+x)) h→Q (.tuple #[]) h):AEV (Pt ob) (bc u) h Q:=by
 unfold AEV Unf Ucg
 cases b with
 | no h1 h2=>
  obtain⟨v,hv⟩:∃ v,s[c.length]? = some v:=⟨_,A00 hc⟩
  simp (disch:=omega) only[go_sem,AF w,Option.isNone_none,A04,CD hv,bc]
  unfold NJ Unf Uff
  refine AX (fun he=>?_) (fun he=>?_)
  ·have:v=u:=A97.1 (by omega)
   subst this
   simp (disch:=omega) only[go_sem,AF w]
   refine AL w ⟨[str s,.slice none 0 0,.int .i64 ((c.length+1:Nat):Int)]⟩ rfl rfl (by simp) rfl fun h w=>?_
   refine K _ _ _ (.no (by simp;omega) ?_) (w.cast ?_)
   ·rw[A01,A57,A85,h2,hv];rfl
   ·simp only[A01,A57]
  ·simp (disch:=omega) only[go_sem,AF w]
   refine ER w hs fun mb h w=>?_
   refine AL w ⟨[str s,.slice (some ⟨mb,0,none⟩) s.length s.length,.int .i64 (c.length:Nat)]⟩ rfl rfl (by simp) rfl fun h w=>?_
   simp (disch:=omega) only[go_sem,AF w]
   refine PL w (by simp;omega) (by simp;omega) fun h w=>?_
   refine ABC (x:=x) (all:=setL (List.replicate s.length 0) 0 (s.take c.length)) (w.cast (by rw[Res.zero_add];unfold lz;ac_rfl)) hc ?_ ?_ (by omega) K
   ·rw[AS (by simp;omega)];simp
   ·rw[h2]
    apply A60
    intro i
    rw[A41,DN (by simp;omega)]
    grind
 | yes h1 h2 h3=>
  simp (disch:=omega) only[go_sem,AF w]
  exact ABC w hc h2 h3 (by omega) K
theorem AHt {ob i wv:Nat}{s c:Bs}{bv:Value}{u:UInt8}(b:LzB s bv c r)(w:AN (lz ob s bv wv+(r+x)) h)(hc:c[i]? = some u)(K:Q (bc u) h):AC9 (Pt ob) (.int .i64 (i:Int)) h Q:=by
 have hi:i<c.length:=(A02.1 hc).1
 unfold AC9 Unf Uil
 cases b with
 | no h1 h2=>
  have:s[i]? = some u:=by
   have:=A76 (·[i]?) h2
   simp only[A41] at this
   rw[A03 hi] at this
   rw[this,hc]
  simp (disch:=omega) only[go_sem,AF w,Option.isNone_none,CD this]
  exact K
 | yes h1 h2 h3=>
  rename_i bb all
  have:all[i]? = some u:=by
   have:=A76 (·[i]?) h3
   simp only[A41] at this
   rw[A03 hi] at this
   rw[hc] at this
   exact this
  simp (disch:=omega) only[go_sem,AF w,Cg,A29]
  rw[G9,this]
  exact K
theorem AAW {b o n c:Nat}{l:Bs}{T:TypeId}{fz:Nat×Nat}(w:AN x h)[CO b x (.cells (bcs l) T fz)](hn:o+n≤l.length):HI (.slice (some ⟨b,o,none⟩) n c) h k=k (str ((l.drop o).take n)):=by
 have hb:∀ l:Bs,DU (l.map bc)=some l:=by
  intro l
  induction l with
  | nil=>rfl
  | cons a l ih=>simp[DU,bc,ih]
 have hv:J5 h (.slice (some ⟨b,o,none⟩) n c)=some (str ((l.drop o).take n)):=by
  unfold J5
  simp only[w.find (b:=b),A86,A45,if_false,CH]
  rw[A03 hn,OW]
  simp only[bcs,hb,A49,A62]
 exact propext ⟨fun⟨v,a,b⟩=>by rw[hv] at a;cases a;exact b,fun a=>⟨_,hv,a⟩⟩
theorem PF {kk:IntKind}{b o n c j:Nat}(h2:j≤c)(h0:0<c):AZ (.slice 1) (.slice (some ⟨b,o,none⟩) n c) none (some (.int kk (j:Int))) k=k (.slice (some ⟨b,o,none⟩) j c):=by
 have hv:A6 (.slice 1) (.slice (some ⟨b,o,none⟩) n c) none (some (.int kk (j:Int)))=some (.slice (some ⟨b,o,none⟩) j c):=by
  simp only[A6,Dp]
  simp only[Ay]
  rw[A03 ⟨A39 _,h2⟩,A05 (by omega)]
  simp[Addr.add]
 exact propext ⟨fun⟨v,a,b⟩=>by rw[hv] at a;cases a;exact b,fun a=>⟨_,hv,a⟩⟩
theorem AHd {ob:Nat}{s c:Bs}{bv:Value}(b:LzB s bv c r)(w:AN (lz ob s bv c.length+(r+x)) h)(h0:0<s.length)(K:Q (str c) h):AEQ (Pt ob) h Q:=by
 have hl:=b.len
 unfold AEQ Unf
 cases b with
 | no h1 h2=>
  simp (disch:=omega) only[go_sem,AF w,Option.isNone_none]
  rw[h2]
  exact K
 | yes h1 h2 h3=>
  simp (disch:=omega) only[go_sem,AF w,PF]
  rw[AAW w (by omega),A68,h3]
  exact K
end
section
variable {h:H} {k:Value→Prop} {kt Q:Kt} {x y r:Res}
def elems:Bs→List Bs
 | []=>[[]]
 | b::l=>if b=47 then []::elems l else match elems l with|e::es=>(b::e)::es|[]=>[[b]]
def joinL:List Bs→Bs
 | []=>[]
 | [e]=>e
 | e::f::r=>e++47::joinL (f::r)
def meet (st:List Bs)(e:Bs):List Bs:=if e=[]∨e=[46] then st else if e=[46,46] then st.dropLast else st++[e]
def cleanR (p:Bs):List Bs:=(elems p).foldl meet []
theorem L0 {e:Bs}(he:∀ c∈e,c≠47):∀ l:Bs,(l=[]→elems (e++l)=[e])∧(∀ t,l=47::t→elems (e++l)=e::elems t):=by
 induction e with
 | nil=>intro l;exact⟨fun h=>by subst h;rfl,fun t h=>by subst h;simp[elems]⟩
 | cons b e ih=>
  intro l
  have hb:b≠47:=he b (A13 ..)
  have h1:=ih (fun c hc=>he c (A16 _ hc)) l
  refine⟨fun h=>?_,fun t h=>?_⟩
  ·rw[A82,elems,A05 hb,h1.1 h]
  ·rw[A82,elems,A05 hb,h1.2 t h]
theorem Hg {e:Bs}:∀ {st:List Bs},st≠[]→joinL (st++[e])=joinL st++47::e
 | [],h=>absurd rfl h
 | [a],_=>rfl
 | a::b::r,_=>by
  have:=Hg (e:=e) (st:=b::r) (by simp)
  simp only[A82,joinL] at this ⊢
  rw[this];simp
theorem KQ {st:List Bs}(h:st≠[])(hn:∀ e∈st,e≠[]):joinL st≠[]:=by
 match st with
 | []=>exact absurd rfl h
 | [a]=>exact hn a (by simp)
 | a::b::r=>simp[joinL]
structure Cl (p:Bs) (r:Nat) (st:List Bs):Prop where
 r1:1≤r
 rn:r≤p.length
 ne:∀ e∈st,e≠[]∧∀ c∈e,c≠47
 le:(47::joinL st).length≤r
 at_:st≠[]→(47::joinL st).length=r→r=p.length∨p[r]? = some 47
 ends:(elems (p.drop r)).foldl meet st=cleanR (p.drop 1)
theorem Ud (l:Bs):∃ e t,l=e++t∧(∀ c∈e,c≠47)∧(t=[]∨∃ t',t=47::t'):=by
 induction l with
 | nil=>exact⟨[],[],rfl,by simp,.inl rfl⟩
 | cons b l ih=>
  obtain⟨e,t,h1,h2,h3⟩:=ih
  by_cases hb:b=47
  ·exact⟨[],b::l,rfl,by simp,.inr ⟨l,by rw[hb]⟩⟩
  ·refine⟨b::e,t,by rw[h1];rfl,?_,h3⟩
   intro c hc
   rcases A32.1 hc with rfl|hc
   ·exact hb
   ·exact h2 c hc
theorem US {e t:Bs}{st:List Bs}(he:∀ c∈e,c≠47)(ht:t=[]∨∃ t',t=47::t'):(elems (e++t)).foldl meet st=(elems t).foldl meet (meet st e):=by
 rcases ht with rfl|⟨t',rfl⟩
 ·rw[(L0 he []).1 rfl];simp[elems,meet]
 ·rw[(L0 he _).2 t' rfl];simp[elems,meet]
theorem MO {ob:Nat}{p c A e:Bs}{bv:Value}{rec1:Value→Value→H→Prop}{v3 v4 v6:Value}{wv:Nat}(b:LzB p bv c r)(w:AN (lz ob p bv wv+(r+x)) h)
  (hc:(A=[]∧c=47::e)∨(1<A.length∧c=A++47::e)) (he:∀ d∈e,d≠47) (hw1:max 1 A.length≤wv) (hw2:wv<c.length) (hp:p.length<9223372036854775808)
  (K:∀ h,AN (lz ob p bv (max 1 A.length)+(r+x)) h→rec1 v6 (.int .i64 1) h):Rn Q rec1 (str p) v3 v4 (Pt ob) v6 (.int .i64 1) h:=by
 have hbl:=b.len
 unfold Rn
 refine ADs ⟨fun m h'=>max 1 A.length≤m∧m<c.length∧AN (lz ob p bv m+(r+x)) h',⟨wv,hw1,hw2,w⟩,?_⟩
 rintro m h' ⟨h1,h2,w⟩
 unfold Pv Ufl Ucg Ucl Ucm
 simp (disch:=omega) only[go_sem,AF w]
 refine C3 (fun hm=>?_) (fun hm=>?_)
 ·obtain⟨u,hu⟩:∃ u,c[m]? = some u:=⟨_,A00 h2⟩
  refine AAC (AHt b w hu ?_)
  rw[bc]
  simp only[go_sem]
  refine AX (fun hn=>?_) (fun hn=>?_)
  ·unfold RM Ufl
   simp (disch:=omega) only[go_sem,AF w]
   refine AL w ⟨[str p,bv,.int .i64 ((m-1:Nat):Int)]⟩ rfl rfl (by simp) rfl fun h w=>?_
   have hne:m≠max 1 A.length:=by
    rintro rfl
    rcases hc with⟨rfl,hc⟩|⟨hA,hc⟩
    ·simp at hm
    ·rw[Nat.max_eq_right (by omega),hc,A17 (A07 _)] at hu
     simp at hu
     subst hu
     exact hn rfl
   exact⟨m-1,by omega,by omega,by omega,w⟩
  ·have hu47:u=47:=A97.1 (show u.toNat=47 by omega)
   subst hu47
   have hmA:m=max 1 A.length:=by
    rcases hc with⟨rfl,hc⟩|⟨hA,hc⟩
    ·exfalso
     rw[hc] at hu
     have hm1:1<m:=by omega
     rw[show m=(m-1)+1 by omega,A63] at hu
     exact he _ (A28 hu) rfl
    ·rw[Nat.max_eq_right (by omega)] at h1 ⊢
     rcases A66 A.length m with hlt|hge
     ·exfalso
      rw[hc,A17 (by omega),show m-A.length=(m-A.length-1)+1 by omega,A63] at hu
      exact he _ (A28 hu) rfl
     ·omega
   subst hmA
   exact K _ w
 ·have:m=max 1 A.length:=by omega
  subst this
  exact K _ w
theorem Md {ob:Nat}{p c e t:Bs}{bv:Value}{rec1:Value→Value→H→Prop}{n v4:Nat}(hn:v4=p.length)(b:LzB p bv c r)(w:AN (lz ob p bv c.length+(r+x)) h)
  (hd:p.drop n=e++t) (he:∀ d∈e,d≠47) (ht:t=[]∨∃ t',t=47::t') (hle:c.length≤n) (hnp:n≤p.length) (hp:p.length≤140737488355328)
  (K:∀ bv r h,LzB p bv (c++e) r→AN (lz ob p bv (c++e).length+(r+x)) h→rec1 (.int .i64 ((n+e.length:Nat):Int)) (.int .i64 1) h):Rh Q rec1 (str p) (.bool true) (.int .i64 (v4:Nat)) (Pt ob) (.int .i64 1) (.int .i64 (n:Nat)) h:=by
 unfold Rh
 have hlen:n+e.length+t.length=p.length:=by
  have:=A76 List.length hd
  simp only[A27,A01] at this
  omega
 refine Vq ⟨fun m v h'=>∃ i bv r,i≤e.length∧m=e.length-i∧v=.int .i64 ((n+i:Nat):Int)∧LzB p bv (c++e.take i) r∧AN (lz ob p bv (c++e.take i).length+(r+x)) h',⟨e.length,0,bv,r,A39 _,rfl,rfl,by simpa using b,by simpa using w⟩,?_⟩
 rintro m v h' ⟨i,bv,r,hi,rfl,rfl,b,w⟩
 unfold Qv Ucg Ucm Ucl
 simp (disch:=omega) only[go_sem]
 have hget:∀ j,p[n+j]? = (e++t)[j]?:=fun j=>by rw[←hd,A53]
 refine C3 (fun hlt=>?_) (fun hlt=>?_)
 ·rcases A66 i e.length with hie|hie
  ·obtain⟨u,hu⟩:∃ u,e[i]? = some u:=⟨_,A00 hie⟩
   have hpu:p[n+i]? = some u:=by rw[hget,A18 hie,hu]
   have hu47:u≠47:=he u (A28 hu)
   have hu47':u.toNat≠47:=fun hx=>hu47 (A97.1 hx)
   rw[CD hpu,bc]
   simp (disch:=omega) only[go_sem,A04]
   rw[CD hpu]
   refine Mp (ADc b w (by simp;omega) hp fun bv r h b w=>?_)
   have htk:c++e.take i++[u]=c++e.take (i+1):=by
    rw[A12,A85,hu];rfl
   rw[htk] at b w
   exact⟨e.length-(i+1),by omega,i+1,bv,r,hie,rfl,rfl,b,w⟩
  ·have hie':i=e.length:=by omega
   subst hie'
   rcases ht with rfl|⟨t',rfl⟩
   ·simp at hlen;omega
   ·have hpu:p[n+e.length]? = some 47:=by rw[hget,A17 (A07 _)];simp
    rw[CD hpu,bc]
    rw[show (47:UInt8).toNat=47 from rfl]
    simp (disch:=omega) only[go_sem,A08]
    rw[A38] at b w
    exact K _ _ _ b w
 ·have hie':i=e.length:=by omega
  subst hie'
  rw[A38] at b w
  exact K _ _ _ b w
end
section
variable {h:H} {k:Value→Prop} {kt Q:Kt} {x y r:Res}
theorem Au {d:FV}{z:Option Value}{zv:Value}{l rs:List Value}{parts:List (Nat×Value)}(hz:z=some zv)(hc:zv.cells=⟨l⟩)(hf:DC (Br d) l parts=some rs)(K:k (.agg ⟨rs⟩)):Ae d z parts k:=
 ⟨zv,⟨rs⟩,hz,by rw[hc];exact Es _ _ _ hf,K⟩
theorem Sj:AG TP 295=some (.agg ⟨[str [],.slice none 0 0,.int .i64 0]⟩):=by kernel_rfl
theorem Ah {z:Option Value}{zv:Value}{l:List Value}{T:TypeId}(w:AN x h)(hz:z=some zv)(hc:zv.cells=⟨l⟩)(K:∀ b h,AN (pts b (.cells ⟨l⟩ T (0,0))+x) h→kt (Pt b) h):AQ z T h kt:=by
 rw[hz]
 unfold AQ
 dsimp only
 rw[hc]
 exact BJ w K
theorem Cl.slash {p:Bs}{r:Nat}{st:List Bs}(c:Cl p r st)(hr:r<p.length)(h47:p[r]? = some 47):Cl p (r+1) st:=by
 refine⟨by omega,hr,c.ne,by have:=c.le;omega,fun _ he=>by have:=c.le;omega,?_⟩
 have hd:p.drop r=47::p.drop (r+1):=by rw[A50 hr];congr 1;rw[A00 hr] at h47;exact A14 h47
 have:=c.ends
 rw[hd] at this
 simpa[elems,meet] using this
theorem Cl.elem {p e t:Bs}{r:Nat}{st:List Bs}(c:Cl p r st)(hd:p.drop r=e++t)(he:∀ d∈e,d≠47)(ht:t=[]∨∃ t',t=47::t'):(elems (p.drop (r+e.length))).foldl meet (meet st e)=cleanR (p.drop 1):=by
 have h1:p.drop (r+e.length)=t:=by rw[←A64,hd,List.drop_left'];rfl
 rw[h1,←US he ht,←hd]
 exact c.ends
theorem VJ {p e t:Bs}{rr:Nat}{C:Value→Prop}(hd:p.drop rr=e++t)(he:∀ d∈e,d≠47)(ht:t=[]∨∃ t',t=47::t')(hne:e≠[])(hp:p.length≤140737488355328)(K:C (.bool (decide (e=[46])))) :
  BQ (str p) (.int .i64 (rr:Int)) fun x63=>AD .eql x63 (.int .u8 46) fun x64=>Az x64 true (Az (.bool (decide (((rr+1:Nat):Int)=(p.length:Int)))) false (BQ (str p) (.int .i64 ((rr+1:Nat):Int)) fun x74=>AD .eql x74 (.int .u8 47) fun x75=>C x75) (C (.bool true))) (C (.bool false)):=by
 have hget:∀ j,p[rr+j]? = (e++t)[j]?:=fun j=>by rw[←hd,A53]
 have hlen:rr+e.length+t.length=p.length:=by
  have:=A76 List.length hd
  have:rr≤p.length:=by
   rcases A66 p.length rr with h|h
   ·rw[A59 (by omega)] at hd
    exact absurd (List.append_eq_nil_iff.1 hd.symm).1 hne
   ·exact h
  simp only[A27,A01] at *
  omega
 match e,hne with
 | a::e',_=>
  have h0:p[rr]? = some a:=by have:=hget 0;simpa using this
  rw[CD h0,bc]
  simp (disch:=omega) only[go_sem]
  refine C3 (fun ha=>?_) (fun ha=>?_)
  ·have ha':a=46:=A97.1 (show a.toNat=46 by omega)
   subst ha'
   simp only[A19] at hlen
   refine J2 (fun hn=>?_) (fun hn=>?_)
   ·obtain⟨u,hu⟩:∃ u,p[rr+1]? = some u:=⟨_,A00 (by omega)⟩
    rw[CD hu,bc]
    simp only[go_sem]
    have hu':=hget 1
    rw[hu] at hu'
    have:decide ((u.toNat:Int)=47)=decide ((46:UInt8)::e'=[46]):=by
     cases e' with
     | nil=>
      rcases ht with rfl|⟨t',rfl⟩
      ·simp at hlen;omega
      ·simp at hu';subst hu';rfl
     | cons b e''=>
      simp at hu'
      subst hu'
      have:u≠47:=he u (by simp)
      have h2:¬((u.toNat:Int)=47):=fun hx=>this (A97.1 (show u.toNat=47 by omega))
      simp[h2]
    rw[this];exact K
   ·have:e'=[]:=A69.1 (by omega)
    subst this
    simpa using K
  ·have:decide (a::e'=[46])=false:=by
    simp only[decide_eq_false_iff_not]
    rintro h'
    cases h'
    exact ha rfl
   rw[this] at K;exact K
theorem UQ {p e t:Bs}{rr:Nat}{C:Value→Prop}(hd:p.drop rr=e++t)(he:∀ d∈e,d≠47)(ht:t=[]∨∃ t',t=47::t')(hne:e≠[])(hn46:e≠[46])(hp:p.length≤140737488355328)(K:C (.bool (decide (e=[46,46])))) :
  BQ (str p) (.int .i64 (rr:Int)) fun x83=>AD .eql x83 (.int .u8 46) fun x84=>Az x84 true (BQ (str p) (.int .i64 ((rr+1:Nat):Int)) fun x89=>AD .eql x89 (.int .u8 46) fun x90=>Az x90 true (Az (.bool (decide (((rr+2:Nat):Int)=(p.length:Int)))) false (BQ (str p) (.int .i64 ((rr+2:Nat):Int)) fun x101=>AD .eql x101 (.int .u8 47) fun x102=>C x102) (C (.bool true))) (C (.bool false))) (C (.bool false)):=by
 have hget:∀ j,p[rr+j]? = (e++t)[j]?:=fun j=>by rw[←hd,A53]
 have hlen:rr+e.length+t.length=p.length:=by
  have:=A76 List.length hd
  have:rr≤p.length:=by
   rcases A66 p.length rr with h|h
   ·rw[A59 (by omega)] at hd
    exact absurd (List.append_eq_nil_iff.1 hd.symm).1 hne
   ·exact h
  simp only[A27,A01] at *
  omega
 match e,hne with
 | a::e',_=>
  have h0:p[rr]? = some a:=by have:=hget 0;simpa using this
  rw[CD h0,bc]
  simp (disch:=omega) only[go_sem]
  refine C3 (fun ha=>?_) (fun ha=>?_)
  ·have ha':a=46:=A97.1 (show a.toNat=46 by omega)
   subst ha'
   match e',hn46 with
   | [],h=>exact absurd rfl h
   | b::e'',_=>
    simp only[A19] at hlen
    have h1:p[rr+1]? = some b:=by have:=hget 1;simpa using this
    rw[CD h1,bc]
    simp (disch:=omega) only[go_sem]
    refine C3 (fun hb=>?_) (fun hb=>?_)
    ·have hb':b=46:=A97.1 (show b.toNat=46 by omega)
     subst hb'
     refine J2 (fun hn=>?_) (fun hn=>?_)
     ·obtain⟨u,hu⟩:∃ u,p[rr+2]? = some u:=⟨_,A00 (by omega)⟩
      rw[CD hu,bc]
      simp only[go_sem]
      have hu':=hget 2
      rw[hu] at hu'
      have:decide ((u.toNat:Int)=47)=decide ((46:UInt8)::46::e''=[46,46]):=by
       cases e'' with
       | nil=>
        rcases ht with rfl|⟨t',rfl⟩
        ·simp at hlen;omega
        ·simp at hu';subst hu';rfl
       | cons c e3=>
        simp at hu'
        subst hu'
        have:u≠47:=he u (by simp)
        have h2:¬((u.toNat:Int)=47):=fun hx=>this (A97.1 (show u.toNat=47 by omega))
        simp[h2]
      rw[this];exact K
     ·have:e''=[]:=A69.1 (by omega)
      subst this
      simpa using K
    ·have:decide ((46:UInt8)::b::e''=[46,46])=false:=by
      simp only[decide_eq_false_iff_not]
      rintro h'
      cases h'
      exact hb rfl
     rw[this] at K;exact K
  ·have:decide (a::e'=[46,46])=false:=by
    simp only[decide_eq_false_iff_not]
    rintro h'
    cases h'
    exact ha rfl
   rw[this] at K;exact K
theorem AAv {st:List Bs}{e:Bs}(hst:∀ e∈st,e≠[]∧∀ c∈e,c≠47)(he:∀ c∈e,c≠47):∀ f∈meet st e,f≠[]∧∀ c∈f,c≠47:=by
 intro f hf
 unfold meet at hf
 split at hf
 ·exact hst f hf
 ·split at hf
  ·exact hst f (List.dropLast_subset _ hf)
  ·rename_i h1 h2
   rcases A88.1 hf with hf|hf
   ·exact hst f hf
   ·simp only[A78] at hf
    subst hf
    exact⟨fun h=>h1 (.inl h),he⟩
theorem AG8 {q:Bs}(w:AN x h)(hp:q.length<140737488355328)(K:∀ h,AN x h→(joinL (cleanR q)).length≤q.length→(∀ e∈cleanR q,e≠[]∧∀ c∈e,c≠47)→Q (str (47::joinL (cleanR q))) h):ACL (str (47::q)) h Q:=by
 obtain⟨p,hpq⟩:∃ p,p=47::q:=⟨_,rfl⟩
 rw[←hpq]
 have hplen:p.length=q.length+1:=by rw[hpq];rfl
 have hp0:p[0]? = some 47:=by rw[hpq];rfl
 have hd1:p.drop 1=q:=by rw[hpq];rfl
 have hidx:∀ k,BQ (str p) (.int .i64 0) k=k (bc 47):=fun k=>CD (n:=0) hp0
 unfold ACL Ucm Umk Ucl
 simp (disch:=omega) only[go_sem]
 rw[show decide (p=[])=false by rw[hpq];rfl]
 simp only[go_sem]
 rw[hidx,bc,show (47:UInt8).toNat=47 from rfl]
 simp (disch:=omega) only[go_sem,A04]
 refine Au Sj rfl rfl (Ah w Sj rfl fun ob h w=>?_)
 refine AL w ⟨[str p,.slice none 0 0,.int .i64 ((0:Nat):Int)]⟩ rfl rfl (by simp) rfl fun h w=>?_
 refine Mp (ADc (s:=p) (c:=[]) (u:=47) (x:=x) (.no (by simp) (by simp)) (w.cast (by rw[Res.zero_add];rfl)) (by simp;omega) (by omega) fun bv br h b w=>?_)
 unfold Nb WJ
 refine DE (fun m v6 v7 h'=>∃ rr st bv br,m=p.length-rr∧v6=.int .i64 (rr:Nat)∧v7=.int .i64 1∧Cl p rr st∧LzB p bv (47::joinL st) br∧AN (lz ob p bv (47::joinL st).length+(br+x)) h') (p.length-1)
  ⟨1,[],bv,br,rfl,rfl,rfl,⟨A07 _,by omega,by simp,by simp[joinL],by simp,rfl⟩,b,w⟩ ?_
 rintro rec m v6 v7 h' ⟨rr,st,bv,br,rfl,rfl,rfl,C,b,w⟩ hrec
 have hrn:=C.rn
 unfold Qd Ucm Ucg Ucf Ufl Ucl
 simp (disch:=omega) only[go_sem]
 refine AX (fun hlt=>?_) (fun hlt=>?_)
 ·obtain⟨u,hu⟩:∃ u,p[rr]? = some u:=⟨_,A00 (by omega)⟩
  rw[CD hu,bc]
  simp (disch:=omega) only[go_sem]
  refine AX (fun h47=>?_) (fun h47=>?_)
  ·have hu47:u=47:=A97.1 (show u.toNat=47 by omega)
   subst hu47
   exact hrec (p.length-(rr+1)) _ _ _ ⟨rr+1,st,bv,br,rfl,rfl,rfl,C.slash (by omega) hu,b,w⟩ (by omega)
  ·obtain⟨e,t,hd,he,ht⟩:=Ud (p.drop rr)
   have hlen:rr+e.length+t.length=p.length:=by
    have:=A76 List.length hd
    simp only[A27,A01] at this
    omega
   have hene:e≠[]:=by
    rintro rfl
    have h0:p[rr]? = t[0]?:=by
     have:=A76 (·[0]?) hd
     simpa using this
    rcases ht with rfl|⟨t',rfl⟩
    ·simp at h0;omega
    ·rw[hu] at h0;simp at h0;subst h0;exact h47 rfl
   have hel:0<e.length:=A99.2 hene
   have hends:=C.elem hd he ht
   have hmn:=AAv C.ne he
   refine VJ hd he ht hene (by omega) ?_
   unfold LJ Ucg Ucf
   by_cases h46:e=[46]
   ·rw[A04 h46]
    simp (disch:=omega) only[go_sem]
    refine hrec (p.length-(rr+1)) _ _ _ ⟨rr+1,st,bv,br,rfl,rfl,rfl,⟨by omega,by omega,C.ne,by have:=C.le;omega,fun _ hh=>by have:=C.le;omega,?_⟩,b,w⟩ (by omega)
    rw[h46] at hends
    simpa[meet] using hends
   ·rw[A08 h46]
    simp (disch:=omega) only[go_sem]
    refine UQ hd he ht hene h46 (by omega) ?_
    unfold Id Ufl Ucm Unt Ucl Ucf
    by_cases h2:e=[46,46]
    ·rw[A04 h2]
     have hel2:e.length=2:=by rw[h2];rfl
     rw[hel2] at hends
     have hmeet:meet st e=st.dropLast:=by rw[h2];simp[meet]
     rw[hmeet] at hends hmn
     simp (disch:=omega) only[go_sem,AF w]
     refine AX (fun hw=>?_) (fun hw=>?_)
     ·have hst:st≠[]:=by rintro rfl;simp[joinL] at hw
      obtain⟨st',f,rfl⟩:∃ st' f,st=st'++[f]:=⟨st.dropLast,st.getLast hst,(List.dropLast_concat_getLast hst).symm⟩
      have hf:=C.ne f (by simp)
      rw[List.dropLast_concat] at hends hmn
      have hfl:0<f.length:=A99.2 hf.1
      have hbl:=b.len
      simp only[A19] at hbl
      simp (disch:=omega) only[go_sem,A19]
      refine AL w ⟨[str p,bv,.int .i64 ((((47::joinL (st'++[f])).length-1:Nat)):Int)]⟩ (by simp only[A19];rfl) rfl (by simp) rfl fun h w=>?_
      have hle:=C.le
      by_cases hs':st'=[]
      ·subst hs'
       refine MO (A:=[]) (e:=f) b w (.inl ⟨rfl,rfl⟩) hf.2 (by simp[joinL];omega) (by simp) (by omega) fun h w=>?_
       refine hrec (p.length-(rr+2)) _ _ _ ⟨rr+2,[],bv,br,rfl,rfl,rfl,⟨by omega,by omega,by simp,by simp[joinL];try omega,by simp,hends⟩,b.cut 1,w⟩ (by omega)
      ·have hj:=Hg (e:=f) hs'
       have hjn:=A99.2 (KQ hs' (fun e he=>(hmn e he).1))
       refine MO (A:=47::joinL st') (e:=f) b w (.inr ⟨by simp;try omega,by rw[hj];rfl⟩) hf.2 (by rw[hj];simp;try omega) (by simp) (by omega) fun h w=>?_
       rw[hj] at hle
       simp only[A19,A01] at hle
       rw[Nat.max_eq_right (by simp)] at w
       refine hrec (p.length-(rr+2)) _ _ _ ⟨rr+2,st',bv,br,rfl,rfl,rfl,⟨by omega,by omega,hmn,by simp;omega,fun _ hh=>by simp at hh;omega,hends⟩,?_,w⟩ (by omega)
       have:=b.cut (47::joinL st').length
       rw[hj,←A82,List.take_left'] at this
       ·exact this
       ·rfl
     ·have hst:st=[]:=by
       by_cases hs:st=[]
       ·exact hs
       ·have:=A99.2 (KQ hs (fun e he=>(C.ne e he).1))
        simp only[A19] at hw
        omega
      subst hst
      refine hrec (p.length-(rr+2)) _ _ _ ⟨rr+2,[],bv,br,rfl,rfl,rfl,⟨by omega,by omega,by simp,by simp[joinL];try omega,by simp,hends⟩,b,w⟩ (by omega)
    ·rw[A08 h2]
     have hmeet:meet st e=st++[e]:=by simp[meet,hene,h46,h2]
     rw[hmeet] at hends hmn
     simp (disch:=omega) only[go_sem,AF w]
     have hle:=C.le
     refine J2 (fun hw=>?_) (fun hw=>?_)
     ·have hst:st=[]:=by
       by_cases hs:st=[]
       ·exact hs
       ·have:=A99.2 (KQ hs (fun e he=>(C.ne e he).1))
        simp only[A19] at hw
        omega
      subst hst
      unfold E0
      refine Md rfl b w hd he ht hle hrn (by omega) fun bv br h b w=>?_
      refine hrec (p.length-(rr+e.length)) _ _ _ ⟨rr+e.length,[e],bv,br,rfl,rfl,rfl,⟨by omega,by omega,hmn,?_,fun _ hh=>?_,hends⟩,b,w⟩ (by omega)
      ·simp only[joinL,A19] at hle ⊢;omega
      ·rcases ht with rfl|⟨t',rfl⟩
       ·left;simp at hlen;omega
       ·right
        have:=A76 (·[e.length]?) hd
        simp only[A53] at this
        rw[this,A17 (A07 _)];simp
     ·have hst:st≠[]:=by rintro rfl;simp[joinL] at hw
      have hj:=Hg (e:=e) hst
      have hlt2:(47::joinL st).length<rr:=by
       rcases A66 (47::joinL st).length rr with h|h
       ·exact h
       ·rcases C.at_ hst (by omega) with h'|h'
        ·omega
        ·rw[hu] at h'
         cases h'
         exact absurd rfl h47
      refine Mp (ADc (u:=47) b w (by omega) (by omega) fun bv br h b w=>?_)
      unfold E0
      refine Md rfl b w hd he ht (by simp at hlt2 ⊢;omega) hrn (by omega) fun bv br h b w=>?_
      have hcc:47::joinL st++[47]++e=47::joinL (st++[e]):=by rw[hj];simp
      rw[hcc] at b w
      refine hrec (p.length-(rr+e.length)) _ _ _ ⟨rr+e.length,st++[e],bv,br,rfl,rfl,rfl,⟨by omega,by omega,hmn,?_,fun _ hh=>?_,hends⟩,b,w⟩ (by omega)
      ·rw[hj];simp at hlt2 ⊢;omega
      ·rcases ht with rfl|⟨t',rfl⟩
       ·left;simp at hlen;omega
       ·right
        have:=A76 (·[e.length]?) hd
        simp only[A53] at this
        rw[this,A17 (A07 _)];simp
 ·have hrr:rr=p.length:=by omega
  simp (disch:=omega) only[go_sem,AF w,A19,A08]
  have:=C.ends
  rw[hrr,B15] at this
  have hst:st=cleanR q:=by simpa[elems,meet,hd1] using this
  refine AAr (AHd b w (by omega) ?_)
  have hcl:=C.le
  have hcn:=C.ne
  rw[hst] at hcl hcn ⊢
  exact K _ w.right.right (by simp only[A19] at hcl;omega) hcn
end
section
variable {h:H} {k:Value→Prop} {kt Q:Kt} {x y r:Res}
structure Nd where
 num:Nat
 size:Nat
 at_:Nat
 ct:Nat
 mt:Nat
 cr:Nat
 mode:Nat
 uid:Nat
 gid:Nat
 links:Nat
 xblk:Nat
 bcnt:Nat
 dmaj:Nat
 dmin:Nat
 flags:Nat
 data:Value
 dbs:Bs
 dr:Res
 xin:Value
 xbs:Bs
 xr:Res
 dir:Option (Nat×List (Bs×Nat))
abbrev Nd.kids (n:Nd):Value:=.map (n.dir.map (·.1))
abbrev Nd.cells (n:Nd):Array Value:=⟨[.int .i64 n.size,.int .u64 n.at_,.int .u64 n.ct,.int .u64 n.mt,.int .u64 n.cr,.int .u32 n.num,.int .u16 n.mode,.int .u32 n.uid,.int .u32 n.gid,.int .u32 n.links,.int .u32 n.xblk,.int .u32 n.bcnt,.int .u32 n.dmaj,.int .u32 n.dmin,.int .u32 n.flags,n.data,n.xin,n.kids]⟩
abbrev CP (ad:Nat→Nat)(es:List (Bs×Nat)):Obj:=.map (DP (fun c=>Pt (ad c)) es) es.length
def Nd.kr (ad:Nat→Nat)(n:Nd):Res:=match n.dir with|some (mb,es)=>pts mb (CP ad es)|none=>0
abbrev Nd.res (ad:Nat→Nat)(n:Nd):Res:=pts (ad n.num) (.cells n.cells 197 (0,0))+(n.dr+(n.xr+n.kr ad))
def ndR (ad:Nat→Nat):Option Nd→Res
 | some n=>n.res ad
 | none=>0
def sumR (ad:Nat→Nat):List (Option Nd)→Res
 | []=>0
 | o::l=>ndR ad o+sumR ad l
def ptrO (ad:Nat→Nat):Option Nd→Value
 | some n=>Pt (ad n.num)
 | none=>.pointer none
theorem Kj (ad:Nat→Nat)(o:Option Nd):∀ (L:List (Option Nd)) (i:Nat),i<L.length→sumR ad (L.set i o)=ndR ad o+sumR ad (L.set i none)
 | [],i,h=>by simp at h
 | a::l,0,_=>by simp[sumR,ndR,Res.zero_add]
 | a::l,i+1,h=>by
  simp only[List.set_cons_succ,sumR]
  rw[Kj ad o l i (by simpa using h),Res.left_comm]
theorem Fs {ad:Nat→Nat}{L:List (Option Nd)}{i:Nat}{n:Nd}(h:L[i]? = some (some n)):sumR ad L=n.res ad+sumR ad (L.set i none):=by
 have hl:=(A02.1 h).1
 have:=Kj ad (some n) L i hl
 have h2:L.set i (some n)=L:=by
  apply A60
  intro j
  rw[A54]
  by_cases hj:i=j
  ·subst hj;rw[A03 rfl,A03 hl,h]
  ·simp[hj]
 rw[h2] at this
 exact this
structure FOK (s:WS) (ad:Nat→Nat) (L:List (Option Nd)) (tr:Res):Prop where
 ws:s.OK
 vec:Vec 182 1 s.inv L.length (L.map (ptrO ad)) tr
 num:∀ (i:Nat) (n:Nd),L[i]? = some (some n)→n.num=i+1
 nd:∀ (i:Nat) (n:Nd),L[i]? = some (some n)→BufV n.data n.dbs n.dr∧BufV n.xin n.xbs n.xr∧n.mode<65536∧n.links<100000∧n.flags<4294967296
 kid:∀ (i:Nat) (n:Nd) mb es,L[i]? = some (some n)→n.dir=some (mb,es)→∀ e∈es,1≤e.2∧∃ c,L[e.2-1]? = some (some c)
 len:L.length≤10000
abbrev FR (s:WS)(ad:Nat→Nat)(L:List (Option Nd))(tr:Res):Res:=s.res+(tr+sumR ad L)
theorem Bu {T:TypeId}{v:Value}{n i:Nat}{kk:IntKind}{vs:List Value}{u:Value}(d:Vec T 1 v n vs r)(w:AN (r+x) h)(hu:vs[i]? = some u)(K:k u):AI (.slice 1) v (.int kk (i:Int)) fun a=>AB false 1 a h k:=by
 have hl:=d.len.2
 have hi:i<vs.length:=(A02.1 hu).1
 cases d with
 | nil=>simp at hi
 | own hn hc=>
  rename_i b c all
  rw[Cg (by omega),A29,AF w]
  have:(⟨all⟩:Array Value)[i]? = some u:=by
   rw[A41] at hu
   split at hu
   ·simpa using hu
   ·cases hu
  rw[this];exact K
def HJ (ad:Nat→Nat)(L:List (Option Nd))(i:Nat):Value:=match L[i-1]? with|some o=>ptrO ad o|none=>.pointer none
theorem ACV {s:WS}{ad:Nat→Nat}{L:List (Option Nd)}{tr:Res}{i:Nat}(ok:FOK s ad L tr)(w:AN (FR s ad L tr+x) h)(h1:1≤i)(h2:i<4294967296)(K:Q (HJ ad L i) h):U9 (Pt s.wb) (.int .u32 (i:Int)) h Q:=by
 have hlen:=ok.len
 obtain⟨⟨a,c,hv⟩,hvl⟩:=ok.vec.len
 unfold U9 Ucf Unf Ucm
 simp (disch:=omega) only[go_sem,AF w,A08]
 rw[hv]
 simp (disch:=omega) only[go_sem]
 refine AX (fun hc=>?_) (fun hc=>?_)
 ·have:L[i-1]? = none:=A40 (by omega)
  unfold HJ at K
  rw[this] at K
  exact K
 ·unfold Ro Unf Uil
  simp (disch:=omega) only[go_sem,AF w]
  obtain⟨o,ho⟩:∃ o,L[i-1]? = some o:=⟨_,A00 (by omega)⟩
  have hk:HJ ad L i=ptrO ad o:=by unfold HJ;rw[ho]
  rw[hk] at K
  exact Bu (x:=s.res+(sumR ad L+x)) ok.vec (w.cast (by unfold FR;ac_rfl)) (by rw[A21,ho];rfl) K
theorem AF0 {s:WS}{ad:Nat→Nat}{L:List (Option Nd)}{tr:Res}(ok:FOK s ad L tr)(w:AN (FR s ad L tr+x) h)(K:Q (HJ ad L 2) h):Yb (Pt s.wb) h Q:=by
 unfold Yb Ucl
 exact NS (ACV (i:=2) ok w (by omega) (by omega) K)
theorem My {kk:IntKind}{a m:Nat}(ha:a<2^kk.bits)(hm:m<2^kk.bits)(hk:kk.signed=false):AD .and (.int kk (a:Int)) (.int kk (m:Int)) k=k (.int kk ((a &&& m:Nat):Int)):=by
 have h1:(BitVec.ofInt kk.bits (a:Int) &&& BitVec.ofInt kk.bits (m:Int)).toNat=a &&& m:=by
  simp only[BitVec.toNat_and,BitVec.ofInt_natCast,BitVec.toNat_ofNat,A23 ha,A23 hm]
 have h2:a &&& m<2^kk.bits:=B06 B20 ha
 have hv:CT .and (.int kk (a:Int)) (.int kk (m:Int))=some (.int kk ((a &&& m:Nat):Int)):=by
  simp only[CT,if_true,h1]
  rw[QN hk (by omega) (by exact_mod_cast h2)]
 exact propext ⟨fun⟨v,a,b⟩=>by rw[hv] at a;cases a;exact b,fun a=>⟨_,hv,a⟩⟩
theorem Jk {a m:Nat}(ha:a<65536)(hm:(OfNat.ofNat m:Int)<65536):AD .and (.int .u16 (a:Int)) (.int .u16 (no_index (OfNat.ofNat m:Int))) k=k (.int .u16 ((a &&& m:Nat):Int)):=
 My (kk:=.u16) ha (B29.1 hm) rfl
theorem TC {a m:Nat}(ha:a<4294967296)(hm:(OfNat.ofNat m:Int)<4294967296):AD .and (.int .u32 (a:Int)) (.int .u32 (no_index (OfNat.ofNat m:Int))) k=k (.int .u32 ((a &&& m:Nat):Int)):=
 My (kk:=.u32) ha (B29.1 hm) rfl
attribute [go_sem] Jk TC
def kindB (m:Nat):Nat:=m &&& 61440
theorem AIO {b:Nat}{n:Nd}(w:AN x h)[CO b x (.cells n.cells 197 (0,0))](hm:n.mode<65536)(K:Q (.int .u16 (kindB n.mode:Nat)) h):ADI (Pt b) h Q:=by
 unfold ADI Unf
 simp (disch:=omega) only[go_sem,AF w]
 exact K
theorem s93 {b:Nat}{n:Nd}(w:AN x h)[CO b x (.cells n.cells 197 (0,0))](hm:n.mode<65536)(K:Q (.bool (decide (kindB n.mode=16384))) h):f93 (Pt b) h Q:=by
 unfold f93 Ucl
 refine AAf (AIO w hm ?_)
 simp only[go_sem]
 have:decide ((kindB n.mode:Int)=16384)=decide (kindB n.mode=16384):=decide_eq_decide.2 (by omega)
 rw[this];exact K
end
section
variable {h:H} {k:Value→Prop} {kt Q:Kt} {x y r:Res}
def Dv (L:List (Option Nd))(c:Nat)(nm:Bs):Option Nat:=match L[c-1]? with
 | some (some n)=>match n.dir with|some (_,es)=>lookE es nm|none=>none
 | _=>none
def walk (L:List (Option Nd)):Nat→List Bs→Option Nat
 | c,[]=>some c
 | c,e::es=>(Dv L c e).bind fun d=>walk L d es
def YX (L:List (Option Nd))(c:Nat):Prop:=1≤c∧∃ n,L[c-1]? = some (some n)
theorem Gt {es:List (Bs×Nat)}{nm:Bs}{c:Nat}(h:lookE es nm=some c):(nm,c)∈es:=by
 unfold lookE at h
 rw[A74] at h
 obtain⟨p,h1,h2⟩:=h
 have h3:=List.mem_of_find?_eq_some h1
 have h4:=List.find?_some h1
 simp only[beq_iff_eq] at h4
 obtain⟨a,b⟩:=p
 simp only at h2 h4
 subst h2 h4
 exact h3
theorem WW {s:WS}{ad:Nat→Nat}{L:List (Option Nd)}{tr:Res}(ok:FOK s ad L tr){c d:Nat}{nm:Bs}(hc:Dv L c nm=some d):YX L d:=by
 unfold Dv at hc
 split at hc
 ·rename_i n hn
  split at hc
  ·rename_i mb es he
   obtain⟨h1,n',h2⟩:=ok.kid _ _ _ _ hn he _ (Gt hc)
   exact⟨h1,n',h2⟩
  ·cases hc
 ·cases hc
theorem Hi:AG TP 182=some (.pointer none):=by kernel_rfl
theorem EJ {ad:Nat→Nat}{n:Nd}{nm:Bs}(w:AN (n.res ad+x) h)(K:k (match (match n.dir with|some (_,es)=>lookE es nm|none=>none) with|some c=>Pt (ad c)|none=>.pointer none)) :
  CC (some .string) (AG TP 182) false n.kids (str nm) h k:=by
 refine⟨rfl,.pointer none,?_⟩
 cases hd:n.dir with
 | none=>
  rw[hd] at K
  exact⟨none,Hi,by simp[Nd.kids,hd,Jv],K⟩
 | some me=>
  obtain⟨mb,es⟩:=me
  rw[hd] at K
  have hb:h[mb]? = some (CP ad es):=by
   have:=w.left.right.right.right
   unfold Nd.kr at this
   rw[hd] at this
   exact this.one
  obtain⟨q,h1,h2,_⟩:=Fm (fun c=>Pt (ad c)) nm es 0 0
  refine⟨q,Hi,?_,?_⟩
  ·unfold Jv Nd.kids
   rw[hd]
   simp only[A80,hb]
   exact h1
  ·simp only at K
   cases hl:lookE es nm with
   | none=>
    rw[hl] at K h2
    simp only[Option.map_none,Option.map_eq_none_iff] at h2
    subst h2;exact K
   | some c=>
    rw[hl] at K h2
    simp only[A80,A74] at h2
    obtain⟨⟨i,v⟩,rfl,h3⟩:=h2
    simp only at h3
    subst h3;exact K
def E8 (l:List Bs):Bs:=(l.map (· ++ [47])).flatten
theorem GI (e:Bs)(es:List Bs):E8 (e::es)=e++47::E8 es:=by simp[E8]
theorem Ux {e:Bs}{es:List Bs}(he:∀ c∈e,c≠47):Ft (E8 (e::es))=(e,E8 es):=by
 unfold E8 Ft
 simp only[A33,List.flatten_cons,A12,List.singleton_append]
 have h1:∀ m:Bs,(e++47::m).takeWhile (· != 47)=e∧(e++47::m).dropWhile (· != 47)=47::m:=by
  intro m
  induction e with
  | nil=>simp
  | cons c l ih=>
   have hc:(c != 47)=true:=by simpa using he c (A13 ..)
   have:=ih (fun d hd=>he d (A16 _ hd))
   simp only[A82,List.takeWhile_cons,List.dropWhile_cons,hc,if_true,this.1,this.2,and_self]
 rw[(h1 _).1,(h1 _).2]
 rfl
def ptrC (ad:Nat→Nat):Option Nat→Value
 | some c=>Pt (ad c)
 | none=>.pointer none
theorem CG {ad:Nat→Nat}{L:List (Option Nd)}{c:Nat}{s:WS}{tr:Res}{n:Nd}(ok:FOK s ad L tr)(hc:1≤c)(hn:L[c-1]? = some (some n))(w:AN (FR s ad L tr+x) h) :
  AN (n.res ad+(s.res+(tr+(sumR ad (L.set (c-1) none)+x)))) h∧n.num=c:=
 ⟨w.cast (by unfold FR;rw[Fs hn];ac_rfl),by have:=ok.num _ _ hn;omega⟩
theorem AHA {s:WS}{ad:Nat→Nat}{L:List (Option Nd)}{tr:Res}{c:Nat}{ns:List Bs}{v0:Value}(ok:FOK s ad L tr)(w:AN (FR s ad L tr+x) h)(hc:YX L c)(hns:∀ e∈ns,∀ b∈e,b≠47)
  (hl:(E8 ns).length<9223372036854775807) (K:Q (ptrC ad (walk L c ns)) h):ABx v0 (Pt (ad c)) (str (E8 ns)) h Q:=by
 unfold ABx WL
 refine DE (fun m v2 v7 h'=>∃ (ms:List Bs) (o:Option Nat),m=ms.length∧v2=str (E8 ms)∧v7=ptrC ad o∧h'=h∧(∀ e∈ms,∀ b∈e,b≠47)∧(E8 ms).length<9223372036854775807∧(∀ d,o=some d→YX L d)∧walk L c ns=o.bind (fun d=>walk L d ms)) ns.length
  ⟨ns,some c,rfl,rfl,rfl,rfl,hns,hl,fun d hd=>by cases hd;exact hc,rfl⟩ ?_
 rintro rec m v2 v7 h' ⟨ms,o,rfl,rfl,rfl,rfl,hms,hml,ho,hw⟩ hrec
 unfold Qo Ucm
 cases o with
 | none=>
  simp only[ptrC,go_sem]
  rw[hw] at K;exact K
 | some d=>
  simp only[ptrC,go_sem]
  cases ms with
  | nil=>
   have:E8 []=[]:=rfl
   rw[this]
   simp (disch:=omega) only[go_sem,A61,A08]
   rw[hw] at K;exact K
  | cons e es=>
   have hlen:0<(E8 (e::es)).length:=by rw[GI];simp;omega
   simp (disch:=omega) only[go_sem,A04]
   unfold Qa Ucl Unf
   refine Z6 (AG7 hml ?_)
   rw[Ux (hms e (by simp))]
   obtain⟨h1,n,hn⟩:=ho d rfl
   obtain⟨w',hnum⟩:=CG ok h1 hn w
   rw[←hnum]
   simp only[go_sem,AF w']
   refine EJ w' ?_
   have hch:Dv L d e=(match n.dir with|some (_,es)=>lookE es e|none=>none):=by
    unfold Dv;rw[hn]
   rw[←hch]
   refine hrec es.length _ _ _ ⟨es,Dv L d e,rfl,rfl,?_,rfl,fun f hf=>hms f (by simp[hf]),?_,fun f hf=>WW ok hf,?_⟩ (by simp)
   ·cases Dv L d e<;>rfl
   ·have:(E8 (e::es)).length=e.length+1+(E8 es).length:=by rw[GI];simp;omega
    omega
   ·rw[hw];rfl
theorem Mf {e:Bs}:∀ st:List Bs,joinL (st++[e])=E8 st++e
 | []=>rfl
 | [a]=>by simp[joinL,E8]
 | a::b::r=>by
  have:=Mf (e:=e) (b::r)
  simp only[A82,joinL] at this ⊢
  rw[this,GI,GI,GI]
  simp only[A12,A82]
theorem Vt (st:List Bs):E8 st=[]∨∃ a,E8 st=a++[47]:=by
 rcases List.eq_nil_or_concat st with rfl|⟨l,e,rfl⟩
 ·left;rfl
 ·right
  exact⟨E8 l++e,by simp[E8]⟩
theorem s92 {s:WS}{ad:Nat→Nat}{L:List (Option Nd)}{tr:Res}{nm e:Bs}{st:List Bs}{d:Nat}{n:Nd}{must:Bool}(ok:FOK s ad L tr)(w:AN (FR s ad L tr+x) h)(hroot:YX L 2)(hl:nm.length≤100000)
  (hst:cleanR nm=st++[e]) (he:e.length≤255) (hwalk:walk L 2 st=some d) (hdn:L[d-1]? = some (some n)) (hd1:1≤d) (hdir:kindB n.mode=16384) (hmust:must=true→Dv L d e≠none)
  (K:∀ h,AN (FR s ad L tr+x) h→Q (.tuple #[Pt (ad d),ptrC ad (Dv L d e),str e,.nilIface]) h):f92 (Pt s.wb) (str nm) (.bool must) h Q:=by
 unfold f92 Ucl Ucm Ucf
 refine Sg (AF0 ok w ?_)
 obtain⟨_,nr,hnr⟩:=hroot
 have hrp:HJ ad L 2=Pt (ad 2):=by
  unfold HJ
  rw[hnr]
  simp only[ptrO]
  rw[ok.num _ _ hnr]
 rw[hrp]
 have h47:(Value.string ⟨#[47]⟩)=str [47]:=rfl
 rw[h47]
 simp (disch:=(simp;omega)) only[H9]
 refine AAK (AG8 (q:=nm) w (by omega) fun h w hjl hns=>?_)
 rw[hst,Mf] at hjl ⊢
 rw[hst] at hns
 have hlen:(E8 st++e).length≤nm.length:=hjl
 simp only[A01] at hlen
 have hene:=hns e (by simp)
 have hel:0<e.length:=A99.2 hene.1
 rw[Ou (by simp)]
 simp only[B48,A68]
 simp (disch:=(simp only[A01];omega)) only[go_sem,A08]
 refine ZU (AHH (by simp only[A01];omega) ?_)
 rw[N0 hene.2 (Vt st)]
 simp (disch:=omega) only[go_sem,A08]
 unfold Ws Ucl Unt
 refine Yq (AHA ok w ⟨by omega,nr,hnr⟩ (fun f hf=>(hns f (by simp[hf])).2) (by omega) ?_)
 rw[hwalk]
 simp only[ptrC,go_sem]
 obtain⟨w',hnum⟩:=CG ok hd1 hdn w
 obtain⟨_,_,hmode,_,_⟩:=ok.nd _ _ hdn
 rw[←hnum]
 refine Pz (s93 w' hmode ?_)
 rw[A04 hdir]
 simp only[go_sem,A91]
 unfold VK Unf Ucl
 simp (disch:=omega) only[go_sem,AF w']
 refine EJ w' ?_
 have hch:Dv L d e=(match n.dir with|some (_,es)=>lookE es e|none=>none):=by
  unfold Dv;rw[hdn]
 rw[←hch,hnum]
 cases hc:Dv L d e with
 | none=>
  simp only[go_sem]
  have hm:must=false:=by
   cases hm:must with
   | false=>rfl
   | true=>exact absurd hc (hmust hm)
  rw[hm]
  rw[hc] at K
  simp only[go_sem]
  exact K h w
 | some c=>
  simp only[go_sem]
  rw[hc] at K
  exact K h w
end
section
set_option maxRecDepth 100000
def ACx (a:Value)(h:H)(Q:Kt):Prop:=
 BB 188 (a:Value).cells h fun a h=>Ufl 0 a h fun b=>Unt b
 (Q (.int .u64 0) h)
 (Ufl 1 a h fun b=>Ucm .lss b (.int .i64 (-2147483648))
 (Q (.int .u64 2147483648) h)
 (Ucm .gtr b (.int .i64 15032385535)
 (Q (.int .u64 15032385535) h)
 (AV .u64 b fun b=>Ufl 2 a h fun a=>AV .u64 a fun a=>AD .shl a (.int .u64 34) fun a=>AD .or b a fun a=>Q a h)))
theorem Je {a:Value}{h:H}{Q:Kt}(x:ACx a h Q):Call TP 153 [a] h Q:=Bb nT Tryz.func153 (by kernel_rfl) x
def ACg (a:Value)(h:H)(Q:Kt):Prop:=
 Uff 2 a fun b=>AJ 1 b (.int .i64 96) h fun h=>Uff 3 a fun a=>AJ 1 a (.int .i64 4060) h fun h=>Q (.tuple #[]) h
theorem Zh {a:Value}{h:H}{Q:Kt}(x:ACg a h Q):Call TP 154 [a] h Q:=Bb nT Tryz.func154 (by kernel_rfl) x
def AC6 (a b c:Value)(h:H)(Q:Kt):Prop:=
 Ucl 196 [b] h fun b h=>AO b 0 fun d=>AO b 1 fun b=>Ae (.struct [(0,1),(1,1),(2,1)]) (AG TP 291) [(1,d),(0,b),(2,c)] fun b=>Umk 291 h fun c h=>AJ 3 c b h fun h=>Ucl 160 [c] h fun b h=>Ucl 197 [c] h fun d h=>AD .add b d fun b=>Unf 2 a h fun d=>Ucm .geq d b
 (Uff 0 a fun d=>Uld d h fun f=>AB true 3 c h fun c=>AH (.arr 3) 291 (AG TP 291) 3 1 [(0,c)] h fun c h=>((Ukp d h f)∧AM 291 (AG TP 291) 3 48 f c h fun c h=>Uff 0 a fun d=>AJ 1 d c h fun h=>Unf 2 a h fun c=>AD .sub c b fun b=>Uff 2 a fun a=>AJ 1 a b h fun h=>Q (.bool true) h))
 (Unf 3 a h fun d=>Ucm .geq d b
 (Uff 1 a fun d=>Uld d h fun f=>AB true 3 c h fun c=>AH (.arr 3) 291 (AG TP 291) 3 1 [(0,c)] h fun c h=>((Ukp d h f)∧AM 291 (AG TP 291) 3 48 f c h fun c h=>Uff 1 a fun d=>AJ 1 d c h fun h=>Unf 3 a h fun c=>AD .sub c b fun b=>Uff 3 a fun a=>AJ 1 a b h fun h=>Q (.bool true) h))
 (Q (.bool false) h))
theorem ZA {a b c:Value}{h:H}{Q:Kt}(x:AC6 a b c h Q):Call TP 155 [a,b,c] h Q:=Bb nT Tryz.func155 (by kernel_rfl) x
def VH (Q:Kt)(r1:R1)(r2:R1)(a b c d f g:Value)(h:H):Prop:=
 Uld c h fun a=>Unf 1 a h fun a=>Uld c h fun b=>Unf 1 b h fun b=>AD .sub g (.int .i64 1) fun d=>Uld c h fun f=>Unf 1 f h fun f=>AD .sub g (.int .i64 1) fun i=>AI (.slice 3) f i fun f=>AB true 3 f h fun f=>Uld c h fun c=>Unf 1 c h fun c=>AI (.slice 3) c g fun c=>AB true 3 c h fun c=>AI (.slice 3) a g fun a=>AJ 3 a f h fun h=>AI (.slice 3) b d fun a=>AJ 3 a c h fun h=>AD .sub g (.int .i64 1) fun a=>r2 a h
def Xj (Q:Kt)(r1:R1)(r2:R1)(a b c d f g:Value)(h:H):Prop:=
 Ucg .gtr g (.int .i64 0) (AD .sub g (.int .i64 1) fun i=>Bj TP d [g,i] h fun i h=>AK i
 (VH Q r1 r2 a b c d f g h)
 (AD .add f (.int .i64 1) fun a=>r1 a h)) (AD .add f (.int .i64 1) fun a=>r1 a h)
def ACv (Q:Kt)(r1:R1)(a b c d f g:Value)(h:H):Prop:=A1 (fun r2 g h=>Xj Q r1 r2 a b c d f g h) g h
def XU (Q:Kt)(r1:R1)(a b c d f:Value)(h:H):Prop:=
 Uld c h fun g=>Unf 1 g h fun g=>Ab g fun g=>Ucm .lss f g
 (ACv Q r1 a b c d f f h)
 (Umk 205 h fun d h=>AZ (.arr 4096 1) d (some (.int .i64 0)) none fun f=>Ucl 170 [f,(.int .u32 3925999616)] h fun _ h=>AZ (.arr 4096 1) d (some (.int .i64 4)) none fun f=>Ucl 170 [f,(.int .u32 1)] h fun _ h=>AZ (.arr 4096 1) d (some (.int .i64 8)) none fun f=>Ucl 170 [f,(.int .u32 1)] h fun _ h=>Uld c h fun c=>Unf 1 c h fun c=>AZ (.arr 4096 1) d (some (.int .i64 32)) none fun f=>Ucl 169 [c,f,(.int .u16 32)] h fun _ h=>Ucl 100 [a] h fun c h=>Unf 10 b h fun f=>Ucm .eql f (.int .u32 0)
 (Uff 10 b fun f=>AJ 1 f c h fun h=>Unf 11 b h fun c=>AD .add c (.int .u32 1) fun c=>Uff 11 b fun b=>AJ 1 b c h fun h=>AZ (.arr 4096 1) d none none fun b=>Ucl 98 [a,b] h fun a h=>AO a 0 fun _=>AO a 1 fun a=>Bq .iface true true h a .nilIface fun b=>AK b
 (Q a h)
 (Q .nilIface h))
 (Unf 10 b h fun b=>Ucl 101 [a,b] h fun _ h=>False ))
def AB7 (Q:Kt)(a b c d f:Value)(h:H):Prop:=A1 (fun r1 f h=>XU Q r1 a b c d f h) f h
def LR (Q:Kt)(a b c d:Value)(h:H):Prop:=
 AK d
 (AB7 Q a b c (.func (.func 198) #[] #[c]) (.int .i64 1) h)
 (Q .nilIface h)
def J4 (Q:Kt)(a b c:Value)(h:H):Prop:=
 Uld c h fun d=>Unf 1 d h fun d=>Ab d fun d=>Ucf .neq d (.int .i64 0) (Unf 10 b h fun d=>AD .neq d (.int .u32 0) fun d=>LR Q a b c d h) (LR Q a b c (.bool true) h)
def UW (a b c:Value)(h:H)(Q:Kt):Prop:=
 BB 287 (c:Value).cells h fun c h=>Uld c h fun d=>Unf 0 d h fun d=>Ab d fun d=>Ucm .neq d (.int .i64 0)
 (AY (AG TP 5) 1 1 5 (.int .i64 104) (.int .i64 104) h fun d h=>Uff 16 b fun f=>AJ 1 f d h fun h=>Unf 16 b h fun d=>AZ (.slice 1) d (some (.int .i64 0)) none fun d=>Ucl 170 [d,(.int .u32 3925999616)] h fun _ h=>Uld c h fun d=>Unf 0 d h fun d=>Unf 16 b h fun f=>AZ (.slice 1) f (some (.int .i64 4)) none fun f=>Ucl 169 [d,f,(.int .u16 0)] h fun _ h=>J4 Q a b c h)
 (J4 Q a b c h)
def AGP (Q:Kt)(r:RS):Nat→DJ:=tab [(480402,.jn fun e h=>VH Q (u1 (r 938)) (u1 (r 60050)) (e 0) (e 1) (e 5) (e 7) (e 8) (e 9) h),
 (120101,.lp [0,1,5,7,8] [9] fun s e l h=>Xj Q (u1 (r 938)) (u1 s) (e 0) (e 1) (e 5) (e 7) (e 8) (gl l 0) h),
 (1877,.lp [0,1,5,7] [8] fun s e l h=>XU Q (u1 s) (e 0) (e 1) (e 5) (e 7) (gl l 0) h),
 (58,.jn fun e h=>LR Q (e 0) (e 1) (e 5) (e 52) h),
 (14,.jn fun e h=>J4 Q (e 0) (e 1) (e 5) h)]
theorem Zo {a b c:Value}{h:H}{Q:Kt}(x:UW a b c h Q):Call TP 156 [a,b,c] h Q:=Bb (AGP Q) Tryz.func156 (by kernel_rfl) x
def ACF (a:Value)(h:H)(Q:Kt):Prop:=
 Uil a (.int .i64 0) h fun b=>AV .u32 b fun b=>Uil a (.int .i64 1) h fun c=>AV .u32 c fun c=>AD .shl c (.int .u64 8) fun c=>AD .or b c fun b=>Uil a (.int .i64 2) h fun c=>AV .u32 c fun c=>AD .shl c (.int .u64 16) fun c=>AD .or b c fun b=>Uil a (.int .i64 3) h fun a=>AV .u32 a fun a=>AD .shl a (.int .u64 24) fun a=>AD .or b a fun a=>Q a h
theorem Tc {a:Value}{h:H}{Q:Kt}(x:ACF a h Q):Call TP 158 [a] h Q:=Bb nT Tryz.func158 (by kernel_rfl) x
def ACZ (a:Value)(h:H)(Q:Kt):Prop:=
 Unf 0 a h fun a=>CL a fun a=>AD .add a (.int .i64 3) fun a=>AD .andNot a (.int .i64 3) fun a=>AD .add a (.int .i64 16) fun a=>Q a h
theorem Tp {a:Value}{h:H}{Q:Kt}(x:ACZ a h Q):Call TP 160 [a] h Q:=Bb nT Tryz.func160 (by kernel_rfl) x
def KU (Q:Kt)(r1:R4)(a b c d f g:Value)(h:H):Prop:=
 Ucm .lss g b
 (AI (.slice 3) a g fun a=>AB true 3 a h fun a=>Umk 291 h fun b h=>AJ 3 b a h fun h=>Ucl 197 [b] h fun a h=>AV .u16 a fun i=>AD .sub c i fun c=>Ufl 0 b h fun i=>CL i fun i=>AV .u8 i fun i=>AI (.slice 1) d (.int .i64 0) fun j=>AJ 1 j i h fun h=>Ufl 1 b h fun i=>AI (.slice 1) d (.int .i64 1) fun j=>AJ 1 j i h fun h=>AZ (.slice 1) d (some (.int .i64 2)) none fun i=>Ucl 205 [i,c] h fun _ h=>AZ (.slice 1) d (some (.int .i64 8)) none fun i=>Ufl 2 b h fun j=>Ab j fun j=>AV .u32 j fun j=>Ucl 170 [i,j] h fun _ h=>AZ (.slice 1) d (some (.int .i64 12)) none fun i=>Ufl 0 b h fun j=>Ufl 2 b h fun k=>Ucl 206 [j,k] h fun j h=>Ucl 170 [i,j] h fun _ h=>AZ (.slice 1) d (some (.int .i64 16)) none fun i=>Ufl 0 b h fun j=>DI 1 i j h fun _ h=>Ucl 160 [b] h fun i h=>AZ (.slice 1) d (some i) none fun d=>Ab f fun i=>AD .sub i a fun i=>AZ (.slice 1) f (some i) none fun i=>Ufl 2 b h fun b=>DI 1 i b h fun _ h=>Ab f fun b=>AD .sub b a fun a=>AZ (.slice 1) f none (some a) fun a=>AD .add g (.int .i64 1) fun b=>r1 c d a b h)
 (Q (.tuple #[]) h)
def V6 (Q:Kt)(a b c d f g:Value)(h:H):Prop:=AA6 (fun r1 c d f g h=>KU Q r1 a b c d f g h) c d f g h
def ADD (a b c:Value)(h:H)(Q:Kt):Prop:=
 Ab b fun d=>AV .u16 d fun d=>AD .add d c fun c=>Ab a fun d=>V6 Q a d c b b (.int .i64 0) h
def AGb (Q:Kt)(r:RS):Nat→DJ:=tab [(125,.lp [19,20] [6,7,8,21] fun s e l h=>KU Q (u4 s) (e 19) (e 20) (gl l 0) (gl l 1) (gl l 2) (gl l 3) h)]
theorem Sc {a b c:Value}{h:H}{Q:Kt}(x:ADD a b c h Q):Call TP 169 [a,b,c] h Q:=Bb (AGb Q) Tryz.func169 (by kernel_rfl) x
def VC (a b:Value)(h:H)(Q:Kt):Prop:=
 AV .u8 b fun c=>AD .shr b (.int .u64 8) fun d=>AV .u8 d fun d=>AD .shr b (.int .u64 16) fun f=>AV .u8 f fun f=>AD .shr b (.int .u64 24) fun b=>AV .u8 b fun b=>AI (.slice 1) a (.int .i64 0) fun g=>AJ 1 g c h fun h=>AI (.slice 1) a (.int .i64 1) fun c=>AJ 1 c d h fun h=>AI (.slice 1) a (.int .i64 2) fun c=>AJ 1 c f h fun h=>AI (.slice 1) a (.int .i64 3) fun a=>AJ 1 a b h fun h=>Q (.tuple #[]) h
theorem Jx {a b:Value}{h:H}{Q:Kt}(x:VC a b h Q):Call TP 170 [a,b] h Q:=Bb nT Tryz.func170 (by kernel_rfl) x
def RG (Q:Kt)(r1:R1)(a b c:Value)(h:H):Prop:=
 Ucm .lss c (.int .i64 7)
 (Ch true 7 2 b c fun b=>Umk 341 h fun d h=>AJ 2 d b h fun h=>Ufl 1 d h fun b=>Ucl 210 [a,b] h fun b h=>AK b
 (Ufl 0 d h fun b=>Ufl 1 d h fun c=>CL c fun c=>AZ .str a (some c) none fun a=>Q (.tuple #[b,a]) h)
 (AD .add c (.int .i64 1) fun a=>r1 a h))
 (Q (.tuple #[(.int .u8 0),a]) h)
def XK (Q:Kt)(a b c:Value)(h:H):Prop:=A1 (fun r1 c h=>RG Q r1 a b c h) c h
def AB3 (a:Value)(h:H)(Q:Kt):Prop:=
 AB true 14 (.pointer (some ⟨4,0,none⟩)) h fun b=>XK Q a b (.int .i64 0) h
def AGx (Q:Kt)(r:RS):Nat→DJ:=tab [(53,.lp [0,6] [7] fun s e l h=>RG Q (u1 s) (e 0) (e 6) (gl l 0) h)]
theorem Ye {a:Value}{h:H}{Q:Kt}(x:AB3 a h Q):Call TP 196 [a] h Q:=Bb (AGx Q) Tryz.func196 (by kernel_rfl) x
def AD1 (a:Value)(h:H)(Q:Kt):Prop:=
 Unf 2 a h fun a=>Ab a fun a=>AD .add a (.int .i64 3) fun a=>AD .andNot a (.int .i64 3) fun a=>Q a h
theorem TH {a:Value}{h:H}{Q:Kt}(x:AD1 a h Q):Call TP 197 [a] h Q:=Bb nT Tryz.func197 (by kernel_rfl) x
def AC0 (a b:Value)(h:H)(Q:Kt):Prop:=
 AV .u8 b fun c=>AD .shr b (.int .u64 8) fun b=>AV .u8 b fun b=>AI (.slice 1) a (.int .i64 0) fun d=>AJ 1 d c h fun h=>AI (.slice 1) a (.int .i64 1) fun a=>AJ 1 a b h fun h=>Q (.tuple #[]) h
theorem AAw {a b:Value}{h:H}{Q:Kt}(x:AC0 a b h Q):Call TP 205 [a,b] h Q:=Bb nT Tryz.func205 (by kernel_rfl) x
def AJj (Q:Kt)(r1:R2)(a b c:Value)(h:H):Prop:=
 AD .add c (.int .i64 3) fun d=>Ab a fun f=>Ucm .lss d f
 (AD .shl b (.int .u64 16) fun d=>AD .shr b (.int .u64 16) fun b=>AD .xor d b fun b=>AD .add c (.int .i64 4) fun d=>AZ (.slice 1) a (some c) (some d) fun a=>Ucl 158 [a] h fun a h=>AD .xor b a fun a=>AD .add c (.int .i64 4) fun b=>r1 a b h)
 (Ab a fun c=>AD .rem c (.int .i64 4) fun c=>Ucm .neq c (.int .i64 0)
 (Umk 238 h fun c h=>AZ (.arr 4 1) c none none fun d=>Ab a fun f=>AD .andNot f (.int .i64 3) fun f=>AZ (.slice 1) a (some f) none fun a=>DI 1 d a h fun _ h=>AD .shl b (.int .u64 16) fun a=>AD .shr b (.int .u64 16) fun b=>AD .xor a b fun a=>AZ (.arr 4 1) c none none fun b=>Ucl 158 [b] h fun b h=>AD .xor a b fun a=>Q a h)
 (Q b h))
def Ri (Q:Kt)(a b c:Value)(h:H):Prop:=Bx (fun r1 b c h=>AJj Q r1 a b c h) b c h
def RH (Q:Kt)(r2:R2)(a b c d:Value)(h:H):Prop:=
 CL a fun f=>Ucm .lss d f
 (AD .shl c (.int .u64 5) fun b=>AD .shr c (.int .u64 27) fun c=>AD .xor b c fun b=>BQ a d fun a=>AV .u32 a fun a=>AD .xor b a fun a=>AD .add d (.int .i64 1) fun b=>r2 a b h)
 (Ri Q b c (.int .i64 0) h)
def YA (Q:Kt)(a b c d:Value)(h:H):Prop:=Bx (fun r2 c d h=>RH Q r2 a b c d h) c d h
def AB1 (a b:Value)(h:H)(Q:Kt):Prop:=
 YA Q a b (.int .u32 0) (.int .i64 0) h
def AGL (Q:Kt)(r:RS):Nat→DJ:=tab [(245,.lp [1] [5,7] fun s e l h=>AJj Q (u2 s) (e 1) (gl l 0) (gl l 1) h),
 (117,.lp [0,1] [5,6] fun s e l h=>RH Q (u2 s) (e 0) (e 1) (gl l 0) (gl l 1) h)]
theorem Yp {a b:Value}{h:H}{Q:Kt}(x:AB1 a b h Q):Call TP 206 [a,b] h Q:=Bb (AGL Q) Tryz.func206 (by kernel_rfl) x
def ABm (a b:Value)(h:H)(Q:Kt):Prop:=
 Ucl 213 [a,b] h fun a h=>Q a h
theorem Z4 {a b:Value}{h:H}{Q:Kt}(x:ABm a b h Q):Call TP 210 [a,b] h Q:=Bb nT Tryz.func210 (by kernel_rfl) x
def ACH (a b:Value)(h:H)(Q:Kt):Prop:=
 CL a fun c=>CL b fun d=>Ucg .geq c d (CL b fun c=>AZ .str a none (some c) fun a=>AD .eql a b fun a=>Q a h) (Q (.bool false) h)
theorem Ym {a b:Value}{h:H}{Q:Kt}(x:ACH a b h Q):Call TP 213 [a,b] h Q:=Bb nT Tryz.func213 (by kernel_rfl) x
end
end Go.Proofs.YtollddkkdgoonaaGreatDoor
