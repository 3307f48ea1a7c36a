/- A part of a proof over images that are written and read. No condition; a step. -/
import Derived.Test.YtollddkkdgoonaaGreatDoorM19
namespace Go.Proofs.YtollddkkdgoonaaGreatDoor
open Go
set_option linter.unusedVariables false
set_option linter.unusedSimpArgs false
set_option maxRecDepth 100000
section
variable {h:H} {k:Value→Prop} {kt Q:Kt} {x y z r:Res}
attribute [local irreducible] AK Az AQ BB Ae AY AH AM
def BV:List Bs→Bs→Nat
 | [],_=>0
 | a::l,nm=>if Op.bytesLess a nm=true then BV l nm+1 else 0
theorem EI:∀ (l:List Bs) (nm:Bs),BV l nm≤l.length
 | [],_=>A07 _
 | a::l,nm=>by
  have:=EI l nm
  rw[BV,A19]
  split<;>omega
theorem NX {l:List Bs}{i:Nat}{a:Bs}(h:l[i]? = some a):(strs l)[i]? = some (str a):=Gf h
theorem Ov {l:List Bs}{nm a:Bs}{i:Nat}(h:l[i]? = some a):BV (l.drop i) nm=if Op.bytesLess a nm=true then BV (l.drop (i+1)) nm+1 else 0:=by
 obtain⟨hi,e⟩:=A02.1 h
 rw[A50 hi,BV,e]
section
variable {cs:List Value} {nv kv:Value} {names:List Bs} {nm:Bs} {b2:Nat}
theorem s50 (hcs:cs[16]? = some nv)(d:RdV 1 nv names.length (strs names) x)(hl:names.length<1000000000)(w:AN x h)
  (K:∀ y h,AN (y+x) h→Q (.tuple #[.int .i64 (BV names nm:Nat),.bool (decide (names[BV names nm]? = some nm))]) h):f50 (.agg ⟨cs⟩) (str nm) h Q:=by
 obtain⟨⟨va,vc,hv⟩,_⟩:=d.len
 unfold f50
 refine BJ w fun b2 h w=>?_
 have w:AN (pts b2 (.cells ⟨cs⟩ 63 (0,0))+x) h:=w
 have g16:(⟨cs⟩:Array Value)[16]? = some nv:=by simpa using hcs
 have j1:∀ i,i≤names.length→BV names nm=i→Pc Q (str nm) (Pt b2) (.int .i64 (i:Nat)) h:=by
  intro i hi hp
  unfold Pc Ufl Ucg Uil
  rw[AIq]
  refine AW w g16 ?_
  rw[hv,Aw,AT]
  refine C3 (fun hc=>?_) (fun hc=>?_)
  ·have hil:i<names.length:=by omega
   have hg:names[i]? = some names[i]:=A00 hil
   rw[AIq]
   refine AW w g16 ?_
   refine (d.addR:RdV 1 nv names.length (strs names) (_+x)).get w (NX hg) ?_
   rw[NZ]
   have:=K (pts b2 (.cells ⟨cs⟩ 63 (0,0))) h w
   rw[hp,hg] at this
   have e:decide (some names[i]=some nm)=decide (names[i]=nm):=decide_eq_decide.2 (by simp)
   rw[e] at this
   exact this
  ·have:=K (pts b2 (.cells ⟨cs⟩ 63 (0,0))) h w
   rw[hp,A40 (by omega)] at this
   exact this
 unfold AA2
 refine Ba (fun m u h'=>∃ i,m+i=names.length∧u=.int .i64 (i:Nat)∧h'=h∧BV names nm=i+BV (names.drop i) nm) names.length ⟨0,rfl,rfl,rfl,by rw[A68,A29]⟩ ?_
 rintro rec m u h' ⟨i,hi,rfl,rfl,hp⟩ hrec
 unfold W8 Ufl Ucg Uil Ucm
 rw[AIq]
 refine AW w g16 ?_
 rw[hv,Aw,AT]
 refine C3 (fun hc=>?_) (fun hc=>?_)
 ·have hil:i<names.length:=by omega
  have hg:names[i]? = some names[i]:=A00 hil
  rw[AIq]
  refine AW w g16 ?_
  refine (d.addR:RdV 1 nv names.length (strs names) (_+x)).get w (NX hg) ?_
  rw[SC]
  rw[Ov hg] at hp
  cases hb:Op.bytesLess names[i] nm with
  | true=>
   rw[hb,A03 rfl] at hp
   rw[Ak,BN (n:=1),Ci (by omega)]
   exact hrec (m-1) _ _ ⟨i+1,by omega,rfl,rfl,by omega⟩ (by omega)
  | false=>
   rw[hb,A05 (by decide),A58] at hp
   rw[AU]
   exact j1 i (by omega) hp
 ·have:i=names.length:=by omega
  subst this
  rw[B15] at hp
  exact j1 _ (A07 _) hp
def ints (l:List Nat):List Value:=l.map fun n=>.int .i64 (n:Nat)
theorem SD {l:List Nat}{i n:Nat}(h:l[i]? = some n):(ints l)[i]? = some (.int .i64 (n:Nat)):=by unfold ints;rw[A21,h];rfl
def kidL (ks:List (Bs×Nat))(nm:Bs):Option Nat:=match ks[BV (ks.map (·.1)) nm]? with|some e=>if e.1=nm then some e.2 else none|none=>none
variable {ks:List (Bs×Nat)}
theorem s20 (hcs:cs[16]? = some nv)(hcs2:cs[17]? = some kv)(hcl:cs.length=18)(d:RdV 1 nv ks.length (strs (ks.map (·.1))) x)(d2:RdV 1 kv ks.length (ints (ks.map (·.2))) x)(hl:ks.length<1000000000)(w:AN x h)
  (K:∀ y h,AN (y+x) h→Q (match kidL ks nm with|some n=>.tuple #[.int .i64 (n:Nat),.bool true]|none=>.tuple #[.int .i64 0,.bool false]) h):f20 (.agg ⟨cs⟩) (str nm) h Q:=by
 unfold f20 Ucl Unt Ufl Uil
 refine BJ w fun b2 h w=>?_
 have w:AN (pts b2 (.cells ⟨cs⟩ 63 (0,0))+x) h:=w
 refine Cj w hcl ?_
 refine Xl (s50 (names:=ks.map (·.1)) (nm:=nm) (x:=pts b2 (.cells ⟨cs⟩ 63 (0,0))+x) hcs (by rw[A25];exact d.addR) (by rw[A25];exact hl) w fun y h w=>?_)
 rw[DA,DH,F1]
 have hle:=EI (ks.map (·.1)) nm
 rw[A21]
 cases hg:ks[BV (ks.map (·.1)) nm]? with
 | none=>
  have hk:kidL ks nm=none:=by unfold kidL;rw[hg]
  rw[hk] at K
  have e:decide ((none:Option (Bs×Nat)).map (·.1)=some nm)=false:=rfl
  rw[e,B44,Ak]
  exact K (y+pts b2 (.cells ⟨cs⟩ 63 (0,0))) h (w.cast (by ac_rfl))
 | some e=>
  have e1:decide ((some e).map (·.1)=some nm)=decide (e.1=nm):=decide_eq_decide.2 (by simp)
  rw[e1]
  by_cases hn:e.1=nm
  ·rw[A04 hn,A91,AU,AIq]
   have hk:kidL ks nm=some e.2:=by unfold kidL;rw[hg];exact A03 hn
   have K':=K
   rw[hk] at K'
   have g17:(⟨cs⟩:Array Value)[17]? = some kv:=by simpa using hcs2
   refine AW w g17 ?_
   refine (d2.addR.addR:RdV 1 kv ks.length (ints (ks.map (·.2))) (y+(_+x))).get w (SD (by rw[A21,hg];rfl)) ?_
   exact K' (y+pts b2 (.cells ⟨cs⟩ 63 (0,0))) h (w.cast (by ac_rfl))
  ·rw[A08 hn,B44,Ak]
   have hk:kidL ks nm=none:=by unfold kidL;rw[hg];exact A05 hn
   have K':=K
   rw[hk] at K'
   exact K' (y+pts b2 (.cells ⟨cs⟩ 63 (0,0))) h (w.cast (by ac_rfl))
theorem s31 {m:Nat}{cs:List Value}(hcs:cs[0]? = some (.int .u16 (m:Nat)))(hm:m<65536)(w:AN x h)(K:∀ y h,AN (y+x) h→Q (.int .u16 (kindB m:Nat)) h):f31 (.agg ⟨cs⟩) h Q:=by
 unfold f31 Ufl
 refine BJ w fun b2 h w=>?_
 have w:AN (pts b2 (.cells ⟨cs⟩ 63 (0,0))+x) h:=w
 have g0:(⟨cs⟩:Array Value)[0]? = some (.int .u16 (m:Nat)):=by simpa using hcs
 rw[AIq]
 refine AW w g0 ?_
 rw[Jk hm (by decide)]
 exact K _ h w
def FB (ks:List (Bs×Nat))(nm:Bs)(n:Nat):List (Bs×Nat):=
 ks.take (BV (ks.map (·.1)) nm)++[(nm,n)]++ks.drop (BV (ks.map (·.1)) nm+if (ks.map (·.1))[BV (ks.map (·.1)) nm]? = some nm then 1 else 0)
end
end
section
variable {h:H} {k:Value→Prop} {kt Q:Kt} {x y z r:Res}
attribute [local irreducible] AK Az AQ BB Ae AY AH AM
theorem Lr {α:Type}{f:α→Value}{l:List α}{v:Value}{n i:Nat}{kk:IntKind}(d:RdV 1 v n (l.map f) x)(hi:i≤n)(K:∀ v',RdV 1 v' i ((l.take i).map f) x→k v'):AZ (.slice 1) v none (some (.int kk (i:Int))) k:=by
 refine d.slice (i:=0) (j:=i) rfl BA (A39 _) hi fun v' d'=>K v' ?_
 simp only[B35,A67,A92,A68] at d'
 rw[B11];exact d'
theorem MD {α:Type}{f:α→Value}{l:List α}{v:Value}{n i:Nat}{kk:IntKind}(d:RdV 1 v n (l.map f) x)(hi:i≤n)(K:∀ v',RdV 1 v' (n-i) ((l.drop i).map f) x→k v'):AZ (.slice 1) v (some (.int kk (i:Int))) none k:=by
 have hl:=d.len.2
 refine d.slice (i:=i) (j:=n) BA rfl hi (A07 _) fun v' d'=>K v' ?_
 rw[A67,A67,A43 (by omega)] at d'
 rw[List.map_drop];exact d'
theorem Ko:AG TP 63=some (.agg ⟨[.int .u16 0,.int .u32 0,.int .u32 0,.int .i64 0,.int .i64 0,.int .i64 0,.int .i64 0,.int .i64 0,.int .i64 0,.int .i64 0,.int .i64 0,.int .u32 0,.int .u32 0,.slice none 0 0,str [],.slice none 0 0,.slice none 0 0,.slice none 0 0]⟩):=by kernel_rfl
theorem OT (l:List Nat):(ints l).all Value.oneCell'=true:=by
 unfold ints
 rw[List.all_map,B10]
 intro a _;rfl
theorem XY (ks:List (Bs×Nat))(nm:Bs)(n:Nat):(FB ks nm n).length≤ks.length+1:=by
 have:=EI (ks.map (·.1)) nm
 rw[A25] at this
 unfold FB
 simp only[A01,A20,A27,A57]
 omega
section
variable {cs z18:List Value} {nv kv:Value} {ks:List (Bs×Nat)} {nm:Bs} {b3 b6 i j n:Nat}
theorem AEg {x9 x10:Value}{r9 r10:Res}{ns:List Bs}{is:List Nat}(hcl:cs.length=18)(h16:cs[16]? = some nv)(h17:cs[17]? = some kv)(hone:cs.all Value.oneCell'=true)(hz:z18.length=18)(d:RdV 1 nv ks.length (strs (ks.map (·.1))) x)(d2:RdV 1 kv ks.length (ints (ks.map (·.2))) x)(hl:ks.length<1000000000)
  (hj:j≤ks.length) (hi:i≤ks.length+1) (a9:Vec 9 1 x9 i (strs ns) r9) (a10:Vec 3 1 x10 i (ints is) r10)
  (w:AN (r9+(r10+(pts b3 (.cells ⟨cs⟩ 63 (0,0))+(pts b6 (.cells ⟨z18⟩ 63 (0,0))+x)))) h)
  (K:∀ nv' kv' y h,RdV 1 nv' (i+(ks.length-j)) (strs (ns++(ks.drop j).map (·.1))) y→RdV 1 kv' (i+(ks.length-j)) (ints (is++(ks.drop j).map (·.2))) y→AN (y+x) h→Q (.agg ⟨(cs.set 16 nv').set 17 kv'⟩) h) :
  Ls Q (Pt b3) (Pt b6) (.int .i64 (j:Nat)) x9 x10 h:=by
 have g16:(⟨cs⟩:Array Value)[16]? = some nv:=by simpa using h16
 have g17:(⟨cs⟩:Array Value)[17]? = some kv:=by simpa using h17
 unfold Ls Ufl Uld Ukp
 rw[AIq]
 refine AW w g16 ?_
 refine MD (f:=str) d hj fun s9 e9=>?_
 rw[AIq]
 refine AW w g17 ?_
 refine MD (f:=fun n:Nat=>Value.int .i64 (n:Nat)) d2 hj fun s10 e10=>?_
 have e9':RdV 1 s9 (ks.length-j) (strs ((ks.drop j).map (·.1))) x:=by rw[List.map_drop];exact e9
 have e10':RdV 1 s10 (ks.length-j) (ints ((ks.drop j).map (·.2))) x:=by rw[List.map_drop];exact e10
 refine CA a9 e9'.addR.addR.addR w Ho rfl (by omega) (by omega) (Pi _) fun v9 q9 h a9 w=>?_
 refine AIn w g17 ?_
 rw[AIq]
 refine CA a10 e10'.addR.addR.addR (w.cast (Kq5 _ _ _ _ _)) HL rfl (by omega) (by omega) (OT _) fun v10 q10 h a10 w=>?_
 obtain⟨⟨va,vc,hv9⟩,_⟩:=a9.len
 obtain⟨⟨vb,vd,hv10⟩,_⟩:=a10.len
 have ss:∀ (l:List Value) (o:Nat) (u:Value),Ai ⟨l⟩ o [u]=⟨l.set o u⟩:=fun l o u=>by rw[A2];rfl
 refine AL w ⟨cs.set 16 v9⟩ (by rw[hv9];exact ss _ _ _) (by rw[hv9];rfl) (by simp;omega) (by rw[hv9];rfl) fun h w=>?_
 rw[AIq]
 refine AL w ⟨(cs.set 16 v9).set 17 v10⟩ (by rw[hv10];exact ss _ _ _) (by rw[hv10];rfl) (by simp;omega) (by rw[hv10];rfl) fun h w=>?_
 have hl2:((cs.set 16 v9).set 17 v10).length=18:=by simp;exact hcl
 refine Cj w hl2 ?_
 have hone2:((cs.set 16 v9).set 17 v10).all Value.oneCell'=true:=by
  rw[B10] at hone ⊢
  intro a ha
  rcases List.mem_or_eq_of_mem_set ha with h1|h1
  ·rcases List.mem_or_eq_of_mem_set h1 with h2|h2
   ·exact hone a h2
   ·rw[h2,hv9];rfl
  ·rw[h1,hv10];rfl
 have hfull:Ai (⟨z18⟩:Array Value) 0 (Value.agg ⟨(cs.set 16 v9).set 17 v10⟩).cells.toList=⟨(cs.set 16 v9).set 17 v10⟩:=Ar (by show ((cs.set 16 v9).set 17 v10).length=z18.toArray.size;rw[A31];omega)
 refine AL w ⟨(cs.set 16 v9).set 17 v10⟩ hfull (by show ((cs.set 16 v9).set 17 v10).toArray.size=18;rw[A31];exact hl2) (by show 0+18≤z18.toArray.size;rw[A31];omega) hone2 fun h w=>?_
 refine Cj w hl2 ?_
 have hs:strs ns++strs ((ks.drop j).map (·.1))=strs (ns++(ks.drop j).map (·.1)):=by unfold strs;rw[A36]
 have hi2:ints is++ints ((ks.drop j).map (·.2))=ints (is++(ks.drop j).map (·.2)):=by unfold ints;rw[A36]
 rw[hs] at a9
 rw[hi2] at a10
 have k2:∀ A B C D X:Res,A+(B+(C+(D+X)))=((A+B)+(C+D))+X:=by intros;ac_rfl
 exact K v9 v10 _ h a9.rdv.addR.addL a10.rdv.addL.addL (w.cast (k2 _ _ _ _ _))
theorem AGV {x9 x10:Value}{r9 r10:Res}{has:Bool}(hcl:cs.length=18)(h16:cs[16]? = some nv)(h17:cs[17]? = some kv)(hone:cs.all Value.oneCell'=true)(hz:z18.length=18)(d:RdV 1 nv ks.length (strs (ks.map (·.1))) x)(d2:RdV 1 kv ks.length (ints (ks.map (·.2))) x)(hl:ks.length<1000000000)
  (hi:i≤ks.length) (hh:has=true→i<ks.length) (a9:Vec 9 1 x9 i (strs ((ks.take i).map (·.1))) r9) (a10:Vec 3 1 x10 i (ints ((ks.take i).map (·.2))) r10)
  (w:AN (r9+(r10+(pts b3 (.cells ⟨cs⟩ 63 (0,0))+(pts b6 (.cells ⟨z18⟩ 63 (0,0))+x)))) h)
  (K:∀ nv' kv' ks' y h,ks'=ks.take i++[(nm,n)]++ks.drop (i+if has=true then 1 else 0)→RdV 1 nv' ks'.length (strs (ks'.map (·.1))) y→RdV 1 kv' ks'.length (ints (ks'.map (·.2))) y→AN (y+x) h→Q (.agg ⟨(cs.set 16 nv').set 17 kv'⟩) h) :
  LO Q (str nm) (.int .i64 (n:Nat)) (Pt b3) (Pt b6) (.int .i64 (i:Nat)) (.bool has) x9 x10 h:=by
 have main:∀ (j:Nat) (v9 v10:Value) (q9 q10:Res) (h:H),j=i+(if has=true then 1 else 0)→Vec 9 1 v9 (i+1) (strs ((ks.take i).map (·.1)++[nm])) q9→Vec 3 1 v10 (i+1) (ints ((ks.take i).map (·.2)++[n])) q10→AN (q9+(q10+(pts b3 (.cells ⟨cs⟩ 63 (0,0))+(pts b6 (.cells ⟨z18⟩ 63 (0,0))+x)))) h→Ls Q (Pt b3) (Pt b6) (.int .i64 (j:Nat)) v9 v10 h:=by
  intro j v9 v10 q9 q10 h hj a9 a10 w
  have hjl:j≤ks.length:=by
   rw[hj]
   split
   ·rename_i hb;have:=hh hb;omega
   ·omega
  have hlen:(ks.take i++[(nm,n)]++ks.drop j).length=i+1+(ks.length-j):=by simp;omega
  have e1:(ks.take i++[(nm,n)]++ks.drop j).map (·.1)=(ks.take i).map (·.1)++[nm]++(ks.drop j).map (·.1):=by rw[A36,A36];rfl
  have e2:(ks.take i++[(nm,n)]++ks.drop j).map (·.2)=(ks.take i).map (·.2)++[n]++(ks.drop j).map (·.2):=by rw[A36,A36];rfl
  refine AEg hcl h16 h17 hone hz d d2 hl hjl (by omega) a9 a10 w fun nv' kv' y h c1 c2 w=>?_
  exact K nv' kv' (ks.take i++[(nm,n)]++ks.drop j) y h (by rw[hj]) (by rw[hlen,e1];exact c1) (by rw[hlen,e2];exact c2) w
 unfold LO
 refine EY a9 w Ho rfl rfl rfl (by omega) (by omega) fun v9 q9 h a9 w=>?_
 refine EY a10 (w.cast (Kq5 _ _ _ _ _)) HL rfl rfl rfl (by omega) (by omega) fun v10 q10 h a10 w=>?_
 have a9':Vec 9 1 v9 (i+1) (strs ((ks.take i).map (·.1)++[nm])) q9:=by unfold strs at a9 ⊢;rw[A36];exact a9
 have a10':Vec 3 1 v10 (i+1) (ints ((ks.take i).map (·.2)++[n])) q10:=by unfold ints at a10 ⊢;rw[A36];exact a10
 cases has with
 | true=>
  rw[Ak,BN (n:=1),Ci (by omega)]
  exact main (i+1) _ _ _ _ h rfl a9' a10' (w.cast (Kq5 _ _ _ _ _))
 | false=>
  rw[AU]
  exact main i _ _ _ _ h rfl a9' a10' (w.cast (Kq5 _ _ _ _ _))
theorem s46 (hcl:cs.length=18)(h16:cs[16]? = some nv)(h17:cs[17]? = some kv)(hone:cs.all Value.oneCell'=true)(d:RdV 1 nv ks.length (strs (ks.map (·.1))) x)(d2:RdV 1 kv ks.length (ints (ks.map (·.2))) x)(hl:ks.length<1000000000)(w:AN x h)
  (K:∀ nv' kv' y h,RdV 1 nv' (FB ks nm n).length (strs ((FB ks nm n).map (·.1))) y→RdV 1 kv' (FB ks nm n).length (ints ((FB ks nm n).map (·.2))) y→AN (y+x) h→Q (.agg ⟨(cs.set 16 nv').set 17 kv'⟩) h) :
  f46 (.agg ⟨cs⟩) (str nm) (.int .i64 (n:Nat)) h Q:=by
 unfold f46 Umk Ucl Uld Ukp
 refine BJ w fun b3 h w=>?_
 have w:AN (pts b3 (.cells ⟨cs⟩ 63 (0,0))+x) h:=w
 refine Ah w Ko rfl fun b6 h w=>?_
 obtain⟨z18,hz18⟩:∃ l:List Value,l=[.int .u16 0,.int .u32 0,.int .u32 0,.int .i64 0,.int .i64 0,.int .i64 0,.int .i64 0,.int .i64 0,.int .i64 0,.int .i64 0,.int .i64 0,.int .u32 0,.int .u32 0,.slice none 0 0,str [],.slice none 0 0,.slice none 0 0,.slice none 0 0]:=⟨_,rfl⟩
 rw[←hz18] at w
 have hz:z18.length=18:=by rw[hz18];rfl
 clear hz18
 have g16:(⟨cs⟩:Array Value)[16]? = some nv:=by simpa using h16
 have g17:(⟨cs⟩:Array Value)[17]? = some kv:=by simpa using h17
 refine Cj w hcl ?_
 refine Xl (s50 (names:=ks.map (·.1)) (nm:=nm) h16 (by rw[A25];exact d.addR.addR) (by rw[A25];exact hl) w fun y h w=>?_)
 rw[DA,DH]
 obtain⟨i,hi⟩:∃ i,BV (ks.map (·.1)) nm=i:=⟨_,rfl⟩
 obtain⟨has,hhas⟩:∃ has:Bool,decide ((ks.map (·.1))[BV (ks.map (·.1)) nm]? = some nm)=has:=⟨_,rfl⟩
 have hil:i≤ks.length:=by
  have:=EI (ks.map (·.1)) nm
  rw[A25] at this
  omega
 have hh:has=true→i<ks.length:=fun hb=>by
  rw[hb] at hhas
  have h1:=of_decide_eq_true hhas
  have:=(A02.1 h1).1
  rw[A25] at this
  omega
 have hins:FB ks nm n=ks.take i++[(nm,n)]++ks.drop (i+if has=true then 1 else 0):=by
  unfold FB
  rw[hi] at hhas ⊢
  congr 3
  by_cases hc:(ks.map (·.1))[i]? = some nm
  ·rw[A03 hc,←hhas,A03 (A04 hc)]
  ·rw[A05 hc,←hhas,A05 (by simpa using hc)]
 rw[hhas,hi]
 have K2:∀ nv' kv' ks' y' h,ks'=ks.take i++[(nm,n)]++ks.drop (i+if has=true then 1 else 0)→RdV 1 nv' ks'.length (strs (ks'.map (·.1))) y'→RdV 1 kv' ks'.length (ints (ks'.map (·.2))) y'→AN (y'+(y+x)) h→Q (.agg ⟨(cs.set 16 nv').set 17 kv'⟩) h:=fun nv' kv' ks' y' h he c1 c2 w=>by
  rw[←hins] at he
  subst he
  exact K nv' kv' (y'+y) h c1.addL c2.addL (w.cast (Res.assoc _ _ _).symm)
 have w:=w.cast (Kq7 _ _ _ _)
 rw[AIq]
 refine AW w g16 ?_
 refine Lr (f:=str) (x:=y+x) (d.addR:RdV 1 nv ks.length (strs (ks.map (·.1))) (y+x)) hil fun s9 e9=>?_
 rw[AIq]
 refine AW w g17 ?_
 refine Lr (f:=fun n:Nat=>Value.int .i64 (n:Nat)) (x:=y+x) (d2.addR:RdV 1 kv ks.length (ints (ks.map (·.2))) (y+x)) hil fun s10 e10=>?_
 have e9':RdV 1 s9 i (strs ((ks.take i).map (·.1))) (y+x):=by rw[B11];exact e9
 have e10':RdV 1 s10 i (ints ((ks.take i).map (·.2))) (y+x):=by rw[B11];exact e10
 have fin:∀ (v9 v10:Value) (q9 q10:Res) (h:H),Vec 9 1 v9 i (strs ((ks.take i).map (·.1))) q9→Vec 3 1 v10 i (ints ((ks.take i).map (·.2))) q10→AN (q9+(q10+(pts b3 (.cells ⟨cs⟩ 63 (0,0))+(pts b6 (.cells ⟨z18⟩ 63 (0,0))+(y+x))))) h→LO Q (str nm) (.int .i64 (n:Nat)) (Pt b3) (Pt b6) (.int .i64 (i:Nat)) (.bool has) v9 v10 h:=fun v9 v10 q9 q10 h a9 a10 w=>AGV hcl h16 h17 hone hz d.addR d2.addR hl hil hh a9 a10 w K2
 have one9:=Pi ((ks.take i).map (·.1))
 have one3:=OT ((ks.take i).map (·.2))
 have nil9:∀ l,strs []++strs l=strs l:=fun l=>rfl
 have nil3:∀ l,ints []++ints l=ints l:=fun l=>rfl
 have z0:0+i=i:=A29 i
 refine And.intro ?_ ?_
 ·refine Dg w Ho fun v9 q9 h a9 w=>?_
  refine⟨AW w g16 rfl,AW w g17 rfl,?_,?_⟩
  ·refine CA a9 e9'.addR.addR w Ho rfl (by omega) (by omega) one9 fun v9 q9 h a9 w=>?_
   rw[z0] at a9
   refine⟨AW w g17 rfl,?_⟩
   refine Dg w HL fun v10 q10 h a10 w=>?_
   refine⟨AW w g17 rfl,?_⟩
   refine CA a10 e10'.addR.addR.addR w HL rfl (by omega) (by omega) one3 fun v10 q10 h a10 w=>?_
   rw[z0] at a10
   exact fin _ _ _ _ h a9 a10 (w.cast (Kq5 _ _ _ _ _))
  ·refine Dg w HL fun v10 q10 h a10 w=>?_
   refine⟨AW w g16 rfl,AW w g17 rfl,?_⟩
   refine CA a9 e9'.addR.addR.addR (w.cast (Kq5 _ _ _ _ _)) Ho rfl (by omega) (by omega) one9 fun v9 q9 h a9 w=>?_
   rw[z0] at a9
   refine⟨AW w g17 rfl,?_⟩
   refine CA a10 e10'.addR.addR.addR (w.cast (Kq5 _ _ _ _ _)) HL rfl (by omega) (by omega) one3 fun v10 q10 h a10 w=>?_
   rw[z0] at a10
   exact fin _ _ _ _ h a9 a10 (w.cast (Kq5 _ _ _ _ _))
 ·refine Dg w HL fun v10 q10 h a10 w=>?_
  refine⟨AW w g16 rfl,AW w g17 rfl,?_⟩
  refine Dg w Ho fun v9 q9 h a9 w=>?_
  refine⟨AW w g16 rfl,AW w g17 rfl,?_⟩
  refine CA a9 e9'.addR.addR.addR w Ho rfl (by omega) (by omega) one9 fun v9 q9 h a9 w=>?_
  rw[z0] at a9
  refine⟨AW w g17 rfl,?_⟩
  refine CA a10 e10'.addR.addR.addR (w.cast (Kq5 _ _ _ _ _)) HL rfl (by omega) (by omega) one3 fun v10 q10 h a10 w=>?_
  rw[z0] at a10
  exact fin _ _ _ _ h a9 a10 (w.cast (Kq5 _ _ _ _ _))
end
end
section
variable {h:H} {k:Value→Prop} {kt Q:Kt} {x y z r:Res} {v:VS}
structure TN where
 X:XN
 data:Bs
 link:Bs
 ks:List (Bs×Nat)
def TN.cells (t:TN)(dv xv nv kv:Value):List Value:=
 [.int .u16 (t.X.mode:Nat),.int .u32 (t.X.uid:Nat),.int .u32 (t.X.gid:Nat)]++(BY t.X.at_++BY t.X.ct++BY t.X.mt++BY t.X.cr)++[.int .u32 (t.X.major:Nat),.int .u32 (t.X.minor:Nat),dv,str t.link,xv,nv,kv]
section
variable {t:TN} {dv xv nv kv u:Value}
theorem TN.len:(t.cells dv xv nv kv).length=18:=rfl
theorem TN.g0:(t.cells dv xv nv kv)[0]? = some (.int .u16 (t.X.mode:Nat)):=rfl
theorem TN.g1:(t.cells dv xv nv kv)[1]? = some (.int .u32 (t.X.uid:Nat)):=rfl
theorem TN.g13:(t.cells dv xv nv kv)[13]? = some dv:=rfl
theorem TN.g14:(t.cells dv xv nv kv)[14]? = some (str t.link):=rfl
theorem TN.g15:(t.cells dv xv nv kv)[15]? = some xv:=rfl
theorem TN.g16:(t.cells dv xv nv kv)[16]? = some nv:=rfl
theorem TN.g17:(t.cells dv xv nv kv)[17]? = some kv:=rfl
theorem TN.set_ {r':Value}{l':List (Bs×Nat)}:((t.cells dv xv nv kv).set 16 u).set 17 r' = {t with ks:=l' }.cells dv xv u r':=rfl
theorem TN.s13 {l':Bs}:(t.cells dv xv nv kv).set 13 u = {t with data:=l' }.cells u xv nv kv:=rfl
theorem TN.s14 {bs:Bs}:(t.cells dv xv nv kv).set 14 (str bs) = {t with link:=bs}.cells dv xv nv kv:=rfl
theorem TN.one {a b c d:Option Addr}{n1 n2 n3 n4 c1 c2 c3 c4:Nat}:(t.cells (.slice a n1 c1) (.slice b n2 c2) (.slice c n3 c3) (.slice d n4 c4)).all Value.oneCell'=true:=rfl
theorem XN.e8 {X:XN}{cv ev xv:Value}:(⟨X.cells cv ev xv⟩:Array Value).extract 8 (8+2)=⟨BY X.at_⟩:=rfl
theorem XN.e10 {X:XN}{cv ev xv:Value}:(⟨X.cells cv ev xv⟩:Array Value).extract 10 (10+2)=⟨BY X.ct⟩:=rfl
theorem XN.e12 {X:XN}{cv ev xv:Value}:(⟨X.cells cv ev xv⟩:Array Value).extract 12 (12+2)=⟨BY X.mt⟩:=rfl
theorem XN.e14 {X:XN}{cv ev xv:Value}:(⟨X.cells cv ev xv⟩:Array Value).extract 14 (14+2)=⟨BY X.cr⟩:=rfl
theorem XN.g2 {X:XN}{cv ev xv:Value}:(⟨X.cells cv ev xv⟩:Array Value)[2]? = some (.int .u32 (X.uid:Nat)):=rfl
theorem XN.g3 {X:XN}{cv ev xv:Value}:(⟨X.cells cv ev xv⟩:Array Value)[3]? = some (.int .u32 (X.gid:Nat)):=rfl
theorem XN.g16 {X:XN}{cv ev xv:Value}:(⟨X.cells cv ev xv⟩:Array Value)[16]? = some (.int .u32 (X.major:Nat)):=rfl
theorem XN.g17 {X:XN}{cv ev xv:Value}:(⟨X.cells cv ev xv⟩:Array Value)[17]? = some (.int .u32 (X.minor:Nat)):=rfl
theorem Ul {X:XN}:DC (Br (.struct [(0,1),(1,1),(2,1),(3,2),(5,2),(7,2),(9,2),(11,1),(12,1),(13,1),(14,1),(15,1),(16,1),(17,1)])) [.int .u16 0,.int .u32 0,.int .u32 0,.int .i64 0,.int .i64 0,.int .i64 0,.int .i64 0,.int .i64 0,.int .i64 0,.int .i64 0,.int .i64 0,.int .u32 0,.int .u32 0,.slice none 0 0,str [],.slice none 0 0,.slice none 0 0,.slice none 0 0]
  [(0,.int .u16 (X.mode:Nat)),(1,.int .u32 (X.uid:Nat)),(2,.int .u32 (X.gid:Nat)),(3,.agg ⟨BY X.at_⟩),(4,.agg ⟨BY X.ct⟩),(5,.agg ⟨BY X.mt⟩),(6,.agg ⟨BY X.cr⟩),(7,.int .u32 (X.major:Nat)),(8,.int .u32 (X.minor:Nat))]=some ((TN.mk X [] [] []).cells (.slice none 0 0) (.slice none 0 0) (.slice none 0 0) (.slice none 0 0)):=rfl
end
attribute [local irreducible] TN.cells
attribute [local irreducible] AK Az AQ BB Ae AY AH AM VS.cells XN.cells
inductive TreeV (x:Res):List Value→List TN→Prop
 | nil:TreeV x [] []
 | snoc {cs:List Value} {ts:List TN} {t:TN} {dv nv kv:Value}:TreeV x cs ts→RdX x dv t.data→RdV 1 nv t.ks.length (strs (t.ks.map (·.1))) x→RdV 1 kv t.ks.length (ints (t.ks.map (·.2))) x→TreeV x (cs++t.cells dv (.slice none 0 0) nv kv) (ts++[t])
theorem TreeV.mono:∀ {cs:List Value} {ts:List TN},TreeV x cs ts→TreeV (y+x) cs ts
 | _,_,.nil=>.nil
 | _,_,.snoc a b c d=>.snoc a.mono b.addR c.addR d.addR
theorem TreeV.addL {cs:List Value}{ts:List TN}(a:TreeV x cs ts):TreeV (x+y) cs ts:=by rw[Res.comm];exact a.mono
theorem TreeV.len:∀ {cs:List Value} {ts:List TN},TreeV x cs ts→cs.length=ts.length*18
 | _,_,.nil=>rfl
 | _,_,.snoc a _ _ _=>by
  have:=a.len
  rw[A01,A01,this,TN.len,A57];omega
theorem TreeV.get:∀ {cs:List Value} {ts:List TN} {i:Nat} {t:TN},TreeV x cs ts→ts[i]? = some t →
  ∃ dv nv kv,(cs.drop (i*18)).take 18=t.cells dv (.slice none 0 0) nv kv∧RdX x dv t.data∧RdV 1 nv t.ks.length (strs (t.ks.map (·.1))) x∧RdV 1 kv t.ks.length (ints (t.ks.map (·.2))) x
 | _,_,_,_,.nil,e=>by simp at e
 | _,_,i,t,.snoc (cs:=cs) (ts:=ts) (t:=t') (dv:=dv) (nv:=nv) (kv:=kv) a b c d,e=>by
  have hl:=a.len
  rcases A66 i ts.length with h1|h1
  ·rw[A18 h1] at e
   obtain⟨dv,nv,kv,e1,e2⟩:=a.get e
   refine⟨dv,nv,kv,?_,e2⟩
   rw[A52 (by omega),A24 (by rw[A27];omega)]
   exact e1
  ·rw[A17 h1] at e
   have h2:i-ts.length=0:=by
    rcases B25 (i-ts.length) with h3|h3
    ·exact h3
    ·rw[A40 (by simp;omega)] at e;cases e
   rw[h2,A51,A26] at e
   subst e
   refine⟨dv,nv,kv,?_,b,c,d⟩
   have:i*18=cs.length:=by omega
   rw[this,A83,A43 (by rw[TN.len];exact A07 _)]
def GC (os:List AA)(L:List Nat):List Nat:=(os.zipIdx).foldl (fun l p=>l.set p.1.X.num p.2) L
def Bi (N:Nat)(P:List Nat)(ks:List (Bs×Nat))(e:EN):List (Bs×Nat):=if e.1=[46]∨e.1=[46,46]∨N≤e.2.1 then ks else FB ks e.1 (P.getD e.2.1 0)
theorem MY (N:Nat)(P:List Nat)(ks:List (Bs×Nat))(e:EN):(Bi N P ks e).length≤ks.length+1:=by
 unfold Bi
 split
 ·omega
 ·exact XY _ _ _
def JK (N:Nat)(P:List Nat)(o:AA):TN:=⟨o.X,if kindL o.X.mode=1 then o.C else [],if kindL o.X.mode=7 then o.C else [],o.E.foldl (Bi N P) []⟩
section
variable {N b9 b3 b13:Nat} {P:List Nat} {t:TN} {dv nv kv x4:Value} {e:EN} {E:List EN} {rP rA:Res}
theorem AFJ {x2 x3 x44 x45 x46 x100 x101:Value}{rec1 rec2:Value→H→Prop}{i:Nat}(a4:Vec 3 1 x4 N (ints P) rP)(hPN:P.length=N)(hN:N<1000000)(hi:i<100000000)(he:e.2.1<4294967296)(hks:t.ks.length<100000000)
  (hdv:∃ a n c,dv=.slice a n c) (cn:RdV 1 nv t.ks.length (strs (t.ks.map (·.1))) (y+x)) (ck:RdV 1 kv t.ks.length (ints (t.ks.map (·.2))) (y+x))
  (w:AN (pts b13 (.cells ⟨e.cells⟩ 114 (0,0))+(pts b9 (.cells ⟨t.cells dv (.slice none 0 0) nv kv⟩ 63 (0,0))+(rP+(rA+(y+x))))) h)
  (K:∀ nv kv y h,RdV 1 nv (Bi N P t.ks e).length (strs ((Bi N P t.ks e).map (·.1))) (y+x)→RdV 1 kv (Bi N P t.ks e).length (ints ((Bi N P t.ks e).map (·.2))) (y+x)→AN (pts b9 (.cells ⟨{t with ks:=Bi N P t.ks e}.cells dv (.slice none 0 0) nv kv⟩ 63 (0,0))+(rP+(rA+(y+x)))) h→rec2 (.int .i64 (i+1:Nat)) h) :
  KL Q rec1 rec2 x2 x3 x4 (Pt b9) (Pt b13) x44 x45 x46 x100 x101 (.int .i64 (i:Nat)) (.bool (decide (¬(e.1=[46]∨e.1=[46,46]∨N≤e.2.1)))) h:=by
 have f1:∀ k:Value→Prop,AD .add (.int .i64 (i:Nat)) (.int .i64 1) k=k (.int .i64 (i+1:Nat)):=fun k=>by
  rw[BN (n:=1),Ci (by omega)]
 unfold KL Ufl Uil Ucl
 refine AX (fun hc=>?_) (fun hc=>?_)
 ·have hst:Bi N P t.ks e=FB t.ks e.1 (P.getD e.2.1 0):=A05 hc
  rw[hst] at K
  have hlt:e.2.1<P.length:=by
   rcases A66 e.2.1 P.length with h1|h1
   ·exact h1
   ·exact absurd (.inr (.inr (by omega))) hc
  refine Cj (b:=b9) w TN.len ?_
  rw[AIq]
  refine AW w (show (⟨e.cells⟩:Array Value)[0]? = some (str e.1) from rfl) ?_
  rw[AIq]
  refine AW w (show (⟨e.cells⟩:Array Value)[1]? = some (.int .u64 (e.2.1:Nat)) from rfl) ?_
  have hg:P[e.2.1]? = some (P.getD e.2.1 0):=by rw[A10,A00 hlt];rfl
  refine Bu a4 (w.cast (Kq0 _ _ _ _)) (SD hg) ?_
  obtain⟨da,dn,dc,hdv⟩:=hdv
  obtain⟨⟨na,nc,hnv⟩,_⟩:=cn.len
  obtain⟨⟨ka,kc,hkv⟩,_⟩:=ck.len
  have k2:∀ A B C D Y X:Res,A+(B+(C+(D+(Y+X))))=(A+(B+(C+D)))+(Y+X):=by intros;ac_rfl
  have k3:∀ Y2 A B C D Y X:Res,Y2+((A+(B+(C+D)))+(Y+X))=B+(C+(D+((Y2+(A+Y))+X))):=by intros;ac_rfl
  refine AB4 (s46 (ks:=t.ks) (nm:=e.1) (n:=P.getD e.2.1 0) TN.len TN.g16 TN.g17 (by rw[hdv,hnv,hkv];exact TN.one) cn.addR ck.addR (by omega) (w.cast (k2 _ _ _ _ _ _)) fun nv' kv' y' h c1 c2 w=>?_)
  rw[TN.set_ (l':=FB t.ks e.1 (P.getD e.2.1 0))]
  obtain⟨⟨na',nc',hnv'⟩,_⟩:=c1.len
  obtain⟨⟨ka',kc',hkv'⟩,_⟩:=c2.len
  have w:=w.cast (k3 _ _ _ _ _ _ _)
  refine AL w ⟨({t with ks:=FB t.ks e.1 (P.getD e.2.1 0)}:TN).cells dv (.slice none 0 0) nv' kv'⟩ (Ar (by rw[A31,TN.len];exact TN.len)) (by show (List.toArray _).size=18;rw[A31];exact TN.len) (by rw[A31,TN.len];omega) (by rw[hdv,hnv',hkv'];exact TN.one) fun h w=>?_
  rw[f1]
  exact K nv' kv' _ h c1.addL.addL c2.addL.addL w
 ·have hst:Bi N P t.ks e=t.ks:=A03 (Decidable.not_not.1 hc)
  rw[hst] at K
  rw[f1]
  exact K nv kv _ h (by rw[Res.assoc];exact cn.addR) (by rw[Res.assoc];exact ck.addR) (w.cast (AK8 _ _ _ _ _ _))
end
end
section
variable {h:H} {k:Value→Prop} {kt Q:Kt} {x y z r:Res} {v:VS}
attribute [local irreducible] TN.cells
attribute [local irreducible] AK Az AQ BB Ae AY AH AM VS.cells XN.cells
theorem Re:AG TP 40=some (.agg ⟨[.slice none 0 0]⟩):=by kernel_rfl
theorem O9 (N:Nat)(P:List Nat):∀ (E:List EN) (ks:List (Bs×Nat)),(E.foldl (Bi N P) ks).length≤ks.length+E.length
 | [],ks=>A07 _
 | e::E,ks=>by
  have h1:=MY N P ks e
  have h2:=O9 N P E (Bi N P ks e)
  rw[A71,A19]
  omega
section
variable {N b9 b3 m:Nat} {P:List Nat} {t:TN} {dv nv kv x4 ev nsv:Value} {E:List EN} {rP rN rB:Res} {csN:List Value} {ts:List TN}
theorem AGt {x2 x44 x45:Value}{rec1:Value→H→Prop}{I:Nat}(a4:Vec 3 1 x4 N (ints P) rP)(hPN:P.length=N)(hN:N<1000000)(de:VecX 114 3 ev E.length (entC E) x)(hE:∀ e∈E,e.2.1<4294967296)(hEl:E.length<10000000)(ht:t.ks=[])(hI:I<100000000)
  (aN:Vec 63 18 nsv m csN rN) (hm:m<1000000) (tv:TreeV x csN ts) (dd:RdX x dv t.data) (hnv:nv=.slice none 0 0) (hkv:kv=.slice none 0 0)
  (w:AN (pts b9 (.cells ⟨t.cells dv (.slice none 0 0) nv kv⟩ 63 (0,0))+(rP+(((pts b3 (.cells ⟨[nsv]⟩ 40 (0,0))+rN)+rB)+x))) h)
  (K:∀ nsv rN cs y h,Vec 63 18 nsv (m+1) cs rN→TreeV (y+x) cs (ts++[{t with ks:=E.foldl (Bi N P) []}])→AN (rP+(((pts b3 (.cells ⟨[nsv]⟩ 40 (0,0))+rN)+rB)+(y+x))) h→rec1 (.int .i64 (I+1:Nat)) h) :
  Wj Q rec1 x2 (Pt b3) x4 (Pt b9) x44 x45 (.int .i64 (I:Nat)) ev (.int .i64 (E.length:Nat)) (.int .i64 ((0:Nat):Int)) h:=by
 obtain⟨⟨pa,pc,hx4⟩,_⟩:=a4.len
 have hdv:∃ a n c,dv=.slice a n c:=by
  obtain⟨a,c,h⟩:=dd.len
  exact⟨a,_,c,h⟩
 unfold Wj
 refine Ba (fun mm u h'=>∃ i y nv kv,mm+i=E.length∧u=.int .i64 (i:Nat)∧RdV 1 nv ((E.take i).foldl (Bi N P) []).length (strs (((E.take i).foldl (Bi N P) []).map (·.1))) (y+x)∧RdV 1 kv ((E.take i).foldl (Bi N P) []).length (ints (((E.take i).foldl (Bi N P) []).map (·.2))) (y+x)∧AN (pts b9 (.cells ⟨({t with ks:=(E.take i).foldl (Bi N P) []}:TN).cells dv (.slice none 0 0) nv kv⟩ 63 (0,0))+(rP+(((pts b3 (.cells ⟨[nsv]⟩ 40 (0,0))+rN)+rB)+(y+x)))) h') E.length ⟨0,0,nv,kv,rfl,rfl,.inl ⟨none,0,hnv,rfl,rfl⟩,.inl ⟨none,0,hkv,rfl,rfl⟩,by
  have e:({t with ks:=(E.take 0).foldl (Bi N P) []}:TN)=t:=by rw[←ht];rfl
  rw[e,Res.zero_add];exact w⟩ ?_
 rintro rec mm u h' ⟨i,y,nv,kv,hi,rfl,c1,c2,w⟩ hrec
 have hfl:=O9 N P (E.take i) []
 rw[A20,A61] at hfl
 unfold We Ucm Umk Ufl Ucg
 rw[AT]
 refine AX (fun hc=>?_) (fun hc=>?_)
 ·have hil:i<E.length:=by omega
  obtain⟨e,he⟩:∃ e,E[i]? = some e:=⟨_,A00 hil⟩
  refine (de.addR.addR.addR.addR:VecX 114 3 ev E.length (entC E) _).agg w hil ?_
  rw[(Eb he).2.2.2]
  refine Ah w Fr rfl fun b13 h w=>?_
  refine AL w ⟨e.cells⟩ rfl rfl (by simp) rfl fun h w=>?_
  have g0:(⟨e.cells⟩:Array Value)[0]? = some (str e.1):=rfl
  have g1:(⟨e.cells⟩:Array Value)[1]? = some (.int .u64 (e.2.1:Nat)):=rfl
  have heb:=hE e (A28 he)
  have htk:(E.take (i+1)).foldl (Bi N P) []=Bi N P ((E.take i).foldl (Bi N P) []) e:=by
   rw[A85,he,B19];rfl
  have j1:KL Q rec1 rec x2 (Pt b3) x4 (Pt b9) (Pt b13) x44 x45 (.int .i64 (I:Nat)) ev (.int .i64 (E.length:Nat)) (.int .i64 (i:Nat)) (.bool (decide (¬(e.1=[46]∨e.1=[46,46]∨N≤e.2.1)))) h:=by
   refine AFJ (t:={t with ks:=(E.take i).foldl (Bi N P) []}) (e:=e) a4 hPN hN (by omega) heb (by show ((E.take i).foldl (Bi N P) []).length<_;omega) hdv c1 c2 w fun nv kv y h c1 c2 w=>?_
   exact hrec (mm-1) _ _ ⟨i+1,y,nv,kv,by omega,rfl,by rw[htk];exact c1,by rw[htk];exact c2,by rw[htk];exact w⟩ (by omega)
  rw[AIq]
  refine AW w g0 ?_
  rw[show (.string ⟨#[46]⟩:Value)=str [46] from rfl,Fq]
  refine C3 (fun h1=>?_) (fun h1=>?_)
  ·rw[AIq]
   refine AW w g0 ?_
   rw[show (.string ⟨#[46,46]⟩:Value)=str [46,46] from rfl,Fq]
   refine C3 (fun h2=>?_) (fun h2=>?_)
   ·rw[AIq]
    refine AW w g1 ?_
    rw[hx4,Aw,←hx4,DO,CU (by omega),AT]
    have e1:decide ((e.2.1:Int)<(N:Int))=decide (¬(e.1=[46]∨e.1=[46,46]∨N≤e.2.1)):=decide_eq_decide.2 (by
     constructor
     ·rintro h3 (h4|h4|h4)
      ·exact h1 h4
      ·exact h2 h4
      ·omega
     ·intro h3
      rcases A66 e.2.1 N with h4|h4
      ·omega
      ·exact absurd (.inr (.inr h4)) h3)
    rw[e1]
    exact j1
   ·rw[A08 (Decidable.not_not.2 (.inr (.inl (Decidable.not_not.1 h2))))] at j1
    exact j1
  ·rw[A08 (Decidable.not_not.2 (.inl (Decidable.not_not.1 h1)))] at j1
   exact j1
 ·have:i=E.length:=by omega
  subst this
  rw[A38] at c1 c2 w
  obtain⟨da,dn,dc,hdv⟩:=hdv
  obtain⟨⟨na,nc,hnv⟩,_⟩:=c1.len
  obtain⟨⟨ka,kc,hkv⟩,_⟩:=c2.len
  have hone:(({t with ks:=E.foldl (Bi N P) []}:TN).cells dv (.slice none 0 0) nv kv).all Value.oneCell'=true:=by rw[hdv,hnv,hkv];exact TN.one
  rw[AIq]
  refine AW w (show (⟨[nsv]⟩:Array Value)[0]? = some nsv from rfl) ?_
  refine Cj (b:=b9) w TN.len ?_
  have k1:∀ A B C D E X:Res,A+(B+(((C+D)+E)+X))=D+(A+(B+(C+(E+X)))):=by intros;ac_rfl
  refine CW aN (w.cast (k1 _ _ _ _ _ _)) Ko rfl TN.len (by omega) (by omega) hone fun b h w=>?_
  refine B0 aN w Ko rfl TN.len hone (by omega) (by omega) fun nsv' rN' h aN' w=>?_
  obtain⟨⟨sa,sc,hsv⟩,_⟩:=aN'.len
  rw[AIq]
  refine AL w ⟨[nsv']⟩ (by rw[hsv];rfl) (by rw[hsv];rfl) (by simp) (by rw[hsv];rfl) fun h w=>?_
  rw[BN (n:=1),Ci (by omega)]
  have k2:∀ A B C D E Y X:Res,D+(A+(B+(C+(E+(Y+X)))))=B+(((C+D)+E)+((A+Y)+X)):=by intros;ac_rfl
  refine K nsv' rN' _ _ h aN' (.snoc tv.mono dd.addR ?_ ?_) (w.cast (k2 _ _ _ _ _ _ _))
  ·rw[Res.assoc];exact c1.addR
  ·rw[Res.assoc];exact c2.addR
end
end
section
variable {h:H} {k:Value→Prop} {kt Q:Kt} {x y z r:Res} {v:VS}
attribute [local irreducible] TN.cells
attribute [local irreducible] AK Az AQ BB Ae AY AH AM VS.cells XN.cells
theorem Ja {b o n:Nat}{c e:Array Value}{T:TypeId}{fz:Nat×Nat}(w:AN x h)[CO b x (.cells c T fz)](hn:o+n≤c.size)(he:c.extract o (o+n)=e)(K:k (.agg e)):AB true n (.pointer (some ⟨b,o,none⟩)) h k:=by
 rw[Am (o:=o) (w.find (b:=b)) hn,he];exact K
section
variable {N b3 b2:Nat} {P:List Nat} {x4 iv:Value} {os:List AA} {rP rN:Res} {cs:List Value}
theorem AGC (a4:Vec 3 1 x4 N (ints P) rP)(hPN:P.length=N)(hN:N<1000000)(d:VecX 81 23 iv os.length cs x)(ov:OutV x cs os)(hn:os.length<1000000)(hos:∀ o∈os,o.X.mode<65536∧o.l=[]∧o.E.length<10000000∧∀ e∈o.E,e.2.1<4294967296)
  (w:AN (rP+((pts b3 (.cells ⟨[.slice none 0 0]⟩ 40 (0,0))+0)+(pts b2 (.cells ⟨[.slice none 0 0]⟩ 40 (0,0))+(y+x)))) h)
  (K:∀ nsv ns y h,RdV 18 nsv os.length ns y→TreeV (y+x) ns (os.map (JK N P))→AN (y+x) h→Q (.agg ⟨[nsv]⟩) h) :
  WK Q (Pt b2) (Pt b3) x4 iv (.int .i64 (os.length:Nat)) (.int .i64 ((0:Nat):Int)) h:=by
 unfold WK
 refine Ba (fun mm u h'=>∃ i nsv ns rN y,mm+i=os.length∧u=.int .i64 (i:Nat)∧Vec 63 18 nsv i ns rN∧TreeV (y+x) ns ((os.take i).map (JK N P))∧AN (rP+((pts b3 (.cells ⟨[nsv]⟩ 40 (0,0))+rN)+(pts b2 (.cells ⟨[.slice none 0 0]⟩ 40 (0,0))+(y+x)))) h') os.length ⟨0,.slice none 0 0,[],0,y,rfl,rfl,.nil,.nil,w⟩ ?_
 rintro rec mm u h' ⟨i,nsv,ns,rN,y,hi,rfl,aN,tv,w⟩ hrec
 unfold XX Ucm Umk Ufl Ucl
 rw[AT]
 refine AX (fun hc=>?_) (fun hc=>?_)
 ·have hil:i<os.length:=by omega
  obtain⟨o,ho⟩:∃ o,os[i]? = some o:=⟨_,A00 hil⟩
  obtain⟨cv,ev,xv,xas,hcs,b,c,dd,f⟩:=ov.get ho
  obtain⟨g1,g2,g3,g4⟩:=hos o (A28 ho)
  obtain⟨ca,cc,hcv⟩:=b.len
  obtain⟨⟨ea,ec,hev⟩,_⟩:=c.len
  obtain⟨⟨xa,xc,hxv⟩,_⟩:=dd.len
  have hone:(o.X.cells cv ev xv).all Value.oneCell'=true:=by rw[hcv,hev,hxv];exact XN.one
  have htk:os.take (i+1)=os.take i++[o]:=by rw[A85,ho];rfl
  refine (d.addR.addR.addR.addR:VecX 81 23 iv os.length cs _).agg w hil ?_
  rw[hcs]
  refine Ah w Cy rfl fun b8 h w=>?_
  refine AL w ⟨o.X.cells cv ev xv⟩ (Ar (by rw[XN.size_];exact XN.len)) XN.size_ (by rw[XN.size_];omega) hone fun h w=>?_
  rw[AIq]
  refine AW w XN.g1 ?_
  rw[AIq]
  refine AW w XN.g2 ?_
  rw[AIq]
  refine AW w XN.g3 ?_
  rw[AIq]
  refine Ja w (by rw[XN.size_];omega) XN.e8 ?_
  rw[AIq]
  refine Ja w (by rw[XN.size_];omega) XN.e10 ?_
  rw[AIq]
  refine Ja w (by rw[XN.size_];omega) XN.e12 ?_
  rw[AIq]
  refine Ja w (by rw[XN.size_];omega) XN.e14 ?_
  rw[AIq]
  refine AW w XN.g16 ?_
  rw[AIq]
  refine AW w XN.g17 ?_
  refine Au Ko rfl Ul ?_
  refine Ah w Ko rfl fun b9 h w=>?_
  refine AL w ⟨(TN.mk o.X [] [] []).cells (.slice none 0 0) (.slice none 0 0) (.slice none 0 0) (.slice none 0 0)⟩ (Ar (by rw[A31];exact TN.len)) (by show (List.toArray _).size=18;rw[A31];exact TN.len) (by rw[A31];decide) TN.one fun h w=>?_
  have ss:∀ (l:List Value) (o:Nat) (u:Value),Ai ⟨l⟩ o [u]=⟨l.set o u⟩:=fun l o u=>by rw[A2];rfl
  have hl0:xv=.slice xa 0 xc:=by rw[hxv,g2];rfl
  have rest:∀ (t:TN) (dv:Value) (h:H),t=⟨o.X,t.data,t.link,[]⟩→RdX x dv t.data→t.data=(if kindL o.X.mode=1 then o.C else [])→t.link=(if kindL o.X.mode=7 then o.C else [])→
    AN (pts b9 (.cells ⟨t.cells dv (.slice none 0 0) (.slice none 0 0) (.slice none 0 0)⟩ 63 (0,0))+(pts b8 (.cells ⟨o.X.cells cv ev xv⟩ 81 (0,0))+(rP+((pts b3 (.cells ⟨[nsv]⟩ 40 (0,0))+rN)+(pts b2 (.cells ⟨[.slice none 0 0]⟩ 40 (0,0))+(y+x)))))) h →
    MW Q rec (Pt b2) (Pt b3) x4 (Pt b8) (Pt b9) iv (.int .i64 (os.length:Nat)) (.int .i64 (i:Nat)) h:=by
   intro t dv h ht ddv hda hli w
   unfold MW Ufl
   rw[AIq]
   refine AW w XN.g20 ?_
   rw[hl0,Aw]
   unfold ABJ
   refine Ba (fun mm u h'=>u=.int .i64 ((0:Nat):Int)∧h'=h) 0 ⟨rfl,rfl⟩ ?_
   rintro rec3 mm3 u3 h3 ⟨rfl,rfl⟩ _
   unfold WX Ucm Umk Ufl Ucl
   have c0:∀ k:Value→Prop,AD .lss (.int .i64 ((0:Nat):Int)) (.int .i64 ((0:Nat):Int)) k=k (.bool false):=fun k=>by rw[AT];rfl
   rw[c0,AU,AIq]
   refine AW w XN.g19 ?_
   rw[hev,Aw,←hev]
   have k1:∀ B9 B8 RP A B2 Y X:Res,B9+(B8+(RP+(A+(B2+(Y+X)))))=B9+(RP+((A+B2)+(B8+(Y+X)))):=by intros;ac_rfl
   have k2:∀ RP A B2 Y2 B8 Y X:Res,RP+((A+B2)+(Y2+(B8+(Y+X))))=RP+(A+(B2+((Y2+(B8+Y))+X))):=by intros;ac_rfl
   refine AGt (t:=t) (nv:=.slice none 0 0) (kv:=.slice none 0 0) a4 hPN hN c.addR.addR g4 g3 (by rw[ht]) (by omega) aN (by omega) (tv.mono:TreeV (pts b8 (.cells ⟨o.X.cells cv ev xv⟩ 81 (0,0))+(y+x)) ns _) ddv.addR.addR rfl rfl (w.cast (k1 _ _ _ _ _ _ _)) fun nsv' rN' cs' y' h aN' tv' w=>?_
   have hnode:({t with ks:=o.E.foldl (Bi N P) []}:TN)=JK N P o:=by
    rw[ht]
    unfold JK
    rw[←hda,←hli]
   rw[hnode,Kq4] at tv'
   refine hrec (mm-1) _ _ ⟨i+1,nsv',cs',rN',y'+(pts b8 (.cells ⟨o.X.cells cv ev xv⟩ 81 (0,0))+y),by omega,rfl,aN',?_,w.cast (k2 _ _ _ _ _ _ _)⟩ (by omega)
   rw[htk,A36]
   exact tv'
  rw[AIq]
  refine AW w XN.g1 ?_
  refine E9 (YT g1 ?_)
  rw[Aa]
  refine AX (fun hk=>?_) (fun hk=>?_)
  ·have hk1:kindL o.X.mode=1:=by omega
   rw[AIq]
   refine AW w XN.g18 ?_
   rw[AIq]
   refine AL w ⟨(TN.mk o.X o.C [] []).cells cv (.slice none 0 0) (.slice none 0 0) (.slice none 0 0)⟩ (by rw[hcv];exact (ss _ _ _).trans (A76 (fun l=>(⟨l⟩:Array Value)) TN.s13)) (by rw[hcv];rfl) (by rw[A31,TN.len];omega) (by rw[hcv];rfl) fun h w=>?_
   exact rest ⟨o.X,o.C,[],[]⟩ cv h rfl b (by rw[A03 hk1]) (by rw[A05 (by omega)]) w
  ·have hk1:¬kindL o.X.mode=1:=by omega
   rw[Aa]
   refine AX (fun hk7=>?_) (fun hk7=>?_)
   ·have hk7:kindL o.X.mode=7:=by omega
    rw[AIq]
    refine AW w XN.g18 ?_
    refine (b.addR.addR.addR.addR.addR.addR:RdX _ cv o.C).str w ?_
    rw[AIq]
    refine AL w ⟨(TN.mk o.X [] o.C []).cells (.slice none 0 0) (.slice none 0 0) (.slice none 0 0) (.slice none 0 0)⟩ ((ss _ _ _).trans (A76 (fun l=>(⟨l⟩:Array Value)) TN.s14)) rfl (by rw[A31,TN.len];omega) rfl fun h w=>?_
    exact rest ⟨o.X,[],o.C,[]⟩ _ h rfl (.inl ⟨none,0,rfl,rfl⟩) (by rw[A05 hk1]) (by rw[A03 hk7]) w
   ·have hk7:¬kindL o.X.mode=7:=by omega
    exact rest ⟨o.X,[],[],[]⟩ _ h rfl (.inl ⟨none,0,rfl,rfl⟩) (by rw[A05 hk1]) (by rw[A05 hk7]) w
 ·have:i=os.length:=by omega
  subst this
  rw[A38] at tv
  obtain⟨⟨sa,sc,hsv⟩,_⟩:=aN.len
  refine Cj (b:=b3) w rfl ?_
  refine AL w ⟨[nsv]⟩ (by rw[hsv];rfl) (by rw[hsv];rfl) (by simp) (by rw[hsv];rfl) fun h w=>?_
  refine Cj (b:=b2) w rfl ?_
  have k5:∀ RP B3 RN B2 Y X:Res,RP+((B3+RN)+(B2+(Y+X)))=(RN+(RP+(B3+(B2+Y))))+X:=by intros;ac_rfl
  have k6:∀ RP B3 RN B2 Y X:Res,(RN+(RP+(B3+(B2+Y))))+X=(RN+(RP+(B3+B2)))+(Y+X):=by intros;ac_rfl
  refine K nsv ns _ h aN.rdv.addL ?_ (w.cast (k5 _ _ _ _ _ _))
  rw[k6]
  exact tv.mono
end
end
section
variable {h:H} {k:Value→Prop} {kt Q:Kt} {x y z r:Res} {v:VS}
attribute [local irreducible] TN.cells
attribute [local irreducible] AK Az AQ BB Ae AY AH AM VS.cells XN.cells
theorem Im:∀ (l:List (AA×Nat)) (L:List Nat),(l.foldl (fun l p=>l.set p.1.X.num p.2) L).length=L.length
 | [],_=>rfl
 | p::l,L=>by rw[A71,Im l,A89]
theorem KZ {os:List AA}{L:List Nat}{i:Nat}{o:AA}(h:os[i]? = some o):GC (os.take (i+1)) L=(GC (os.take i) L).set o.X.num i:=by
 have hi:=(A02.1 h).1
 unfold GC
 rw[A85,h]
 show ((os.take i++[o]).zipIdx).foldl _ L=_
 rw[List.zipIdx_append,B19,A20,A30 (by omega),A29]
 rfl
def FE (ipg:Nat)(os:List AA):List Nat:=GC os (List.replicate (ipg+1) 0)
theorem Xb (ipg:Nat)(os:List AA):(FE ipg os).length=ipg+1:=by
 unfold FE GC
 rw[Im,A09]
theorem s14 {os:List AA}{cs:List Value}(ok:v.OK x)(d:VecX 81 23 v.iv os.length cs x)(ov:OutV x cs os)(hn:os.length<1000000)(hos:∀ o∈os,o.X.mode<65536∧o.l=[]∧o.E.length<10000000∧∀ e∈o.E,e.2.1<4294967296)(hnum:∀ o∈os,o.X.num≤v.ipg)(w:AN (v.res+x) h)
  (K:∀ nsv ns y h,RdV 18 nsv os.length ns y→TreeV (y+(v.res+x)) ns (os.map (JK (v.ipg+1) (FE v.ipg os)))→AN (y+(v.res+x)) h→Q (.agg ⟨[nsv]⟩) h):f14 (Pt v.vb) h Q:=by
 have hip:=ok.ipg
 have f1:∀ k:Value→Prop,AD .mul (.int .u64 1) (.int .u64 (v.ipg:Nat)) k=k (.int .u64 (v.ipg:Nat)):=fun k=>by
  rw[Bc,Int.one_mul,CU (by omega)]
 obtain⟨⟨ia,ic,hiv⟩,_⟩:=d.len
 unfold f14 Umk Unf
 refine Ah w Re rfl fun b2 h w=>?_
 refine Ah w Re rfl fun b3 h w=>?_
 rw[AIw]
 refine AW w VS.g4 ?_
 rw[AIw]
 refine AW w VS.g6 ?_
 rw[f1,BN (n:=1),CU (by omega)]
 refine C4 w HL rfl (A07 _) (by omega) (by omega) fun b4 h w=>?_
 rw[AIw]
 refine AW w VS.g0 ?_
 rw[hiv,Aw,←hiv]
 have a4:Vec 3 1 (.slice (some ⟨b4,0,none⟩) (v.ipg+1) (v.ipg+1)) (v.ipg+1) (ints (GC (os.take 0) (List.replicate (v.ipg+1) 0))) (pts b4 (.cells ⟨List.replicate (v.ipg+1) (.int .i64 0)⟩ 3 (0,0))):=by
  have:ints (GC (os.take 0) (List.replicate (v.ipg+1) 0))=List.replicate (v.ipg+1) (.int .i64 0):=by
   show ints (List.replicate (v.ipg+1) 0)=_
   unfold ints
   rw[B03];rfl
  rw[this]
  exact .own' (A07 _) (by simp) (by simp)
 unfold ABO
 have k0:∀ B4 B3 B2 V X:Res,B4+(B3+(B2+(V+X)))=B4+(B3+(B2+(0+(V+X)))):=by intros;rw[Res.zero_add]
 refine Ba (fun mm u h'=>∃ i rP y,mm+i=os.length∧u=.int .i64 (i:Nat)∧Vec 3 1 (.slice (some ⟨b4,0,none⟩) (v.ipg+1) (v.ipg+1)) (v.ipg+1) (ints (GC (os.take i) (List.replicate (v.ipg+1) 0))) rP∧AN (rP+(pts b3 (.cells ⟨[.slice none 0 0]⟩ 40 (0,0))+(pts b2 (.cells ⟨[.slice none 0 0]⟩ 40 (0,0))+(y+(v.res+x))))) h') os.length ⟨0,_,0,rfl,rfl,a4,w.cast (k0 _ _ _ _ _)⟩ ?_
 rintro rec mm u h' ⟨i,rP,y,hi,rfl,a4,w⟩ hrec
 unfold VM Ucm Umk Ufl Unf
 rw[AT]
 refine AX (fun hc=>?_) (fun hc=>?_)
 ·have hil:i<os.length:=by omega
  obtain⟨o,ho⟩:∃ o,os[i]? = some o:=⟨_,A00 hil⟩
  obtain⟨cv,ev,xv,xas,hcs,b,c,dd,f⟩:=ov.get ho
  have hnm:=hnum o (A28 ho)
  obtain⟨ca,cc,hcv⟩:=b.len
  obtain⟨⟨ea,ec,hev⟩,_⟩:=c.len
  obtain⟨⟨xa,xc,hxv⟩,_⟩:=dd.len
  have hone:(o.X.cells cv ev xv).all Value.oneCell'=true:=by rw[hcv,hev,hxv];exact XN.one
  refine (d.addR.addR.addR.addR.addR:VecX 81 23 v.iv os.length cs _).agg w hil ?_
  rw[hcs]
  refine Ah w Cy rfl fun b8 h w=>?_
  refine AL w ⟨o.X.cells cv ev xv⟩ (Ar (by rw[XN.size_];exact XN.len)) XN.size_ (by rw[XN.size_];omega) hone fun h w=>?_
  rw[AIq]
  refine AW w XN.g0 ?_
  refine DS (u:=.int .i64 (i:Nat)) a4 (w.cast (Kq1 _ _ _)) (by omega) rfl rfl fun rP h a4 w=>?_
  rw[BN (n:=1),Ci (by omega)]
  have hset:(ints (GC (os.take i) (List.replicate (v.ipg+1) 0))).set o.X.num (.int .i64 (i:Nat))=ints (GC (os.take (i+1)) (List.replicate (v.ipg+1) 0)):=by
   rw[KZ ho]
   unfold ints
   rw[B22]
  rw[hset] at a4
  have k2:∀ RP B8 B3 B2 Y X:Res,RP+(B8+(B3+(B2+(Y+X))))=RP+(B3+(B2+((B8+Y)+X))):=by intros;ac_rfl
  exact hrec (mm-1) _ _ ⟨i+1,rP,_,by omega,rfl,a4,w.cast (k2 _ _ _ _ _ _)⟩ (by omega)
 ·have:i=os.length:=by omega
  subst this
  rw[A38] at a4
  rw[AIw]
  refine AW w VS.g0 ?_
  rw[hiv,Aw,←hiv]
  have k3:∀ RP B3 B2 Y X:Res,RP+(B3+(B2+(Y+X)))=RP+((B3+0)+(B2+(Y+X))):=by intros;rw[Res.add_zero]
  exact AGC a4 (Xb _ _) (by omega) d.addR ov.mono hn hos (w.cast (k3 _ _ _ _ _)) K
end
section
variable {h:H} {k:Value→Prop} {kt Q:Kt} {x y z r:Res}
attribute [local irreducible] TN.cells
attribute [local irreducible] AK Az AQ BB Ae AY AH AM
inductive FindP (ts:List TN):Nat→List Bs→Nat→Prop
 | nil {a:Nat}:FindP ts a [] a
 | cons {a b c:Nat} {t:TN} {nm:Bs} {l:List Bs}:ts[a]? = some t→kidL t.ks nm=some b→kindB t.X.mode=16384→FindP ts b l c→FindP ts a (nm::l) c
section
variable {ts:List TN} {ns:List Value} {nsv nmv:Value} {names:List Bs} {c:Nat}
theorem s15 (d:RdV 18 nsv ts.length ns x)(tv:TreeV x ns ts)(hts:∀ t∈ts,t.X.mode<65536∧t.ks.length<1000000000)(dn:RdV 1 nmv names.length (strs names) x)(hl:names.length<1000000000)(fp:FindP ts 0 names c)(w:AN x h)
  (K:∀ y h,AN (y+x) h→Q (.tuple #[.int .i64 (c:Nat),.bool true]) h):f15 (.agg ⟨[nsv]⟩) nmv h Q:=by
 obtain⟨⟨na,nc,hnm⟩,_⟩:=dn.len
 unfold f15
 refine BJ w fun b2 h w=>?_
 have w:AN (pts b2 (.cells ⟨[nsv]⟩ 40 (0,0))+x) h:=w
 rw[hnm,Aw,←hnm]
 unfold ABI
 refine DE (fun mm u0 u1 h'=>∃ i a y,mm+i=names.length∧u0=.int .i64 (a:Nat)∧u1=.int .i64 (i:Nat)∧FindP ts a (names.drop i) c∧AN (pts b2 (.cells ⟨[nsv]⟩ 40 (0,0))+(y+x)) h') names.length ⟨0,0,0,rfl,rfl,rfl,fp,w.cast (by rw[Res.zero_add])⟩ ?_
 rintro rec mm u0 u1 h' ⟨i,a,y,hi,rfl,rfl,fp,w⟩ hrec
 unfold Vh Ucm Uil Ufl Ucl Ucf Unt
 rw[AT]
 refine AX (fun hc=>?_) (fun hc=>?_)
 ·have hil:i<names.length:=by omega
  have hg:names[i]? = some names[i]:=A00 hil
  rw[A50 hil] at fp
  cases fp with
  | cons e1 e2 e3 fp=>
   rename_i b t
   obtain⟨dv,nv,kv,q1,q2,q3,q4⟩:=tv.get e1
   obtain⟨g1,g2⟩:=hts t (A28 e1)
   have hal:a<ts.length:=(A02.1 e1).1
   refine (dn.addR.addR:RdV 1 nmv names.length (strs names) _).get w (NX hg) ?_
   rw[AIq]
   refine AW w (show (⟨[nsv]⟩:Array Value)[0]? = some nsv from rfl) ?_
   refine (d.addR.addR:RdV 18 nsv ts.length ns _).agg w hal ?_
   rw[q1]
   refine ADr (s20 (x:=pts b2 (.cells ⟨[nsv]⟩ 40 (0,0))+(y+x)) TN.g16 TN.g17 TN.len q3.addR.addR q4.addR.addR g2 w fun y2 h w=>?_)
   rw[e2]
   show AO (.tuple #[.int .i64 (b:Nat),.bool true]) 0 _
   rw[DA,DH]
   have w:=w.cast (Kq3 _ _ _ _)
   rw[AIq]
   refine AW w (show (⟨[nsv]⟩:Array Value)[0]? = some nsv from rfl) ?_
   refine (d.addR.addR:RdV 18 nsv ts.length ns _).agg w hal ?_
   rw[q1]
   refine AB9 (s31 TN.g0 g1 w fun y3 h w=>?_)
   have c1:∀ k:Value→Prop,AD .neq (.int .u16 (kindB t.X.mode:Nat)) (.int .u16 16384) k=k (.bool false):=fun k=>by
    rw[e3,A3];rfl
   rw[c1,Cr,F1,A91,AU,BN (n:=1),Ci (by omega)]
   exact hrec (mm-1) _ _ _ ⟨i+1,b,y3+(y2+y),by omega,rfl,rfl,fp,w.cast (by
    exact Kq3 _ _ _ _)⟩ (by omega)
 ·have:i=names.length:=by omega
  subst this
  rw[B15] at fp
  cases fp
  exact K (pts b2 (.cells ⟨[nsv]⟩ 40 (0,0))+y) h' (w.cast (Res.assoc _ _ _).symm)
end
end
section
variable {h:H} {k:Value→Prop} {kt Q:Kt} {x y z r:Res}
attribute [local irreducible] TN.cells
attribute [local irreducible] AK Az AQ BB Ae AY AH AM
theorem RdX.one_ {v:Value}{bs:Bs}(d:RdX x v bs):Value.oneCell' v=true:=by
 obtain⟨a,c,h⟩:=d.len
 rw[h];rfl
theorem s38 {v:Value}{bs:Bs}(d:RdX x v bs)(hl:bs.length≤100000000)(w:AN x h)(K:∀ v r h,BufV v bs r→AN (r+x) h→Q v h):f38 v h Q:=by
 unfold f38
 refine CZ (n:=0) (parts:=[]) (l:=[]) w (by omega) rfl rfl fun b h w=>?_
 have bu:BufV (.slice (some ⟨b,0,none⟩) 0 0) [] (buf b []):=.own' (all:=[]) (A07 _) rfl rfl
 exact BU bu w (d.addR.rd w) (by simp;omega) fun v r h b w=>K v r h b w
theorem s64 (K:Q (.slice none 0 0) h):f64 (.slice none 0 0) h Q:=by
 unfold f64
 rw[Aw]
 unfold ABN
 refine DE (fun mm u0 u1 h'=>u0=.slice none 0 0∧u1=.int .i64 ((0:Nat):Int)∧h'=h) 0 ⟨rfl,rfl,rfl⟩ ?_
 rintro rec mm u0 u1 h' ⟨rfl,rfl,rfl⟩ _
 unfold YE Ucm Umk Uld Ufl Ucl Ukp
 have c0:∀ k:Value→Prop,AD .lss (.int .i64 ((0:Nat):Int)) (.int .i64 ((0:Nat):Int)) k=k (.bool false):=fun k=>by rw[AT];rfl
 rw[c0,AU]
 exact K
theorem XH (o:Op1)(dv:Value):(⟨o.cells dv⟩:Array Value)[22]? = some (.slice none 0 0)∧(⟨o.cells dv⟩:Array Value)[23]? = some dv:=by cases o<;>exact⟨rfl,rfl⟩
theorem Xo (o:Op1)(dv dv':Value):Ai (⟨o.cells dv⟩:Array Value) 23 [dv']=⟨o.cells dv'⟩∧Ai (⟨o.cells dv⟩:Array Value) 22 [.slice none 0 0]=⟨o.cells dv⟩:=by cases o<;>exact⟨rfl,rfl⟩
theorem Us (l:List U1)(o:U1):FC (l++[o])=FC l++o.1.cells o.2:=by
 unfold FC
 rw[A73,B04]
attribute [local irreducible] Op1.cells
section
variable {l:List U1} {ov:Value}
theorem s24 (d:RdV 24 ov l.length (FC l) x)(hn:l.length≤10000)(hdat:∀ o∈l,RdX x o.2 o.1.data)(hdl:∀ o∈l,o.1.data.length≤100000000)(w:AN x h)
  (K:∀ out l' r y h,Vec 32 24 out l'.length (FC l') r→l'.map (·.1)=l.map (·.1)→(∀ o∈l',RdX y o.2 o.1.data)→AN (r+(y+x)) h→Q out h):f24 ov h Q:=by
 have ff2:∀ (b o p:Nat) (k:Value→Prop),AC p (.pointer (some ⟨b,o,none⟩)) k=k (.pointer (some ⟨b,o+p,none⟩)):=fun b o p k=>by rw[DW,Bm]
 obtain⟨⟨va,vc,hv⟩,_⟩:=d.len
 unfold f24
 rw[hv,Aw,←hv]
 unfold ABD
 refine DE (fun mm u0 u1 h'=>∃ i l' r y,mm+i=l.length∧u1=.int .i64 (i:Nat)∧l'.length=i∧Vec 32 24 u0 i (FC l') r∧l'.map (·.1)=(l.take i).map (·.1)∧(∀ o∈l',RdX y o.2 o.1.data)∧AN (r+(y+x)) h') l.length ⟨0,[],0,0,rfl,rfl,rfl,.nil,rfl,by simp,w.cast (by rw[Res.zero_add,Res.zero_add])⟩ ?_
 rintro rec mm u0 u1 h' ⟨i,l',r,y,hi,rfl,hl',a,hm,hd,w⟩ hrec
 unfold Wq Ucm Umk Ufl Uld Ucl Ukp
 rw[AT]
 refine AX (fun hc=>?_) (fun hc=>?_)
 ·have hil:i<l.length:=by omega
  obtain⟨o,ho⟩:∃ o,l[i]? = some o:=⟨_,A00 hil⟩
  have hmem:=A28 ho
  have dd:=hdat o hmem
  refine (d.addR.addR:RdV 24 ov l.length (FC l) _).agg w hil ?_
  rw[TI l i o ho]
  refine Ah w Fy rfl fun b5 h w=>?_
  have hone:=Op1.cells_one o.1 o.2 dd.one_
  refine AL w ⟨o.1.cells o.2⟩ (NO o.1 o.2) (by show (List.toArray _).size=24;rw[A31,Op1.cells_len]) (by rw[A31,Op1.cells_len];omega) hone fun h w=>?_
  rw[AIq]
  refine AW w (XH o.1 o.2).2 ?_
  rw[AIq,ff2]
  refine AW w (XH o.1 o.2).1 ?_
  refine ADL (s38 (dd.addR.addR.addR) (hdl o hmem) w fun dv' rd h b w=>?_)
  refine And.intro (AW w (XH o.1 o.2).1 rfl) ?_
  rw[AIq]
  refine ADn (s64 ?_)
  have hone2:Value.oneCell' dv'=true:=b.rdX.one_
  obtain⟨ba,bc2,hdv'⟩:=b.rdX.len
  refine AL w ⟨o.1.cells dv'⟩ (by rw[hdv'];exact (Xo o.1 o.2 _).1) (by rw[hdv'];rfl) (by rw[A31,Op1.cells_len];omega) (by rw[hdv'];rfl) fun h w=>?_
  rw[AIq,ff2]
  refine AL w ⟨o.1.cells dv'⟩ (Xo o.1 dv' dv').2 rfl (by rw[A31,Op1.cells_len];omega) rfl fun h w=>?_
  refine Cj w (Op1.cells_len _ _) ?_
  refine CW a (w.cast (Kq8 _ _ _ _ _)) Fy (by show (List.toArray _).size=24;rw[A31,Op1.cells_len]) (Op1.cells_len _ _) (by omega) (by omega) (Op1.cells_one o.1 dv' hone2) fun b9 h w=>?_
  refine B0 a w Fy (by show (List.toArray _).size=24;rw[A31,Op1.cells_len]) (Op1.cells_len _ _) (Op1.cells_one o.1 dv' hone2) (by omega) (by omega) fun out r h a w=>?_
  rw[BN (n:=1),Ci (by omega)]
  have k2:∀ R B RD Y X:Res,R+(B+(RD+(Y+X)))=R+((RD+(B+Y))+X):=by intros;ac_rfl
  refine hrec (mm-1) _ _ _ ⟨i+1,l'++[(o.1,dv')],r,_,by omega,rfl,by rw[A01,hl'];rfl,by rw[Us];exact a,?_,?_,w.cast (k2 _ _ _ _ _)⟩ (by omega)
  ·rw[A36,hm,A85,ho,A36];rfl
  ·intro p hp
   rcases A88.1 hp with h1|h1
   ·exact (hd p h1).addR.addR
   ·rw[A78] at h1
    subst h1
    exact b.rdX.addL
 ·have:i=l.length:=by omega
  subst this
  rw[A38] at hm
  exact K _ l' r y h' (by rw[hl'];exact a) hm hd w
end
attribute [local irreducible] Bp Db setL Bz JQ Pp FD Dl BS DY
section
variable {wb db:Nat} {inl:Bool} {l:List U1} {ov:Value} {ro rd:Res}
theorem AH3 {n:Nat}{G:Bs→Prop}(dop:Vec 32 24 ov n (FC l) ro)(hn:l.length=n)(hn2:n≤10000)(hone:∀ o∈l,Value.oneCell' o.2=true)(hdat:∀ o∈l,RdX rd o.2 o.1.data)(hdl:∀ o∈l,o.1.data.length≤100000000)
  (st:∀ db,∃ SE S,Steps (l.map (·.1)) (S2 [] inl EA db) SE∧He SE S∧S.db=db∧G (BS S)) (g:JX x) (w:AN (ro+(rd+x)) h)
  (K:∀ B out dv dr y h,G B→BufV dv B dr→AN (dr+(y+(ro+(rd+x)))) h→Q (.tuple #[out,.int .i64 0,dv]) h):f23 (.bool inl) (.int .i64 ((0:Nat):Int)) ov h Q:=by
 obtain⟨⟨oa,oc,hov⟩,_⟩:=dop.len
 unfold f23 Ucl
 refine Au Z8 rfl (rs:=[.slice none 0 0,.int .i64 ((0:Nat):Int)]) rfl (BJ w fun db h w=>?_)
 have w:AN (pts db (.cells ⟨[.slice none 0 0,.int .i64 ((0:Nat):Int)]⟩ 121 (0,0))+(ro+(rd+x))) h:=w
 refine ADP ?_
 unfold f52
 refine BJ w fun mb h w=>?_
 have w:AN (pts mb (.cells ⟨[.int .i64 ((0:Nat):Int)]⟩ 2 (0,0))+(pts db (.cells ⟨[.slice none 0 0,.int .i64 ((0:Nat):Int)]⟩ 121 (0,0))+(ro+(rd+x)))) h:=w
 have rest:∀ (opv:Value) (r:Res) (h:H),Vec 123 1 opv (JV mb inl).length (JV mb inl) r→AN (r+(pts mb (.cells ⟨[.int .i64 ((0:Nat):Int)]⟩ 2 (0,0))+(pts db (.cells ⟨[.slice none 0 0,.int .i64 ((0:Nat):Int)]⟩ 121 (0,0))+(ro+(rd+x))))) h→Oy Q ov (Pt db) opv h:=by
  intro opv r h dopt w
  unfold Oy Ucl
  refine ACy (s54 dopt (w.cast (Kq7 _ _ _ _)) fun wb h fr=>?_)
  obtain⟨SE,S,h1,h2,h3,h4⟩:=st db
  rw[hov,Aw,←hov]
  exact AF6 dop hn hn2 hone hdat hdl h1 h2 h3 g (.inl ⟨rfl,fr⟩) fun out dv dr y h b w=>K (BS S) out dv dr y h h4 b w
 show AH (.arr 1) 123 (AG TP 123) 1 1 [(0,.func (.func 90) #[] #[Pt mb])] h _
 refine G5 w T6 rfl rfl rfl fun fb h w=>?_
 have d1:Vec 123 1 (.slice (some ⟨fb,0,none⟩) 1 1) 1 [.func (.func 90) #[] #[Pt mb]] (pts fb (.cells ⟨[.func (.func 90) #[] #[Pt mb]]⟩ 123 (0,0))):=.own' (A07 _) rfl rfl
 cases inl with
 | false=>
  rw[AU]
  exact rest _ _ h d1 w
 | true=>
  rw[Ak]
  exact EY d1 w T6 rfl rfl rfl (by decide) (by decide) fun opv r h d w=>rest opv r h d w
def Xp (P:List AA→Nat→Prop)(B:Bs):Prop:=∃ nb ipg o0 o' T os kk,PH B nb ipg o0 o' T os kk∧P os ipg
attribute [local irreducible] VS.cells XN.cells
theorem s13 {P:List AA→Nat→Prop}(d:RdV 24 ov l.length (FC l) x)(hn:l.length≤10000)(hdat:∀ o∈l,RdX x o.2 o.1.data)(hdl:∀ o∈l,o.1.data.length≤100000000)
  (st:∀ db,∃ SE S,Steps (l.map (·.1)) (S2 [] inl EA db) SE∧He SE S∧S.db=db∧Xp P (BS S)) (g:JX x) (w:AN x h)
  (K:∀ (v:VS) os cs z h,VecX 81 23 v.iv os.length cs z→OutV z cs os→v.OK (z+x)→P os v.ipg→(∀ o∈os,1≤o.X.num∧o.X.num≤v.ipg∧o.X.mode<65536)→os.length<1000000→AN (v.res+(z+x)) h→Q (.tuple #[Pt v.vb,.bool true]) h) :
  f13 (.bool inl) (.int .i64 0) ov h Q:=by
 unfold f13 Ucl Ucm Unf
 refine ADU (s24 d hn hdat hdl w fun out l' r y h a hm hd w=>?_)
 have hl':l'.length=l.length:=by have:=A76 List.length hm;simpa using this
 have hdl':∀ o∈l',o.1.data.length≤100000000:=fun o ho=>by
  have:o.1∈l.map (·.1):=by rw[←hm];exact A35.2 ⟨o,ho,rfl⟩
  obtain⟨p,hp,he⟩:=A35.1 this
  rw[←he];exact hdl p hp
 refine AB2 (AH3 (rd:=y) a rfl (by omega) (fun o ho=>(hd o ho).one_) hd hdl' (by rw[hm];exact st) g w fun B out2 dv dr y2 h hG b w=>?_)
 rw[DA,DH,Un]
 have c0:∀ k:Value→Prop,AD .neq (.int .i64 0) (.int .i64 0) k=k (.bool false):=fun k=>by rw[A3];rfl
 rw[c0,AU]
 obtain⟨nb,ipg,o0,o',T,os,kk,hi,hP⟩:=hG
 refine ABi (s25 hi b.rdX.addL w fun v z y3 h cs dv2 ov2 ok hI hip w=>?_)
 rw[AIw]
 refine AW w VS.g2 ?_
 have c1:∀ k:Value→Prop,AD .eql (.int .i64 ((0:Nat):Int)) (.int .i64 0) k=k (.bool true):=fun k=>by rw[Aa];rfl
 rw[Aw,c1]
 have k1:∀ V Y3 Z DR Y2 R Y X:Res,V+(Y3+(Z+(DR+(Y2+(R+(Y+X))))))=V+((Y3+(Z+(DR+(Y2+(R+Y)))))+X):=by intros;ac_rfl
 have k2:∀ Y3 Z DR Y2 R Y X:Res,Y3+(Z+(DR+(Y2+(R+(Y+X)))))=(Y3+(Z+(DR+(Y2+(R+Y)))))+X:=by intros;ac_rfl
 have ok2:v.OK (y3+(z+(dr+(y2+(r+(y+x)))))):=ok.mono
 rw[k2] at ok2
 refine K v os cs _ h dv2.addL.addR ov2.addL.mono ok2 (by rw[hip];exact hP) (fun o ho=>by rw[hip];exact hi.num o ho) (by rw[hi.walk.len];exact hi.walk.nlt) (w.cast (k1 _ _ _ _ _ _ _ _))
end
end
end Go.Proofs.YtollddkkdgoonaaGreatDoor
