/- A part of a proof over images that are written and read. No condition; a step. -/
import Derived.Test.YtollddkkdgoonaaGreatDoorM24
namespace Go.Proofs.YtollddkkdgoonaaGreatDoor
open Go
set_option linter.unusedVariables false
set_option linter.unusedSimpArgs false
section
theorem ON {α:Type}{l:List α}{i:Nat}{a:α}(h:l[i]? = some a):l.set i a=l:=by
 apply List.ext_getElem?
 intro j
 rw[List.getElem?_set]
 by_cases hj:i=j
 ·subst hj
  rw[if_pos rfl,if_pos (List.getElem?_eq_some_iff.1 h).1,h]
 ·rw[if_neg hj]
theorem UC {n:Nat}{m:Bs}(h:m.length=n):setL (List.replicate n 0) 0 m=m:=by
 unfold setL
 rw[List.take_zero,List.nil_append,h,List.drop_eq_nil_of_le (by simp),List.append_nil]
theorem NB {B:Bs}{p:Nat}(h:B.length=p):I1 B p=B++List.replicate (Eu p-p) 0:=by
 unfold I1
 by_cases hc:Eu p=p
 ·rw[if_pos hc,hc,Nat.sub_self,List.replicate_zero,List.append_nil]
 ·rw[if_neg hc,OV h]
section
variable {inl:Bool} {its:List It} {S:PS}
theorem Mc {it:It}{S0 S1:PS}(h1:Step1 (.create it.path it.f) S0 S1)(hd:it.data=[]):Steps it.ops S0 S1:=by
 unfold It.ops
 cases hw:it.w with
 | false=>exact .cons h1 .nil
 | true=>rw[hd];exact .cons h1 (.cons (.write (.none rfl)) .nil)
theorem AAm {it:It}(w:Wr inl its S)(hio:A7 its)(hi:OO its it)(hn:its.length≤5000)(hroom:S.pos+it.data.length+8192≤17179869184) :
  ∃ S',(∀ Sx,Fin Sx S→∃ Sy,Steps it.ops Sx Sy∧Fin Sy S')∧Wr inl (its++[it]) S'∧S'.pos≤S.pos+it.data.length+4095∧S'.db=S.db:=by
 obtain⟨st,hway,hpath⟩:=hi.way
 obtain⟨q,hq⟩:=VI w hio hway
 obtain⟨d1,d2,d3,d4⟩:=hi.dir_lt
 have hlen:=w.len
 have hdl:it.dir-1<S.M.length:=by omega
 have hal:=w.al
 have hbig:=w.big
 have hmax:=w.max
 have hnum:S.M.length+1=12+its.length:=by omega
 have cr:CrOK S it.path it.f st it.nm it.dir q (esOf its it.dir):=by
  refine⟨w.cur,by omega,⟨_,w.root⟩,hi.pl,hpath,hi.n2,Vr w hio hway,hq.d1,hq.at_,hq.mode,hq.kids,?_,by have:=hq.links;omega,hi.file⟩
  apply QO
  intro e he
  rcases Co.1 he with⟨h1,h2⟩|⟨j,x,h1,h2,h3⟩
  ·rw[h2];exact fun h=>hi.lost h1 h.symm
  ·rw[h3]
   exact hi.new x (List.mem_of_getElem? h1) h2
 have hinl:=w.inlS
 have hp0:newP it.f (S.M.length+1) S.inl=newP it.f (12+its.length) inl:=by rw[hnum,hinl]
 have hkm:kindB (newP it.f (12+its.length) inl).mode=it.kd:=rfl
 obtain⟨a1,a2,a3⟩:=Lx (M:=S.M) (d:=it.dir) (q:=q) (p:=newP it.f (12+its.length) inl) (p':={newP it.f (12+its.length) inl with links:=(newP it.f (12+its.length) inl).links+1}) (es:=esOf its it.dir) (e:=it.nm) hdl
 have a3:=fun p'=>(Lx (M:=S.M) (d:=it.dir) (q:=q) (p:=newP it.f (12+its.length) inl) (p':=p') (es:=esOf its it.dir) (e:=it.nm) hdl).2.2
 have hmade:∀ Sx,Fin Sx S→Step1 (.create it.path it.f) Sx (S.made it.dir q (esOf its it.dir) it.nm it.f):=fun Sx fx=>.create fx cr
 have hdat:=hi.dat
 have same:∀ p',Nz p'=[]→p' = {newP it.f (12+its.length) inl with links:=(newP it.f (12+its.length) inl).links+1,dbs:=p'.dbs,flags:=p'.flags,bcnt:=p'.bcnt}→HoldI (bx S.B S.pos) S.pos it inl p' →
   Wr inl (its++[it]) {S with M:=(D0 S.M it.dir q (newP it.f (12+its.length) inl) (esOf its it.dir) it.nm).set S.M.length (some p')}:=by
  intro p' he hp hh
  rw[a3 p']
  have:=X7 (B':=S.B) (pos':=S.pos) (Y:=[]) w hio hi hq (Tt hio hi hp) hh w.B (Nat.le_refl _) hal (List.append_nil _).symm (by rw[Nat.sub_self,he];rfl)
  rw[hkm]
  exact this
 by_cases hkd:it.kd=32768
 ·rw[if_pos hkd] at hdat
  have hkd':kindB (modeK it.f.mode)=32768:=hkd
  have hmd:S.made it.dir q (esOf its it.dir) it.nm it.f = {S with M:=D0 S.M it.dir q (newP it.f (12+its.length) inl) (esOf its it.dir) it.nm,cur:=some (12+its.length),dw:=0,dm:=it.f.size}:=by
   unfold PS.made
   simp only
   rw[if_pos hkd',hp0,hnum]
  have hc1:(D0 S.M it.dir q (newP it.f (12+its.length) inl) (esOf its it.dir) it.nm)[12+its.length-1]? = some (some {newP it.f (12+its.length) inl with links:=(newP it.f (12+its.length) inl).links+1}):=by
   rw[show 12+its.length-1=S.M.length by omega];exact a1
  by_cases hd0:it.data=[]
  ·have hsz:it.f.size=0:=by rw[hdat,hd0];rfl
   refine⟨{S with M:=D0 S.M it.dir q (newP it.f (12+its.length) inl) (esOf its it.dir) it.nm,cur:=none,dw:=0,dm:=0},fun Sx fx=>⟨_,Mc (hmade Sx fx) hd0,?_⟩,?_,by show S.pos≤_;omega,rfl⟩
   ·rw[hmd]
    exact .small (c:=12+its.length) rfl (by omega) hc1 (by rw[hsz]) (.inl (by rw[hsz]))
   ·have h1:=same {newP it.f (12+its.length) inl with links:=(newP it.f (12+its.length) inl).links+1} ?_ rfl ⟨?_⟩
    ·rw[ON a1] at h1
     obtain⟨b1,b2,b3,b4,b5,b6,b7,b8,b9,b10,b11,b12,b13⟩:=h1
     exact⟨rfl,b2,b3,b4,b5,b6,b7,b8,b9,b10,b11,b12,b13⟩
    ·unfold Nz
     rw[if_neg]
     show ¬flK inl it.kd it.f.size=786432
     unfold flK;split<;>decide
    ·show if inlK inl it.kd it.f.size=true then flK inl it.kd it.f.size=268697600∧datK inl it.kd it.f.size=it.data∧(0:Nat)=0 else if it.data=[] then flK inl it.kd it.f.size=262144∧datK inl it.kd it.f.size=[]∧(0:Nat)=0 else _
     unfold flK datK
     by_cases hc:inlK inl it.kd it.f.size=true
     ·rw[if_pos hc,if_pos hc,if_pos hc,hsz,hd0];exact⟨rfl,rfl,rfl⟩
     ·rw[if_neg hc,if_neg hc,if_neg hc,if_pos hd0];exact⟨rfl,rfl,rfl⟩
  ·have hw:it.w=true:=hi.wr hd0
   have hpos:0<it.data.length:=List.length_pos_iff.2 hd0
   have hbg:=hi.big
   have hops:it.ops=[.create it.path it.f,.write it.data]:=by unfold It.ops;rw[hw];rfl
   by_cases hc:inlK inl it.kd it.f.size=true
   ·have hsz:it.f.size≤136:=by
     unfold inlK at hc
     simp only[Bool.and_eq_true,decide_eq_true_eq] at hc
     exact hc.2
    have hfl:flK inl (kindB (modeK it.f.mode)) it.f.size=268697600:=if_pos hc
    have hdb:datK inl (kindB (modeK it.f.mode)) it.f.size=List.replicate it.f.size 0:=if_pos hc
    refine⟨{S with M:=(D0 S.M it.dir q (newP it.f (12+its.length) inl) (esOf its it.dir) it.nm).set S.M.length (some {newP it.f (12+its.length) inl with links:=(newP it.f (12+its.length) inl).links+1,dbs:=it.data}),cur:=none,dw:=0,dm:=0},fun Sx fx=>?_,?_,by show S.pos≤_;omega,rfl⟩
    ·refine⟨_,by rw[hops];exact .cons (hmade Sx fx) (.cons (.write (.inode (c:=12+its.length) (by rw[hmd]) (by omega) (by rw[hmd];exact hc1) hpos hfl (by rw[hmd];show 0+it.data.length≤it.f.size;omega) (by rw[hmd];show it.f.size=(datK inl (kindB (modeK it.f.mode)) it.f.size).length;rw[hdb,List.length_replicate]) (by show (datK inl (kindB (modeK it.f.mode)) it.f.size).length≤_;rw[hdb,List.length_replicate];omega))) .nil),?_⟩
     rw[hmd]
     have e2:({S with M:=D0 S.M it.dir q (newP it.f (12+its.length) inl) (esOf its it.dir) it.nm,cur:=some (12+its.length),dw:=0,dm:=it.f.size}:PS).inned (12+its.length) {newP it.f (12+its.length) inl with links:=(newP it.f (12+its.length) inl).links+1} it.data
       = {S with M:=(D0 S.M it.dir q (newP it.f (12+its.length) inl) (esOf its it.dir) it.nm).set S.M.length (some {newP it.f (12+its.length) inl with links:=(newP it.f (12+its.length) inl).links+1,dbs:=it.data}),cur:=some (12+its.length),dw:=it.data.length,dm:=it.f.size}:=by
      unfold PS.inned
      rw[show 12+its.length-1=S.M.length by omega,Nat.zero_add]
      show ({S with M:=(D0 S.M it.dir q (newP it.f (12+its.length) inl) (esOf its it.dir) it.nm).set S.M.length (some {newP it.f (12+its.length) inl with links:=_,dbs:=setL (datK inl (kindB (modeK it.f.mode)) it.f.size) 0 it.data}),cur:=_,dw:=_,dm:=_}:PS)=_
      rw[hdb,UC hdat.symm]
     rw[e2]
     refine .small (c:=12+its.length) (n:={newP it.f (12+its.length) inl with links:=(newP it.f (12+its.length) inl).links+1,dbs:=it.data}) rfl (by omega) ?_ (by show it.data.length=it.f.size;omega) (.inr hfl)
     rw[List.getElem?_set,if_pos (by omega),if_pos (by omega)]
    ·have h1:=same {newP it.f (12+its.length) inl with links:=(newP it.f (12+its.length) inl).links+1,dbs:=it.data} ?_ rfl ⟨?_⟩
     ·obtain⟨b1,b2,b3,b4,b5,b6,b7,b8,b9,b10,b11,b12,b13⟩:=h1
      exact⟨rfl,b2,b3,b4,b5,b6,b7,b8,b9,b10,b11,b12,b13⟩
     ·unfold Nz
      rw[if_neg]
      show ¬flK inl (kindB (modeK it.f.mode)) it.f.size=786432
      rw[hfl];decide
     ·rw[if_pos hc];exact⟨hfl,rfl,rfl⟩
   ·have hfl:flK inl (kindB (modeK it.f.mode)) it.f.size=262144:=if_neg hc
    have hB:=w.B
    let pos1:=S.pos+it.data.length
    have hup:Eu pos1=(S.pos/4096+(it.data.length+4095)/4096)*4096:=by
     show (S.pos+it.data.length+4095)/4096*4096=_;omega
    let len:=(it.data.length+4095)/4096
    let p':PN:={newP it.f (12+its.length) inl with links:=(newP it.f (12+its.length) inl).links+1,dbs:=extRoot len (S.pos/4096),flags:=786432,bcnt:=len}
    have hBl:(BG S.B S.pos it.data).length=pos1:=by
     rw[J1 hB,List.length_append,Ee hB]
    have hB':I1 (BG S.B S.pos it.data) pos1=bx S.B S.pos++(it.data++List.replicate (Eu pos1-pos1) 0):=by
     rw[NB hBl,J1 hB,List.append_assoc]
    have hup1:pos1≤Eu pos1∧Eu pos1≤pos1+4095∧Eu pos1%4096=0:=by unfold Eu;omega
    have hB'l:(I1 (BG S.B S.pos it.data) pos1).length=Eu pos1:=by
     rw[NB hBl,List.length_append,List.length_replicate,hBl];omega
    refine⟨{S with M:=(D0 S.M it.dir q (newP it.f (12+its.length) inl) (esOf its it.dir) it.nm).set S.M.length (some p'),B:=I1 (BG S.B S.pos it.data) pos1,pos:=Eu pos1,cur:=none,dw:=0,dm:=0},fun Sx fx=>?_,?_,by show Eu pos1≤_;have:pos1=S.pos+it.data.length:=rfl;omega,rfl⟩
    ·refine⟨_,by rw[hops];exact .cons (hmade Sx fx) (.cons (.write (.disk (c:=12+its.length) (by rw[hmd]) (by omega) (by rw[hmd];exact hc1) hpos hfl (by rw[hmd];show 0+it.data.length≤it.f.size;omega) (by rw[hmd];show it.f.size<_;omega) (by rw[hmd];show S.pos+it.data.length≤S.max;omega))) .nil),?_⟩
     rw[hmd]
     have e2:({S with M:=D0 S.M it.dir q (newP it.f (12+its.length) inl) (esOf its it.dir) it.nm,cur:=some (12+its.length),dw:=0,dm:=it.f.size}:PS).wrote it.data
       = {S with M:=D0 S.M it.dir q (newP it.f (12+its.length) inl) (esOf its it.dir) it.nm,B:=BG S.B S.pos it.data,pos:=pos1,cur:=some (12+its.length),dw:=it.data.length,dm:=it.f.size}:=by
      unfold PS.wrote
      rw[Nat.zero_add]
     rw[e2]
     have f:=Fin.big (S:={S with M:=D0 S.M it.dir q (newP it.f (12+its.length) inl) (esOf its it.dir) it.nm,B:=BG S.B S.pos it.data,pos:=pos1,cur:=some (12+its.length),dw:=it.data.length,dm:=it.f.size}) (c:=12+its.length) rfl (by omega) hc1 (by show it.data.length=it.f.size;omega) (by show 1≤it.f.size;omega) hfl (by show it.data.length≤S.pos+it.data.length;omega) (by show (S.pos+it.data.length-it.data.length)%4096=0;omega) (by show (BG S.B S.pos it.data).length≤pos1;omega) (by show it.data.length≤134000000;omega) (by show S.pos+it.data.length+4096≤S.max;omega) (by show (0:Nat)<1000000;decide)
     have e3:({S with M:=D0 S.M it.dir q (newP it.f (12+its.length) inl) (esOf its it.dir) it.nm,B:=BG S.B S.pos it.data,pos:=pos1,cur:=some (12+its.length),dw:=it.data.length,dm:=it.f.size}:PS).shut (12+its.length) {newP it.f (12+its.length) inl with links:=(newP it.f (12+its.length) inl).links+1}
       = {S with M:=(D0 S.M it.dir q (newP it.f (12+its.length) inl) (esOf its it.dir) it.nm).set S.M.length (some p'),B:=I1 (BG S.B S.pos it.data) pos1,pos:=Eu pos1,cur:=none,dw:=0,dm:=0}:=by
      unfold PS.shut PN.ext
      have x1:pos1-it.data.length=S.pos:=by show S.pos+it.data.length-it.data.length=_;omega
      have x2:(Eu pos1-S.pos)/4096=len:=by show _=(it.data.length+4095)/4096;omega
      have x3:flK inl (kindB (modeK it.f.mode)) it.f.size ||| 524288=786432:=by rw[hfl];decide
      rw[show 12+its.length-1=S.M.length by omega]
      show ({S with M:=(D0 S.M it.dir q (newP it.f (12+its.length) inl) (esOf its it.dir) it.nm).set S.M.length (some {newP it.f (12+its.length) inl with links:=_,dbs:=extRoot ((Eu pos1-(pos1-it.data.length))/4096) ((pos1-it.data.length)/4096),flags:=flK inl (kindB (modeK it.f.mode)) it.f.size ||| 524288,bcnt:=0+(Eu pos1-(pos1-it.data.length))/4096}),B:=_,pos:=_,cur:=_,dw:=_,dm:=_}:PS)=_
      rw[x1,x2,x3,Nat.zero_add]
     rw[←e3]
     exact f
    ·rw[a3 p']
     have hlen2:len=(it.data.length+4095)/4096:=rfl
     have hst:leL (extRoot len (S.pos/4096)) 20 4=S.pos/4096:=by
      obtain⟨x1,_⟩:=ES (len:=len) (st:=S.pos/4096) (by omega) (by omega)
      have:=x1.st
      rw[EQ (by omega),DQ] at this
      exact this
     have hbx:bx (I1 (BG S.B S.pos it.data) pos1) (Eu pos1)=bx S.B S.pos++(it.data++List.replicate (Eu pos1-pos1) 0):=by
      rw[VA hB'l,hB']
     have h1:=X7 (p':=p') (B':=I1 (BG S.B S.pos it.data) pos1) (pos':=Eu pos1) (Y:=it.data++List.replicate (Eu pos1-pos1) 0) w hio hi hq (Tt hio hi rfl) ⟨?_⟩ (by omega) (by have:pos1=S.pos+it.data.length:=rfl;omega) hup1.2.2 hbx ?_
     ·rw[hkm]
      obtain⟨b1,b2,b3,b4,b5,b6,b7,b8,b9,b10,b11,b12,b13⟩:=h1
      exact⟨rfl,b2,b3,b4,b5,b6,b7,b8,b9,b10,b11,b12,b13⟩
     ·rw[if_neg hc,if_neg hd0]
      refine⟨S.pos/4096,rfl,rfl,rfl,by omega,by show (S.pos/4096+len)*4096≤Eu pos1;omega,?_⟩
      rw[hbx]
      exact Fa (by rw[Ee hB];omega) rfl
     ·unfold Nz
      rw[if_pos rfl]
      show (List.range len).map (leL (extRoot len (S.pos/4096)) 20 4 + ·)=_
      rw[hst]
      congr 2
      omega
 ·rw[if_neg hkd] at hdat
  have hkd':¬kindB (modeK it.f.mode)=32768:=hkd
  have hmd:S.made it.dir q (esOf its it.dir) it.nm it.f = {S with M:=D0 S.M it.dir q (newP it.f (12+its.length) inl) (esOf its it.dir) it.nm}:=by
   unfold PS.made
   simp only
   rw[if_neg hkd',hp0]
  have hni:inlK inl it.kd it.f.size=false:=by
   unfold inlK
   have:(it.kd == 32768)=false:=by simpa using hkd
   rw[this];simp
  refine⟨{S with M:=D0 S.M it.dir q (newP it.f (12+its.length) inl) (esOf its it.dir) it.nm},fun Sx fx=>⟨_,Mc (hmade Sx fx) hdat,?_⟩,?_,by show S.pos≤_;omega,rfl⟩
  ·rw[hmd];exact .none w.cur
  ·have h1:=same {newP it.f (12+its.length) inl with links:=(newP it.f (12+its.length) inl).links+1} ?_ rfl ⟨?_⟩
   ·rw[ON a1] at h1
    exact h1
   ·unfold Nz
    rw[if_neg]
    show ¬flK inl it.kd it.f.size=786432
    unfold flK;split<;>decide
   ·rw[hni]
    show if false=true then _ else if it.data=[] then flK inl it.kd it.f.size=262144∧datK inl it.kd it.f.size=[]∧(0:Nat)=0 else _
    rw[if_neg (by decide),if_pos hdat]
    unfold flK datK
    rw[hni]
    exact⟨rfl,rfl,rfl⟩
end
end
section
theorem Steps.append:∀ {l m:List Op1} {S S1 S2:PS},Steps l S S1→Steps m S1 S2→Steps (l++m) S S2
 | _,_,_,_,_,.nil,h=>h
 | _,_,_,_,_,.cons h1 h2,h=>.cons h1 (h2.append h)
theorem Nj:Fk EA=1:=by decide
theorem Xn (inl:Bool)(db:Nat):Wr inl [] (S2 [] inl EA db):=by
 have hm:S2 [] inl EA db = {S1 [] inl EA db with M:=D0 (M1 inl) 2 (rootP inl) (newP (dirF 16832) 11 inl) [] lostN}:=by
  unfold S2 PS.made
  simp only
  rw[if_neg (by decide)]
  rfl
 have hpos:(1+Fk EA)*4096=8192:=by rw[Nj]
 have hM:(S2 [] inl EA db).M=none::some {rootP inl with kids:=some [(lostN,11)],links:=3}::(List.replicate 8 none++[some {newP (dirF 16832) 11 inl with links:=2}]):=by
  have k:kindB (modeK 16832)=16384:=by decide
  rw[hm]
  show (M1 inl++[some ((newP (dirF 16832) 11 inl).kl (newP (dirF 16832) 11 inl).kids ((if kindB (modeK 16832)=16384 then 1 else 0)+1))]).set 1 (some ((rootP inl).kl (some ([]++[(lostN,(M1 inl).length+1)])) (2+(if kindB (modeK 16832)=16384 then 1 else 0))))=_
  rw[if_pos k]
  rfl
 have hp:(S2 [] inl EA db).pos=8192:=by rw[hm];exact hpos
 have hB:(S2 [] inl EA db).B=[]:=by rw[hm];rfl
 have hlk:(newP (dirF 16832) 11 inl).kids=some []:=by
  show (if kindB (modeK 16832)=16384 then some [] else none)=_
  rw[if_pos (by decide)]
 have hfl:∀ m,kindB (modeK m)=16384→∀ n,(newP (dirF m) n inl).flags=262144:=fun m h n=>by
  show flK inl (kindB (modeK m)) 0=262144
  unfold flK inlK
  rw[h,if_neg (by simp)]
 refine⟨by rw[hm];rfl,by rw[hm];rfl,by rw[hm];rfl,by rw[hm];exact Nj,by rw[hB,hp];simp,by rw[hp],by rw[hp];omega,by rw[hM];rfl,?_,?_,?_,fun j it h=>by simp at h,?_⟩
 ·intro i h
  rw[hM]
  rcases h with rfl|⟨h1,h2⟩
  ·rfl
  ·have:i=2∨i=3∨i=4∨i=5∨i=6∨i=7∨i=8∨i=9:=by omega
   rcases this with rfl|rfl|rfl|rfl|rfl|rfl|rfl|rfl<;>rfl
 ·rw[hM];rfl
 ·rw[hM]
  show some (some {newP (dirF 16832) 11 inl with links:=2})=some (some {newP (dirF 16832) 11 inl with kids:=some [],links:=2})
  rw[←hlk]
 ·rw[hM,hp]
  have e1:exO (some {rootP inl with kids:=some [(lostN,11)],links:=3})=[]:=by
   show (if (rootP inl).flags=786432 then _ else [])=[]
   rw[if_neg]
   show ¬(newP (dirF 16877) 2 inl).flags=_
   rw[hfl 16877 (by decide)];decide
  have e2:exO (some {newP (dirF 16832) 11 inl with links:=2})=[]:=by
   show (if (newP (dirF 16832) 11 inl).flags=786432 then _ else [])=[]
   rw[if_neg]
   rw[hfl 16832 (by decide)];decide
  rw[List.flatMap_cons,List.flatMap_cons,e1,List.flatMap_append,List.flatMap_singleton,e2]
  exact .refl _
def EW (its:List It):Nat:=(its.map fun it=>it.data.length+4095).sum
theorem Q0 {its:List It}{n:Nat}(h:n<its.length):EW (its.take (n+1))=EW (its.take n)+(its[n].data.length+4095):=by
 unfold EW
 rw[←List.take_append_getElem h,List.map_append,List.sum_append]
 simp
theorem Va (its:List It)(n:Nat):EW (its.take n)≤EW its:=by
 have:EW its=EW (its.take n)+EW (its.drop n):=by
  unfold EW
  rw[←List.sum_append,←List.map_append,List.take_append_drop]
 omega
section
variable {inl:Bool} {its:List It} {S0:PS}
theorem WY (w:Wr inl [] S0)(h0:S0.pos=8192)(hio:A7 its)(hn:its.length≤5000)(hsum:EW its≤100000000):∀ n,n≤its.length →
  ∃ Sy S',Steps ((its.take n).flatMap It.ops) S0 Sy∧Fin Sy S'∧Wr inl (its.take n) S'∧S'.pos≤8192+EW (its.take n)∧S'.db=S0.db
 | 0,_=>⟨S0,S0,.nil,.none w.cur,w,by rw[h0];omega,rfl⟩
 | n+1,hl=>by
  have hlt:n<its.length:=by omega
  obtain⟨Sy,S',s1,f1,w1,p1,q1⟩:=WY w h0 hio hn hsum n (by omega)
  have hio':A7 (its.take n):=fun j it hj=>by
   have hjl:=(List.getElem?_eq_some_iff.1 hj).1
   rw[List.length_take] at hjl
   rw[List.getElem?_take,if_pos (by omega)] at hj
   have:=hio j it hj
   rw[List.take_take,Nat.min_eq_left (by omega)]
   exact this
  have hi:=hio n _ (List.getElem?_eq_getElem hlt)
  have hs:=Q0 hlt
  have hs2:=Va its (n+1)
  have hbg:=hi.big
  obtain⟨S2,k1,k2,k3,k4⟩:=AAm w1 hio' hi (by rw[List.length_take];omega) (by omega)
  obtain⟨Sz,s2,f2⟩:=k1 Sy f1
  refine⟨Sz,S2,?_,f2,?_,by omega,k4.trans q1⟩
  ·rw[←List.take_append_getElem hlt,List.flatMap_append,List.flatMap_singleton]
   exact s1.append s2
  ·rw[←List.take_append_getElem hlt];exact k2
end
end
section
def dirB (its:List It)(k:Nat):Bool:=decide (k=2)||decide (k=11)||(decide (12≤k)&&(match its[k-12]? with|some it=>it.isD|none=>false))
def parOf (its:List It)(c:Nat):Nat:=if c<12 then 2 else match its[c-12]? with|some it=>it.dir|none=>2
theorem Aj {its:List It}{k:Nat}:dirB its k=true↔k=2∨k=11∨∃ j it,its[j]? = some it∧it.isD=true∧k=12+j:=by
 unfold dirB
 simp only[Bool.or_eq_true,decide_eq_true_eq,Bool.and_eq_true]
 constructor
 ·rintro ((h|h)|⟨h1,h2⟩)
  ·exact .inl h
  ·exact .inr (.inl h)
  ·cases hg:its[k-12]? with
   | none=>rw[hg] at h2;cases h2
   | some it=>rw[hg] at h2;exact .inr (.inr ⟨k-12,it,hg,h2,by omega⟩)
 ·rintro (h|h|⟨j,it,h1,h2,h3⟩)
  ·exact .inl (.inl h)
  ·exact .inl (.inr h)
  ·refine .inr ⟨by omega,?_⟩
   rw[show k-12=j by omega,h1];exact h2
theorem HY {its:List It}{j:Nat}{it:It}(h:its[j]? = some it):parOf its (12+j)=it.dir:=by
 unfold parOf
 rw[if_neg (by omega),show 12+j-12=j by omega,h]
section
variable {its:List It}
theorem Ht (hio:A7 its){c:Nat}(h:2≤c):2≤parOf its c∧parOf its c≤c:=by
 unfold parOf
 split
 ·omega
 ·cases hg:its[c-12]? with
  | none=>exact⟨Nat.le_refl _,h⟩
  | some it=>
   have:=hio.dir_lt hg
   show 2≤it.dir∧it.dir≤c
   omega
theorem DT (hio:A7 its){c:Nat}{e:Bs×Nat}(he:e∈esOf its c):c<e.2∧parOf its e.2=c∧e.2<12+its.length∧11≤e.2∧2≤c:=by
 rcases Co.1 he with⟨h1,h2⟩|⟨j,it,h1,h2,h3⟩
 ·subst h1 h2
  exact⟨by decide,rfl,by show 11<_;omega,Nat.le_refl _,Nat.le_refl _⟩
 ·subst h3
  have:=hio.dir_lt h1
  have:=(List.getElem?_eq_some_iff.1 h1).1
  rw[show (it.nm,12+j).2=12+j from rfl,HY h1]
  omega
def X6 (its:List It):Nat→Nat→Nat
 | 0,k=>k
 | n+1,k=>parOf its (X6 its n k)
theorem Mr (n k:Nat):∀ d,X6 its (n+d) k=X6 its d (X6 its n k)
 | 0=>rfl
 | d+1=>congrArg (parOf its) (Mr n k d)
theorem Wf (hio:A7 its){k:Nat}(h:2≤k):∀ n,2≤X6 its n k∧X6 its n k≤k
 | 0=>⟨h,Nat.le_refl _⟩
 | n+1=>by
  have h1:=Wf hio h n
  have h2:=Ht hio h1.1
  exact⟨h2.1,Nat.le_trans h2.2 h1.2⟩
theorem XO (hio:A7 its){k a b c n m:Nat}(ha:X6 its n k=a)(hb:X6 its m k=b)(pa:parOf its a=c)(hcb:c<b)(hc:2≤c)(hnm:n≤m):a=b:=by
 obtain⟨d,rfl⟩:=Nat.exists_eq_add_of_le hnm
 rw[Mr,ha] at hb
 cases d with
 | zero=>exact hb
 | succ d=>
  rw[Nat.add_comm d 1,Mr] at hb
  have e:X6 its 1 a=c:=pa
  rw[e] at hb
  have:=(Wf hio hc d).2
  omega
def Ps (its:List It):Nat→Nat→List Nat
 | 0,_=>[]
 | f+1,c=>c::(esOf its c).flatMap fun e=>if dirB its e.2=true then Ps its f e.2 else []
theorem Fn (hio:A7 its):∀ (f c:Nat),2≤c→c<12+its.length→dirB its c=true→∀ k∈Ps its f c,(∃ n,X6 its n k=c)∧c≤k∧k<12+its.length∧dirB its k=true
 | 0,_,_,_,_,k,h=>by cases h
 | f+1,c,h2,hlt,hd,k,h=>by
  rcases List.mem_cons.1 h with h1|h1
  ·subst h1;exact⟨⟨0,rfl⟩,Nat.le_refl _,hlt,hd⟩
  ·obtain⟨e,he,hk⟩:=List.mem_flatMap.1 h1
   obtain⟨a1,a2,a3,a4,a5⟩:=DT hio he
   by_cases hb:dirB its e.2=true
   ·rw[if_pos hb] at hk
    obtain⟨⟨n,b1⟩,b2,b3,b4⟩:=Fn hio f e.2 (by omega) a3 hb k hk
    exact⟨⟨n+1,by rw[X6,b1];exact a2⟩,by omega,b3,b4⟩
   ·rw[if_neg hb] at hk;cases hk
theorem L4 (hio:A7 its):∀ (f c:Nat),2≤c→c<12+its.length→dirB its c=true→(Ps its f c).Nodup
 | 0,_,_,_,_=>.nil
 | f+1,c,h2,hlt,hd=>by
  rw[Ps,List.nodup_cons]
  constructor
  ·intro h
   obtain⟨e,he,hk⟩:=List.mem_flatMap.1 h
   obtain⟨a1,a2,a3,a4,a5⟩:=DT hio he
   by_cases hb:dirB its e.2=true
   ·rw[if_pos hb] at hk
    have:=(Fn hio f e.2 (by omega) a3 hb c hk).2.1
    omega
   ·rw[if_neg hb] at hk;cases hk
  ·unfold List.Nodup
   rw[List.pairwise_flatMap]
   constructor
   ·intro e he
    obtain⟨a1,a2,a3,a4,a5⟩:=DT hio he
    by_cases hb:dirB its e.2=true
    ·rw[if_pos hb];exact L4 hio f e.2 (by omega) a3 hb
    ·rw[if_neg hb];exact .nil
   ·refine List.Pairwise.imp_of_mem ?_ (IB c)
    intro a b ha hb hlt' x hx y hy hxy
    subst hxy
    obtain⟨a1,a2,a3,a4,a5⟩:=DT hio ha
    obtain⟨b1,b2,b3,b4,b5⟩:=DT hio hb
    by_cases hda:dirB its a.2=true
    ·rw[if_pos hda] at hx
     by_cases hdb:dirB its b.2=true
     ·rw[if_pos hdb] at hy
      obtain⟨n,hn⟩:=(Fn hio f a.2 (by omega) a3 hda x hx).1
      obtain⟨m,hm⟩:=(Fn hio f b.2 (by omega) b3 hdb x hy).1
      rcases Nat.le_total n m with h|h
      ·have:=XO hio hn hm a2 b1 a5 h;omega
      ·have:=XO hio hm hn b2 a1 a5 h;omega
     ·rw[if_neg hdb] at hy;cases hy
    ·rw[if_neg hda] at hx;cases hx
theorem K6 (hio:A7 its):∀ (f c d:Nat) (e:Bs×Nat),12+its.length<f+c→d∈Ps its f c→e∈esOf its d→dirB its e.2=true→e.2∈Ps its f c
 | 0,_,_,_,_,h,_,_=>by cases h
 | f+1,c,d,e,hf,h,he,hb=>by
  rcases List.mem_cons.1 h with h1|h1
  ·subst h1
   refine List.mem_cons_of_mem _ (List.mem_flatMap.2 ⟨e,he,?_⟩)
   rw[if_pos hb]
   obtain⟨a1,a2,a3,a4,a5⟩:=DT hio he
   cases f with
   | zero=>omega
   | succ f=>exact List.mem_cons_self ..
  ·obtain⟨x,hx,hk⟩:=List.mem_flatMap.1 h1
   obtain⟨a1,a2,a3,a4,a5⟩:=DT hio hx
   by_cases hbx:dirB its x.2=true
   ·rw[if_pos hbx] at hk
    refine List.mem_cons_of_mem _ (List.mem_flatMap.2 ⟨x,hx,?_⟩)
    rw[if_pos hbx]
    exact K6 hio f x.2 d e (by omega) hk he hb
   ·rw[if_neg hbx] at hk;cases hk
theorem AAt (hio:A7 its){f:Nat}(hf:12+its.length<f):∀ k,dirB its k=true→k∈Ps its f 2:=by
 intro k
 induction k using Nat.strongRecOn with
 | ind k ih=>
  intro hk
  rcases Aj.1 hk with h|h|⟨j,it,h1,h2,h3⟩
  ·subst h
   cases f with
   | zero=>omega
   | succ f=>exact List.mem_cons_self ..
  ·subst h
   have h2:2∈Ps its f 2:=by
    cases f with
    | zero=>omega
    | succ f=>exact List.mem_cons_self ..
   exact K6 hio f 2 2 (lostN,11) (by omega) h2 (Co.2 (.inl ⟨rfl,rfl⟩)) hk
  ·have hlt:=hio.dir_lt h1
   have hd:dirB its it.dir=true:=by
    obtain⟨st,hw,_⟩:=(hio j it h1).way
    rcases hw.cases with⟨h4,_⟩|⟨j',x,e1,e2,e3⟩
    ·exact Aj.2 (.inl h4)
    ·have hl:=(List.getElem?_eq_some_iff.1 e1).1
     rw[List.length_take] at hl
     rw[List.getElem?_take,if_pos (by omega)] at e1
     exact Aj.2 (.inr (.inr ⟨j',x,e1,e2,e3⟩))
   have:=ih it.dir (by omega) hd
   subst h3
   exact K6 hio f 2 it.dir (it.nm,12+j) (by omega) this (Co.2 (.inr ⟨j,it,h1,rfl,rfl⟩)) hk
end
end
section
def I8 (its:List It)(c:Nat):List Bs:=(esOf its c).map (·.1)
def enD (M:List (Option PN))(its:List It)(c:Nat):List (Nat×Nat×Bs):=Cf M c (parOf its c) (esOf its c) (I8 its c)
def bsD (M:List (Option PN))(its:List It)(c:Nat):Bs:=Bg (enD M its c)
def dirN (p:PN)(st len:Nat):PN:={p with size:=len,dbs:=extRoot (len/4096) st,flags:=786432,bcnt:=len/4096}
section
variable {inl:Bool} {its:List It} {S1 S:PS} {D:List Nat} {c:Nat}
theorem IX (hio:A7 its)(M:List (Option PN))(c:Nat):enD M its c=(c,EG (modeAt M c),[46])::(parOf its c,EG (modeAt M (parOf its c)),[46,46])::(esOf its c).map fun e=>(e.2,EG (modeAt M e.2),e.1):=by
 unfold enD Cf I8
 rw[List.map_map]
 congr 2
 apply List.map_congr_left
 intro e he
 show FX M (esOf its c) e.1=_
 unfold FX
 rw[IA (C1 hio c) he]
 rfl
theorem W2 (hio:A7 its){e:Bs×Nat}(he:e∈esOf its c):1≤e.1.length∧e.1.length<256:=by
 rcases Co.1 he with⟨h1,h2⟩|⟨j,it,h1,h2,h3⟩
 ·subst h2;decide
 ·subst h3
  have:=(hio j it h1).n1
  have:=(hio j it h1).n2
  show 1≤it.nm.length∧it.nm.length<256
  omega
theorem VX (hio:A7 its)(hn:its.length≤5000)(h2:2≤c)(hc:c<12+its.length)(M:List (Option PN)):∀ e∈enD M its c,ZP e:=by
 rw[IX hio]
 intro e he
 have hp:=Ht hio h2
 rcases List.mem_cons.1 he with h|h
 ·subst h;exact⟨by show 0<c;omega,by show c<_;omega,M4 _,by show 0<1;omega,by show 1<256;omega⟩
 ·rcases List.mem_cons.1 h with h|h
  ·subst h;exact⟨by show 0<parOf its c;omega,by show parOf its c<_;omega,M4 _,by show 0<2;omega,by show 2<256;omega⟩
  ·obtain⟨x,hx,rfl⟩:=List.mem_map.1 h
   obtain⟨a1,a2,a3,a4,a5⟩:=DT hio hx
   obtain⟨n1,n2⟩:=W2 hio hx
   exact⟨by show 0<x.2;omega,by show x.2<_;omega,M4 _,n1,n2⟩
theorem SU (hio:A7 its)(M:List (Option PN))(c:Nat):(enD M its c).length=(esOf its c).length+2:=by
 rw[IX hio];simp
theorem Jp (hio:A7 its)(hn:its.length≤5000)(h2:2≤c)(hc:c<12+its.length)(M:List (Option PN)):(bsD M its c).length%4096=0∧4096≤(bsD M its c).length∧(bsD M its c).length≤4096*((esOf its c).length+3):=by
 obtain⟨_,a,b,d⟩:=Oo (VX hio hn h2 hc M)
 rw[SU hio] at d
 exact⟨a,b,d⟩
theorem Ji (w:Wr inl its S1){k:Nat}(h:k=2∨11≤k∧k<12+its.length):∃ p,S1.M[k-1]? = some (some p):=by
 rcases h with rfl|⟨h1,h2⟩
 ·exact⟨_,w.root⟩
 ·by_cases h3:k=11
  ·subst h3;exact⟨_,w.lf⟩
  ·obtain⟨p,hp,_⟩:=w.node (k-12) _ (List.getElem?_eq_getElem (by omega))
   exact⟨p,by rw[show k-1=11+(k-12) by omega];exact hp⟩
theorem S9 (w:Wr inl its S1)(hio:A7 its)(hc:dirB its c=true):∃ q,DirAt S1 its c q∧q.bcnt=0:=by
 have hroot:∀ m n,kindB (modeK m)=16384→(newP (dirF m) n inl).flags=262144:=fun m n h=>by
  show flK inl (kindB (modeK m)) 0=_
  unfold flK inlK;rw[h,if_neg (by simp)]
 rcases Aj.1 hc with rfl|rfl|⟨j,it,h1,h2,rfl⟩
 ·refine⟨_,⟨w.root,F6 inl,?_,?_,by omega,hroot 16877 2 (by decide)⟩,rfl⟩
  ·unfold esOf;rfl
  ·have:=Ff its 2;show 3+dirsOf its 2≤_;omega
 ·refine⟨_,⟨w.lf,?_,?_,?_,by omega,hroot 16832 11 (by decide)⟩,rfl⟩
  ·show kindB (modeK 16832)=16384;decide
  ·show some (kidsOf its 11)=_
   unfold esOf;rw[if_neg (by omega),List.nil_append]
  ·have:=Ff its 11;show 2+dirsOf its 11≤_;omega
 ·obtain⟨p,hp,he,hh⟩:=w.node j it h1
  have hk:it.kd=16384:=of_decide_eq_true h2
  have hdat:=(hio j it h1).dat
  rw[if_neg (by omega)] at hdat
  have hh:=hh.hold
  rw[if_neg (by unfold inlK;rw[hk];simp),if_pos hdat] at hh
  refine⟨p,⟨by rw[show 12+j-1=11+j by omega];exact hp,?_,?_,?_,by omega,hh.1⟩,hh.2.2⟩
  ·rw[he];exact hk
  ·rw[he]
   show (if it.isD=true then some (kidsOf its (12+j)) else none)=_
   rw[if_pos h2]
   unfold esOf
   rw[if_neg (by omega),List.nil_append]
  ·rw[he]
   show 1+(if it.isD=true then 1+dirsOf its (12+j) else 0)≤_
   have:=Ff its (12+j)
   split<;>omega
structure JU (its:List It) (S1:PS) (D:List Nat) (S:PS):Prop where
 cur:S.cur=none
 same:S.inl=S1.inl∧S.max=S1.max∧S.gd=S1.gd∧S.db=S1.db
 Ble:S.B.length≤S.pos
 Beq:D≠[]→S.B.length=S.pos
 ext:∃ Y,bx S.B S.pos=bx S1.B S1.pos++Y
 al:S.pos%4096=0
 big:8192≤S.pos
 len:S.M.length=S1.M.length
 out:∀ k,k∉D→1≤k→S.M[k-1]? = S1.M[k-1]?
 in_:∀ k∈D,∃ q st,DirAt S1 its k q∧S.M[k-1]? = some (some (dirN q st (bsD S1.M its k).length))∧2≤st∧st*4096+(bsD S1.M its k).length≤S.pos∧((bx S.B S.pos).drop (st*4096)).take (bsD S1.M its k).length=bsD S1.M its k
 own:(S.M.flatMap exO).Perm (blks (S.pos/4096))
 posb:S.pos≤S1.pos+(D.map fun k=>(bsD S1.M its k).length).sum
theorem JU.mode (a:JU its S1 D S)(k:Nat)(h1:1≤k):modeAt S.M k=modeAt S1.M k:=by
 by_cases h:k∈D
 ·obtain⟨q,st,b1,b2,_⟩:=a.in_ k h
  unfold modeAt
  rw[b2,b1.at_];rfl
 ·unfold modeAt
  rw[a.out k h h1]
theorem JU.some_ (a:JU its S1 D S){k:Nat}(h1:1≤k)(h:∃ p,S1.M[k-1]? = some (some p)):∃ p,S.M[k-1]? = some (some p):=by
 by_cases hk:k∈D
 ·obtain⟨q,st,b1,b2,_⟩:=a.in_ k hk
  exact⟨_,b2⟩
 ·rw[a.out k hk h1];exact h
theorem JU.start (w:Wr inl its S1):JU its S1 [] S1:=
 ⟨w.cur,⟨rfl,rfl,rfl,rfl⟩,w.B,fun h=>absurd rfl h,⟨[],(List.append_nil _).symm⟩,w.al,w.big,rfl,fun _ _ _=>rfl,fun _ h=>(by cases h),w.own,by simp⟩
theorem UH {M:List (Option PN)}{i:Nat}{a b:Option PN}(h:M[i]? = some a)(he:exO a=[]):((M.set i b).flatMap exO).Perm (M.flatMap exO++exO b):=by
 induction M generalizing i with
 | nil=>simp at h
 | cons o M ih=>
  cases i with
  | zero=>
   rw[List.getElem?_cons_zero,Option.some.injEq] at h
   subst h
   rw[List.set_cons_zero,List.flatMap_cons,List.flatMap_cons,he,List.nil_append]
   exact List.perm_append_comm
  | succ i=>
   rw[List.getElem?_cons_succ] at h
   rw[List.set_cons_succ,List.flatMap_cons,List.flatMap_cons,List.append_assoc]
   exact (ih h).append_left _
set_option maxRecDepth 20000 in
theorem VF (w:Wr inl its S1)(hio:A7 its)(hn:its.length≤5000)(a:JU its S1 D S)(hc:dirB its c=true)(hcD:c∉D)(h2:2≤c)(hlt:c<12+its.length)(hroom:S.pos≤10000000000) :
  ∃ n np S',F0 S c (parOf its c) n np (esOf its c) (I8 its c)∧Fin (S.dirDone c n (Bg (Cf S.M c (parOf its c) (esOf its c) (I8 its c)))) S'∧JU its S1 (D++[c]) S':=by
 obtain⟨q,hq,hqb⟩:=S9 w hio hc
 have hMc:S.M[c-1]? = some (some q):=by rw[a.out c hcD (by omega)];exact hq.at_
 have hpar:=Ht hio h2
 have hmax:S.max=17179869184:=by rw[a.same.2.1];exact w.max
 have hel:=Hq its c
 have hpp:∃ np,S.M[parOf its c-1]? = some (some np):=by
  refine a.some_ (by omega) (Ji w ?_)
  rcases Aj.1 hc with rfl|rfl|⟨j,it,h1,h2',rfl⟩
  ·exact .inl rfl
  ·exact .inl rfl
  ·rw[HY h1]
   have:=hio.dir_lt h1
   have:=(List.getElem?_eq_some_iff.1 h1).1
   omega
 obtain⟨np,hnp⟩:=hpp
 have henD:Cf S.M c (parOf its c) (esOf its c) (I8 its c)=enD S1.M its c:=by
  show enD S.M its c=enD S1.M its c
  rw[IX hio,IX hio,a.mode c (by omega),a.mode (parOf its c) (by omega)]
  congr 2
  apply List.map_congr_left
  intro e he
  obtain⟨a1,a2,a3,a4,a5⟩:=DT hio he
  rw[a.mode e.2 (by omega)]
 rw[henD]
 obtain⟨l1,l2,l3⟩:=Jp hio hn h2 hlt S1.M
 show ∃ n np S',F0 S c (parOf its c) n np (esOf its c) (I8 its c)∧Fin (S.dirDone c n (bsD S1.M its c)) S'∧JU its S1 (D++[c]) S'
 have hbs:∃ bs,bsD S1.M its c=bs:=⟨_,rfl⟩
 obtain⟨bs,hbs⟩:=hbs
 rw[hbs] at l1 l2 l3 ⊢
 have hal:=a.al
 have hbig:=a.big
 have hbl:bs.length≤30000000:=by omega
 have ctx:F0 S c (parOf its c) q np (esOf its c) (I8 its c):=by
  refine⟨a.cur,by omega,hMc,hq.kids,?_,fun e he=>W2 hio he,by omega,hnp,hq.fl,a.Ble,by rw[hmax];omega,by omega,?_,?_⟩
  ·intro e he
   obtain⟨a1,a2,a3,a4,a5⟩:=DT hio he
   exact⟨by omega,a.some_ (by omega) (Ji w (by omega))⟩
  ·exact AAe (C1 hio c) (IB c)
  ·intro x hx
   obtain⟨e,he,rfl⟩:=List.mem_map.1 hx
   exact⟨e.2,IA (C1 hio c) he⟩
 have hBl:(BG S.B S.pos bs).length=S.pos+bs.length:=by rw[J1 a.Ble,List.length_append,Ee a.Ble]
 have hup:Eu (S.pos+bs.length)=S.pos+bs.length:=by unfold Eu;omega
 have hcl:c-1<S.M.length:=(List.getElem?_eq_some_iff.1 hMc).1
 let S':PS:={S with M:=S.M.set (c-1) (some (dirN q (S.pos/4096) bs.length)),B:=bx S.B S.pos++bs,pos:=S.pos+bs.length,cur:=none,dw:=0,dm:=0}
 have hfin:Fin (S.dirDone c q bs) S':=by
  have e1:S.dirDone c q bs = {S with M:=S.M.set (c-1) (some {q with size:=bs.length}),B:=BG S.B S.pos bs,pos:=S.pos+bs.length,cur:=some c,dw:=bs.length,dm:=bs.length}:=by
   unfold PS.dirDone PS.dirOpen PS.wrote
   rw[Nat.zero_add]
  have hget:(S.M.set (c-1) (some {q with size:=bs.length}))[c-1]? = some (some {q with size:=bs.length}):=by
   rw[List.getElem?_set,if_pos rfl,if_pos hcl]
  rw[e1]
  have f:=Fin.big (S:={S with M:=S.M.set (c-1) (some {q with size:=bs.length}),B:=BG S.B S.pos bs,pos:=S.pos+bs.length,cur:=some c,dw:=bs.length,dm:=bs.length}) (c:=c) rfl (by omega) hget rfl (by show 1≤bs.length;omega) hq.fl (by show bs.length≤S.pos+bs.length;omega) (by show (S.pos+bs.length-bs.length)%4096=0;omega) (by show (BG S.B S.pos bs).length≤S.pos+bs.length;omega) (by show bs.length≤_;omega) (by show S.pos+bs.length+4096≤S.max;omega) (by show q.bcnt<_;omega)
  have e3:({S with M:=S.M.set (c-1) (some {q with size:=bs.length}),B:=BG S.B S.pos bs,pos:=S.pos+bs.length,cur:=some c,dw:=bs.length,dm:=bs.length}:PS).shut c {q with size:=bs.length}=S':=by
   unfold PS.shut PN.ext
   have x1:S.pos+bs.length-bs.length=S.pos:=by omega
   have x2:(S.pos+bs.length-S.pos)/4096=bs.length/4096:=by congr 1;omega
   have x3:q.flags ||| 524288=786432:=by rw[hq.fl];decide
   have x4:q.bcnt+bs.length/4096=bs.length/4096:=by omega
   show ({S with M:=(S.M.set (c-1) (some {q with size:=bs.length})).set (c-1) (some {q with size:=bs.length,dbs:=extRoot ((Eu (S.pos+bs.length)-(S.pos+bs.length-bs.length))/4096) ((S.pos+bs.length-bs.length)/4096),flags:=q.flags ||| 524288,bcnt:=q.bcnt+(Eu (S.pos+bs.length)-(S.pos+bs.length-bs.length))/4096}),B:=I1 (BG S.B S.pos bs) (S.pos+bs.length),pos:=Eu (S.pos+bs.length),cur:=_,dw:=_,dm:=_}:PS)=_
   rw[hup,x1,x2,x3,x4,List.set_set,NB hBl,hup,Nat.sub_self,List.replicate_zero,List.append_nil,J1 a.Ble]
   rfl
  rw[←e3]
  exact f
 refine⟨q,np,S',ctx,hfin,?_⟩
 have hB'l:(bx S.B S.pos++bs).length=S.pos+bs.length:=by rw[List.length_append,Ee a.Ble]
 have hbx:bx S'.B S'.pos=bx S.B S.pos++bs:=VA hB'l
 have g1:∀ k,k≠c→1≤k→S'.M[k-1]? = S.M[k-1]?:=fun k hk h1=>by
  show (S.M.set (c-1) _)[k-1]? = _
  rw[List.getElem?_set,if_neg (by omega)]
 have g2:S'.M[c-1]? = some (some (dirN q (S.pos/4096) bs.length)):=by
  show (S.M.set (c-1) _)[c-1]? = _
  rw[List.getElem?_set,if_pos rfl,if_pos hcl]
 refine⟨rfl,a.same,by show (bx S.B S.pos++bs).length≤S.pos+bs.length;omega,fun _=>hB'l,?_,by show (S.pos+bs.length)%4096=0;omega,by show 8192≤S.pos+bs.length;omega,by show (S.M.set _ _).length=_;rw[List.length_set];exact a.len,?_,?_,?_,?_⟩
 ·obtain⟨Y,hY⟩:=a.ext
  exact⟨Y++bs,by rw[hbx,hY,List.append_assoc]⟩
 ·intro k hk h1
  rw[g1 k (fun e=>hk (by simp[e])) h1]
  exact a.out k (fun h=>hk (List.mem_append_left _ h)) h1
 ·intro k hk
  by_cases hkc:k=c
  ·subst hkc
   rw[hbs]
   refine⟨q,S.pos/4096,hq,g2,by omega,by show _≤S.pos+bs.length;omega,?_⟩
   rw[hbx]
   have:=Fa (A:=bx S.B S.pos) (X:=bs) (R:=[]) (a:=S.pos/4096*4096) (n:=bs.length) (by rw[Ee a.Ble];omega) rfl
   rw[List.append_nil] at this
   exact this
  ·have hkD:k∈D:=by
    rcases List.mem_append.1 hk with h|h
    ·exact h
    ·exact absurd (List.mem_singleton.1 h) hkc
   obtain⟨q',st,b1,b2,b3,b4,b5⟩:=a.in_ k hkD
   have h1:1≤k:=b1.d1
   refine⟨q',st,b1,(g1 k hkc h1).trans b2,b3,by show _≤S.pos+bs.length;omega,?_⟩
   have hl:(bx S.B S.pos).length=S.pos:=Ee a.Ble
   rw[hbx,List.drop_append_of_le_length (by omega),List.take_append_of_le_length (by rw[List.length_drop];omega)]
   exact b5
 ·show ((S.M.set (c-1) _).flatMap exO).Perm (blks ((S.pos+bs.length)/4096))
  have hex:exO (some q)=[]:=by
   show Nz q=[]
   unfold Nz;rw[if_neg];rw[hq.fl];decide
  have hst:leL (extRoot (bs.length/4096) (S.pos/4096)) 20 4=S.pos/4096:=by
   obtain⟨x1,_⟩:=ES (len:=bs.length/4096) (st:=S.pos/4096) (by omega) (by omega)
   have:=x1.st
   rw[EQ (by omega),DQ] at this
   exact this
  have hex2:exO (some (dirN q (S.pos/4096) bs.length))=(List.range ((S.pos+bs.length)/4096-S.pos/4096)).map (S.pos/4096 + ·):=by
   show Nz _=_
   unfold Nz
   rw[if_pos (show (dirN q (S.pos/4096) bs.length).flags=786432 from rfl)]
   show (List.range (bs.length/4096)).map (leL (extRoot (bs.length/4096) (S.pos/4096)) 20 4 + ·)=_
   rw[hst]
   congr 2
   omega
  refine (UH hMc hex).trans ?_
  rw[hex2,Kd (a:=S.pos/4096) (b:=(S.pos+bs.length)/4096) (by omega) (by omega)]
  exact a.own.append_right _
 ·show S.pos+bs.length≤_
  have:=a.posb
  rw[List.map_append,List.sum_append]
  simp only[List.map_cons,List.map_nil,List.sum_cons,List.sum_nil,hbs]
  omega
end
end
section
theorem Ox {S0 S:PS}(f:Fin S0 S){i:Nat}{p:PN}(h:S.M[i]? = some (some p)):∃ p0,S0.M[i]? = some (some p0)∧p0.kids=p.kids∧p0.mode=p.mode:=by
 cases f with
 | none _=>exact⟨p,h,rfl,rfl⟩
 | small _ _ _ _ _=>exact⟨p,h,rfl,rfl⟩
 | big h1 h2 h3 h4 h5 h6 h7 h8 h9 h10 h11 h12=>
  rename_i c n
  have h:(S0.M.set (c-1) (some (n.ext S0.pos S0.dw)))[i]? = some (some p):=h
  rw[List.getElem?_set] at h
  by_cases hc:c-1=i
  ·subst hc
   rw[if_pos rfl,if_pos (List.getElem?_eq_some_iff.1 h3).1] at h
   have:=Option.some.inj (Option.some.inj h)
   subst this
   exact⟨n,h3,rfl,rfl⟩
  ·rw[if_neg hc] at h
   exact⟨p,h,rfl,rfl⟩
section
variable {inl:Bool} {its:List It} {S1 S:PS} {D:List Nat} {c:Nat}
theorem PR (w:Wr inl its S1){k:Nat}{p:PN}(hk:k=2∨11≤k∧k<12+its.length)(hp:S1.M[k-1]? = some (some p)):kindB p.mode=16384↔dirB its k=true:=by
 rcases hk with rfl|⟨h1,h2⟩
 ·have:=Option.some.inj (Option.some.inj (hp.symm.trans w.root))
  subst this
  exact⟨fun _=>Aj.2 (.inl rfl),fun _=>F6 inl⟩
 ·by_cases h3:k=11
  ·subst h3
   have:=Option.some.inj (Option.some.inj (hp.symm.trans w.lf))
   subst this
   exact⟨fun _=>Aj.2 (.inr (.inl rfl)),fun _=>by show kindB (modeK 16832)=16384;decide⟩
  ·obtain⟨j,rfl⟩:∃ j,k=12+j:=⟨k-12,by omega⟩
   have hj:its[j]? = some its[j]:=List.getElem?_eq_getElem (by omega)
   obtain⟨p',hp',he,_⟩:=w.node j _ hj
   rw[show 12+j-1=11+j by omega] at hp
   have:=Option.some.inj (Option.some.inj (hp.symm.trans hp'))
   subst this
   have hm:kindB p.mode=its[j].kd:=by rw[he];rfl
   rw[hm,Aj]
   constructor
   ·intro h;exact .inr (.inr ⟨j,_,hj,decide_eq_true h,rfl⟩)
   ·rintro (h|h|⟨j',x,e1,e2,e3⟩)
    ·omega
    ·omega
    ·have:j'=j:=by omega
     subst this
     rw[hj] at e1
     rw[Option.some.inj e1]
     exact of_decide_eq_true e2
theorem JU.kids (a:JU its S1 D S)(w:Wr inl its S1)(hio:A7 its)(hc:dirB its c=true):∃ p,S.M[c-1]? = some (some p)∧p.kids=some (esOf its c):=by
 by_cases h:c∈D
 ·obtain⟨q,st,b1,b2,_⟩:=a.in_ c h
  exact⟨_,b2,b1.kids⟩
 ·obtain⟨q,hq,_⟩:=S9 w hio hc
  exact⟨q,by rw[a.out c h hq.d1];exact hq.at_,hq.kids⟩
def ABB (its:List It)(S1:PS)(f:Nat):Prop:=∀ (c:Nat) (D:List Nat) (S0 S:PS),Fin S0 S→JU its S1 D S→12+its.length<f+c→dirB its c=true→2≤c→c<12+its.length→(D++Ps its f c).Nodup→(∀ k∈D,dirB its k=true∧2≤k∧k<12+its.length)→
  ∃ S' S'',RecD f S0 c (parOf its c) S'∧Fin S' S''∧JU its S1 (D++Ps its f c) S''
theorem K0 (w:Wr inl its S1)(hio:A7 its){f:Nat}(ih:ABB its S1 f)(hf:12+its.length<f+1+c)(hc:dirB its c=true)(h2:2≤c)(hlt:c<12+its.length) :
  ∀ (l:List (Bs×Nat)) (D:List Nat) (S0 S:PS),(∀ e∈l,e∈esOf its c)→Fin S0 S→JU its S1 D S→(D++l.flatMap fun e=>if dirB its e.2=true then Ps its f e.2 else []).Nodup→(∀ k∈D,dirB its k=true∧2≤k∧k<12+its.length)→
   ∃ S' S'',Um (RecD f) c (esOf its c) S0 (l.map (·.1)) S'∧Fin S' S''∧JU its S1 (D++l.flatMap fun e=>if dirB its e.2=true then Ps its f e.2 else []) S''
 | [],D,S0,S,_,hfin,a,_,_=>⟨S0,S,rfl,hfin,by rw[List.flatMap_nil,List.append_nil];exact a⟩
 | e::l,D,S0,S,hl,hfin,a,hnd,hD=>by
  have he:=hl e (List.mem_cons_self ..)
  obtain⟨a1,a2,a3,a4,a5⟩:=DT hio he
  obtain⟨p,hp,hpk⟩:=a.kids w hio hc
  obtain⟨n,hn,hnk,_⟩:=Ox hfin hp
  obtain⟨p1,hp1⟩:=Ji w (k:=e.2) (.inr ⟨a4,a3⟩)
  obtain⟨pk,hpk'⟩:=a.some_ (k:=e.2) (by omega) ⟨p1,hp1⟩
  obtain⟨nk,hnk1,_,hnk3⟩:=Ox hfin hpk'
  have hmode:nk.mode=p1.mode:=by
   have:=a.mode e.2 (by omega)
   unfold modeAt at this
   rw[hpk',hp1] at this
   exact hnk3.trans this
  have hki:=PR w (k:=e.2) (.inr ⟨a4,a3⟩) hp1
  have hlook:=IA (C1 hio c) he
  rw[List.flatMap_cons] at hnd ⊢
  by_cases hb:dirB its e.2=true
  ·rw[if_pos hb] at hnd ⊢
   rw[←List.append_assoc] at hnd ⊢
   obtain⟨T1,T2,r1,f1,a1'⟩:=ih e.2 D S0 S hfin a (by omega) hb (by omega) a3 (List.nodup_append.1 hnd).1 hD
   rw[a2] at r1
   have hD':∀ k∈D++Ps its f e.2,dirB its k=true∧2≤k∧k<12+its.length:=fun k hk=>by
    rcases List.mem_append.1 hk with h|h
    ·exact hD k h
    ·obtain⟨_,b2,b3,b4⟩:=Fn hio f e.2 (by omega) a3 hb k h
     exact⟨b4,by omega,b3⟩
   obtain⟨T3,T4,r2,f2,a2'⟩:=K0 w hio ih hf hc h2 hlt l (D++Ps its f e.2) T1 T2 (fun x hx=>hl x (List.mem_cons_of_mem _ hx)) f1 a1' hnd hD'
   refine⟨T3,T4,⟨n,e.2,nk,hn,hnk.trans hpk,hlook,by omega,hnk1,?_⟩,f2,a2'⟩
   rw[if_pos (by rw[hmode];exact hki.2 hb)]
   exact⟨T1,r1,r2⟩
  ·rw[if_neg hb,List.nil_append] at hnd ⊢
   obtain⟨T3,T4,r2,f2,a2'⟩:=K0 w hio ih hf hc h2 hlt l D S0 S (fun x hx=>hl x (List.mem_cons_of_mem _ hx)) hfin a hnd hD
   refine⟨T3,T4,⟨n,e.2,nk,hn,hnk.trans hpk,hlook,by omega,hnk1,?_⟩,f2,a2'⟩
   rw[if_neg (by rw[hmode];exact fun h=>hb (hki.1 h))]
   exact r2
theorem Te (w:Wr inl its S1)(hio:A7 its)(hn:its.length≤5000)(hR:∀ (D:List Nat) (S:PS),JU its S1 D S→D.Nodup→(∀ k∈D,dirB its k=true∧2≤k∧k<12+its.length)→S.pos≤10000000000):∀ f,ABB its S1 f
 | 0=>fun c D S0 S _ _ hf _ _ hlt=>by omega
 | f+1=>fun c D S0 S hfin a hf hc h2 hlt hnd hD=>by
  rw[Ps] at hnd ⊢
  have e1:∀ X:List Nat,D++c::X=(D++[c])++X:=fun X=>by simp
  rw[e1] at hnd ⊢
  have hnd1:(D++[c]).Nodup:=(List.nodup_append.1 hnd).1
  have hcD:c∉D:=fun h=>(List.nodup_append.1 hnd1).2.2 c h c (by simp) rfl
  have hD':∀ k∈D++[c],dirB its k=true∧2≤k∧k<12+its.length:=fun k hk=>by
   rcases List.mem_append.1 hk with h|h
   ·exact hD k h
   ·rw[List.mem_singleton.1 h];exact⟨hc,h2,hlt⟩
  obtain⟨n,np,T,ctx,f1,a1⟩:=VF w hio hn a hc hcD h2 hlt (hR D S a (List.nodup_append.1 hnd1).1 hD)
  obtain⟨T1,T2,r,f2,a2⟩:=K0 w hio (Te w hio hn hR f) hf hc h2 hlt (esOf its c) (D++[c]) _ T (fun e he=>he) f1 a1 hnd hD'
  exact⟨T1,T2,⟨S,n,np,esOf its c,I8 its c,hfin,ctx,r⟩,f2,a2⟩
end
end
section
theorem ADe:∀ D:List Nat,(D.map fun _=>0).sum=0
 | []=>rfl
 | _::D=>by rw[List.map_cons,List.sum_cons,ADe D]
theorem Mu (x:Nat):∀ D:List Nat,D.Nodup→(D.map fun c=>if x=c then 1 else 0).sum≤1
 | [],_=>by simp
 | a::D,h=>by
  rw[List.nodup_cons] at h
  rw[List.map_cons,List.sum_cons]
  by_cases hx:x=a
  ·have:(D.map fun c=>if x=c then 1 else 0)=D.map fun _=>0:=by
    apply List.map_congr_left
    intro c hc
    rw[if_neg]
    intro e
    exact h.1 (by rw[←hx,e];exact hc)
   rw[if_pos hx,this,ADe]
   exact Nat.le_refl _
  ·rw[if_neg hx,Nat.zero_add]
   exact Mu x D h.2
theorem OZ (D:List Nat)(hD:D.Nodup):∀ (l:List It) (k:Nat),(D.map fun c=>(CJ c k l).length).sum≤l.length
 | [],k=>by
  have:(D.map fun c=>(CJ c k []).length)=D.map fun _=>0:=by apply List.map_congr_left;intro c _;rfl
  rw[this,ADe];exact Nat.zero_le _
 | a::l,k=>by
  have e:(D.map fun c=>(CJ c k (a::l)).length).sum=(D.map fun c=>if a.dir=c then 1 else 0).sum+(D.map fun c=>(CJ c (k+1) l).length).sum:=by
   clear hD
   induction D with
   | nil=>rfl
   | cons c D ih=>
    rw[List.map_cons,List.sum_cons,ih,List.map_cons,List.sum_cons,List.map_cons,List.sum_cons,CJ]
    split
    ·rw[List.length_cons];omega
    ·omega
  have h1:=Mu a.dir D hD
  have h2:=OZ D hD l (k+1)
  rw[e,List.length_cons]
  omega
section
variable {inl:Bool} {its:List It} {S1 S:PS} {D:List Nat} {c:Nat}
theorem WA (D:List Nat)(hD:D.Nodup):(D.map fun c=>(esOf its c).length).sum≤its.length+1:=by
 have e:(D.map fun c=>(esOf its c).length).sum=(D.map fun c=>if 2=c then 1 else 0).sum+(D.map fun c=>(CJ c 12 its).length).sum:=by
  clear hD
  induction D with
  | nil=>rfl
  | cons c D ih=>
   rw[List.map_cons,List.sum_cons,ih,List.map_cons,List.sum_cons,List.map_cons,List.sum_cons]
   unfold esOf kidsOf
   rw[List.length_append]
   by_cases h:c=2
   ·subst h;rw[if_pos rfl,if_pos rfl,List.length_singleton];omega
   ·rw[if_neg h,if_neg fun e=>h e.symm,List.length_nil];omega
 have h1:=Mu 2 D hD
 have h2:=OZ D hD its 12
 omega
theorem ABh (hio:A7 its)(hn:its.length≤5000)(D:List Nat)(hD:D.Nodup)(hd:∀ k∈D,dirB its k=true∧2≤k∧k<12+its.length)(M:List (Option PN)):(D.map fun k=>(bsD M its k).length).sum≤4096*(4*its.length+40):=by
 have h1:=WA (its:=its) D hD
 have h2:D.length≤12+its.length:=by
  have:=Sn (V:=List.range (12+its.length)) hD fun k hk=>List.mem_range.2 (hd k hk).2.2
  rw[List.length_range] at this
  exact this
 have h3:(D.map fun k=>(bsD M its k).length).sum≤4096*((D.map fun c=>(esOf its c).length).sum+3*D.length):=by
  clear h1 h2 hD
  induction D with
  | nil=>simp
  | cons a D ih=>
   have:=ih fun k hk=>hd k (List.mem_cons_of_mem _ hk)
   obtain⟨d1,d2,d3⟩:=hd a (List.mem_cons_self ..)
   have:=(Jp hio hn d2 d3 M).2.2
   rw[List.map_cons,List.sum_cons,List.map_cons,List.sum_cons,List.length_cons]
   omega
 omega
structure Y6 (it:It):Prop where
 uid:it.f.uid<4294967296
 gid:it.f.gid<4294967296
 maj:it.f.dmaj<4294967296
 min:it.f.dmin<4294967296
theorem Mk {t:Tm}(h:t.ok):t.laid<18446744073709551616∧t.laid/4294967296<4000000000:=by
 obtain⟨h1,h2⟩:=h
 unfold Tm.laid Ku
 split
 ·split
  ·omega
  ·have e:t.ns*17179869184%18446744073709551616=t.ns*17179869184:=Nat.mod_eq_of_lt (by omega)
   have o:=orp (a:=t.sec) (b:=t.ns) (i:=34) (by omega)
   simp only[Nat.reducePow] at o
   rw[e,o]
   omega
 ·omega
structure FinN (p:PN):Prop where
 b:PNb p
 ok:PNok p
 x:xOK p
 d:p.dbs.length<1000000
theorem SX {f:FL}{n:Nat}(hf:FileOK f)(hb:f.uid<4294967296∧f.gid<4294967296∧f.dmaj<4294967296∧f.dmin<4294967296){size links bcnt flags:Nat}{d:Bs}{ks:Option (List (Bs×Nat))}(hs:size<4294967296)(hl:links<65536)(hbc:bcnt<4294967296)(hfl:flags<4294967296)(hd:d.length≤136)(hx:60<d.length→(newP f n inl).xbs.length=104)(hxl:(newP f n inl).xbs.length≤104) :
  FinN {newP f n inl with size:=size,links:=links,bcnt:=bcnt,flags:=flags,dbs:=d,kids:=ks}:=by
 obtain⟨b1,b2,b3,b4⟩:=hb
 have t1:=Mk hf.at_
 have t2:=Mk hf.ct
 have t3:=Mk hf.mt
 have t4:=Mk hf.cr
 have hm:modeK f.mode<65536:=by
  have:=hf.mode
  unfold modeK
  split
  ·exact Nat.or_lt_two_pow (n:=16) (by omega) (by omega)
  ·omega
 exact⟨⟨hm,b1,b2,hs,t1.1,t2.1,t3.1,t4.1,hl,hbc,hfl,rfl,t1.2,t2.2,t3.2,t4.2⟩,⟨b1,b2,by show size<_;omega,hxl,b3,b4⟩,fun _ h=>⟨hx h,hd⟩,by show d.length<_;omega⟩
theorem ZW (kd sz:Nat):(xinK inl kd sz).length=if inlK inl kd sz=true then 104 else 0:=by
 unfold xinK
 by_cases h:inlK inl kd sz=true
 ·rw[if_pos h,if_pos h]
  have hs:sz≤136:=by
   unfold inlK at h
   simp only[Bool.and_eq_true,decide_eq_true_eq] at h
   exact h.2
  rw[PU hs]
  exact (NA VG (by simp;omega)).1.len
 ·rw[if_neg h,if_neg h];rfl
theorem Yo (w:Wr inl its S1)(hio:A7 its)(hib:∀ it∈its,Y6 it)(hc:dirB its c=true){q:PN}(hq:DirAt S1 its c q):∃ f n,q = {newP f n inl with links:=q.links,kids:=q.kids,dbs:=q.dbs,flags:=q.flags,bcnt:=q.bcnt}∧FileOK f∧(f.uid<4294967296∧f.gid<4294967296∧f.dmaj<4294967296∧f.dmin<4294967296)∧kindB (modeK f.mode)=16384:=by
 have hat:=hq.at_
 rcases Aj.1 hc with rfl|rfl|⟨j,it,h1,h2,rfl⟩
 ·have:=Option.some.inj (Option.some.inj (hat.symm.trans w.root))
  subst this
  exact⟨dirF 16877,2,rfl,Dr,by decide,by decide⟩
 ·have:=Option.some.inj (Option.some.inj (hat.symm.trans w.lf))
  subst this
  exact⟨dirF 16832,11,rfl,TG,by decide,by decide⟩
 ·obtain⟨p,hp,he,_⟩:=w.node j it h1
  rw[show 12+j-1=11+j by omega] at hat
  have:=Option.some.inj (Option.some.inj (hat.symm.trans hp))
  subst this
  have hb:=hib it (List.mem_of_getElem? h1)
  refine⟨it.f,12+j,?_,(hio j it h1).file,⟨hb.uid,hb.gid,hb.maj,hb.min⟩,of_decide_eq_true h2⟩
  exact he.trans (by rw[he];rfl)
structure AIV (inl:Bool) (its:List It) (S1 S:PS) (c:Nat) (p:PN):Prop where
 at_:S.M[c-1]? = some (some p)
 fin:FinN p
 mode:p.mode=modeAt S1.M c
 dir:dirB its c=true→∃ st q,DirAt S1 its c q∧p=dirN q st (bsD S1.M its c).length∧2≤st∧st*4096+(bsD S1.M its c).length≤S.pos∧((bx S.B S.pos).drop (st*4096)).take (bsD S1.M its c).length=bsD S1.M its c∧p.xbs=[]
 item:∀ j it,c=12+j→its[j]? = some it→it.isD=false→p=itP inl its j it p∧HoldI (bx S.B S.pos) S.pos it inl p
set_option maxRecDepth 20000 in
theorem FK (w:Wr inl its S1)(hio:A7 its)(hib:∀ it∈its,Y6 it)(hn:its.length≤2000)(a:JU its S1 D S)(hpb:S.pos≤120000000)(hD:∀ k,k∈D↔dirB its k=true)(hc:c=2∨11≤c∧c<12+its.length):∃ p,AIV inl its S1 S c p:=by
 have hc2:2≤c∧c<12+its.length:=by omega
 by_cases hb:dirB its c=true
 ·obtain⟨q,st,b1,b2,b3,b4,b5⟩:=a.in_ c ((hD c).2 hb)
  obtain⟨f,n,e,hf,hfb,hk⟩:=Yo w hio hib hb b1
  obtain⟨l1,l2,l3⟩:=Jp hio (by omega) hc2.1 hc2.2 S1.M
  have hel:=Hq its c
  have hin:inlK inl (kindB (modeK f.mode)) f.size=false:=by unfold inlK;rw[hk];simp
  have hx:(newP f n inl).xbs=[]:=by
   show xinK inl (kindB (modeK f.mode)) f.size=[]
   unfold xinK;rw[hin];rfl
  have hr:=(ES (len:=(bsD S1.M its c).length/4096) (st:=st) (by omega) (by omega)).2
  have hl:=b1.links
  have hfin:FinN (dirN q st (bsD S1.M its c).length):=by
   rw[e]
   exact SX (inl:=inl) (n:=n) (size:=(bsD S1.M its c).length) (links:=q.links) (bcnt:=(bsD S1.M its c).length/4096) (flags:=786432) (d:=extRoot ((bsD S1.M its c).length/4096) st) (ks:=q.kids) hf hfb (by omega) (by omega) (by omega) (by omega) (by omega) (fun h=>by omega) (by rw[hx];simp)
  refine⟨_,b2,hfin,?_,fun _=>⟨st,q,b1,rfl,b3,b4,b5,?_⟩,?_⟩
  ·unfold modeAt;rw[b1.at_];rfl
  ·show q.xbs=[]
   rw[e];exact hx
  ·intro j it h1 h2 h3
   exfalso
   rcases Aj.1 hb with h|h|⟨j',x,e1,e2,e3⟩
   ·omega
   ·omega
   ·have:j'=j:=by omega
    subst this
    rw[h2] at e1
    rw[Option.some.inj e1] at h3
    rw[e2] at h3;cases h3
 ·have hcD:c∉D:=fun h=>hb ((hD c).1 h)
  obtain⟨j,rfl⟩:∃ j,c=12+j:=by
   rcases hc with rfl|⟨h1,h2⟩
   ·exact absurd (Aj.2 (.inl rfl)) hb
   ·by_cases h11:c=11
    ·subst h11;exact absurd (Aj.2 (.inr (.inl rfl))) hb
    ·exact⟨c-12,by omega⟩
  have hj:its[j]? = some its[j]:=List.getElem?_eq_getElem (by omega)
  obtain⟨p,hp,he,hh⟩:=w.node j _ hj
  have hat:S.M[12+j-1]? = some (some p):=by
   rw[a.out _ hcD (by omega),show 12+j-1=11+j by omega];exact hp
  obtain⟨Y,hY⟩:=a.ext
  have hpos:S1.pos≤S.pos:=by
   have h1:=congrArg List.length hY
   rw[List.length_append,Ee a.Ble,Ee w.B] at h1
   omega
  have hh2:HoldI (bx S.B S.pos) S.pos its[j] inl p:=by
   rw[hY]
   exact hh.app (Ee w.B) hpos
  have hi:=hio j _ hj
  have hib:=hib _ (List.mem_of_getElem? hj)
  have hdat:=hi.dat
  have hbig:=hi.big
  have hisD:its[j].isD=false:=by
   cases h:its[j].isD with
   | false=>rfl
   | true=>exact absurd (Aj.2 (.inr (.inr ⟨j,_,hj,h,rfl⟩))) hb
  have hsz:szK its[j].kd its[j].f.size<4294967296:=by
   unfold szK
   split
   ·rename_i h;rw[if_pos h] at hdat;omega
   ·omega
  have hxl:=ZW (inl:=inl) its[j].kd its[j].f.size
  have hlen1:(newP its[j].f (12+j) inl).xbs.length≤104:=by
   show (xinK inl its[j].kd its[j].f.size).length≤104
   rw[hxl];split<;>omega
  have hfin:FinN p:=by
   have hcase:p.flags<4294967296∧p.bcnt<4294967296∧p.dbs.length≤136∧(60<p.dbs.length→(newP its[j].f (12+j) inl).xbs.length=104):=by
    have hhh:=hh.hold
    by_cases hin:inlK inl its[j].kd its[j].f.size=true
    ·rw[if_pos hin] at hhh
     have hin2:=hin
     unfold inlK at hin2
     simp only[Bool.and_eq_true,decide_eq_true_eq,beq_iff_eq] at hin2
     rw[if_pos hin2.1.2] at hdat
     refine⟨by omega,by omega,by rw[hhh.2.1];omega,fun _=>?_⟩
     show (xinK inl its[j].kd its[j].f.size).length=104
     rw[hxl,if_pos hin]
    ·rw[if_neg hin] at hhh
     by_cases h0:its[j].data=[]
     ·rw[if_pos h0] at hhh
      refine⟨by omega,by omega,by rw[hhh.2.1];simp,fun h=>by rw[hhh.2.1] at h;simp at h⟩
     ·rw[if_neg h0] at hhh
      obtain⟨st,c1,c2,c3,c4,c5,c6⟩:=hhh
      have hr:=(ES (len:=p.bcnt) (st:=st) (by omega) (by omega)).2
      rw[←c2] at hr
      exact⟨by omega,by omega,by omega,fun h=>by omega⟩
   obtain⟨c1,c2,c3,c4⟩:=hcase
   have:=SX (inl:=inl) (n:=12+j) (size:=szK its[j].kd its[j].f.size) (links:=1+(if its[j].isD=true then 1+dirsOf its (12+j) else 0)) (bcnt:=p.bcnt) (flags:=p.flags) (d:=p.dbs) (ks:=if its[j].isD=true then some (kidsOf its (12+j)) else none) hi.file ⟨hib.uid,hib.gid,hib.maj,hib.min⟩ hsz (by rw[hisD];simp) c2 c1 c3 c4 hlen1
   rw[he]
   exact this
  refine⟨p,hat,hfin,?_,fun h=>absurd h hb,?_⟩
  ·unfold modeAt
   rw[show 12+j-1=11+j by omega,hp]
  ·intro j' it h1 h2 _
   have:j'=j:=by omega
   subst this
   rw[hj] at h2
   obtain rfl:=Option.some.inj h2
   exact⟨he,hh2⟩
end
end
end Go.Proofs.YtollddkkdgoonaaGreatDoor
