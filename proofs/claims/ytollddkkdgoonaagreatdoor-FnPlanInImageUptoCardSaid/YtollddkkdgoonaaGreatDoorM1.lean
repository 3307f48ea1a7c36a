/- A part of a proof over images that are written and read. No condition; a step. -/
import Derived.Test.YtollddkkdgoonaaGreatDoorM0
import Derived.Test.YtollddkkdgoonaaGreatDoorProg
import Derived.Laws.Append
import Derived.Laws.MakeOwn
import Derived.Laws.CopyRow
import Derived.Laws.AppendOwn
namespace Go.Proofs.YtollddkkdgoonaaGreatDoor
open Go
set_option linter.unusedVariables false
set_option linter.unusedSimpArgs false
set_option maxRecDepth 100000
noncomputable abbrev TP:Program:=Tryz.prog
section
def GA (P:Program)(w:World)(k:Kt):Result Next→Prop
 | .ok (.value v) w'=>Ce w w'∧k v w'.heap
 | .ok .skip w'=>Ce w w'∧k undef w'.heap
 | .ok (.enter f args) w'=>w'=w∧Calls P f args w (UD w k)
 | _=>False
section
variable {P:Program} {w:World}
theorem As:Ce w w:=⟨rfl,rfl⟩
theorem ZF {k:Kt}{s:Sem Value}{v:Value}(hr:s.run P w=.ok v w)(hk:k v w.heap) :
  GA P w k ((do pure (.value (←s)):Sem Next).run P w):=by
 simp only[A11,hr,A06,A15]
 exact⟨As,hk⟩
theorem Wk {k:Kt}{s:Sem Value}{v:Value}{w':World}(hr:s.run P w=.ok v w')(hs:Ce w w')(hk:k v w'.heap) :
  GA P w k ((do pure (.value (←s)):Sem Next).run P w):=by
 simp only[A11,hr,A06,A15]
 exact⟨hs,hk⟩
theorem WM {k:Kt}{s:Sem Unit}{w':World}(hr:s.run P w=.ok () w')(hs:Ce w w')(hk:k undef w'.heap) :
  GA P w k ((do s;pure .skip:Sem Next).run P w):=by
 simp only[A11,hr,A06,A15]
 exact⟨hs,hk⟩
theorem Dq {h:H}{o:Obj}:U4 h (h.push o):=fun i hi=>by
 rw[Array.getElem?_push];rw[A05 (by omega)]
theorem EV {h:H}{o:Obj}:(h.push o)[h.size]? = some o:=by simp
theorem CE {t:TypeId}{i:TypeInfo}(hi:P.info? t=some i):(typeInfo t).run P w=.ok i w:=by simp[typeInfo,hi]
theorem Fu {t:TypeId}{i:TypeInfo}(hi:P.info? t=some i):(sizeOf t).run P w=.ok i.size w:=by simp[sizeOf,CE hi]
theorem N6 {t:TypeId}{i:TypeInfo}(hi:P.info? t=some i):Ap P t=i.size:=by simp[Ap,hi]
theorem G8 {t:TypeId}{i:TypeInfo}(hi:P.info? t=some i):F4 P t=i.bytes:=by simp[F4,hi]
theorem Hr {t:TypeId}{z:Value}(h:AG P t=some z):∃ i,P.info? t=some i∧i.zero=some z:=by
 unfold AG at h
 cases hi:P.info? t with
 | none=>rw[hi] at h;cases h
 | some i=>rw[hi] at h;exact⟨i,rfl,h⟩
theorem Lf {t:TypeId}{d:TypeDesc}(h:P.underlying t=some d):∃ i,P.info? t=some i:=by
 unfold Program.underlying at h
 cases hi:P.info? t with
 | none=>rw[hi] at h;cases h
 | some i=>exact⟨i,rfl⟩
theorem BL {t:TypeId}{z:Value}(h:AG P t=some z):(zeroValue t).run P w=.ok z w:=by
 obtain⟨i,hi,hz⟩:=Hr h
 simp[zeroValue,CE hi,hz]
theorem C8 {T:TypeId}{cs:Array Value}:(newRow T cs).run P w=.ok ⟨w.heap.size,0,none⟩ {w with heap:=w.heap.push (.cells cs T)}:=by simp[newRow]
theorem LF {T:TypeId}{v:Value}:(newVar T v).run P w=.ok ⟨w.heap.size,0,none⟩ {w with heap:=w.heap.push (.cells v.cells T)}:=by simp[newVar,C8]
theorem S8 {T:TypeId}{cs:Array Value}{k:Kt}(h:BB T cs w.heap k):k (Pt w.heap.size) (w.heap.push (.cells cs T)):=
 h w.heap.size _ Dq (A07 _) EV
theorem AR {t:TypeId}{d:TypeDesc}(h:P.underlying t=some d):(underlying t).run P w=.ok d w:=by simp[underlying,h]
theorem Ut {t:TypeId}{d:TypeDesc}(h:P.underlying t=some d):(isAgg t).run P w=.ok (Cm P t) w:=by
 unfold isAgg Cm
 simp only[A11,AR h,A06,h]
 cases d<;>rfl
theorem UI (a:Addr):w.cell? a=Mo w.heap a:=rfl
theorem Er {h:H}{b o:Nat}{c:Array Value}{T:TypeId}{fz:Nat×Nat}(hb:w.heap[b]? = some (.cells c T fz)):∀ (n i:Nat) (acc:Array Value),o+i+n≤c.size →
  (loadCellsFrom ⟨b,o,none⟩ i n acc).run P w=.ok (acc++c.extract (o+i) (o+i+n)) w
 | 0,i,acc,_=>by simp[loadCellsFrom];omega
 | n+1,i,acc,hle=>by
  have hc:w.cell? ((⟨b,o,none⟩:Addr).add i)=some (c[o+i]'(by omega)):=by
   unfold Addr.add
   split
   ·rename_i h0;subst h0
    simp only[World.cell?,hb]
    simp
   ·simp only[World.cell?,hb]
    simp
  simp only[loadCellsFrom,A11,run_load,hc,A06]
  rw[Er (h:=h) hb n (i+1) _ (by omega)]
  congr 1
  apply A56
  simp only[Array.toList_append,Array.toList_push,Array.toList_extract,A12]
  congr 1
  rw[show o+i+(n+1)=o+(i+1)+n by omega]
  simp only[A44]
  rw[show o+(i+1)+n-(o+i)=n+1 by omega,show o+(i+1)+n-(o+(i+1))=n by omega]
  rw[A50 (show o+i<c.toList.length by simp;omega)]
  simp[B62]
theorem Ex {b o n:Nat}{c:Array Value}{T:TypeId}{fz:Nat×Nat}(hb:w.heap[b]? = some (.cells c T fz))(hle:o+n≤c.size) :
  (loadCells ⟨b,o,none⟩ n).run P w=.ok (c.extract o (o+n)) w:=by
 unfold loadCells
 rw[Er (h:=w.heap) hb n 0 #[] (by omega)]
 simp
theorem FA:∀ (vs:List Value) (c:Array Value) (o:Nat),(Ai c o vs).size=c.size
 | [],c,o=>rfl
 | v::vs,c,o=>by rw[Ai,FA vs];simp
theorem IR {b o:Nat}{c:Array Value}{T:TypeId}{fz:Nat×Nat}{v:Value}(hb:w.heap[b]? = some (.cells c T fz)) :
  (w.setCell ⟨b,o,none⟩ v).heap=w.heap.setIfInBounds b (.cells (c.setIfInBounds o v) T fz):=by
 unfold World.setCell
 dsimp only
 apply B02
 intro i
 rw[Array.getElem?_modify,A47]
 by_cases hi:b=i
 ·subst hi
  obtain⟨hlt,hx⟩:=A46.1 hb
  simp[hlt,hx]
 ·simp[hi]
theorem set_set {h:H}{b:Nat}{x y:Obj}:(h.setIfInBounds b x).setIfInBounds b y=h.setIfInBounds b y:=by
 apply B02
 intro i
 simp only[A47]
 by_cases hi:b=i<;>simp[hi]
theorem Ea {b:Nat}{T:TypeId}:∀ (vs:List Value) (w:World) (o i:Nat) (c:Array Value),w.heap[b]? = some (.cells c T (0,0))→o+i+vs.length≤c.size→vs.all Value.oneCell'=true →
  ∃ w',(storeCells ⟨b,o,none⟩ vs i).run P w=.ok () w'∧Ce w w'∧w'.heap=w.heap.setIfInBounds b (.cells (Ai c (o+i) vs) T (0,0))
 | [],w,o,i,c,hb,_,_=>⟨w,rfl,⟨rfl,rfl⟩,by
   apply B02
   intro j
   rw[A47]
   by_cases hj:b=j
   ·subst hj
    obtain⟨hlt,hx⟩:=A46.1 hb
    simp[hlt,hx,Ai]
   ·simp[hj]⟩
 | v::vs,w,o,i,c,hb,hle,hv=>by
  simp only[A19] at hle
  simp only[B33,A42] at hv
  have ha:(⟨b,o,none⟩:Addr).add i=⟨b,o+i,none⟩:=by
   unfold Addr.add;split
   ·rename_i h0;subst h0;rfl
   ·rfl
  have hc:w.cell? ⟨b,o+i,none⟩=some (c[o+i]'(by omega)):=by simp only[World.cell?,hb];simp
  have hf:w.frozen? ⟨b,o+i,none⟩=false:=by simp[World.frozen?,hb]
  have hb':(w.setCell ⟨b,o+i,none⟩ v).heap[b]? = some (.cells (c.setIfInBounds (o+i) v) T (0,0)):=by
   rw[IR hb,A47]
   have hlt:b<w.heap.size:=(A46.1 hb).1
   simp[hlt]
  obtain⟨w',hr,hs,hh⟩:=Ea vs (w.setCell ⟨b,o+i,none⟩ v) o (i+1) _ hb' (by simp;omega) hv.2
  refine⟨w',?_,hs,?_⟩
  ·simp only[storeCells,A11,ha,run_store P w _ _ _ hv.1,hc,hf,A06,A45,if_false]
   exact hr
  ·rw[hh,IR hb,set_set];rfl
theorem Jm {t:TypeId}(h:ED P t=true):∃ i d,P.info? t=some i∧P.underlying t=some d∧Ap P t=i.size:=by
 unfold ED at h
 simp only[A42] at h
 cases hd:P.underlying t with
 | none=>rw[hd] at h;simp at h
 | some d=>
  obtain⟨i,hi⟩:=Lf hd
  exact⟨i,d,hi,rfl,N6 hi⟩
theorem A5 {t:TypeId}(h:ED P t=true):(sizeOf t).run P w=.ok (Ap P t) w:=by
 obtain⟨i,d,hi,_,hs⟩:=Jm h
 rw[Fu hi,hs]
theorem I4 {t:TypeId}(h:ED P t=true):(isAgg t).run P w=.ok (Cm P t) w:=by
 obtain⟨i,d,_,hd,_⟩:=Jm h
 exact Ut hd
theorem Hu {t e:TypeId}(h:HN P t=some e):P.underlying t=some (.slice e)∧ED P e=true:=by
 unfold HN at h
 split at h
 ·rename_i e' he
  cases ho:ED P e' with
  | false=>rw[ho] at h;cases h
  | true=>rw[ho] at h;cases h;exact⟨he,ho⟩
 ·cases h
theorem GL {t:TypeId}{a:Addr}{v:Value}(ho:ED P t=true)(h:MM (Cm P t) (Ap P t) w.heap a=some v):(loadVar t a).run P w=.ok v w:=by
 unfold loadVar
 simp only[A11,I4 ho,A06]
 unfold MM at h
 cases hg:Cm P t with
 | false=>
  rw[hg] at h
  simp only[cond] at h
  simp only[A45,if_false,run_load,UI,h]
 | true=>
  rw[hg] at h
  simp only[cond] at h
  split at h
  ·rename_i c T fz hb
   split at h
   ·cases h
   ·rename_i hsp
    split at h
    ·rename_i hle
     cases h
     obtain⟨b,o,sp⟩:=a
     cases sp with
     | some x=>simp at hsp
     | none=>simp only[if_true,A11,A5 ho,A06,Ex hb hle,A15]
    ·cases h
  ·cases h
theorem NR {t:TypeId}{p:Addr}{c:Array Value}{T:TypeId}{v:Value}(ho:ED P t=true)(hsp:p.spot=none)(hb:w.heap[p.block]? = some (.cells c T (0,0)))
  (hv:v.cells.size=Ap P t) (hle:p.off+Ap P t≤c.size) (hone:v.cells.toList.all Value.oneCell'=true) :
  ∃ w',(storeVar t p v).run P w=.ok () w'∧Ce w w'∧w'.heap=w.heap.setIfInBounds p.block (.cells (Ai c p.off v.cells.toList) T (0,0)):=by
 obtain⟨b,o,sp⟩:=p
 subst hsp
 obtain⟨w',hr,hs,hh⟩:=Ea (P:=P) v.cells.toList w o 0 c hb (by simp only[B21,hv];simpa using hle) hone
 refine⟨w',?_,hs,hh⟩
 unfold storeVar
 simp only[A11,A5 ho,A06,hv,ne_eq,not_true_eq_false,if_false]
 exact hr
theorem JC {t:TypeId}{f off:Nat}{p:Addr}(h:QT P t f=some off):(Instr.fieldAt t (.pointer (some p)) f).run P w=.ok (.pointer (some (p.add off))) w:=by
 unfold QT at h
 split at h
 ·rename_i fs hu
  split at h
  ·rename_i fd hf
   cases ho:ED P fd.type with
   | false=>rw[ho] at h;cases h
   | true=>
    rw[ho] at h
    cases h
    have hz:Ap P fd.type≠0:=by
     unfold ED at ho
     simp only[A42,B31] at ho
     intro hz
     rw[hz] at ho
     simp at ho
    unfold Instr.fieldAt
    simp only[A11,AR hu,A06]
    simp only[hf,A11,Instr.sureAddr,A15,A06,fieldPlace,A5 ho,hz,if_false]
  ·cases h
 ·cases h
theorem Kq {o:Oper}{e:Env}{k:Kt}{x:Operand}(ho:o.op=.nilCheck x)(h:Lk (ev e x)=true)(hk:k (ev e x) w.heap):GA P w k ((execOp (ev e) o).run P w):=by
 unfold execOp
 rw[ho]
 dsimp only
 generalize ev e x=y at *
 unfold Lk at h
 split at h
 ·exact⟨As,hk⟩
 ·exact⟨As,hk⟩
 ·cases h
theorem HP {op:BinOp}{t:TypeId}{x y v:Value}(h:CT op x y=some v):(binOp op t x y).run P w=.ok v w:=by
 unfold CT at h
 split at h
 ·rename_i k a k' b
  unfold binOp
  cases op<;>dsimp only at h ⊢
  case shl=>split at h;cases h;cases h;rename_i hb;simp[Op.shift,hb]
  case shr=>split at h;cases h;cases h;rename_i hb;simp[Op.shift,hb]
  all_goals (by_cases hk:k=k')
  all_goals first
   | (rw[A05 hk] at h;cases h;done)
   | (subst hk;rw[A03 rfl] at h;first
     | (cases h;simp[Op.intArith,Op.intBits,Op.intCmp];done)
     | (split at h;cases h;rename_i hb;cases h;simp[Op.intDiv,hb];done))
 ·rename_i a b
  unfold binOp
  cases op<;>dsimp only at h ⊢
  case add=>split at h;cases h;rename_i hb;cases h;simp only[Op.stringOp,hb,if_false,A15]
  all_goals first
   | (cases h;done)
   | (cases h;rfl)
 ·cases h
theorem CQ {op:BinOp}{t:TypeId}{x y:Operand}{a b:Value}(h:(LT op).isSome=true→(∀ c,a≠.agg c)∧(a=.nilIface→b=.nilIface→H5 x=true∨H5 y=true)):(eqGuard op t x y a b).run P w=.ok () w:=by
 unfold eqGuard
 cases op<;>(try (simp;done))
 all_goals
  have h1:=h rfl
  simp only[A91,A45,if_false,A11,A15,A06]
  cases a<;>cases b<;>first
   | rfl
   | exact absurd rfl (h1.1 _)
   | (
     have h2:=h1.2 rfl rfl
     cases x<;>cases y<;>first
      | (simp[H5] at h2;done)
      | simp)
theorem N1 {h:H}{a:Addr}(hp:Gs h a=true):∃ c T,h[a.block]? = some (.cells c T (0,0)):=by
 unfold Gs at hp
 split at hp
 ·rename_i c T hb;exact⟨c,T,hb⟩
 ·cases hp
theorem Ik {a b:Addr}(hne:a.block≠b.block)(ha:Gs w.heap a=true)(hb:Gs w.heap b=true):(sameAddr a b).run P w=.ok false w:=by
 obtain⟨c,T,h1⟩:=N1 ha
 obtain⟨c',T',h2⟩:=N1 hb
 have hbq:(a.block == b.block)=false:=by simpa using hne
 simp[sameAddr,hbq,World.frozen?,h1,h2,noView,viewAt,World.shape?,mayBeOne,stringish]
theorem IG {a b:Addr}(he:a.block=b.block):(sameAddr a b).run P w=.ok (a == b) w:=by
 simp[sameAddr,he]
theorem UA {t:TypeId}(h:Bd P t=.ptr):∃ e,P.underlying t=some (.pointer e)∧Ap P e≠0:=by
 unfold Bd at h
 split at h<;>try (cases h;done)
 rename_i e he
 split at h
 ·cases h
 ·rename_i hz;exact⟨e,he,hz⟩
theorem T8 {t:TypeId}(h:Ap P t≠0):∃ i,P.info? t=some i∧i.size=Ap P t:=by
 unfold Ap at *
 cases hi:P.info? t with
 | none=>rw[hi] at h;exact absurd rfl h
 | some i=>exact⟨i,rfl,rfl⟩
theorem T9 {t:TypeId}{c:Bool}{x y:Value}{r:Bool}(h:GG (Bd P t) c w.heap x y=some r):(Op.equal t x y).run P w=.ok r w:=by
 have step:Op.equal t x y=Op.equalIn (9999+1) t x y:=rfl
 rw[step,Op.equalIn]
 generalize hk:Bd P t=d at h
 cases d
 case none=>unfold GG at h;cases h
 case flat=>unfold GG at h;cases h
 case bool=>
  have hu:P.underlying t=some .bool:=by
   unfold Bd at hk
   split at hk<;>first|assumption|(cases hk;done)|(split at hk<;>cases hk)
  cases x<;>cases y<;>(try (cases h;done))
  simp only[GG,A26] at h
  simp[AR hu,h]
 case ptr=>
  obtain⟨e,hu,hz⟩:=UA hk
  obtain⟨i,hi,his⟩:=T8 hz
  rw[←his] at hz
  cases x<;>(try (cases h;done))
  rename_i p
  cases p<;>cases y<;>(try (cases h;done))
  ·simp only[GG,A26] at h;simp[AR hu,←h]
  rename_i q
  cases q
  ·simp only[GG,A26] at h;simp[AR hu,←h]
  ·rename_i a b
   simp only[GG] at h
   split at h
   ·rename_i he;simp only[A26] at h;subst h
    simp[AR hu,Fu hi,hz,IG he]
   ·rename_i hne
    split at h
    ·rename_i hp
     simp only[A42] at hp
     simp only[A26] at h;subst h
     simp[AR hu,Fu hi,hz,Ik hne hp.1 hp.2]
    ·cases h
 case iface=>
  have hu:∃ ms,P.underlying t=some (.interface ms):=by
   unfold Bd at hk
   split at hk<;>first|exact⟨_,by assumption⟩|(cases hk;done)|(split at hk<;>cases hk)
  obtain⟨ms,hu⟩:=hu
  cases x<;>cases y<;>(try (cases h;done))
  ·simp only[GG,A26] at h;simp[AR hu,←h]
  ·simp only[GG,A26] at h;simp[AR hu,←h]
  ·simp only[GG] at h;split at h<;>cases h;simp[AR hu]
 case slice=>
  have hu:∃ e,P.underlying t=some (.slice e):=by
   unfold Bd at hk
   split at hk<;>first|exact⟨_,by assumption⟩|(cases hk;done)|(split at hk<;>cases hk)
  obtain⟨e,hu⟩:=hu
  cases x<;>(try (cases h;done))
  rename_i p _ _
  cases p<;>cases y<;>(try (cases h;done))
  ·simp only[GG,A26] at h;simp[AR hu,←h]
  rename_i q _ _
  cases q<;>(try (cases h;done))<;>(simp only[GG,A26] at h;simp[AR hu,←h])
 case map=>
  have hu:∃ a b,P.underlying t=some (.map a b):=by
   unfold Bd at hk
   split at hk<;>first|exact⟨_,_,by assumption⟩|(cases hk;done)|(split at hk<;>cases hk)
  obtain⟨a,b,hu⟩:=hu
  cases x<;>(try (cases h;done))
  rename_i p
  cases p<;>cases y<;>(try (cases h;done))
  ·simp only[GG,A26] at h;simp[AR hu,←h]
  rename_i q
  cases q<;>(try (cases h;done))<;>(simp only[GG,A26] at h;simp[AR hu,←h])
 case func=>
  have hu:∃ a b c,P.underlying t=some (.func a b c):=by
   unfold Bd at hk
   split at hk<;>first|exact⟨_,_,_,by assumption⟩|(cases hk;done)|(split at hk<;>cases hk)
  obtain⟨a,b,c,hu⟩:=hu
  cases x<;>cases y<;>(try (cases h;done))<;>(simp only[GG,A26] at h;simp[AR hu,←h])
theorem Hy {op:BinOp}{neg:Bool}{t:TypeId}{c:Bool}{x y:Value}{r:Bool}(ho:LT op=some neg)(h:GG (Bd P t) c w.heap x y=some r) :
  (binOp op t x y).run P w=.ok (.bool (bif neg then !r else r)) w:=by
 have he:=T9 h
 have hx:∀ k n,x≠.int k n:=by rintro k n rfl;generalize Bd P t=d at h;cases d<;>cases h
 have hs:∀ n,x≠.string n:=by rintro n rfl;generalize Bd P t=d at h;cases d<;>cases h
 have hf:∀ k n,x≠.float k n:=by rintro k n rfl;generalize Bd P t=d at h;cases d<;>cases h
 have hc:∀ k n m,x≠.complex k n m:=by rintro k n m rfl;generalize Bd P t=d at h;cases d<;>cases h
 cases op<;>simp only[LT] at ho<;>cases ho
 ·unfold binOp
  cases x<;>first
   | exact absurd rfl (hx _ _)
   | exact absurd rfl (hs _)
   | exact absurd rfl (hf _ _)
   | exact absurd rfl (hc _ _ _)
   | (simp only[A11,he,A06,A15,cond])
 ·unfold binOp
  cases x<;>first
   | exact absurd rfl (hx _ _)
   | exact absurd rfl (hs _)
   | exact absurd rfl (hf _ _)
   | exact absurd rfl (hc _ _ _)
   | (simp only[A11,he,A06,A15,cond])
end
end
section
section
variable {P:Program} {w:World}
theorem L1 {op:UnOp}{x v:Value}(h:unV op x=some v):(Op.unary op x).run P w=.ok v w:=by
 unfold unV at h
 split at h<;>cases h
 ·simp[Op.unary]
 ·simp[Op.unary,Op.intArith]
 ·simp[Op.unary,Op.intBits]
theorem I5 {F:Value→ByteArray→Sem (ForInStep ByteArray)}(hF:∀ n s,F (.int .u8 n) s=pure (ForInStep.yield (s.push (UInt8.ofNat n.toNat)))):∀ (l:List Value) (bs:List UInt8) (s:ByteArray),DU l=some bs →
  (forIn l s F).run P w=.ok ⟨(s.data.toList++bs).toArray⟩ w
 | [],bs,s,h=>by cases h;simp
 | c::l,bs,s,h=>by
  unfold DU at h
  split at h
  ·rename_i h0;cases h0
  ·rename_i n r heq
   cases heq
   split at h
   ·rename_i l' hl
    cases h
    simp only[List.forIn_cons,hF,A11,A15,A06]
    rw[I5 hF l l' _ hl]
    congr 2
    simp[ByteArray.push]
   ·cases h
  ·cases h
theorem V8 {a:Addr}{c:Nat}:(Conv.bytesToString (.slice (some a) 0 c)).run P w=.ok (.string .empty) w:=by
 simp[Conv.bytesToString,loadCells,loadCellsFrom]
theorem TB {x v:Value}(h:J5 w.heap x=some v):(Conv.bytesToString x).run P w=.ok v w:=by
 unfold J5 at h
 split at h
 ·cases h;simp[Conv.bytesToString]
 ·rename_i a len cap
  have fin:(if len=0 then some (.string .empty) else none)=some v→(Conv.bytesToString (.slice (some a) len cap)).run P w=.ok v w:=fun hh=>by
   split at hh
   ·rename_i h0
    subst h0
    cases hh
    exact V8
   ·cases hh
  split at h
  ·rename_i c T fz hb
   split at h
   ·exact fin h
   ·rename_i hsp
    split at h
    ·rename_i hle
     split at h
     ·rename_i l hl
      cases h
      obtain⟨b,o,sp⟩:=a
      cases sp with
      | some q=>simp at hsp
      | none=>
       simp only[Conv.bytesToString,A11,Ex hb hle,A06]
       rw[←Array.forIn_toList,I5 (fun n s=>by simp) _ _ ByteArray.empty hl]
       simp
     ·cases h
    ·exact fin h
  ·exact fin h
 ·cases h
theorem PA {b n:Nat}{c:Array Value}{T:TypeId}(hb:w.heap[b]? = some (.cells c T (0,0))) :
  (w.freeze ⟨b,n,none⟩ 1).heap=w.heap.setIfInBounds b (.cells c T (n,n+1)):=by
 unfold World.freeze
 simp only[Nat.one_ne_zero,if_false]
 apply B02
 intro i
 rw[Array.getElem?_modify,A47]
 by_cases hi:b=i
 ·subst hi
  obtain⟨hlt,hx⟩:=A46.1 hb
  simp[hlt,hx]
 ·simp[hi]
theorem AAh {T:TypeId}{x:Value}{k:Kt}(h:Uv T x w.heap k):∃ s,x=.string s∧∃ v w',(Conv.stringToBytes T s).run P w=.ok v w'∧Ce w w'∧k v w'.heap:=by
 obtain⟨s,rfl,h⟩:=h
 refine⟨s,rfl,?_⟩
 let cap:=(Question.appendCap s.size 0 T).cut (w.tape w.drawn (.appendCap s.size 0 T))
 have hcap:s.size≤cap:=by simp[cap,Question.cut]
 let cs:Array Value:=Bw s++Array.replicate (cap-s.size) (.int .u8 0)
 have hcs:cs.size=cap:=by simp[cs,Bw];have:s.data.size=s.size:=rfl;omega
 let w1:World:={w with drawn:=w.drawn+1,heap:=w.heap.push (.cells cs T)}
 have hb:w1.heap[w.heap.size]? = some (.cells cs T (0,0)):=by simp[w1]
 have hf:=PA (n:=cap) hb
 have hE:U4 w.heap (w1.freeze ⟨w.heap.size,cap,none⟩ 1).heap:=by
  intro i hi
  rw[hf,A47,A05 (by omega)]
  exact Dq i hi
 have hn:(w1.freeze ⟨w.heap.size,cap,none⟩ 1).heap[w.heap.size]? = some (.cells cs T (cap,cap+1)):=by
  rw[hf,A47]
  simp[w1]
 refine⟨_,w1.freeze ⟨w.heap.size,cap,none⟩ 1,?_,?_,h w.heap.size cap _ hcap hE (A07 _) hn⟩
 ·simp only[Conv.stringToBytes,A11,run_choose,Question.forced,A45,if_false,A06,C8,markStringish,run_shape,A15]
  have hsh:World.shape? w1 w.heap.size=some (T,cap):=by simp[World.shape?,hb,hcs]
  simp only[w1,cs,Bw,cap] at hsh ⊢
  simp[hsh]
 ·unfold World.freeze;simp only[Nat.one_ne_zero,if_false];exact⟨rfl,rfl⟩
theorem Or {t e:TypeId}{l c:Value}{k:Kt}(ht:P.underlying t=some (.slice e))(h:AY (AG P e) (Ap P e) (F4 P e) e l c w.heap k) :
  ∃ v w',(Instr.makeSlice t l c).run P w=.ok v w'∧Ce w w'∧k v w'.heap:=by
 obtain⟨kl,kc,n,m,zv,rfl,rfl,hz,h0,h1,h2,h3,h⟩:=h
 obtain⟨i,hi,hiz⟩:=Hr hz
 have hwn:IntKind.i64.wrap n=n:=by unfold IntKind.wrap;simp[IntKind.bits,IntKind.signed];omega
 have hwm:IntKind.i64.wrap m=m:=by unfold IntKind.wrap;simp[IntKind.bits,IntKind.signed];omega
 rw[G8 hi] at h2
 rw[N6 hi] at h
 have hmb:¬((i.bytes:Int)*m>2^48):=by rw[Int.mul_comm];omega
 have hnb:¬((i.bytes:Int)*n>2^48):=by
  have:(i.bytes:Int)*n≤i.bytes*m:=Int.mul_le_mul_of_nonneg_left h1 (by omega)
  omega
 refine⟨.slice (some ⟨w.heap.size,0,none⟩) n.toNat m.toNat,{w with heap:=w.heap.push (.cells (Ax zv.cells (m.toNat*i.size)) e)},?_,As,h _ _ Dq (A07 _) EV⟩
 have hm0:¬m<0:=by omega
 have hn0:¬n<0:=by omega
 have hnm:¬n>m:=by omega
 simp only[Instr.makeSlice,A11,AR ht,A06,asInt,asIntOf,A15,CE hi,hwn,hwm]
 have hc:((decide (m<0)||decide ((i.bytes:Int)*m>2^48))||decide (n<0)||decide (n>m))=false:=by simp[hm0,hn0,hnm];omega
 simp only[hc,A45,if_false,A11,run_askRoom,A06,Fu hi,Sem.run_ite,A15,BL hz]
 by_cases hz0:m.toNat*i.size=0
 ·simp only[hz0,if_true,A06,C8,A15]
  congr 3
  congr 1
  simp[Ax,hz0]
 ·simp only[hz0,if_false,A06,C8,A15]
  rfl
theorem KI {x:Option Value}{d n:Nat}(h:Ay d x=some n):(x=none∧n=d)∨∃ kk i,x=some (.int kk i)∧0≤i∧n=i.toNat:=by
 unfold Ay at h
 split at h
 ·cases h;exact .inl ⟨rfl,rfl⟩
 ·split at h
  ·cases h;rename_i kk i hi;exact .inr ⟨kk,i,rfl,hi,rfl⟩
  ·cases h
 ·cases h
theorem Hc {isS:Bool}{len cap:Nat}{lo hi:Option Value}{l r:Nat}(hl:Ay 0 lo=some l)(hr:Ay len hi=some r)(h1:l≤r)(h2:r≤cap)(hlen:hi=none→len≤cap) :
  (Instr.sliceBounds isS len cap lo hi none).run P w=.ok (l,r,cap) w:=by
 rcases KI hr with⟨rfl,rfl⟩|⟨kk,i,rfl,h0,rfl⟩<;>rcases KI hl with⟨rfl,rfl⟩|⟨kk',i',rfl,h0',rfl⟩
 ·simp[Instr.sliceBounds]
 ·have:i'≤(r:Int):=by omega
  simp[Instr.sliceBounds,Instr.sliceBound,asIntOf,h0',this]
 ·have:i≤(cap:Int):=by omega
  simp[Instr.sliceBounds,Instr.sliceBound,asIntOf,h0,this]
 ·have h3:i≤(cap:Int):=by omega
  have h4:i'≤i:=by omega
  have h5:i'≤max i 0:=by omega
  simp[Instr.sliceBounds,Instr.sliceBound,asIntOf,h0,h3,h0',h4,h5]
theorem KR {t:TypeId}{d:EL}(h:C2 P t=d) :
  (d=.str∧P.underlying t=some .string)∨(∃ e,d=.slice (Ap P e)∧P.underlying t=some (.slice e)∧ED P e=true)∨
  (∃ n e,d=.arr n (Ap P e)∧P.underlying t=some (.array n e)∧ED P e=true)∨d=.none:=by
 unfold C2 at h
 split at h
 ·exact .inl ⟨h.symm,by assumption⟩
 ·rename_i e he
  cases ho:ED P e with
  | false=>rw[ho] at h;exact .inr (.inr (.inr h.symm))
  | true=>rw[ho] at h;exact .inr (.inl ⟨e,h.symm,he,ho⟩)
 ·rename_i n e he
  cases ho:ED P e with
  | false=>rw[ho] at h;exact .inr (.inr (.inr h.symm))
  | true=>rw[ho] at h;exact .inr (.inr (.inl ⟨n,e,h.symm,he,ho⟩))
 ·exact .inr (.inr (.inr h.symm))
theorem Lp {t:TypeId}{x v:Value}{lo hi:Option Value}(h:A6 (C2 P t) x lo hi=some v):(Instr.sliceAt t x lo hi none).run P w=.ok v w:=by
 rcases KR (P:=P) (t:=t) rfl with⟨hd,hu⟩|⟨e,hd,hu,ho⟩|⟨n,e,hd,hu,ho⟩|hd
 ·rw[hd] at h
  cases x<;>(try (cases h;done))
  rename_i s
  unfold A6 at h
  dsimp only at h
  split at h
  ·rename_i l r hl hr
   split at h
   ·rename_i hle
    cases h
    simp only[Instr.sliceAt,Instr.slice,A11,AR hu,A06,Hc (isS:=false) hl hr hle.1 hle.2 (fun _=>A07 _),A15,A86,A45,if_false]
   ·cases h
  ·cases h
 ·rw[hd] at h
  cases x<;>(try (cases h;done))
  rename_i a len cap
  unfold A6 at h
  dsimp only at h
  split at h
  ·rename_i l r hl hr
   split at h
   ·rename_i hle
    cases h
    have hlen:hi=none→len≤cap:=by
     rintro rfl
     rcases KI hr with⟨_,h⟩|⟨_,_,h,_⟩
     ·omega
     ·cases h
    simp only[Instr.sliceAt,Instr.slice,A11,AR hu,A06,Hc (isS:=true) hl hr hle.1 hle.2 hlen,A15,A5 ho]
   ·cases h
  ·cases h
 ·rw[hd] at h
  cases x<;>(try (cases h;done))
  rename_i p
  cases p with
  | none=>cases h
  | some a=>
   unfold A6 at h
   dsimp only at h
   split at h
   ·rename_i l r hl hr
    split at h
    ·rename_i hle
     cases h
     simp only[Instr.sliceAt,A11,AR hu,A06,Instr.sureAddr,Hc (isS:=false) hl hr hle.1 hle.2 (fun _=>A07 _),A15,A5 ho]
    ·cases h
   ·cases h
 ·rw[hd] at h;cases h
theorem JO {t:TypeId}{x i:Value}{k:Value→Prop}(h:AI (C2 P t) x i k):∃ v,(Instr.indexAt t x i).run P w=.ok v w∧k v:=by
 obtain⟨kk,n,rfl,h⟩:=h
 rcases KR (P:=P) (t:=t) rfl with⟨hd,hu⟩|⟨e,hd,hu,ho⟩|⟨m,e,hd,hu,ho⟩|hd<;>rw[hd] at h
 ·exact h.elim
 ·obtain⟨a,len,cap,rfl,h0,h1,hk⟩:=h
  refine⟨_,?_,hk⟩
  simp only[Instr.indexAt,A11,asIntOf,A15,A06,AR hu]
  rw[A03 ⟨h0,h1⟩]
  simp only[A11,A5 ho,A06,A15]
 ·obtain⟨a,rfl,h0,h1,hk⟩:=h
  refine⟨_,?_,hk⟩
  simp only[Instr.indexAt,A11,asIntOf,A15,A06,AR hu,Instr.sureAddr]
  rw[A03 ⟨h0,h1⟩]
  simp only[A11,A5 ho,A06,A15]
 ·exact h.elim
theorem OH {t:TypeId}{cs:Array Value}{off:Nat}{v:Value}(ho:ED P t=true)(h:Pa (Cm P t) (Ap P t) cs off=some v):(part t cs off).run P w=.ok v w:=by
 unfold part Pa at *
 simp only[A11,I4 ho,A06]
 cases hg:Cm P t with
 | true=>rw[hg] at h;cases h;simp[A5 ho]
 | false=>rw[hg] at h;simp only[cond] at h;simp[h]
theorem J6 {t:TypeId}{x i:Value}{k:Value→Prop}(hu:P.underlying t=some .string)(h:BQ x i k):∃ v,(Instr.index t x i).run P w=.ok v w∧k v:=by
 obtain⟨s,kk,n,b,rfl,rfl,h0,hb,hk⟩:=h
 refine⟨_,?_,hk⟩
 simp[Instr.index,asIntOf,AR hu,h0,hb]
theorem Kk {t e:TypeId}{m:Nat}{x i:Value}{k:Value→Prop}(hu:P.underlying t=some (.array m e))(ho:ED P e=true)(h:Ch (Cm P e) m (Ap P e) x i k):∃ v,(Instr.index t x i).run P w=.ok v w∧k v:=by
 obtain⟨cs,kk,n,v,rfl,rfl,h0,h1,hp,hk⟩:=h
 refine⟨v,?_,hk⟩
 simp only[Instr.index,A11,asIntOf,A15,A06,AR hu]
 rw[A03 ⟨h0,h1⟩]
 simp only[A11,A5 ho,A06]
 exact OH ho hp
theorem KD {t:TypeId}{f:Nat}{fs:Array Field}{fd:Field}{x:Value}{k:Value→Prop}(hu:P.underlying t=some (.struct fs))(hf:fs[f]? = some fd)(ho:ED P fd.type=true)
  (h:S3 (Cm P fd.type) fd.offset (Ap P fd.type) x k):∃ v,(Instr.field t x f).run P w=.ok v w∧k v:=by
 obtain⟨cs,v,rfl,hp,hk⟩:=h
 refine⟨v,?_,hk⟩
 simp only[Instr.field,A11,AR hu,A06]
 simp only[hf,A11,asAgg,A15,A06]
 exact OH ho hp
theorem Rz {t:TypeId}{key:Value}(h:Ct (Pd P t) key=true):∃ kt e d,P.underlying t=some (.map kt e)∧P.underlying kt=some d∧Ct (some d) key=true:=by
 unfold Pd at h
 split at h
 ·rename_i kt e hu
  cases hd:P.underlying kt with
  | none=>rw[hd] at h;cases h
  | some d=>rw[hd] at h;exact⟨kt,e,d,hu,hd,h⟩
 ·cases h
theorem DX {kt:TypeId}{d:TypeDesc}{key:Value}{em:Bool}(hd:P.underlying kt=some d)(h:Ct (some d) key=true):(Instr.checkKey em 10000 kt key).run P w=.ok () w:=by
 show (Instr.checkKey em (9999+1) kt key).run P w=_
 unfold Instr.checkKey
 unfold Ct at h
 split at h<;>rename_i he<;>first|(cases h;done)|skip
 all_goals (try (cases he))
 all_goals simp[AR hd]
theorem Ks {d:TypeDesc}{key:Value}(h:Ct (some d) key=true):∀ (l:List MapEntry) (i:Nat) (r:Option (Nat×Value)),Cd key l i=some r→Instr.findNow d key l i=some r
 | [],i,r,hr=>hr
 | e::l,i,r,hr=>by
  unfold Cd at hr
  unfold Instr.findNow
  have hs:∀ b,HO key e.key=some b→Instr.sameNow d key e.key=some b:=by
   intro b hb
   unfold Ct at h
   split at h<;>rename_i he<;>first|(cases h;done)|skip
   all_goals (try (cases he))
   all_goals (cases hek:e.key<;>rw[hek] at hb<;>(try (cases hb;done)))
   all_goals (simp only[HO] at hb;simp only[Instr.sameNow];exact hb)
  cases hk:HO key e.key with
  | none=>rw[hk] at hr;cases hr
  | some b=>
   rw[hk] at hr
   rw[hs b hk]
   cases b with
   | true=>exact hr
   | false=>exact Ks h l (i+1) r hr
theorem D4 {kt:TypeId}{d:TypeDesc}{key:Value}{l:List MapEntry}{r:Option (Nat×Value)}(hd:P.underlying kt=some d)(h:Ct (some d) key=true)(hr:Cd key l 0=some r) :
  (Instr.findKey kt key l).run P w=.ok r w:=by
 unfold Instr.findKey
 simp only[A11,AR hd,A06,Ks h l 0 r hr,A15]
theorem BT {r:Nat}{es:Array MapEntry}{c:Nat}(h:w.heap[r]? = some (.map es c)):(getObj r).run P w=.ok (.map es c) w:=by simp[getObj,Sem.run,h]
theorem DK {r:Nat}{es:Array MapEntry}{c:Nat}{o:Obj}(h:w.heap[r]? = some (.map es c)):(setObj r o).run P w=.ok () {w with heap:=w.heap.setIfInBounds r o}:=by simp[setObj,Sem.run,h]
theorem LN {t e:TypeId}{ok:Bool}{x key:Value}{k:Value→Prop}(he:AD5 P t=some e)(h:CC (Pd P t) (AG P e) ok x key w.heap k) :
  ∃ v,(Instr.lookup t x key ok).run P w=.ok v w∧k v:=by
 obtain⟨hp,zv,r,hz,hl,hk⟩:=h
 obtain⟨kt,e',d,hu,hd,hp'⟩:=Rz hp
 have:e'=e:=by unfold AD5 at he;rw[hu] at he;exact A14 he
 subst this
 refine⟨_,?_,hk⟩
 unfold Jv at hl
 split at hl
 ·cases hl
  simp only[Instr.lookup,A11,AR hu,A06,A15,DX hd hp',D4 (l:=[]) hd hp' rfl,BL hz]
  cases ok<;>rfl
 ·rename_i rr
  split at hl
  ·rename_i es c hb
   simp only[Instr.lookup,A11,AR hu,A06,BT hb,A15,DX hd hp',D4 hd hp' hl]
   cases r with
   | none=>simp only[A11,BL hz,A06,A15];cases ok<;>rfl
   | some q=>obtain⟨j,v⟩:=q;simp only[A15,A06];cases ok<;>rfl
  ·cases hl
 ·cases hl
theorem JL {key:Value}:∀ (l:List MapEntry) (i j:Nat) (v:Value),Cd key l i=some (some (j,v))→i≤j∧∃ e,l[j-i]? = some e∧HO key e.key=some true
 | [],i,j,v,h=>by cases h
 | e::l,i,j,v,h=>by
  unfold Cd at h
  split at h
  ·rename_i hk;cases h;exact⟨A07 _,e,by simp,hk⟩
  ·obtain⟨h1,e',h2,h3⟩:=JL l (i+1) j v h
   refine⟨by omega,e',?_,h3⟩
   rw[show j-i=(j-(i+1))+1 by omega]
   exact h2
  ·cases h
theorem N2 {a b:ByteArray}(h:(a == b)=true):a=b:=by
 have:(a.data == b.data)=true:=h
 exact ByteArray.ext (by simpa using this)
theorem MQ (a:ByteArray):(a == a)=true:=by
 show (a.data == a.data)=true
 simp
theorem RW {a b:Value}(h:HO a b=some true):a=b:=by
 unfold HO at h
 split at h
 ·simp only[A26] at h;rw[N2 h]
 ·split at h
  ·rename_i hk;simp only[A26,beq_iff_eq] at h;rw[hk,h]
  ·cases h
 ·simp only[A26,beq_iff_eq] at h;rw[h]
 ·cases h
theorem Mz {old new:Value}(h:HO new old=some true):(Instr.keyThatStays old new).run P w=.ok new w:=by
 have:=RW h
 subst this
 unfold Instr.keyThatStays
 have:Instr.sameBits 10000 new new=true:=by
  cases new<;>(try (cases h;done))<;>simp[Instr.sameBits,MQ]
 simp[this]
theorem Li {t:TypeId}{x key v:Value}{k:H→Prop}(h:Gp (Pd P t) x key v w.heap k):∃ w',(Instr.mapUpdate t x key v).run P w=.ok () w'∧Ce w w'∧k w'.heap:=by
 obtain⟨hp,r,es,c,o,rfl,hb,ho,hk⟩:=h
 obtain⟨kt,e,d,hu,hd,hp'⟩:=Rz hp
 cases hm:Cd key es.toList 0 with
 | none=>rw[hm] at ho;cases ho
 | some q=>
  rw[hm] at ho
  refine⟨{w with heap:=w.heap.setIfInBounds r o},?_,As,hk⟩
  simp only[Instr.mapUpdate,A11,AR hu,A06,BT hb,DX hd hp',D4 hd hp' hm]
  cases q with
  | none=>
   unfold Qr at ho
   cases ho
   exact DK hb
  | some jv=>
   obtain⟨j,u⟩:=jv
   unfold Qr at ho
   cases ho
   obtain⟨_,e',he',hke⟩:=JL _ _ _ _ hm
   rw[B35,B41] at he'
   simp only[he',A80,B52,A11,Mz hke,A06]
   exact DK hb
theorem RV {ty t:TypeId}{us:List TypeId}{x key:Value}{k:H→Prop}(h:TM (Pd P t) x key w.heap k):∃ w',(Builtin.delete_ (t::us).toArray ty #[x,key]).run P w=.ok (.tuple #[]) w'∧Ce w w'∧k w'.heap:=by
 obtain⟨hp,r,es,c,q,rfl,hb,hm,hk⟩:=h
 obtain⟨kt,e,d,hu,hd,hp'⟩:=Rz hp
 have h0:((t::us).toArray:Array TypeId)[0]? = some t:=rfl
 have h1:(#[Value.map (some r),key]:Array Value)[0]? = some (.map (some r)):=rfl
 have h2:(#[Value.map (some r),key]:Array Value)[1]? = some key:=rfl
 cases q with
 | none=>
  refine⟨{w with heap:=w.heap.setIfInBounds r (.map es c)},?_,As,hk⟩
  simp only[Builtin.delete_,h0,h1,h2,A11,AR hu,A06,BT hb,DX hd hp',D4 hd hp' hm]
  simp only[DK hb,A06,A15]
 | some jv=>
  obtain⟨j,u⟩:=jv
  refine⟨{w with heap:=w.heap.setIfInBounds r (.map (es.eraseIdxIfInBounds j) c)},?_,As,hk⟩
  simp only[Builtin.delete_,h0,h1,h2,A11,AR hu,A06,BT hb,DX hd hp',D4 hd hp' hm]
  simp only[DK hb,A06,A15]
theorem Uf {t kt e:TypeId}{x:Value}{k:Kt}(hu:P.underlying t=some (.map kt e))(h:D5 x w.heap k):∃ v w',(Instr.range t x).run P w=.ok v w'∧Ce w w'∧k v w'.heap:=by
 unfold D5 at h
 split at h
 ·refine⟨_,{w with heap:=w.heap.push (.mapIter none 0 #[] 0)},?_,As,h w.heap.size _ Dq (A07 _) EV⟩
  simp[Instr.range,AR hu]
 ·obtain⟨es,c,hb,h⟩:=h
  refine⟨_,{w with heap:=w.heap.push (.mapIter (some _) c #[] c)},?_,As,h w.heap.size _ Dq (A07 _) EV⟩
  simp[Instr.range,AR hu,BT hb]
 ·exact h.elim
theorem Cv {r:Nat}{m:Option Nat}{s l:Nat}{seen:Array Nat}(h:w.heap[r]? = some (.mapIter m s seen l)):(getObj r).run P w=.ok (.mapIter m s seen l) w:=by simp[getObj,Sem.run,h]
theorem MK {x:Value}{k:Value→Prop}(h:Hb x w.heap k):∃ v,(Instr.entry x).run P w=.ok v w∧k v:=by
 obtain⟨r,m,since,seen,es,c,stamp,e,rfl,hr,hs,hm,hf,hk⟩:=h
 refine⟨_,?_,hk⟩
 simp[Instr.entry,Cv hr,hs,BT hm,hf]
theorem KE {α:Type}{c:Array α}(hc:0<c.size):∃ j w',(choose (.mapNext c.size)).run P w=.ok j w'∧j<c.size∧Ce w w'∧w'.heap=w.heap:=by
 rw[run_choose]
 by_cases hf:Question.forced (.mapNext c.size)=true
 ·rw[A03 hf];exact⟨0,w,rfl,hc,As,rfl⟩
 ·rw[A05 hf];exact⟨_,_,rfl,by simp only[Question.cut];exact Nat.mod_lt _ hc,As,rfl⟩
theorem JP {r:Nat}{m:Option Nat}{s l:Nat}{seen:Array Nat}{o:Obj}(h:w.heap[r]? = some (.mapIter m s seen l)):(setObj r o).run P w=.ok () {w with heap:=w.heap.setIfInBounds r o}:=by simp[setObj,Sem.run,h]
theorem Vb {x:Value}{ty:TypeId}{k:Kt}(h:HM x w.heap k):∃ v w',(Instr.next x false ty).run P w=.ok v w'∧Ce w w'∧k v w'.heap:=by
 obtain⟨r,rfl,⟨s,seen,l,hr,hk⟩|⟨m,since,seen,es,hr,hm,hall,hend,hstep⟩⟩:=h
 ·exact⟨_,w,by simp[Instr.next,Cv hr],As,hk⟩
 ·have hchk:(!seen.isEmpty && !es.isEmpty&&es.all (fun e=>decide (e.born≥since)))=false:=by
   cases hes:es.isEmpty with
   | true=>simp
   | false=>
    have:es.all (fun e=>decide (e.born≥since))=false:=by
     rw[←Bool.not_eq_true]
     intro hc
     rw[Array.all_eq_true] at hc
     have hpos:0<es.size:=by
      rcases B25 es.size with h0|h0
      ·rw[Array.isEmpty] at hes;simp[h0] at hes
      ·exact h0
     have h1:=hc 0 hpos
     have h2:=hall es[0] (Array.getElem_mem hpos)
     simp at h1
     omega
    simp[this]
  have hold:(es.filter fun e=>!seen.contains e.born).filter (fun e=>decide (e.born<since))=es.filter fun e=>!seen.contains e.born:=by
   rw[Array.filter_eq_self]
   intro e he
   have:=hall e (Array.mem_filter.1 he).1
   simpa using this
  have hnew:(es.filter fun e=>!seen.contains e.born).filter (fun e=>decide (e.born≥since))=#[]:=by
   rw[Array.filter_eq_empty_iff]
   intro e he
   have:=hall e (Array.mem_filter.1 he).1
   simp;omega
  generalize hL:(es.filter fun e=>!seen.contains e.born)=L at hold hnew
  by_cases hemp:L.isEmpty=true
  ·have hL0:L=#[]:=by simpa using hemp
   refine⟨.tuple #[.bool false],w,?_,As,hend fun e he=>?_⟩
   ·simp only[Instr.next,A11,Cv hr,A06,BT hm,hchk,A45,if_false,A15,hL,hold,hnew,hemp,if_true]
    simp[hL0,Question.forced]
   ·rw[←Bool.not_eq_false]
    intro hc
    have:e∈L:=by rw[←hL];exact Array.mem_filter.2 ⟨he,by rw[hc];rfl⟩
    rw[hL0] at this
    simp at this
  ·have hne:L.isEmpty=false:=by simpa using hemp
   have hcand:(#[]++(L++#[]).map some:Array (Option MapEntry))=L.map some:=by simp
   have hpos:0<(L.map some).size:=by
    rcases B25 L.size with h0|h0
    ·rw[Array.isEmpty] at hne;simp[h0] at hne
    ·simpa using h0
   obtain⟨j,w1,hj,hlt,hs,hh⟩:=KE (P:=P) (w:=w) hpos
   have hjl:j<L.size:=by simpa using hlt
   have hget:(L.map some)[j]? = some (some L[j]):=by simp[hjl]
   have hmem:L[j]∈es.filter fun e=>!seen.contains e.born:=by rw[hL];exact Array.getElem_mem hjl
   obtain⟨hme,hms⟩:=Array.mem_filter.1 hmem
   have hr1:w1.heap[r]? = some (.mapIter (some m) since seen since):=by rw[hh];exact hr
   refine⟨.tuple #[.bool true,L[j].key,L[j].val],{w1 with heap:=w1.heap.setIfInBounds r (.mapIter (some m) since (seen.push L[j].born) since)},?_,hs,?_⟩
   ·simp only[Instr.next,A11,Cv hr,A06,BT hm,hchk,A45,if_false,A15,hL,hold,hnew,hne,hcand,hj,hget,JP hr1]
   ·show k _ (w1.heap.setIfInBounds r _)
    rw[hh]
    exact hstep _ hme (by simpa using hms)
theorem Fv {x:Value}{n:Nat}(h:srcLen x=some n):(Builtin.lenOf x).run P w=.ok n w:=by
 unfold srcLen at h
 split at h
 ·cases h;rfl
 ·cases h;rfl
 ·cases h
theorem EB {sz n:Nat}{x:Value}{cs:Array Value}(h:BF sz n w.heap x=some cs):(Builtin.firstCells sz n x).run P w=.ok cs w:=by
 unfold BF at h
 split at h
 ·cases h;rfl
 ·rename_i a len cap
  have fin:(if n*sz=0 then some #[] else none)=some cs→(Builtin.firstCells sz n (.slice (some a) len cap)).run P w=.ok cs w:=fun hh=>by
   split at hh
   ·rename_i h0
    cases hh
    show (loadCells a (n*sz)).run P w=_
    rw[h0];rfl
   ·cases hh
  split at h
  ·rename_i c T fz hb
   split at h
   ·exact fin h
   ·rename_i hsp
    split at h
    ·rename_i hle
     cases h
     obtain⟨b,o,sp⟩:=a
     cases sp with
     | some q=>simp at hsp
     | none=>exact Ex hb hle
    ·exact fin h
  ·exact fin h
 ·cases h;rfl
 ·cases h
theorem Hp {c:Array Value}{T:TypeId}{a:Addr}{off:Nat}{vs:Array Value}(hb:w.heap[a.block]? = some (.cells c T (0,0)))(hsp:a.spot=none)(hle:a.off+off+vs.size≤c.size)
  (hone:vs.toList.all Value.oneCell'=true):∃ w',(storeCells (a.add off) vs.toList).run P w=.ok () w'∧Ce w w'∧w'.heap=w.heap.setIfInBounds a.block (.cells (Ai c (a.off+off) vs.toList) T (0,0)):=by
 obtain⟨b,o,sp⟩:=a
 subst hsp
 have:(⟨b,o,none⟩:Addr).add off=⟨b,o+off,none⟩:=by
  unfold Addr.add;split
  ·rename_i h0;subst h0;rfl
  ·rfl
 rw[this]
 obtain⟨w',hr,hs,hh⟩:=Ea (P:=P) vs.toList w (o+off) 0 c hb (by simpa using hle) hone
 exact⟨w',hr,hs,hh⟩
theorem LL {need cap bytes:Nat}(h1:cap<need)(h2:need*bytes≤140737488355328):¬(Builtin.nextslicecap need cap*bytes>2^48):=by
 have:=growslice_fits h1 h2
 omega
theorem D6 {e:TypeId}{i:TypeInfo}{s:Value}{n:Nat}{new:Array Value}{k:Kt}{zeros:Bool}{A:Sem (Array Value)}{base:Option Addr}{sLen sCap:Nat}{mk:Sem Value}{G:Prop}[Decidable G]
  (hs:s=.slice base sLen sCap) (hi:P.info? e=some i)
  (hA:∀ w':World,w'.heap=w.heap→A.run P w'=.ok new w')
  (hG:¬G)
  (hnew:new.size≤n*Ap P e)
  (h:JI e (AG P e) (Ap P e) (F4 P e) s n new w.heap k) :
  ∃ v w',(do
   if sLen+n≤sCap then
    let new ←A
    if let some a:=base then storeCells (a.add (sLen*Ap P e)) new.toList
    pure (.slice base (sLen+n) sCap)
   else
    if ((sLen+n:Nat):Int)>IntKind.i64.max∧(zeros=true∨(←typeInfo e).bytes=0) then runtimePanic (.error "growslice: len out of range")
    if G then mk else
    let newCap ←choose (.appendCap (sLen+n) sCap e)
    askRoom (newCap*(←typeInfo e).bytes)
    let old ←Builtin.firstCells (Ap P e) sLen s
    let new ←A
    let rest:=Builtin.zeroCells (←zeroValue e).cells (newCap-(sLen+n))
    pure (.slice (some (←newRow e (old++new++rest))) (sLen+n) newCap):Sem Value).run P w=.ok v w'∧Ce w w'∧k v w'.heap:=by
 obtain⟨base',len,cap,zv,old,hs',hz,hzs,hb,hb2,hold,hroom,hgrow⟩:=h
 rw[hs] at hs'
 cases hs'
 by_cases hle:sLen+n≤sCap
 ·rw[A03 hle]
  rcases hroom hle with⟨rfl,rfl,hk⟩|⟨a,c,T',rfl,hsp,hbl,hfit,hone,hk⟩
  ·refine⟨_,w,?_,As,hk⟩
   simp[hA w rfl]
  ·rw[A93] at hfit
   obtain⟨w',hr,hsd,hh⟩:=Hp (P:=P) (off:=sLen*Ap P e) (vs:=new) hbl hsp (by omega) hone
   refine⟨.slice (some a) (sLen+n) sCap,w',?_,hsd,by rw[hh];exact hk⟩
   simp[hA w rfl,hr]
 ·rw[A05 hle]
  have hlt:sCap<sLen+n:=by omega
  have hbig:¬(((sLen+n:Nat):Int)>IntKind.i64.max∧(zeros=true∨i.bytes=0)):=by
   rintro⟨h1,_⟩
   have:IntKind.i64.max=9223372036854775807:=rfl
   rw[this] at h1
   omega
  let q:=Question.appendCap (sLen+n) sCap e
  let c':=q.cut (w.tape w.drawn q)
  have hc1:sLen+n≤c':=by simp[c',q,Question.cut]
  have hc2:c'≤9223372036854775807:=by
   have hmod:=Nat.mod_lt (w.tape w.drawn q) (show 0<2^63-(sLen+n) by omega)
   simp only[c',q,Question.cut] at hmod ⊢
   omega
  let cells:=old++new++Builtin.zeroCells zv.cells (c'-(sLen+n))
  let w1:World:={w with drawn:=w.drawn+1}
  refine⟨.slice (some ⟨w.heap.size,0,none⟩) (sLen+n) c',{w with drawn:=w.drawn+1,heap:=w.heap.push (.cells cells e)},?_,As,hgrow hlt _ c' _ hc1 hc2 Dq (A07 _) EV⟩
  have hold1:(Builtin.firstCells (Ap P e) sLen s).run P w1=.ok old w1:=EB (by exact hold)
  have hA1:=hA w1 rfl
  have hzv:(zeroValue e).run P w1=.ok zv w1:=BL hz
  have hch:(choose (.appendCap (sLen+n) sCap e)).run P w=.ok c' w1:=by rw[run_choose];simp[Question.forced,c',q,w1]
  simp only[A11,CE hi,A06,Sem.run_ite,hbig,if_false,A15,hG,hch,run_askRoom,hold1,hA1,hzv,C8]
  rfl
theorem GB {sz n:Nat}{h:H}{x:Value}{new:Array Value}(hsz:1≤sz)(hc:BF sz n h x=some new):new.size≤n*sz:=by
 unfold BF at hc
 split at hc
 ·cases hc;simp
 ·have fin:(if n*sz=0 then some #[] else none)=some new→new.size≤n*sz:=fun hh=>by
   split at hh
   ·cases hh;simp
   ·cases hh
  split at hc
  ·split at hc
   ·exact fin hc
   ·split at hc
    ·cases hc;simp;omega
    ·exact fin hc
  ·exact fin hc
 ·rename_i s
  cases hc
  have h1:(Bw (s.extract 0 n)).size≤n:=by
   simp only[Bw,Array.size_map]
   have:(s.extract 0 n).data.size=(s.extract 0 n).size:=rfl
   rw[this,ByteArray.size_extract]
   omega
  exact B28 h1 (Nat.le_mul_of_pos_right n hsz)
 ·cases hc
theorem W3 {t:TypeId}(h:ED P t=true):1≤Ap P t:=by
 unfold ED at h
 simp only[A42,B31] at h
 rcases B25 (Ap P t) with h0|h0
 ·rw[h0] at h;simp at h
 ·exact h0
theorem SO {e:TypeId}{s:Value}{n:Nat}{z:Option Value}{sz by_:Nat}{new:Array Value}{h:H}{k:Kt}(hg:JI e z sz by_ s n new h k):∃ base len cap,s=.slice base len cap∧(len+n)*by_≤140737488355328:=by
 obtain⟨base,len,cap,zv,old,hs,hz,hzs,hb,hb2,hold,hroom,hgrow⟩:=hg
 exact⟨base,len,cap,hs,hb⟩
theorem Qp {t u e ty:TypeId}{d:TypeDesc}{s x:Value}{k:Kt}(ht:HN P t=some e)(hu:P.underlying u=some d)(hd:∀ kk,d≠.int kk)
  (h:AM e (AG P e) (Ap P e) (F4 P e) s x w.heap k):∃ v w',(Builtin.append_ #[t,u] ty #[s,x]).run P w=.ok v w'∧Ce w w'∧k v w'.heap:=by
 obtain⟨n,new,hn,hc,hg⟩:=h
 obtain⟨hte,ho⟩:=Hu ht
 obtain⟨i,_,hi,_,_⟩:=Jm ho
 obtain⟨base,sLen,sCap,hs,hb⟩:=SO hg
 have h0:(#[t,u]:Array TypeId)[0]? = some t:=rfl
 have h1:(#[t,u]:Array TypeId)[1]? = some u:=rfl
 have h2:(#[s,x]:Array Value)[0]? = some s:=rfl
 have h3:(#[s,x]:Array Value)[1]? = some x:=rfl
 by_cases hle:sLen+n≤sCap
 ·obtain⟨v,w',hr,hsd,hk⟩:=D6 (P:=P) (zeros:=false) (A:=Builtin.firstCells (Ap P e) n x) (mk:=pure .nilIface) (G:=False) hs hi (fun w' hw=>EB (by rw[hw];exact hc)) (fun h=>h) (GB (W3 ho) hc) hg
  refine⟨v,w',?_,hsd,hk⟩
  rw[←hr]
  subst hs
  cases d<;>first
   | exact absurd rfl (hd _)
   | (simp only[Builtin.append_,h0,h1,h2,h3,A11,AR hte,A06,A5 ho,AR hu,A15,A45,if_false,Fv hn,B44,if_true,hle];rfl)
 ·have hG:=LL (Nat.lt_of_not_le hle) hb
  rw[G8 hi] at hG
  obtain⟨v,w',hr,hsd,hk⟩:=D6 (P:=P) (zeros:=false) (A:=Builtin.firstCells (Ap P e) n x) (mk:=pure .nilIface) (G:=False) hs hi (fun w' hw=>EB (by rw[hw];exact hc)) (fun h=>h) (GB (W3 ho) hc) hg
  refine⟨v,w',?_,hsd,hk⟩
  rw[←hr]
  subst hs
  cases d<;>first
   | exact absurd rfl (hd _)
   | (simp only[Builtin.append_,h0,h1,h2,h3,A11,AR hte,A06,A5 ho,AR hu,A15,A45,if_false,Fv hn,B44,if_true,hle,CE hi,hG,Sem.run_ite];done)
theorem Og {t u e ty:TypeId}{ku:IntKind}{s x:Value}{k:Kt}(ht:HN P t=some e)(hu:P.underlying u=some (.int ku))
  (h:CI e (AG P e) (Ap P e) (F4 P e) s x w.heap k):∃ v w',(Builtin.append_ #[t,u] ty #[s,x]).run P w=.ok v w'∧Ce w w'∧k v w'.heap:=by
 obtain⟨kk,l,zv,rfl,hl0,hlb,hl2,hz,hg⟩:=h
 obtain⟨hte,ho⟩:=Hu ht
 obtain⟨i,_,hi,_,_⟩:=Jm ho
 obtain⟨base,sLen,sCap,hs,hb⟩:=SO hg
 have hzs:zv.cells.size=Ap P e:=by
  obtain⟨_,_,_,zv',_,_,hz',hzs,_⟩:=hg
  rw[hz] at hz';cases hz';exact hzs
 have h0:(#[t,u]:Array TypeId)[0]? = some t:=rfl
 have h1:(#[t,u]:Array TypeId)[1]? = some u:=rfl
 have h2:(#[s,.int kk l]:Array Value)[0]? = some s:=rfl
 have h3:(#[s,.int kk l]:Array Value)[1]? = some (.int kk l):=rfl
 have hwl:IntKind.i64.wrap l=l:=by unfold IntKind.wrap;simp[IntKind.bits,IntKind.signed];omega
 have hneg:¬l<0:=by omega
 have hbytes:¬l*(i.bytes:Int)>2^48:=by rw[G8 hi] at hlb;omega
 have hA:∀ w':World,w'.heap=w.heap→((if l.toNat*Ap P e=0 then pure #[] else do pure (Builtin.zeroCells (←zeroValue e).cells l.toNat):Sem (Array Value))).run P w' =
   .ok (if l.toNat*Ap P e=0 then #[] else Builtin.zeroCells zv.cells l.toNat) w':=by
  intro w' _
  split
  ·rfl
  ·simp only[A11,BL hz,A06,A15]
 have hnew:(if l.toNat*Ap P e=0 then #[] else Builtin.zeroCells zv.cells l.toNat).size≤l.toNat*Ap P e:=by
  split
  ·simp
  ·rw[size_zeroCells,hzs];exact A07 _
 obtain⟨v,w',hr,hsd,hk⟩:=D6 (P:=P) (zeros:=true) (mk:=pure .nilIface) (G:=False) hs hi hA (fun h=>h) hnew hg
 refine⟨v,w',?_,hsd,hk⟩
 rw[←hr]
 subst hs
 by_cases hle:sLen+l.toNat≤sCap
 ·simp only[Builtin.append_,h0,h1,h2,h3,A11,AR hte,A06,A5 ho,AR hu,A15,if_true,asInt,asIntOf,hwl,hneg,if_false,CE hi,hbytes,Sem.run_ite,A91,A45,hle]
  rfl
 ·have hG:=LL (Nat.lt_of_not_le hle) hb
  rw[G8 hi] at hG
  simp only[Builtin.append_,h0,h1,h2,h3,A11,AR hte,A06,A5 ho,AR hu,A15,if_true,asInt,asIntOf,hwl,hneg,if_false,CE hi,hbytes,Sem.run_ite,A91,A45,hle,hG]
theorem Wd {t u e ty:TypeId}{d x:Value}{k:Kt}(ht:HN P t=some e)(h:DI (Ap P e) d x w.heap k) :
  ∃ v w',(Builtin.copy_ #[t,u] ty #[d,x]).run P w=.ok v w'∧Ce w w'∧k v w'.heap:=by
 obtain⟨base,len,cap,n,cs,rfl,hn,hc,hh⟩:=h
 obtain⟨hte,ho⟩:=Hu ht
 have h0:(#[t,u]:Array TypeId)[0]? = some t:=rfl
 have h2:(#[.slice base len cap,x]:Array Value)[0]? = some (.slice base len cap):=rfl
 have h3:(#[.slice base len cap,x]:Array Value)[1]? = some x:=rfl
 have hf:(Builtin.firstCells (Ap P e) (Nat.min n len) x).run P w=.ok cs w:=EB hc
 rcases hh with⟨rfl,hk⟩|⟨a,c,T,rfl,hsp,hb,hle,hone,hk⟩
 ·refine⟨_,w,?_,As,hk⟩
  simp only[Builtin.copy_,h0,h2,h3,A11,AR hte,A06,Fv hn,A5 ho,hf,A15]
  rfl
 ·obtain⟨w',hr,hsd,hh⟩:=Hp (P:=P) (off:=0) (vs:=cs) hb hsp (by simpa using hle) hone
  refine⟨_,w',?_,hsd,by rw[hh];exact hk⟩
  have ha:a.add 0=a:=rfl
  rw[ha] at hr
  simp only[Builtin.copy_,h0,h2,h3,A11,AR hte,A06,Fv hn,A5 ho,hf,A15,hr]
  rfl
theorem PB {t ty:TypeId}{x:Value}{k:Value→Prop}(ht:P.underlying t=some .string)(h:CL x k):∃ v,(Builtin.len_ #[t] ty #[x]).run P w=.ok v w∧k v:=by
 obtain⟨s,rfl,hk⟩:=h
 refine⟨_,?_,hk⟩
 have h0:(#[t]:Array TypeId)[0]? = some t:=rfl
 have h2:(#[Value.string s]:Array Value)[0]? = some (.string s):=rfl
 simp only[Builtin.len_,h0,h2,A11,AR ht,A06,A15,goInt]
theorem PT {t e ty:TypeId}{x:Value}{k:Value→Prop}(ht:P.underlying t=some (.slice e))(h:Ab x k):∃ v,(Builtin.len_ #[t] ty #[x]).run P w=.ok v w∧k v:=by
 obtain⟨a,n,c,rfl,hk⟩:=h
 refine⟨_,?_,hk⟩
 have h0:(#[t]:Array TypeId)[0]? = some t:=rfl
 have h2:(#[Value.slice a n c]:Array Value)[0]? = some (.slice a n c):=rfl
 simp only[Builtin.len_,h0,h2,A11,AR ht,A06,A15,goInt]
theorem PE {t e ty:TypeId}{x:Value}{k:Value→Prop}(ht:P.underlying t=some (.slice e))(h:Sp x k):∃ v,(Builtin.cap_ #[t] ty #[x]).run P w=.ok v w∧k v:=by
 obtain⟨a,n,c,rfl,hk⟩:=h
 refine⟨_,?_,hk⟩
 have h0:(#[t]:Array TypeId)[0]? = some t:=rfl
 have h2:(#[Value.slice a n c]:Array Value)[0]? = some (.slice a n c):=rfl
 simp only[Builtin.cap_,h0,h2,A11,AR ht,A06,A15,goInt]
theorem OE {t kt e ty:TypeId}{x:Value}{k:Value→Prop}(ht:P.underlying t=some (.map kt e))(h:Ti x w.heap k):∃ v,(Builtin.len_ #[t] ty #[x]).run P w=.ok v w∧k v:=by
 have h0:(#[t]:Array TypeId)[0]? = some t:=rfl
 rcases h with⟨rfl,hk⟩|⟨r,es,c,rfl,hb,hk⟩
 ·refine⟨_,?_,hk⟩
  have h2:(#[Value.map none]:Array Value)[0]? = some (.map none):=rfl
  simp only[Builtin.len_,h0,h2,A11,AR ht,A06,A15,goInt]
 ·refine⟨_,?_,hk⟩
  have h2:(#[Value.map (some r)]:Array Value)[0]? = some (.map (some r)):=rfl
  simp only[Builtin.len_,h0,h2,A11,AR ht,A06,BT hb,A15,goInt]
theorem SG {ats:Array TypeId}{ty:TypeId}{x y:Value}{k:Value→Prop}(h:NW x y k):∃ v,(Builtin.min_ ats ty #[x,y]).run P w=.ok v w∧k v:=by
 obtain⟨kk,a,b,rfl,rfl,hk⟩:=h
 exact⟨_,by simp[Builtin.min_,Builtin.min2],hk⟩
theorem Sq {ats:Array TypeId}{ty:TypeId}{x y:Value}{k:Value→Prop}(h:ACp x y k):∃ v,(Builtin.max_ ats ty #[x,y]).run P w=.ok v w∧k v:=by
 obtain⟨kk,a,b,rfl,rfl,hk⟩:=h
 exact⟨_,by simp[Builtin.max_,Builtin.max2],hk⟩
theorem JJ {x:Value}{i:Nat}{k:Value→Prop}(h:AO x i k):∃ v,(Instr.extract x i).run P w=.ok v w∧k v:=by
 obtain⟨vs,v,rfl,hi,hk⟩:=h
 exact⟨v,by simp[Instr.extract,hi],hk⟩
theorem Hl {t xt:TypeId}{d:TypeDesc}{ok:Bool}{x:Value}{k:Value→Prop}(hd:P.underlying t=some d)(hni:∀ ms,d≠.interface ms)(h:FP t (AG P t) ok x k) :
  ∃ v,(Instr.typeAssert x xt t ok).run P w=.ok v w∧k v:=by
 obtain⟨zv,hz,h⟩:=h
 cases x with
 | nilIface=>
  obtain⟨rfl,hk⟩:=h
  refine⟨_,?_,hk⟩
  cases d<;>first
   | exact absurd rfl (hni _)
   | (simp only[Instr.typeAssert,A11,AR hd,A06,if_true,BL hz,A15])
 | iface u v=>
  dsimp only at h
  split at h
  ·rename_i he
   refine⟨_,?_,h⟩
   cases d<;>first
    | exact absurd rfl (hni _)
    | (simp only[Instr.typeAssert,A11,AR hd,A06,he,if_true,A15];cases ok<;>rfl)
  ·rename_i he
   obtain⟨rfl,hk⟩:=h
   refine⟨_,?_,hk⟩
   cases d<;>first
    | exact absurd rfl (hni _)
    | (simp only[Instr.typeAssert,A11,AR hd,A06,he,if_false,if_true,BL hz,A15])
 | _=>exact h.elim
theorem K5:∀ (fs:List Field),(fs.all fun f=>ED P f.type)=true→(fs.mapM fun f=>(do pure (f.offset,←sizeOf f.type):Sem (Nat×Nat))).run P w=.ok (Hj P fs) w
 | [],_=>rfl
 | f::fs,h=>by
  simp only[B33,A42] at h
  simp only[List.mapM_cons,A11,A5 h.1,A06,A15,K5 fs h.2]
  rfl
theorem L6 {t:TypeId}{parts:List (Nat×Value)}{k:Value→Prop}(hne:F8 P t≠.none)(h:Ae (F8 P t) (AG P t) parts k):∃ v,(Instr.build t parts.toArray).run P w=.ok v w∧k v:=by
 obtain⟨zv,cs,hz,hf,hk⟩:=h
 refine⟨_,?_,hk⟩
 unfold F8 at hf hne
 split at hf
 ·rename_i fs hu
  cases ho:fs.toList.all (fun f=>ED P f.type) with
  | false=>simp[hu,ho] at hne
  | true=>
   rw[ho] at hf
   simp only[cond,Br] at hf
   have hm:(fs.mapM fun f=>(do pure (f.offset,←sizeOf f.type):Sem (Nat×Nat))).run P w=.ok (Hj P fs.toList).toArray w:=by
    rw[←Array.toArray_toList (xs:=fs),List.mapM_toArray]
    simp only[Sem.run_map,K5 _ ho,A06]
   have hp:(fun i:Nat=>(Hj P fs.toList).toArray[i]?)=fun i:Nat=>(Hj P fs.toList)[i]?:=by funext i;simp
   simp only[Instr.build,A11,BL hz,A06,AR hu,hm,hp,hf,A15]
 ·rename_i n e hu
  cases ho:ED P e with
  | false=>simp[hu,ho] at hne
  | true=>
   rw[ho] at hf
   simp only[cond,Br] at hf
   simp only[Instr.build,A11,BL hz,A06,AR hu,A5 ho,hf,A15]
 ·rename_i h1 h2
  exact absurd (by split<;>first|(exact absurd ‹_› (h1 _))|(exact absurd ‹_› (h2 _ _))|rfl) hne
theorem KF {t e:TypeId}{n:Nat}{parts:List (Nat×Value)}{k:Kt}(ht:HN P t=some e)(h:AH (.arr (Ap P e)) e (AG P e) (Ap P e) n parts w.heap k) :
  ∃ v w',(Instr.buildSlice t n parts.toArray).run P w=.ok v w'∧Ce w w'∧k v w'.heap:=by
 obtain⟨zv,cs,hz,hn,hf,hk⟩:=h
 obtain⟨hte,ho⟩:=Hu ht
 refine⟨.slice (some ⟨w.heap.size,0,none⟩) n n,{w with heap:=w.heap.push (.cells cs e)},?_,As,hk _ _ Dq (A07 _) EV⟩
 have hbig:¬n*Ap P e>2^24:=by omega
 simp only[Br] at hf
 by_cases h0:n*Ap P e=0
 ·rw[A03 h0] at hf
  have hm:(Array.range (n*Ap P e)).map (fun x=>(#[]:Array Value)[x%(#[]:Array Value).size]!)=#[]:=by rw[h0];simp
  simp only[Instr.buildSlice,A11,AR hte,A06,A5 ho,hbig,if_false,A15,h0,if_true,pure_bind]
  rw[h0] at hm
  rw[hm,hf]
  have h00:¬(0>2^24):=by omega
  simp only[h00,if_false,A11,C8,A06,A15]
 ·rw[A05 h0] at hf
  unfold Ax at hf
  simp only[Instr.buildSlice,A11,AR hte,A06,A5 ho,hbig,if_false,A15,h0,BL hz,pure_bind]
  rw[hf]
  simp only[A11,C8,A06,A15]
end
end
end Go.Proofs.YtollddkkdgoonaaGreatDoor
