/- A step. No condition. -/
import Derived.Test.YtollddkkdgoonaaGreatDoorM1
namespace Go.Proofs.YtollddkkdgoonaaGreatDoor
open Go
set_option linter.unusedVariables false
set_option linter.unusedSimpArgs false
set_option linter.defProp false
set_option maxRecDepth 100000
variable {h:H} {k:Value->Prop} {kt Q:Kt} {x y z r:Res}
abbrev Bs:=List UInt8
def bc (b:UInt8):Vz:=.int .u8 b.toNat
def bcs (l:Bs):Array Vz:=(l.map bc).toArray
abbrev buf (b:Nat)(all:Bs):Res:=pts b (.cells (bcs all) 5 (0,0))
def DX (l:Bs):(bcs l).size=l.length:=by simp[bcs]
def Ji (l:Bs)(i:Nat):(bcs l)[i]? = (l[i]?).map bc:=by simp[bcs]
def IM (l m:Bs):bcs (l++m)=bcs l++bcs m:=by simp[bcs]
def Tq (l:Bs)(i j:Nat):(bcs l).extract i j=bcs ((l.take j).drop i):=by
 apply P4;simp[bcs,I3,V3]
def LD (l:Bs):(bcs l).toList.all Value.oneCell'=true:=by
 rw[K5];intro x a;simp only[bcs,V1] at a;obtain⟨b,_,rfl⟩:=a;rfl
def Vt:Am TP 5=some BE :=by kernel_rfl
def ZN (n:Nat):Builtin.zeroCells (Value.int .u8 0).cells n=bcs (List.replicate n 0):=by
 unfold Builtin.zeroCells;apply P4;simp only[Value.cells,bcs];apply O4;intro i;simp[bc];by_cases h:i<n<;>simp[h,Nat.mod_one]
def setL (l:Bs)(o:Nat)(m:Bs):Bs:=l.take o++m++l.drop (o+m.length)
def Ad {l m:Bs}{o:Nat}(h:o+m.length<=l.length):(setL l o m).length=l.length:=by simp[setL];omega
theorem Er:∀ (vs:List Vz) (c:Array Vz) (o i:Nat),o+vs.length<=c.size->(Av c o vs)[i]? = if o<=i/\i<o+vs.length then vs[i-o]? else c[i]?
 | [],c,o,i,_=>by simp[Av];omega
 | v::vs,c,o,i,h=>by
  simp only[J1] at h;rw[Av,Er vs _ _ _ (by simp;omega)];by_cases a:o+1<=i/\i<o+1+vs.length
  ·rw[D0 a,D0 (by simp;omega)];rw[show i-o=(i-(o+1))+1 by omega];simp
  ·rw[F0 a,D4];by_cases b:o=i
   ·subst b;rw[D0 rfl,D0 (show o<c.size by omega),D0 (by simp)];simp
   ·rw[F0 b,F0 (by simp;omega)]
theorem Ds {l m:Bs}{o:Nat}(h:o+m.length<=l.length):Av (bcs l) o (bcs m).toList=bcs (setL l o m):=by
 apply N6;intro i;rw[Er _ _ _ _ (by simp[bcs];omega),Ji,Ji];have c:(bcs m).toList=m.map bc:=rfl;rw[c];simp only[Z0,Y0];unfold setL;by_cases a:o<=i/\i<o+m.length
 ·rw[D0 a,Z1 (by simp;omega),X1 (by simp;omega)];simp[V2 (show o<=l.length by omega)]
 ·rw[F0 a];by_cases b:i<o
  ·rw[P0,Z1 (by simp;omega)];simp[b]
  ·rw[X1 (by simp;omega)];simp only[C0,W1,Q3];rw[V2 (show o<=l.length by omega)];congr 2;omega
inductive BufV:Vz->Bs->Res->Prop
 | nil:BufV  cst__slice_none_0_0  [] 0
 | own {b n:Nat} {all:Bs}:n<=all.length->BufV (.slice (some ⟨b,0,none⟩) n all.length) (all.take n) (buf b all)
def BufV.own' {b n c:Nat}{all bs:Bs}(d:n<=all.length)(a:all.length=c)(e:all.take n=bs):BufV (.slice (some ⟨b,0,none⟩) n c) bs (pts b (.cells (bcs all) 5 (0,0))):=by
 subst a e;exact .own d
def Rd (h:H)(v:Vz)(bs:Bs):Prop:=
 (∃ a c,v=.slice a 0 c/\bs=[])\/∃ b o c all T fz,v=.slice (some ⟨b,o,none⟩) bs.length c/\h[b]? = some (.cells ⟨all⟩ T fz)/\o+bs.length<=all.length/\(all.drop o).take bs.length=bs.map bc
def Vi {h:H}{a:Option Addr}{m c sz n:Nat}(b:n*sz=0):By sz n h (.slice a m c)=some #[]:=by
 cases a with
 | none=>rfl
 | some a=>
  unfold By;simp only[b,if_true,Z4];split
  ·split
   ·rfl
   ·split
    ·simp;omega
    ·rfl
  ·rfl
def sf {h:H}{a:Option Addr}{c:Nat}:OE h (.slice a 0 c)=some (.string .empty):=by
 cases a with
 | none=>rfl
 | some a=>
  unfold OE;simp only[if_true,Z4];split
  ·split
   ·rfl
   ·split
    ·simp[EY];rfl
    ·rfl
  ·rfl
def BufV.rd {v:Vz}{bs:Bs}{r x:Res}{h:H}(b:BufV v bs r)(w:AN (r+x) h):Rd h v bs:=by
 cases b with
 | nil=>exact .inl ⟨none,0,rfl,rfl⟩
 | own a=>
  rename_i b n all;refine .inr ⟨b,0,all.length,all.map bc,5,(0,0),?_,w.left.one,?_,?_⟩
  ·simp[V2 a]
  ·simp;omega
  ·simp
def Rd.len {h:H}{v:Vz}{bs:Bs}(r:Rd h v bs):∃ a c,v=.slice a bs.length c:=by
 rcases r with⟨a,c,d,e⟩|⟨b,o,c,all,T,fz,d,_⟩
 ·subst e;exact⟨_,c,d⟩
 ·exact⟨_,c,d⟩
def Rd.src {h:H}{v:Vz}{bs:Bs}(r:Rd h v bs)(n:Nat)(g:n<=bs.length):By 1 n h v=some (bcs (bs.take n)):=by
 rcases r with⟨a,c,d,f⟩|⟨b,o,c,all,T,fz,d,f,j,i⟩
 ·subst d f;rw[Vi (by simp at g;omega)];simp[bcs]
 ·subst d;unfold By;simp only[f,M5];simp only[Z5,K3,if_false];rw[D0 (by simp;omega)];have e:(bs.take n).map bc=((all.drop o).take bs.length).take n:=by rw[i,J7]
  congr 1;apply P4;show _=(bs.take n).map bc;rw[e,T6,V2 g];simp[I3]
def Rd.srcLen {h:H}{v:Vz}{bs:Bs}(r:Rd h v bs):srcLen v=some bs.length:=by
 obtain⟨a,c,rfl⟩:=r.len;rfl
def BufV.srcv {v:Vz}{bs:Bs}{r x:Res}{h:H}(b:BufV v bs r)(w:AN (r+x) h):By 1 bs.length h v=some (bcs bs):=by
 have:=(b.rd w).src bs.length (I0 _)
 rwa [L1] at this
def FP (n:Nat):bcs (List.replicate n 0)=Array.replicate n  BE :=by
 apply P4;simp[bcs,bc]
def JJ {v:Vz}{bs news:Bs}{r x:Res}{h:H}{kt:Kt}(b:BufV v bs r)(w:AN (r+x) h)(a:bs.length+news.length<=140737488355328)
  (K:∀ m r' h,BufV m (bs++news) r'->AN (r'+x) h->kt m h):Mp 5 (Am TP 5) 1 1 v news.length (bcs news) h kt:=by
 have d:=b.srcv w;cases b with
 | nil=>
  refine⟨none,0,0,Ax,#[],rfl,Vt,rfl,by simpa using a,by simpa using a,rfl,fun i=>?_,fun _ b o g p l e j f=>?_⟩
  ·have:news=[]:=X4.1 (by omega);subst this;exact .inl ⟨rfl,rfl,K _ _ h .nil w⟩
  ·rw[ZN,show (#[]:Array Vz)++bcs news=bcs news by simp,<-IM] at f;exact K _ _ g (.own' (by simp) (by simp;omega) (by rw[U1,L2 (I0 _),L1];rfl)) (w.right.new e j f)
 | own s=>
  rename_i b n all;have q:(all.take n).length=n:=by simp[V2 s]
  rw[q] at a d;refine⟨_,n,all.length,Ax,_,rfl,Vt,rfl,by simpa using a,a,d,fun i=>?_,fun _ t o g p l e j f=>?_⟩
  ·refine .inr ⟨_,_,5,rfl,rfl,w.left.one,by simp[DX];exact i,LD _,?_⟩;have c:n+news.length<=all.length:=i;simp only[U1,M5];rw[Ds c];exact K _ _ _ (.own' (by rw[Ad c];exact c) (Ad c) (by
    unfold setL;rw[L2 (by simp;omega),X2 (by simp;omega)])) (w.set (o':=.cells (bcs (setL all n news)) 5 (0,0)))
  ·rw[ZN,<-IM,<-IM] at f;exact K _ _ g (.own' (by simp;omega) (by simp;omega) (by
    rw[L2 (by simp;omega),X2 (by simp;omega)])) (w.right.new e j f)
def Bu {v s:Vz}{bs news:Bs}{r x:Res}{h:H}{kt:Kt}(b:BufV v bs r)(w:AN (r+x) h)(rd:Rd h s news)(a:bs.length+news.length<=140737488355328)
  (K:∀ c r' h,BufV c (bs++news) r'->AN (r'+x) h->kt c h):Ac 5 (Am TP 5) 1 1 v s h kt:=by
 refine⟨news.length,bcs news,rd.srcLen,?_,JJ b w a K⟩;have:=rd.src news.length (I0 _)
 rwa [L1] at this
def LB {v:Vz}{bs:Bs}{r x:Res}{h:H}{kt:Kt}{kk:Iq}{n:Nat}(b:BufV v bs r)(w:AN (r+x) h)(a:bs.length+n<=140737488355328)
  (K:∀ c r' h,BufV c (bs++List.replicate n 0) r'->AN (r'+x) h->kt c h):HY 5 (Am TP 5) 1 1 v (.int kk n) h kt:=by
 refine⟨kk,n,Ax,rfl,by omega,by omega,by omega,Vt,?_⟩;have:=JJ (news:=List.replicate n 0) b w (by simpa using a) K;simp only[M0] at this;have e:(if (n:Int).toNat*1=0 then #[] else Builtin.zeroCells (Value.int .u8 0).cells (n:Int).toNat)=bcs (List.replicate n 0):=by
  rw[ZN];by_cases d:n=0
  ·subst d;rfl
  ·rw[F0 (by omega)];simp
 rw[e];simpa using this
def Dh {x:Res}{h:H}{kt:Kt}{n:Nat}{parts:List (Nat×Vz)}{l:Bs}(w:AN x h)(j:n<=16777216)(f:Du (DB (.arr 1)) (List.replicate n BE ) parts=some (l.map bc))(i:l.length=n)
  (K:∀ b h,AN (buf b l+x) h->kt (.slice (some ⟨b,0,none⟩) n n) h):AK (.arr 1) 5 (Am TP 5) 1 n parts h kt:=
 ⟨.int .u8 0,bcs l,Vt,by omega,by
  have e:(if n*1=0 then #[] else BN (Value.int .u8 0).cells (n*1))=⟨List.replicate n  BE ⟩:=by
   by_cases c:n=0
   ·subst c;rfl
   ·rw[F0 (by omega),M5];exact Cv rfl
  rw[e];exact EE _ _ _ f,fun b a e d g=>K b a (w.new e d g)⟩
def Yv {b:Nat}{l:Bs}{x:Res}{h:H}{n:Nat}(w:AN x h)[f:Be b x (.cells (bcs l) 5 (0,0))](a:l.length=n):Rd h (.slice (some ⟨b,0,none⟩) n n) l:=
 .inr ⟨b,0,n,l.map bc,5,(0,0),by rw[a],w.find,by simp,by simp[<-J7]⟩
structure Ops (α:Type) where
 q:Kt->Vz->H->α
 j:{F:List Vz->H->Prop}->List Vz->H->α
 fls:α
 tru:α
 and:α->α->α
 eq:Vz->Vz->α
 c:{v:Vz}->Vz
 tup:List Vz->Vz
 fn:Fn->List Vz->List Vz->Vz
 ite:Vz->α->α->α
 gd:Vz->Bool->α->α->α
 sk:Vz->Bool->α->α
 pick:Vz->Vz->Vz->(Vz->α)->α
 alloc:Tj->H->(Vz->H->α)->α
 new:Tj->Vz->H->(Vz->H->α)->α
 build:BuildKind->Tj->List (Nat×Vz)->(Vz->α)->α
 bslice:Tj->Nat->Nat->List (Nat×Vz)->H->(Vz->H->α)->α
 load:Bool->Nat->Vz->H->(Vz->α)->α
 store:Nat->Vz->Vz->H->(H->α)->α
 nilc:Vz->(Vz->α)->α
 bin:BinOp->Vz->Vz->(Vz->α)->α
 eqn:EqKind->Bool->Bool->H->Vz->Vz->(Vz->α)->α
 un:UnOp->Vz->(Vz->α)->α
 convI:Iq->Vz->(Vz->α)->α
 isS:Vz->α
 s2b:Tj->Vz->H->(Vz->H->α)->α
 b2s:Vz->H->(Vz->α)->α
 newM:H->(Vz->H->α)->α
 mkS:Tj->Nat->Nat->Vz->Vz->H->(Vz->H->α)->α
 slice:SliceKind->Vz->Option Vz->Option Vz->(Vz->α)->α
 field:Nat->Vz->(Vz->α)->α
 fieldV:Bool->Nat->Nat->Vz->(Vz->α)->α
 idx:SliceKind->Vz->Vz->(Vz->α)->α
 idxS:Vz->Vz->(Vz->α)->α
 idxA:Bool->Nat->Nat->Vz->Vz->(Vz->α)->α
 look:Option TypeDesc->Tj->Bool->Vz->Vz->H->(Vz->α)->α
 mput:Option TypeDesc->Vz->Vz->Vz->H->(H->α)->α
 mdel:Option TypeDesc->Vz->Vz->H->(H->α)->α
 range:Vz->H->(Vz->H->α)->α
 next:Vz->H->(Vz->H->α)->α
 entry:Vz->H->(Vz->α)->α
 assert:Tj->Bool->Vz->(Vz->α)->α
 extract:Vz->Nat->(Vz->α)->α
 call:FuncId->List Vz->H->(Vz->H->α)->α
 callV:Vz->List Vz->H->(Vz->H->α)->α
 lenS:Vz->(Vz->α)->α
 lenL:Vz->(Vz->α)->α
 capL:Vz->(Vz->α)->α
 lenM:Vz->H->(Vz->α)->α
 min:Vz->Vz->(Vz->α)->α
 max:Vz->Vz->(Vz->α)->α
 app:Tj->Nat->Nat->Vz->Vz->H->(Vz->H->α)->α
 appZ:Tj->Nat->Nat->Vz->Vz->H->(Vz->H->α)->α
 copy:Nat->Vz->Vz->H->(Vz->H->α)->α
noncomputable def pO:Ops Prop where
 q Q v h:=Q v h
 j:=fun {F} l h=>F l h
 fls:=False
 tru:=True
 and A B:=A/\B
 eq a b:=a=b
 c:=fun {v}=>v
 tup l:=.tuple l.toArray
 fn f a b:=.func f a.toArray b.toArray
 ite:=BJ
 gd:=CR
 sk:=skN
 pick:=KU
 alloc t h k:=Ak (Am TP t) t h k
 new t v h k:=Bc t v.cells h k
 build d t l k:=An d (Am TP t) l k
 bslice e s n l h k:=AK (.arr s) e (Am TP e) s n l h k
 load:=Ae
 store:=BV
 nilc:=BS
 bin:=AQ
 eqn:=HF
 un:=unN
 convI:=GO
 isS v:=∃ s,v=.string s
 s2b:=AEU
 b2s:=r8
 newM:=Sn
 mkS e s b l c h k:=Aa (Am TP e) s b e l c h k
 slice:=Cf
 field:=Aw
 fieldV:=Ng
 idx:=Ap
 idxS:=Ef
 idxA:=Jq
 look d e b x y h k:=IV d (Am TP e) b x y h k
 mput:=Ld
 mdel:=Sh
 range:=HM
 next:=PH
 entry:=OO
 assert t b x k:=GJ t (Am TP t) b x k
 extract:=Ck
 call n l h k:=Call TP n l h k
 callV f l h k:=OH TP f l h k
 lenS:=PB
 lenL:=DM
 capL:=ZV
 lenM:=Uq
 min:=ADs
 max:=AGt
 app e s b x y h k:=Ac e (Am TP e) s b x y h k
 appZ e s b x y h k:=HY e (Am TP e) s b x y h k
 copy:=JB
class Fu (β:Type) where
 ap:β->List Vz->H->Prop
 un:Rec->β
instance:Fu (H->Prop):=⟨fun f _=>f,fun s=>s []⟩
instance {β:Type} [Fu β]:Fu (Vz->β):=⟨fun f l h=>match l with|a::l=>Fu.ap (f a) l h|[]=>False,fun s a=>Fu.un fun l=>s (a::l)⟩
inductive ALA where
 | no
 | jn (l:List Nat) (F:List Vz->H->Prop)
 | lp (cs vs:List Nat) (B:Rec->List Vz->H->Prop) (L:List Vz->H->Prop)
 | rc (vs:List Nat) (r:Rec)
abbrev Iw:=List (Nat×ALA)
def ZE:Iw->Nat->ALA
 | [],_=>.no
 | (k,c)::l,q=>bif Nat.beq k q then c else ZE l q
def glZ (l:List Vz):List Nat->Nat->List Vz
 | [],_=>[]
 | _::v,i=>gl l i::glZ l v (i+1)
def AHc (l:Iw)(q:Nat):Cut:=match ZE l q with
 | .jn l F=>.jn fun e h=>F (l.map e) h
 | .lp cs vs B _=>.lp cs vs fun s e l h=>B s (cs.map e++glZ l vs 0) h
 | _=>.no
def ARf (f n i:Nat):List Nat:=Nat.rec (motive:=fun _=>Nat->Nat->List Nat) (fun _ _=>[]) (fun _ ih n i=>bif Nat.beq n 0 then [] else bif Nat.beq (n%2) 1 then i::ih (n/2) (i+1) else ih (n/2) (i+1)) f n i
def bits:List Nat->List Nat
 | []=>[]
 | n::l=>bif Nat.blt n 1000 then n::bits l else ARf 600 (n/1000) (n%1000)++bits l
section
variable {β γ ρ:Type} [Fu β] [Fu γ] [Fu ρ]
def cj (k:Nat)(m:List Nat)(F:β)(T:Iw):Iw:=(2*k,.jn (bits m) (Fu.ap F))::T
def cl (k:Nat)(m n:List Nat)(B:ρ->β)(L:γ)(T:Iw):Iw:=(2*k+1,.lp (bits m) (bits n) (fun s=>Fu.ap (B (Fu.un s))) (Fu.ap L))::T
def cr (k:Nat)(n:List Nat)(r:ρ)(T:Iw):Iw:=(2*k+1,.rc (bits n) (Fu.ap r))::T
end
section
variable {β:Type}
noncomputable def fN (n:Nat)(k:Nat->β):β:=Nat.rec (motive:=fun _=>β) (k 0) (fun m _=>k (Nat.succ m)) n
noncomputable def fL (l:List Nat):(List Nat->β)->β:=List.rec (motive:=fun _=>(List Nat->β)->β) (fun k=>k []) (fun a _ ih k=>fN a fun a=>ih fun l=>k (a::l)) l
noncomputable def fB (l:List Bool):(List Bool->β)->β:=List.rec (motive:=fun _=>(List Bool->β)->β) (fun k=>k []) (fun a _ ih k=>match a with|true=>ih fun l=>k (true::l)|false=>ih fun l=>k (false::l)) l
end
inductive Sy where
 | v (x:Vz)
 | b (t:Bool)
 | u
def Sy.val:Sy->Vz
 | .v x=>x
 | .b t=>.bool t
 | .u=>undef
abbrev Ff:=Nat->Sy
def upZ (e:Ff)(i:Nat)(v:Sy):Ff:=fun j=>bif Nat.beq j i then v else e j
def AEB (e:Ff)(d:Option Tmp)(v:Sy):Ff:=match d with|some d=>upZ e d v|none=>e
section
variable {α:Type} (O:Ops α) (P:Program)
def evZ (e:Ff):Operand->Sy
 | .tmp t=>e t
 | .const v=>match v with|.bool t=>.b t|v=>.v (O.c (v:=v))
 | .global g=>.v (O.c (v:=.pointer (some ⟨g,0,none⟩)))
 | .func f=>.v (O.c (v:=.func (.func f) #[] #[]))
def opZ (o:Oper)(σ:Operand->Sy)(h:H)(kk:Sy->H->α):α:=
 let ρ:Operand->Vz:=fun x=>(σ x).val
 let k:Vz->H->α:=fun v=>kk (.v v)
 match o.op with
 | .move x=>kk (σ x) h
 | .assign x=>kk (σ x) h
 | .pick c a b=>match σ c with
  | .b t=>kk (bif t then σ a else σ b) h
  | s=>O.pick s.val (ρ a) (ρ b) fun v=>k v h
 | .alloc t=>O.alloc t h k
 | .box t x=>O.new t (ρ x) h k
 | .build t parts=>O.build (GN P t) t (parts.toList.map fun p=>(p.1,ρ p.2)) fun v=>k v h
 | .buildSlice t n parts=>match Gl P t with
  | some e=>O.bslice e (BM P e) n (parts.toList.map fun p=>(p.1,ρ p.2)) h k
  | none=>O.fls
 | .load t a=>O.load (DD P t) (BM P t) (ρ a) h fun v=>k v h
 | .store t a v=>O.store (BM P t) (ρ a) (ρ v) h fun h=>kk .u h
 | .nilCheck x=>O.nilc (ρ x) fun v=>k v h
 | .binOp op t x y _=>
  bif Ke P t then O.bin op (ρ x) (ρ y) fun v=>k v h
  else match Mn op with
   | some neg=>O.eqn (match P.underlying t with|some (.struct fs)=>(match Oc P 0 fs.toList with|some l=>.flat l|none=>.none)|_=>CL P t) (Fv x||Fv y) neg h (ρ x) (ρ y) fun v=>k v h
   | none=>O.fls
 | .unOp op _ x=>O.un op (ρ x) fun v=>k v h
 | .convert s d x=>
  match P.underlying s,P.underlying d with
  | some (.int _),some (.int kd)=>O.convI kd (ρ x) fun v=>k v h
  | some .string,some .string=>O.and (O.isS (ρ x)) (kk (σ x) h)
  | some .string,some (.slice e)=>O.s2b e (ρ x) h k
  | some (.slice _),some .string=>O.b2s (ρ x) h fun v=>k v h
  | _,_=>O.fls
 | .makeInterface t x=>k (.iface t (ρ x)) h
 | .makeFunc fn first captured=>k (O.fn fn (first.toList.map ρ) (captured.toList.map ρ)) h
 | .makeMap _ none=>O.newM h k
 | .makeSlice t l c=>match Gl P t with
  | some e=>O.mkS e (BM P e) (Fh P e) (ρ l) (ρ c) h k
  | none=>O.fls
 | .slice t x lo hi none=>O.slice (DU P t) (ρ x) (lo.map ρ) (hi.map ρ) fun v=>k v h
 | .fieldAddr t x f=>match SU P t f with
  | some off=>O.field off (ρ x) fun v=>k v h
  | none=>O.fls
 | .field t x f=>match P.underlying t with
  | some (.struct fs)=>match fs[f]? with
   | some fd=>O.fieldV (DD P fd.type) fd.offset (BM P fd.type) (ρ x) fun v=>k v h
   | none=>O.fls
  | _=>O.fls
 | .indexAddr t x i=>O.idx (DU P t) (ρ x) (ρ i) fun v=>k v h
 | .index t x i=>match P.underlying t with
  | some .string=>O.idxS (ρ x) (ρ i) fun v=>k v h
  | some (.array n e)=>O.idxA (DD P e) n (BM P e) (ρ x) (ρ i) fun v=>k v h
  | _=>O.fls
 | .lookup t x i ok=>match AGv P t with
  | some e=>O.look (Ov P t) e ok (ρ x) (ρ i) h fun v=>k v h
  | none=>O.fls
 | .mapUpdate t m i v=>O.mput (Ov P t) (ρ m) (ρ i) (ρ v) h fun h=>kk .u h
 | .range _ x=>O.range (ρ x) h k
 | .next x false=>O.next (ρ x) h k
 | .entry x=>O.entry (ρ x) h fun v=>k v h
 | .typeAssert x _ t ok=>O.assert t ok (ρ x) fun v=>k v h
 | .extract x i=>O.extract (ρ x) i fun v=>k v h
 | .call c=>match c.callee with
  | .value (.func f)=>O.call f (c.args.toList.map ρ) h k
  | .value f=>O.callV (ρ f) (c.args.toList.map ρ) h k
  | .builtin b=>match b,c.args.toList,c.argTypes.toList with
   | .len,[x],[t]=>match P.underlying t with
    | some .string=>O.lenS (ρ x) fun v=>k v h
    | some (.slice _)=>O.lenL (ρ x) fun v=>k v h
    | _=>O.lenM (ρ x) h fun v=>k v h
   | .cap,[x],_=>O.capL (ρ x) fun v=>k v h
   | .append,[s,x],[t,u]=>match Gl P t,P.underlying u with
    | some e,some (.int _)=>O.appZ e (BM P e) (Fh P e) (ρ s) (ρ x) h k
    | some e,_=>O.app e (BM P e) (Fh P e) (ρ s) (ρ x) h k
    | _,_=>O.fls
   | .copy,[d,x],[t,_]=>match Gl P t with
    | some e=>O.copy (BM P e) (ρ d) (ρ x) h k
    | none=>O.fls
   | .min,[x,y],_=>O.min (ρ x) (ρ y) fun v=>k v h
   | .max,[x,y],_=>O.max (ρ x) (ρ y) fun v=>k v h
   | .delete,[m,x],t::_=>O.mdel (Ov P t) (ρ m) (ρ x) h fun h=>k (O.tup []) h
   | _,_,_=>O.fls
  | _=>O.fls
 | _=>O.fls
def gdZ (c:Sy)(w:Bool)(A B:α):α:=match c with
 | .b t=>bif t == w then A else B
 | .u=>O.fls
 | .v x=>O.gd x w A B
def skZ (c:Sy)(w:Bool)(B:α):α:=match c with
 | .b t=>bif t == w then O.fls else B
 | .u=>B
 | .v x=>O.sk x w B
noncomputable def ARu (ops:Array Oper)(f:Nat):Nat×Bool->Ff->(Ff->α)->(Ff->α)->α:=
 Nat.rec (motive:=fun _=>Nat×Bool->Ff->(Ff->α)->(Ff->α)->α) (fun _ _ _ _=>O.fls)
  (fun _ ih g e A B=>match ops[g.1]? with
  | some oj=>match oj.dst with
   | some d=>match oj.guard with
    | none=>gdZ O (e d) g.2 (A (upZ e d (.b g.2))) (B (upZ e d (.b (!g.2))))
    | some g'=>ih g' e (fun e=>gdZ O (e d) g.2 (A (upZ e d (.b g.2))) (B (upZ e d (.b (!g.2))))) (fun e=>skZ O (e d) g.2 (B e))
   | none=>O.fls
  | none=>O.fls) f
noncomputable def ANL (ops:Array Oper)(g:Option (Nat×Bool))(e:Ff)(A B:Ff->α):α:=
 match g with
 | none=>A e
 | some g=>ARu O ops 9 g e A B
noncomputable def AR3 (ops:Array Oper)(l:List Oper):(Ff->H->α)->Ff->H->α:=
 List.rec (motive:=fun _=>(Ff->H->α)->Ff->H->α) (fun K=>K)
  (fun o _ ih K e h=>ANL O ops o.guard e
   (fun e=>opZ O P o (evZ O e) h fun v h'=>ih K (AEB e o.dst v) h')
   (fun e=>ih K (AEB e o.dst .u) h)) l
noncomputable def ANQ (ops:Array Oper)(l:List Nat):Ff->H->α->α:=
 List.rec (motive:=fun _=>Ff->H->α->α) (fun _ _ A=>A)
  (fun j _ ih e h A=>O.and (match ops[j]? with
  | some o=>ANL O ops o.guard e (fun e=>opZ O P o (evZ O e) h fun v _=>O.eq v.val (match o.dst with|some d=>(e d).val|none=>undef)) (fun _=>O.tru)
  | none=>O.fls) (ih e h A)) l
noncomputable def AK5 (ops:Array Oper)(i:Nat)(ks:List Nat)(K:Ff->H->α)(e:Ff)(h:H):α:=
 match ops[i]? with
 | some o=>ANL O ops o.guard e
   (fun e=>opZ O P o (evZ O e) h fun v h'=>ANQ O P ops ks (AEB e o.dst v) h' (K (AEB e o.dst v) h'))
   (fun e=>K (AEB e o.dst .u) h)
 | none=>O.fls
noncomputable def AOn (F:Nat->Ff->H->α)(l:List Nat):Ff->H->α:=
 List.rec (motive:=fun _=>Ff->H->α) (fun _ _=>O.tru) (fun i r ih e h=>match r with|[]=>F i e h|_=>O.and (F i e h) (ih e h)) l
def APe (rs:List ResultVar)(e:Ff)(h:H)(Q:Kt):α:=
 match rs with
 | [.tmp t]=>O.q Q (e t).val h
 | [.cell a t]=>O.load (DD P t) (BM P t) (e a).val h fun v=>O.q Q v h
 | [.cell a t,.tmp u]=>O.load (DD P t) (BM P t) (e a).val h fun v=>O.q Q (O.tup [v,(e u).val]) h
 | _=>O.q Q (O.tup (rs.map fun r=>match r with|.tmp t=>(e t).val|_=>undef)) h
variable (T:Iw)
def AKp (C:ALA)(K:Ff->H->α):Ff->H->α:=match C with|.jn l F=>fun e h=>O.j (F:=F) (l.map fun i=>(e i).val) h|_=>K
noncomputable def ARe (p:Nat)(ops:Array Oper)(pl:Kw)(f:Nat):Nat->Nat->(Ff->H->α)->Ff->H->α:=
 Nat.rec (motive:=fun _=>Nat->Nat->(Ff->H->α)->Ff->H->α) (fun _ _ K=>K)
  (fun _ ih L R K e h=>
   let ih:=fun L R K=>match ZE T ((2*p+1)*2^64+L) with|.jn l F=>fun e h=>O.j (F:=F) (l.map fun i=>(e i).val) h|_=>ih L R K
   fL (Fo L pl.deps 0) fun r=>match r with
   | []=>K e h
   | r=>match FH pl r with
    | some i=>fN (L ||| (1 <<< i)) fun L=>AK5 O P ops i [] (ih L R K) e h
    | none=>AOn O (fun i=>fN (L ||| (1 <<< i)) fun L=>fN (R ||| pl.befs.getD i 0) fun R=>fL (bif pl.asg.getD i false then [] else Kg L R pl.looks 0) fun ks=>AK5 O P ops i ks (ih L R K)) r e h) f
noncomputable def AH8 (p:Nat)(ops:Array Oper)(L R:Nat)(K:Ff->H->α):Ff->H->α:=
 fL (ops.toList.map depB) fun d=>fL (Ts d []) fun b=>fB (ops.toList.map (calmB P)) fun c=>fB (ops.toList.map (looksB P)) fun l=>fB (ops.toList.map assignB) fun a=>
  ARe O P T p ops ⟨d,b,c,l,a⟩ ops.size L R K
noncomputable def ARG (c:Code):Nat->(Ff->H->α)->(Ff->H->α)->(Nat->Ff->H->α)->Ff->H->α:=
 Code.rec (motive:=fun _=>Nat->(Ff->H->α)->(Ff->H->α)->(Nat->Ff->H->α)->Ff->H->α)
  (fun _ Kn _ _=>Kn)
  (fun _ ops draw p Kn _ _=>bif draw then AH8 O P T p ops 0 0 Kn else AR3 O P ops ops.toList Kn)
  (fun _ _ ia ib p Kn Kr Kx=>ia (2*p) (AKp O (ZE T (2*(2*p+1))) (ib (2*p+1) Kn Kr Kx)) Kr Kx)
  (fun c _ _ ia ib p Kn Kr Kx e h=>match c with
   | .tmp t=>match e t with
    | .b true=>ia (2*p) Kn Kr Kx e h
    | .b false=>ib (2*p+1) Kn Kr Kx e h
    | s=>O.ite s.val (ia (2*p) Kn Kr Kx (upZ e t (.b true)) h) (ib (2*p+1) Kn Kr Kx (upZ e t (.b false)) h)
   | _=>O.fls)
  (fun id _ ib p Kn Kr Kx=>ib (2*p) Kn Kr (fun i=>bif Nat.beq i id then Kn else Kx i))
  (fun _ _ p _ _ _=>match ZE T (2*p+1) with|.lp cs vs _ L=>fun e h=>O.j (F:=L) ((cs++vs).map fun i=>(e i).val) h|_=>fun _ _=>O.fls)
  (fun _ _ _ _ _ _ _ _ _ _ _ _=>O.fls) (fun i _ _ _ Kx=>Kx i) (fun _ _ _ _ _ _ _ _=>O.fls) (fun _ _ _ _ _ _ _=>O.fls) (fun _ _ _ _ _ _ _=>O.fls)
  (fun _ _ Kr _=>Kr) (fun _ _ _ _ _ _ _=>O.fls) c
def ARY:Nat->Nat->List Bool->List Bool
 | 0,_,l=>l
 | f+1,t,l=>bif Nat.ble t 1 then l else ARY f (t/2) (Nat.beq (t%2) 1::l)
noncomputable def atZ (L R:Nat)(l:List Bool):Nat->Code->(Ff->H->α)->(Ff->H->α)->(Nat->Ff->H->α)->Ff->H->α:=
 List.rec (motive:=fun _=>Nat->Code->(Ff->H->α)->(Ff->H->α)->(Nat->Ff->H->α)->Ff->H->α) (fun p c Kn=>match c with|.region _ ops true=>fun _ _=>AH8 O P T p ops L R Kn|_=>ARG O P T c p Kn)
  (fun b _ ih p c Kn Kr Kx=>match c with
   | .seq x y=>bif b then ih (2*p+1) y Kn Kr Kx else ih (2*p) x (AKp O (ZE T (2*(2*p+1))) (ARG O P T y (2*p+1) Kn Kr Kx)) Kr Kx
   | .cond _ x y=>bif b then ih (2*p+1) y Kn Kr Kx else ih (2*p) x Kn Kr Kx
   | .block id x=>ih (2*p) x Kn Kr (fun i=>bif Nat.beq i id then Kn else Kx i)
   | .loop x=>match ZE T (2*p+1) with|.rc vs r=>ih (2*p) x (fun e h=>O.j (F:=r) (vs.map fun i=>(e i).val) h) Kr Kx|_=>fun _ _=>O.fls
   | _=>fun _ _=>O.fls) l
end
def AFV:List Nat->List Vz->Ff
 | i::l,v::m=>fun j=>bif Nat.beq j i then .v v else AFV l m j
 | _,_=>fun _=>.u
abbrev Txt:=(α:Type)->Ops α->α
noncomputable def YZ (n:Nat):Func:=match TP.funcs[n]? with|some f=>f|none=>⟨"", "",#[],#[],#[],0,0,#[],none,false,false, "",0,none,[],#[]⟩
noncomputable def fnZ (T:Iw)(t L R n:Nat)(e:Ff)(h:H)(Q:Kt):Txt:=fun _ O=>
 atZ O TP T L R (ARY 999 t []) 1 (Fj (YZ n)) (fun e h=>APe O TP (YZ n).results.toList e h Q) (fun e h=>APe O TP (YZ n).results.toList e h Q) (fun _ _ _=>O.fls) e h
abbrev AW (T:Iw)(t:Nat)(m:List Nat)(n:Nat)(l:List Vz)(h:H)(Q:Kt){p:Txt}{r:Prop}(_:fnZ T t 0 0 n (AFV (bits m) l) h Q=p)(_:p Prop pO=r):Prop:=r
abbrev BL {ρ:Type}[Fu ρ](k:Nat)(m v:List Nat)(c:ρ)(n:Nat)(l:List Vz)(h:H)(Q:Kt)(T:Iw){p:Txt}{r:Prop}(_:fnZ (cr k v c T) (2*k) 0 0 n (AFV (bits m++bits v) l) h Q=p)(_:p Prop pO=r):Prop:=r
abbrev DW (T:Iw)(t L R:Nat)(m:List Nat)(n:Nat)(l:List Vz)(h:H)(Q:Kt){p:Txt}{r:Prop}(_:fnZ T t L R n (AFV (bits m) l) h Q=p)(_:p Prop pO=r):Prop:=r
def ct {β:Type}[Fu β](k L:Nat)(m:List Nat)(F:β)(T:Iw):Iw:=((2*k+1)*2^64+L,.jn (bits m) (Fu.ap F))::T
theorem Cn {α:Type}(l:List α):Array.mk l=l.toArray:=rfl
def nO:RS->Iw:=fun _=>[]
def Bp {n:FuncId}{args:List Vz}{h:H}{Q:Kt}{A:Prop}(T:RS->Iw)
  (hk:((TP.funcs[n]?).isSome,wfB TP args.length (YZ n),FD TP (fun r=>AHc (T r)) false (fun _ _ _=>False) 1 (Fj (YZ n)) (fun e h=>KQ TP (YZ n).results.toList e h Q) (fun e h=>KQ TP (YZ n).results.toList e h Q) (fun _ _ _=>False),A) =
   (true,true,FD TP (fun r=>AHc (T r)) true (fun _ _ _=>False) 1 (Fj (YZ n)) (fun e h=>KQ TP (YZ n).results.toList e h Q) (fun e h=>KQ TP (YZ n).results.toList e h Q) (fun _ _ _=>False),
    JW TP (fun r=>AHc (T r)) (fun _ _ _=>False) 1 (Fj (YZ n)) (fun e h=>KQ TP (YZ n).results.toList e h Q) (fun e h=>KQ TP (YZ n).results.toList e h Q) (fun _ _ _=>False) (tq args) h)) (x:A):Call TP n args h Q:=by
 simp only[D7] at hk;obtain⟨h0,h1⟩:=hk;obtain⟨fn,hf⟩:=Option.isSome_iff_exists.1 h0;have e:YZ n=fn:=by unfold YZ;rw[hf]
 rw[e] at h1;exact okX (fun r=>AHc (T r)) hf (by simp only[D7];exact h1) x
set_option maxHeartbeats 4000000
section
variable (Q:Kt)(r0:R0)(r1:R1)(r2:R2)(r3:R3)(r4:R4)(r5:R5)(s0:R0)(s1:R1)(s2:R2)(s3:R3)(a b c d e f g i j k l m n o p q r s t u v:Vz)(h:H)(K:Kt)
def AMH:=AW [] 1 [0,1] 172 [a,b] h K (by conv=>lhs;reduce) (by dsimp only[pO,Fu.ap])
def AMI:=AW [] 1 [0,1] 173 [a,b] h K (by conv=>lhs;reduce) (by dsimp only[pO,Fu.ap])
def AMJ:=AW [] 1 [0,1] 174 [a,b] h K (by conv=>lhs;reduce) (by dsimp only[pO,Fu.ap])
def AKa:=AW [] 511 [2,3013] 92 [a,b,c] h Q (by conv=>lhs;reduce) (by dsimp only[pO,Fu.ap])
def AKY:=cj 511 [2,3013] (AKa Q) []
def AKb:=AW (AKY Q) 127 [13317000] 92 [a,b,c,d,e] h Q (by conv=>lhs;reduce) (by dsimp only[pO,Fu.ap])
def AKZ:=cj 127 [13317000] (AKb Q) (AKY Q)
def f92:=AW (AKZ K) 1 [7000] 92 [a,b,c] h K (by conv=>lhs;reduce) (by dsimp only[pO,Fu.ap])
def ALQ:=AW [] 1 [0] 108 [a] h K (by conv=>lhs;reduce) (by dsimp only[pO,Fu.ap])
def ALR:=AW [] 1 [0] 110 [a] h K (by conv=>lhs;reduce) (by dsimp only[pO,Fu.ap])
def AAB:=AW (cr 28 [2,7] r2 []) 113 [2,7] 152 [a,b] h Q (by conv=>lhs;reduce) (by dsimp only[pO,Fu.ap])
def z8:=cj 113 [2,7] (AAB Q r2) (cr 28 [2,7] r2 [])
def Xi:=BL 28 [] [2,7] r2 152 [a,b] h Q (z8 Q r2) (by conv=>lhs;reduce) (by dsimp only[pO,Fu.ap])
def AAC:=Ca (fun r2=>Xi Q r2) a b h
def AAA:=cl 28 [] [2,7] (Xi Q) (AAC Q) []
def ALy:=AW (AAA K) 1 [7000] 152 [a,b,c] h K (by conv=>lhs;reduce) (by dsimp only[pO,Fu.ap])
def Xn:=BL 26 [0,1] [5] r1 164 [a,b,c] h Q [] (by conv=>lhs;reduce) (by dsimp only[pO,Fu.ap])
def AMB:=BQ (fun r1=>Xn Q r1 a b) c h
def AAQ:=cl 26 [0,1] [5] (Xn Q) (AMB Q) []
def AMA:=AW (AAQ K) 1 [0,1] 164 [a,b] h K (by conv=>lhs;reduce) (by dsimp only[pO,Fu.ap])
def f98:=AW [] 1 [0,1] 98 [a,b] h K (by conv=>lhs;reduce) (by dsimp only[pO,Fu.ap])
def AFY:=AW [] 1 [0] 100 [a] h K (by conv=>lhs;reduce) (by dsimp only[pO,Fu.ap])
def AFZ:=AW [] 1 [0,1] 101 [a,b] h K (by conv=>lhs;reduce) (by dsimp only[pO,Fu.ap])
def vu:=AW [] 1 [0,1] 116 [a,b] h K (by conv=>lhs;reduce) (by dsimp only[pO,Fu.ap])
def Rp:=AW [] 3 [0,1] 117 [a,b] h Q (by conv=>lhs;reduce) (by dsimp only[pO,Fu.ap])
def vw:=cj 3 [0,1] (Rp Q) []
def ot:=AW (vw K) 1 [0,1] 117 [a,b] h K (by conv=>lhs;reduce) (by dsimp only[pO,Fu.ap])
def AMY:=AW [] 1 [0] 191 [a] h K (by conv=>lhs;reduce) (by dsimp only[pO,Fu.ap])
def f57:=AW [] 1 [0,1] 57 [a,b] h K (by conv=>lhs;reduce) (by dsimp only[pO,Fu.ap])
def ik:=AW [] 125 [0,45] 91 [a,b] h Q (by conv=>lhs;reduce) (by dsimp only[pO,Fu.ap])
def AKW:=cj 125 [0,45] (ik Q) []
def UO:=AW (AKW Q) 7 [0] 91 [a] h Q (by conv=>lhs;reduce) (by dsimp only[pO,Fu.ap])
def AKX:=cj 7 [0] (UO Q) (AKW Q)
def YU:=AW (AKX K) 1 [0] 91 [a] h K (by conv=>lhs;reduce) (by dsimp only[pO,Fu.ap])
def f93:=AW [] 1 [0] 93 [a] h K (by conv=>lhs;reduce) (by dsimp only[pO,Fu.ap])
def f96:=AW [] 1 [15000] 96 [a,b,c,d] h K (by conv=>lhs;reduce) (by dsimp only[pO,Fu.ap])
def ALN:=AW [] 1 [0] 104 [a] h K (by conv=>lhs;reduce) (by dsimp only[pO,Fu.ap])
def AFe:=AW [] 1 [0] 109 [a] h K (by conv=>lhs;reduce) (by dsimp only[pO,Fu.ap])
def vt:=AW [] 7 [0,1] 115 [a,b] h Q (by conv=>lhs;reduce) (by dsimp only[pO,Fu.ap])
def vq:=cj 7 [0,1] (vt Q) []
def vp:=AW (vq K) 1 [0,1] 115 [a,b] h K (by conv=>lhs;reduce) (by dsimp only[pO,Fu.ap])
def um:=AW (cr 66867114 [] s0 (cr 1020 [6,7] r2 [])) 267468457 [249000] 107 [a,b,c,d,e,f] h Q (by conv=>lhs;reduce) (by dsimp only[pO,Fu.ap])
def ub:=cj 267468457 [249000] (um Q r2 s0) (cr 66867114 [] s0 (cr 1020 [6,7] r2 []))
def WX:=BL 66867114 [249000] [] s0 107 [a,b,c,d,e,f] h Q (ub Q r2 s0) (by conv=>lhs;reduce) (by dsimp only[pO,Fu.ap])
def Wa:=Nz (fun s0=>WX Q r2 s0 a b c d e f) h
def ud:=cl 66867114 [249000] [] (WX Q r2) (Wa Q r2) (cr 1020 [6,7] r2 [])
def ALP:=AW (ud Q r2) 133734237 [121000] 107 [a,b,c,d,e] h Q (by conv=>lhs;reduce) (by dsimp only[pO,Fu.ap])
def ue:=cj 133734237 [121000] (ALP Q r2) (ud Q r2)
def WY:=BL 4179198 [185000] [6] s1 107 [a,b,c,d,e,f] h Q (ue Q r2) (by conv=>lhs;reduce) (by dsimp only[pO,Fu.ap])
def Wb:=BQ (fun s1=>WY Q r2 s1 a b c d e) f h
def uf:=cl 4179198 [185000] [6] (WY Q r2) (Wb Q r2) (ue Q r2)
def WZ:=AW (uf Q r2) 2089599 [249000] 107 [a,b,c,d,e,f] h Q (by conv=>lhs;reduce) (by dsimp only[pO,Fu.ap])
def ug:=cj 2089599 [249000] (WZ Q r2) (uf Q r2)
def uo:=AW (ug Q r2) 522399 [249000,80] 107 [a,b,c,d,e,f,g] h Q (by conv=>lhs;reduce) (by dsimp only[pO,Fu.ap])
def uh:=cj 522399 [249000,80] (uo Q r2) (ug Q r2)
def uq:=AW (uh Q r2) 130599 [249000,60] 107 [a,b,c,d,e,f,g] h Q (by conv=>lhs;reduce) (by dsimp only[pO,Fu.ap])
def uj:=cj 130599 [249000,60] (uq Q r2) (uh Q r2)
def WW:=BL 1020 [57000] [6,7] r2 107 [a,b,c,d,e,f] h Q (uj Q r2) (by conv=>lhs;reduce) (by dsimp only[pO,Fu.ap])
def ut:=Ca (fun r2=>WW Q r2 a b c d) e f h
def uk:=cl 1020 [57000] [6,7] (WW Q) (ut Q) []
def ur:=AW (uk Q) 255 [249000] 107 [a,b,c,d,e,f] h Q (by conv=>lhs;reduce) (by dsimp only[pO,Fu.ap])
def ul:=cj 255 [249000] (ur Q) (uk Q)
def ALO:=AW (ul K) 1 [0] 107 [a] h K (by conv=>lhs;reduce) (by dsimp only[pO,Fu.ap])
def Xm:=AW [] 3 [0,1] 161 [a,b] h Q (by conv=>lhs;reduce) (by dsimp only[pO,Fu.ap])
def AAN:=cj 3 [0,1] (Xm Q) []
def AAP:=AW (AAN Q) 41 [0,1,31] 161 [a,b,c] h Q (by conv=>lhs;reduce) (by dsimp only[pO,Fu.ap])
def AAO:=cj 41 [0,1,31] (AAP Q) (AAN Q)
def AL7:=AW (AAO K) 1 [0,1] 161 [a,b] h K (by conv=>lhs;reduce) (by dsimp only[pO,Fu.ap])
def AL8:=AW [] 1 [0,1] 162 [a,b] h K (by conv=>lhs;reduce) (by dsimp only[pO,Fu.ap])
def AL9:=AW [] 1 [0] 163 [a] h K (by conv=>lhs;reduce) (by dsimp only[pO,Fu.ap])
def AFx:=AW [] 1 [0] 153 [a] h K (by conv=>lhs;reduce) (by dsimp only[pO,Fu.ap])
def ALz:=AW [] 1 [0] 154 [a] h K (by conv=>lhs;reduce) (by dsimp only[pO,Fu.ap])
def AL0:=AW [] 1 [7000] 155 [a,b,c] h K (by conv=>lhs;reduce) (by dsimp only[pO,Fu.ap])
def AL1:=AW (cr 60050 [9] s1 (cr 938 [8] r1 [])) 240201 [931000] 156 [a,b,c,d,e,f] h Q (by conv=>lhs;reduce) (by dsimp only[pO,Fu.ap])
def AAD:=cj 240201 [931000] (AL1 Q r1 s1) (cr 60050 [9] s1 (cr 938 [8] r1 []))
def AAJ:=BL 60050 [419000] [9] s1 156 [a,b,c,d,e,f] h Q (AAD Q r1 s1) (by conv=>lhs;reduce) (by dsimp only[pO,Fu.ap])
def AL3:=BQ (fun s1=>AAJ Q r1 s1 a b c d e) f h
def AAE:=cl 60050 [419000] [9] (AAJ Q r1) (AL3 Q r1) (cr 938 [8] r1 [])
def AAI:=BL 938 [163000] [8] r1 156 [a,b,c,d,e] h Q (AAE Q r1) (by conv=>lhs;reduce) (by dsimp only[pO,Fu.ap])
def AL2:=BQ (fun r1=>AAI Q r1 a b c d) e h
def AAF:=cl 938 [163000] [8] (AAI Q) (AL2 Q) []
def Xj:=AW (AAF Q) 29 [35000,52] 156 [a,b,c,d] h Q (by conv=>lhs;reduce) (by dsimp only[pO,Fu.ap])
def AAG:=cj 29 [35000,52] (Xj Q) (AAF Q)
def Xk:=AW (AAG Q) 7 [35000] 156 [a,b,c] h Q (by conv=>lhs;reduce) (by dsimp only[pO,Fu.ap])
def AAH:=cj 7 [35000] (Xk Q) (AAG Q)
def ou:=AW (AAH K) 1 [7000] 156 [a,b,c] h K (by conv=>lhs;reduce) (by dsimp only[pO,Fu.ap])
def AF1:=AW [] 1 [0] 158 [a] h K (by conv=>lhs;reduce) (by dsimp only[pO,Fu.ap])
def AL6:=AW [] 1 [0] 160 [a] h K (by conv=>lhs;reduce) (by dsimp only[pO,Fu.ap])
def OW:=BL 62 [3019] [7006,21] r4 169 [a,b,c,d,e,f] h Q [] (by conv=>lhs;reduce) (by dsimp only[pO,Fu.ap])
def AAY:=AH1 (fun r4=>OW Q r4 a b) c d e f h
def AAX:=cl 62 [3019] [7006,21] (OW Q) (AAY Q) []
def AMF:=AW (AAX K) 1 [7000] 169 [a,b,c] h K (by conv=>lhs;reduce) (by dsimp only[pO,Fu.ap])
def AAc:=AW [] 1 [0,1] 170 [a,b] h K (by conv=>lhs;reduce) (by dsimp only[pO,Fu.ap])
def YD:=BL 26 [0,6] [7] r1 196 [a,b,c] h Q [] (by conv=>lhs;reduce) (by dsimp only[pO,Fu.ap])
def AA4:=BQ (fun r1=>YD Q r1 a b) c h
def AA3:=cl 26 [0,6] [7] (YD Q) (AA4 Q) []
def AMc:=AW (AA3 K) 1 [0] 196 [a] h K (by conv=>lhs;reduce) (by dsimp only[pO,Fu.ap])
def AMd:=AW [] 1 [0] 197 [a] h K (by conv=>lhs;reduce) (by dsimp only[pO,Fu.ap])
def AMi:=AW [] 1 [0,1] 205 [a,b] h K (by conv=>lhs;reduce) (by dsimp only[pO,Fu.ap])
def YF:=BL 122 [1] [5,7] r2 206 [a,b,c] h Q [] (by conv=>lhs;reduce) (by dsimp only[pO,Fu.ap])
def YH:=Ca (fun r2=>YF Q r2 a) b c h
def AA6:=cl 122 [1] [5,7] (YF Q) (YH Q) []
def YG:=BL 58 [0,1] [5,6] r2 206 [a,b,c,d] h Q (AA6 Q) (by conv=>lhs;reduce) (by dsimp only[pO,Fu.ap])
def AA8:=Ca (fun r2=>YG Q r2 a b) c d h
def AA7:=cl 58 [0,1] [5,6] (YG Q) (AA8 Q) (AA6 Q)
def AMj:=AW (AA7 K) 1 [0,1] 206 [a,b] h K (by conv=>lhs;reduce) (by dsimp only[pO,Fu.ap])
def AMn:=AW [] 1 [0,1] 210 [a,b] h K (by conv=>lhs;reduce) (by dsimp only[pO,Fu.ap])
def AMp:=AW [] 1 [0,1] 213 [a,b] h K (by conv=>lhs;reduce) (by dsimp only[pO,Fu.ap])
def AJY:=AW (cr 58 [7,8] r2 []) 7463 [899000,30] 66 [a,b,c,d,e,f] h Q (by conv=>lhs;reduce) (by dsimp only[pO,Fu.ap])
def AJW:=cj 7463 [899000,30] (AJY Q r2) (cr 58 [7,8] r2 [])
def ACD:=BL 58 [0,1] [7,8] r2 66 [a,b,c,d] h Q (AJW Q r2) (by conv=>lhs;reduce) (by dsimp only[pO,Fu.ap])
def AJZ:=Ca (fun r2=>ACD Q r2 a b) c d h
def AJX:=cl 58 [0,1] [7,8] (ACD Q) (AJZ Q) []
def f66:=AW (AJX K) 1 [7000] 66 [a,b,c] h K (by conv=>lhs;reduce) (by dsimp only[pO,Fu.ap])
def f65:=AW [] 1 [15000] 65 [a,b,c,d] h K (by conv=>lhs;reduce) (by dsimp only[pO,Fu.ap])
def ALZ:=AW [] 1 [7000] 122 [a,b,c] h K (by conv=>lhs;reduce) (by dsimp only[pO,Fu.ap])
def ya:=AW [] 7 [0,1] 129 [a,b] h Q (by conv=>lhs;reduce) (by dsimp only[pO,Fu.ap])
def xz:=cj 7 [0,1] (ya Q) []
def ALg:=AW (xz K) 1 [0,1] 129 [a,b] h K (by conv=>lhs;reduce) (by dsimp only[pO,Fu.ap])
def wo:=BL 128204 [1,6,7028] [7] s1 121 [a,b,c,d,e,f] h Q (cr 250 [30] r1 []) (by conv=>lhs;reduce) (by dsimp only[pO,Fu.ap])
def ALY:=BQ (fun s1=>wo Q r1 s1 a b c d e) f h
def wg:=cl 128204 [1,6,7028] [7] (wo Q r1) (ALY Q r1) (cr 250 [30] r1 [])
def wm:=BL 250 [1,3028] [30] r1 121 [a,b,c,d] h Q (wg Q r1) (by conv=>lhs;reduce) (by dsimp only[pO,Fu.ap])
def ALX:=BQ (fun r1=>wm Q r1 a b c) d h
def wh:=cl 250 [1,3028] [30] (wm Q) (ALX Q) []
def ALW:=AW (wh K) 1 [0,1] 121 [a,b] h K (by conv=>lhs;reduce) (by dsimp only[pO,Fu.ap])
def AMQ:=AW [] 1 [0,1] 181 [a,b] h K (by conv=>lhs;reduce) (by dsimp only[pO,Fu.ap])
def yd:=AW [] 61 [771003,30] 131 [a,b,c,d,e] h Q (by conv=>lhs;reduce) (by dsimp only[pO,Fu.ap])
def yc:=cj 61 [771003,30] (yd Q) []
def ALi:=AW (yc K) 1 [31000] 131 [a,b,c,d,e] h K (by conv=>lhs;reduce) (by dsimp only[pO,Fu.ap])
def ALa:=AW [] 1 [0,1] 123 [a,b] h K (by conv=>lhs;reduce) (by dsimp only[pO,Fu.ap])
def ALb:=AW [] 1 [0,1] 124 [a,b] h K (by conv=>lhs;reduce) (by dsimp only[pO,Fu.ap])
def ALc:=AW [] 1 [0,1] 125 [a,b] h K (by conv=>lhs;reduce) (by dsimp only[pO,Fu.ap])
def ACE:=BL 129342 [243000] [10] s1 67 [a,b,c,d,e,f,g] h Q (cr 126 [7] r1 []) (by conv=>lhs;reduce) (by dsimp only[pO,Fu.ap])
def ACH:=BQ (fun s1=>ACE Q r1 s1 a b c d e f) g h
def AJa:=cl 129342 [243000] [10] (ACE Q r1) (ACH Q r1) (cr 126 [7] r1 [])
def ACG:=AW (AJa Q r1) 8083 [243000] 67 [a,b,c,d,e,f] h Q (by conv=>lhs;reduce) (by dsimp only[pO,Fu.ap])
def AJb:=cj 8083 [243000] (ACG Q r1) (AJa Q r1)
def ACF:=BL 129322 [499000] [9] s1 67 [a,b,c,d,e,f,g,i] h Q (AJb Q r1) (by conv=>lhs;reduce) (by dsimp only[pO,Fu.ap])
def AJh:=BQ (fun s1=>ACF Q r1 s1 a b c d e f g) i h
def AJc:=cl 129322 [499000] [9] (ACF Q r1) (AJh Q r1) (AJb Q r1)
def gp:=BL 126 [115000] [7] r1 67 [a,b,c,d,e,f] h Q (AJc Q r1) (by conv=>lhs;reduce) (by dsimp only[pO,Fu.ap])
def AJg:=BQ (fun r1=>gp Q r1 a b c d e) f h
def AJd:=cl 126 [115000] [7] (gp Q) (AJg Q) []
def AJf:=AW (AJd Q) 15 [51000] 67 [a,b,c,d] h Q (by conv=>lhs;reduce) (by dsimp only[pO,Fu.ap])
def AJe:=cj 15 [51000] (AJf Q) (AJd Q)
def f67:=AW (AJe K) 1 [0,1] 67 [a,b] h K (by conv=>lhs;reduce) (by dsimp only[pO,Fu.ap])
def xy:=AW [] 7 [0,1] 128 [a,b] h Q (by conv=>lhs;reduce) (by dsimp only[pO,Fu.ap])
def xx:=cj 7 [0,1] (xy Q) []
def ALf:=AW (xx K) 1 [0,1] 128 [a,b] h K (by conv=>lhs;reduce) (by dsimp only[pO,Fu.ap])
def f45:=AW [] 1 [0] 45 [a] h K (by conv=>lhs;reduce) (by dsimp only[pO,Fu.ap])
def AML:=AW [] 1 [0,1] 177 [a,b] h K (by conv=>lhs;reduce) (by dsimp only[pO,Fu.ap])
def ALh:=AW [] 1 [0,1] 130 [a,b] h K (by conv=>lhs;reduce) (by dsimp only[pO,Fu.ap])
def ABb:=AW [] 2097151 [3,4] 25 [a,b] h Q (by conv=>lhs;reduce) (by dsimp only[pO,Fu.ap])
def AIW:=cj 2097151 [3,4] (ABb Q) []
def AIe:=AW (AIW Q) 1048575 [25000] 25 [a,b,c] h Q (by conv=>lhs;reduce) (by dsimp only[pO,Fu.ap])
def AIX:=cj 1048575 [25000] (AIe Q) (AIW Q)
def AIf:=AW (AIX Q) 524287 [25000] 25 [a,b,c] h Q (by conv=>lhs;reduce) (by dsimp only[pO,Fu.ap])
def AIY:=cj 524287 [25000] (AIf Q) (AIX Q)
def AIg:=AW (AIY Q) 262143 [25000] 25 [a,b,c] h Q (by conv=>lhs;reduce) (by dsimp only[pO,Fu.ap])
def AIZ:=cj 262143 [25000] (AIg Q) (AIY Q)
def AIh:=AW (AIZ Q) 131071 [25000] 25 [a,b,c] h Q (by conv=>lhs;reduce) (by dsimp only[pO,Fu.ap])
def AIa:=cj 131071 [25000] (AIh Q) (AIZ Q)
def AIi:=AW (AIa Q) 32767 [89000] 25 [a,b,c,d] h Q (by conv=>lhs;reduce) (by dsimp only[pO,Fu.ap])
def AIb:=cj 32767 [89000] (AIi Q) (AIa Q)
def ABc:=AW (AIb Q) 2047 [121000] 25 [a,b,c,d,e] h Q (by conv=>lhs;reduce) (by dsimp only[pO,Fu.ap])
def AIc:=cj 2047 [121000] (ABc Q) (AIb Q)
def AIj:=AW (AIc Q) 31 [25000] 25 [a,b,c] h Q (by conv=>lhs;reduce) (by dsimp only[pO,Fu.ap])
def AId:=cj 31 [25000] (AIj Q) (AIc Q)
def f25:=AW (AId K) 1 [0] 25 [a] h K (by conv=>lhs;reduce) (by dsimp only[pO,Fu.ap])
def ACM:=AW (cr 2046 [191] r1 []) 523879 [98497000,7189] 68 [a,b,c,d,e,f,g,i] h Q (by conv=>lhs;reduce) (by dsimp only[pO,Fu.ap])
def AJi:=cj 523879 [98497000,7189] (ACM Q r1) (cr 2046 [191] r1 [])
def ACK:=BL 2046 [0,6,7,3189] [191] r1 68 [a,b,c,d,e,f] h Q (AJi Q r1) (by conv=>lhs;reduce) (by dsimp only[pO,Fu.ap])
def ACQ:=BQ (fun r1=>ACK Q r1 a b c d e) f h
def ACI:=cl 2046 [0,6,7,3189] [191] (ACK Q) (ACQ Q) []
def gq:=AW (cr 508 [8] r1 (ACI Q)) 65071 [1523000] 68 [a,b,c,d,e,f,g,i] h Q (by conv=>lhs;reduce) (by dsimp only[pO,Fu.ap])
def ACJ:=cj 65071 [1523000] (gq Q r1) (cr 508 [8] r1 (ACI Q))
def ACN:=AW (cr 2082262 [8,71] s2 (ACJ Q r1)) 8528946815 [6131000,7069] 68 [a,b,c,d,e,f,g,i,j,k,l,m,n] h Q (by conv=>lhs;reduce) (by dsimp only[pO,Fu.ap])
def AJj:=cj 8528946815 [6131000,7069] (ACN Q r1 s2) (cr 2082262 [8,71] s2 (ACJ Q r1))
def ACO:=AW (AJj Q r1 s2) 533059175 [6131000,7069] 68 [a,b,c,d,e,f,g,i,j,k,l,m,n] h Q (by conv=>lhs;reduce) (by dsimp only[pO,Fu.ap])
def AJk:=cj 533059175 [6131000,7069] (ACO Q r1 s2) (AJj Q r1 s2)
def AJp:=AW (AJk Q r1 s2) 266529587 [6131000,7069] 68 [a,b,c,d,e,f,g,i,j,k,l,m,n] h Q (by conv=>lhs;reduce) (by dsimp only[pO,Fu.ap])
def AJl:=cj 266529587 [6131000,7069] (AJp Q r1 s2) (AJk Q r1 s2)
def ACL:=BL 2082262 [1779000,3069] [8,71] s2 68 [a,b,c,d,e,f,g,i,j,k,l,m] h Q (AJl Q r1 s2) (by conv=>lhs;reduce) (by dsimp only[pO,Fu.ap])
def ACS:=Ca (fun s2=>ACL Q r1 s2 a b c d e f g i j k) l m h
def AJm:=cl 2082262 [1779000,3069] [8,71] (ACL Q r1) (ACS Q r1) (ACJ Q r1)
def OY:=BL 508 [243000] [8] r1 68 [a,b,c,d,e,f,g] h Q (AJm Q r1) (by conv=>lhs;reduce) (by dsimp only[pO,Fu.ap])
def ACR:=BQ (fun r1=>OY Q r1 a b c d e f) g h
def AJn:=cl 508 [243000] [8] (OY Q) (ACR Q) (ACI Q)
def ACP:=AW (AJn Q) 7 [115000] 68 [a,b,c,d,e] h Q (by conv=>lhs;reduce) (by dsimp only[pO,Fu.ap])
def AJo:=cj 7 [115000] (ACP Q) (AJn Q)
def f68:=AW (AJo K) 1 [0,1] 68 [a,b] h K (by conv=>lhs;reduce) (by dsimp only[pO,Fu.ap])
def AJy:=AW (cr 1022 [20] r1 []) 65427 [0,1,3020,289] 69 [a,b,c,d,e] h Q (by conv=>lhs;reduce) (by dsimp only[pO,Fu.ap])
def AJq:=cj 65427 [0,1,3020,289] (AJy Q r1) (cr 1022 [20] r1 [])
def ACV:=BL 1022 [0,1] [20] r1 69 [a,b,c] h Q (AJq Q r1) (by conv=>lhs;reduce) (by dsimp only[pO,Fu.ap])
def ACd:=BQ (fun r1=>ACV Q r1 a b) c h
def gr:=cl 1022 [0,1] [20] (ACV Q) (ACd Q) []
def gt:=AW (cr 128154 [7014] s3 (cr 250 [7009] r3 (gr Q))) 32807503 [130611000] 69 [a,b,c,d,e,f,g,i,j,k,l,m] h Q (by conv=>lhs;reduce) (by dsimp only[pO,Fu.ap])
def AJr:=cj 32807503 [130611000] (gt Q r3 s3) (cr 128154 [7014] s3 (cr 250 [7009] r3 (gr Q)))
def AJz:=AW (AJr Q r3 s3) 16403751 [392755000] 69 [a,b,c,d,e,f,g,i,j,k,l,m,n] h Q (by conv=>lhs;reduce) (by dsimp only[pO,Fu.ap])
def AJs:=cj 16403751 [392755000] (AJz Q r3 s3) (AJr Q r3 s3)
def ACa:=AW (AJs Q r3 s3) 8201875 [523827000] 69 [a,b,c,d,e,f,g,i,j,k,l,m,n,o] h Q (by conv=>lhs;reduce) (by dsimp only[pO,Fu.ap])
def AJt:=cj 8201875 [523827000] (ACa Q r3 s3) (AJs Q r3 s3)
def ACX:=BL 128154 [15923000] [7014] s3 69 [a,b,c,d,e,f,g,i,j,k,l,m] h Q (AJt Q r3 s3) (by conv=>lhs;reduce) (by dsimp only[pO,Fu.ap])
def ACe:=Kv (fun s3=>ACX Q r3 s3 a b c d e f g i j) k l m h
def AJu:=cl 128154 [15923000] [7014] (ACX Q r3) (ACe Q r3) (cr 250 [7009] r3 (gr Q))
def ACW:=BL 250 [51000] [7009] r3 69 [a,b,c,d,e,f,g] h Q (AJu Q r3) (by conv=>lhs;reduce) (by dsimp only[pO,Fu.ap])
def gu:=Kv (fun r3=>ACW Q r3 a b c d) e f g h
def AJv:=cl 250 [51000] [7009] (ACW Q) (gu Q) (gr Q)
def ACY:=BL 58 [51000,3058] [60] r1 69 [a,b,c,d,e,f,g] h Q (AJv Q) (by conv=>lhs;reduce) (by dsimp only[pO,Fu.ap])
def ACf:=BQ (fun r1=>ACY Q r1 a b c d e f) g h
def AJw:=cl 58 [51000,3058] [60] (ACY Q) (ACf Q) (AJv Q)
def ACb:=AW (AJw Q) 7 [51000] 69 [a,b,c,d] h Q (by conv=>lhs;reduce) (by dsimp only[pO,Fu.ap])
def AJx:=cj 7 [51000] (ACb Q) (AJw Q)
def ACZ:=BL 26 [51000] [6] r1 69 [a,b,c,d,e] h Q (AJx Q) (by conv=>lhs;reduce) (by dsimp only[pO,Fu.ap])
def ACg:=BQ (fun r1=>ACZ Q r1 a b c d) e h
def ACT:=cl 26 [51000] [6] (ACZ Q) (ACg Q) (AJx Q)
def ACc:=AW (ACT Q) 3 [51000] 69 [a,b,c,d] h Q (by conv=>lhs;reduce) (by dsimp only[pO,Fu.ap])
def ACU:=cj 3 [51000] (ACc Q) (ACT Q)
def f69:=AW (ACU K) 1 [0,1] 69 [a,b] h K (by conv=>lhs;reduce) (by dsimp only[pO,Fu.ap])
def XG:=BL 130254 [0,1,8,7170] [11] s1 127 [a,b,c,d,e,f,g] h Q (cr 254 [172] r1 []) (by conv=>lhs;reduce) (by dsimp only[pO,Fu.ap])
def XK:=BQ (fun s1=>XG Q r1 s1 a b c d e f) g h
def w7:=cl 130254 [0,1,8,7170] [11] (XG Q r1) (XK Q r1) (cr 254 [172] r1 [])
def XH:=BL 130250 [0,1,8,12295170] [184] s1 127 [a,b,c,d,e,f,g,i,j] h Q (w7 Q r1) (by conv=>lhs;reduce) (by dsimp only[pO,Fu.ap])
def XL:=BQ (fun s1=>XH Q r1 s1 a b c d e f g i) j h
def w8:=cl 130250 [0,1,8,12295170] [184] (XH Q r1) (XL Q r1) (w7 Q r1)
def XF:=BL 254 [0,1,3170] [172] r1 127 [a,b,c,d,e] h Q (w8 Q r1) (by conv=>lhs;reduce) (by dsimp only[pO,Fu.ap])
def xw:=BQ (fun r1=>XF Q r1 a b c d) e h
def w9:=cl 254 [0,1,3170] [172] (XF Q) (xw Q) []
def XJ:=AW (w9 Q) 63 [0,1] 127 [a,b] h Q (by conv=>lhs;reduce) (by dsimp only[pO,Fu.ap])
def xe:=cj 63 [0,1] (XJ Q) (w9 Q)
def xl:=AW (xe Q) 31 [7000] 127 [a,b,c] h Q (by conv=>lhs;reduce) (by dsimp only[pO,Fu.ap])
def xf:=cj 31 [7000] (xl Q) (xe Q)
def xp:=AW (xf Q) 29 [7000,107] 127 [a,b,c,d] h Q (by conv=>lhs;reduce) (by dsimp only[pO,Fu.ap])
def xg:=cj 29 [7000,107] (xp Q) (xf Q)
def Ry:=AW (xg Q) 7 [7000] 127 [a,b,c] h Q (by conv=>lhs;reduce) (by dsimp only[pO,Fu.ap])
def xh:=cj 7 [7000] (Ry Q) (xg Q)
def XI:=BL 110 [7000] [6] r1 127 [a,b,c,d] h Q (xh Q) (by conv=>lhs;reduce) (by dsimp only[pO,Fu.ap])
def XO:=BQ (fun r1=>XI Q r1 a b c) d h
def xi:=cl 110 [7000] [6] (XI Q) (XO Q) (xh Q)
def xu:=AW (xi Q) 55 [71000] 127 [a,b,c,d] h Q (by conv=>lhs;reduce) (by dsimp only[pO,Fu.ap])
def xj:=cj 55 [71000] (xu Q) (xi Q)
def ALe:=AW (xj K) 1 [7000] 127 [a,b,c] h K (by conv=>lhs;reduce) (by dsimp only[pO,Fu.ap])
def AMK:=AW [] 1 [7000] 176 [a,b,c] h K (by conv=>lhs;reduce) (by dsimp only[pO,Fu.ap])
def Xw:=BL 260710 [8707000,131098] [106] s1 178 [a,b,c,d,e,f,g,i] h Q (cr 1018 [99] r1 []) (by conv=>lhs;reduce) (by dsimp only[pO,Fu.ap])
def AAk:=BQ (fun s1=>Xw Q r1 s1 a b c d e f g) i h
def AAd:=cl 260710 [8707000,131098] [106] (Xw Q r1) (AAk Q r1) (cr 1018 [99] r1 [])
def Xv:=BL 1018 [0,1,9,98] [99] r1 178 [a,b,c,d,e] h Q (AAd Q r1) (by conv=>lhs;reduce) (by dsimp only[pO,Fu.ap])
def AAj:=BQ (fun r1=>Xv Q r1 a b c d) e h
def AAe:=cl 1018 [0,1,9,98] [99] (Xv Q) (AAj Q) []
def Xx:=AW (AAe Q) 127 [0,1,9] 178 [a,b,c] h Q (by conv=>lhs;reduce) (by dsimp only[pO,Fu.ap])
def AAf:=cj 127 [0,1,9] (Xx Q) (AAe Q)
def SL:=AW (AAf Q) 63 [2563000] 178 [a,b,c,d] h Q (by conv=>lhs;reduce) (by dsimp only[pO,Fu.ap])
def AAg:=cj 63 [2563000] (SL Q) (AAf Q)
def AAi:=AW (AAg Q) 29 [527000,29] 178 [a,b,c,d,e,f] h Q (by conv=>lhs;reduce) (by dsimp only[pO,Fu.ap])
def AAh:=cj 29 [527000,29] (AAi Q) (AAg Q)
def AMM:=AW (AAh K) 1 [15000] 178 [a,b,c,d] h K (by conv=>lhs;reduce) (by dsimp only[pO,Fu.ap])
def Xy:=AW [] 427 [0,1] 179 [a,b] h Q (by conv=>lhs;reduce) (by dsimp only[pO,Fu.ap])
def AAl:=cj 427 [0,1] (Xy Q) []
def GT:=AW (AAl Q) 215 [267000,77] 179 [a,b,c,d,e] h Q (by conv=>lhs;reduce) (by dsimp only[pO,Fu.ap])
def AAm:=cj 215 [267000,77] (GT Q) (AAl Q)
def SM:=AW (AAm Q) 53 [786699000] 179 [a,b,c,d,e,f] h Q (by conv=>lhs;reduce) (by dsimp only[pO,Fu.ap])
def AAn:=cj 53 [786699000] (SM Q) (AAm Q)
def AMN:=AW (AAn K) 1 [15000] 179 [a,b,c,d] h K (by conv=>lhs;reduce) (by dsimp only[pO,Fu.ap])
def AAr:=AW (cr 2 [2] r1 []) 149 [455000,43] 180 [a,b,c,d,e,f,g] h Q (by conv=>lhs;reduce) (by dsimp only[pO,Fu.ap])
def AAp:=cj 149 [455000,43] (AAr Q r1) (cr 2 [2] r1 [])
def Xz:=BL 2 [0,1] [2] r1 180 [a,b,c] h Q (AAp Q r1) (by conv=>lhs;reduce) (by dsimp only[pO,Fu.ap])
def AAs:=BQ (fun r1=>Xz Q r1 a b) c h
def AAq:=cl 2 [0,1] [2] (Xz Q) (AAs Q) []
def AMP:=AW (AAq K) 1 [7000] 180 [a,b,c] h K (by conv=>lhs;reduce) (by dsimp only[pO,Fu.ap])
def AMR:=AW [] 1 [0] 184 [a] h K (by conv=>lhs;reduce) (by dsimp only[pO,Fu.ap])
def ABE:=AW [] 63 [30727000] 207 [a,b,c,d,e,f,g] h Q (by conv=>lhs;reduce) (by dsimp only[pO,Fu.ap])
def YI:=cj 63 [30727000] (ABE Q) []
def ML:=AW (cr 124 [7011] r3 (YI Q)) 1018879 [6879263000] 207 [a,b,c,d,e,f,g,i,j,k,l,m,n] h Q (by conv=>lhs;reduce) (by dsimp only[pO,Fu.ap])
def AA9:=cj 1018879 [6879263000] (ML Q r3) (cr 124 [7011] r3 (YI Q))
def YK:=AW (AA9 Q r3) 2037755 [15661087000,152] 207 [a,b,c,d,e,f,g,i,j,k,l,m,n,o,p,q,r] h Q (by conv=>lhs;reduce) (by dsimp only[pO,Fu.ap])
def ABA:=cj 2037755 [15661087000,152] (YK Q r3) (AA9 Q r3)
def ABF:=AW (ABA Q r3) 127357 [981023000,119] 207 [a,b,c,d,e,f,g,i,j,k,l,m,n,o] h Q (by conv=>lhs;reduce) (by dsimp only[pO,Fu.ap])
def ABB:=cj 127357 [981023000,119] (ABF Q r3) (ABA Q r3)
def ABG:=AW (ABB Q r3) 497 [30751000] 207 [a,b,c,d,e,f,g,i,j] h Q (by conv=>lhs;reduce) (by dsimp only[pO,Fu.ap])
def ABC:=cj 497 [30751000] (ABG Q r3) (ABB Q r3)
def YJ:=BL 124 [16415000] [7011] r3 207 [a,b,c,d,e,f,g,i,j] h Q (ABC Q r3) (by conv=>lhs;reduce) (by dsimp only[pO,Fu.ap])
def YL:=Kv (fun r3=>YJ Q r3 a b c d e f) g i j h
def ABD:=cl 124 [16415000] [7011] (YJ Q) (YL Q) (YI Q)
def AMk:=AW (ABD K) 1 [31000] 207 [a,b,c,d,e] h K (by conv=>lhs;reduce) (by dsimp only[pO,Fu.ap])
def YM:=BL 4166650 [832535000] [20] s1 208 [a,b,c,d,e,f,g,i,j,k,l] h Q (cr 254 [13] r1 []) (by conv=>lhs;reduce) (by dsimp only[pO,Fu.ap])
def YO:=BQ (fun s1=>YM Q r1 s1 a b c d e f g i j k) l h
def ABH:=cl 4166650 [832535000] [20] (YM Q r1) (YO Q r1) (cr 254 [13] r1 [])
def ABN:=AW (ABH Q r1) 260415 [832535000] 208 [a,b,c,d,e,f,g,i,j,k] h Q (by conv=>lhs;reduce) (by dsimp only[pO,Fu.ap])
def ABI:=cj 260415 [832535000] (ABN Q r1) (ABH Q r1)
def SQ:=BL 254 [5143000] [13] r1 208 [a,b,c,d,e,f,g] h Q (ABI Q r1) (by conv=>lhs;reduce) (by dsimp only[pO,Fu.ap])
def ABR:=BQ (fun r1=>SQ Q r1 a b c d e f) g h
def ABJ:=cl 254 [5143000] [13] (SQ Q) (ABR Q) []
def ABO:=AW (ABJ Q) 63 [5143000] 208 [a,b,c,d,e,f] h Q (by conv=>lhs;reduce) (by dsimp only[pO,Fu.ap])
def ABK:=cj 63 [5143000] (ABO Q) (ABJ Q)
def ABP:=AW (ABK Q) 31 [5151000] 208 [a,b,c,d,e,f,g] h Q (by conv=>lhs;reduce) (by dsimp only[pO,Fu.ap])
def ABL:=cj 31 [5151000] (ABP Q) (ABK Q)
def ABQ:=AW (ABL Q) 15 [5151000] 208 [a,b,c,d,e,f,g] h Q (by conv=>lhs;reduce) (by dsimp only[pO,Fu.ap])
def ABM:=cj 15 [5151000] (ABQ Q) (ABL Q)
def AMl:=AW (ABM K) 1 [31000] 208 [a,b,c,d,e] h K (by conv=>lhs;reduce) (by dsimp only[pO,Fu.ap])
def YQ:=BL 122 [1] [5,8] r2 212 [a,b,c] h Q [] (by conv=>lhs;reduce) (by dsimp only[pO,Fu.ap])
def YS:=Ca (fun r2=>YQ Q r2 a) b c h
def ABS:=cl 122 [1] [5,8] (YQ Q) (YS Q) []
def YR:=BL 58 [769001] [5,11] r2 212 [a,b,c,d,e] h Q (ABS Q) (by conv=>lhs;reduce) (by dsimp only[pO,Fu.ap])
def ABU:=Ca (fun r2=>YR Q r2 a b c) d e h
def ABT:=cl 58 [769001] [5,11] (YR Q) (ABU Q) (ABS Q)
def AMo:=AW (ABT K) 1 [0,1] 212 [a,b] h K (by conv=>lhs;reduce) (by dsimp only[pO,Fu.ap])
def WV:=BL 6 [7000] [6] r1 103 [a,b,c,d] h Q [] (by conv=>lhs;reduce) (by dsimp only[pO,Fu.ap])
def tz:=BQ (fun r1=>WV Q r1 a b c) d h
def tx:=cl 6 [7000] [6] (WV Q) (tz Q) []
def ALM:=AW (tx K) 1 [7000] 103 [a,b,c] h K (by conv=>lhs;reduce) (by dsimp only[pO,Fu.ap])
def Xl:=BL 26 [0,1,7] [8] r1 159 [a,b,c,d] h Q [] (by conv=>lhs;reduce) (by dsimp only[pO,Fu.ap])
def AAL:=BQ (fun r1=>Xl Q r1 a b c) d h
def AAK:=cl 26 [0,1,7] [8] (Xl Q) (AAL Q) []
def AL5:=AW (AAK K) 1 [0,1] 159 [a,b] h K (by conv=>lhs;reduce) (by dsimp only[pO,Fu.ap])
def AL4:=AW [] 1 [0] 157 [a] h K (by conv=>lhs;reduce) (by dsimp only[pO,Fu.ap])
def QY:=AW [] 4294967293 [8199000,378] 95 [a,b,c,d,e] h Q (by conv=>lhs;reduce) (by dsimp only[pO,Fu.ap])
def AKc:=cj 4294967293 [8199000,378] (QY Q) []
def LP:=AW (AKc Q) 268435455 [12807000] 95 [a,b,c,d,e,f] h Q (by conv=>lhs;reduce) (by dsimp only[pO,Fu.ap])
def AKd:=cj 268435455 [12807000] (LP Q) (AKc Q)
def ADF:=BL 34359738206 [12807000,3346] [348] r1 95 [a,b,c,d,e,f,g,i,j] h Q (AKd Q) (by conv=>lhs;reduce) (by dsimp only[pO,Fu.ap])
def iu:=BQ (fun r1=>ADF Q r1 a b c d e f g i) j h
def im:=cl 34359738206 [12807000,3346] [348] (ADF Q) (iu Q) (AKd Q)
def AKk:=AW (cr 2199023244946 [22] s1 (cr 34359738202 [21] r1 (im Q))) 8796092979785 [6828551000] 95 [a,b,c,d,e,f,g,i,j] h Q (by conv=>lhs;reduce) (by dsimp only[pO,Fu.ap])
def AKe:=cj 8796092979785 [6828551000] (AKk Q r1 s1) (cr 2199023244946 [22] s1 (cr 34359738202 [21] r1 (im Q)))
def ADH:=BL 2199023244946 [2634247000] [22] s1 95 [a,b,c,d,e,f,g,i,j] h Q (AKe Q r1 s1) (by conv=>lhs;reduce) (by dsimp only[pO,Fu.ap])
def AKl:=BQ (fun s1=>ADH Q r1 s1 a b c d e f g i) j h
def AKf:=cl 2199023244946 [2634247000] [22] (ADH Q r1) (AKl Q r1) (cr 34359738202 [21] r1 (im Q))
def ADG:=BL 34359738202 [537095000] [21] r1 95 [a,b,c,d,e,f,g,i] h Q (AKf Q r1) (by conv=>lhs;reduce) (by dsimp only[pO,Fu.ap])
def iw:=BQ (fun r1=>ADG Q r1 a b c d e f g) i h
def AKg:=cl 34359738202 [537095000] [21] (ADG Q) (iw Q) (im Q)
def ADI:=BL 17179869098 [12807000,298] [19] r1 95 [a,b,c,d,e,f,g,i] h Q (AKg Q) (by conv=>lhs;reduce) (by dsimp only[pO,Fu.ap])
def iy:=BQ (fun r1=>ADI Q r1 a b c d e f g) i h
def AKh:=cl 17179869098 [12807000,298] [19] (ADI Q) (iy Q) (AKg Q)
def ADJ:=BL 536870906 [12807000,265] [] r0 95 [a,b,c,d,e,f,g] h Q (AKh Q) (by conv=>lhs;reduce) (by dsimp only[pO,Fu.ap])
def AKm:=Nz (fun r0=>ADJ Q r0 a b c d e f g) h
def AKi:=cl 536870906 [12807000,265] [] (ADJ Q) (AKm Q) (AKh Q)
def Oa:=AW (AKi Q) 67108863 [14855000] 95 [a,b,c,d,e,f,g] h Q (by conv=>lhs;reduce) (by dsimp only[pO,Fu.ap])
def AKj:=cj 67108863 [14855000] (Oa Q) (AKi Q)
def ADK:=AW (AKj Q) 137438950775 [31239000] 95 [a,b,c,d,e,f,g,i] h Q (by conv=>lhs;reduce) (by dsimp only[pO,Fu.ap])
def AC9:=cj 137438950775 [31239000] (ADK Q) (AKj Q)
def ADL:=AW (AC9 Q) 8589934423 [14855000,189] 95 [a,b,c,d,e,f,g,i] h Q (by conv=>lhs;reduce) (by dsimp only[pO,Fu.ap])
def ADA:=cj 8589934423 [14855000,189] (ADL Q) (AC9 Q)
def ip:=AW (ADA Q) 2097151 [2567000] 95 [a,b,c,d,e] h Q (by conv=>lhs;reduce) (by dsimp only[pO,Fu.ap])
def ADB:=cj 2097151 [2567000] (ip Q) (ADA Q)
def iq:=AW (ADB Q) 524287 [519000] 95 [a,b,c,d] h Q (by conv=>lhs;reduce) (by dsimp only[pO,Fu.ap])
def ADC:=cj 524287 [519000] (iq Q) (ADB Q)
def UP:=AW (ADC Q) 127 [775000] 95 [a,b,c,d,e] h Q (by conv=>lhs;reduce) (by dsimp only[pO,Fu.ap])
def ADD:=cj 127 [775000] (UP Q) (ADC Q)
def OZ:=AW (ADD Q) 15 [263000] 95 [a,b,c,d] h Q (by conv=>lhs;reduce) (by dsimp only[pO,Fu.ap])
def ADE:=cj 15 [263000] (OZ Q) (ADD Q)
def f95:=AW (ADE K) 1 [7000] 95 [a,b,c] h K (by conv=>lhs;reduce) (by dsimp only[pO,Fu.ap])
def SD:=AW [] 2047 [1283000] 151 [a,b,c,d] h Q (by conv=>lhs;reduce) (by dsimp only[pO,Fu.ap])
def zu:=cj 2047 [1283000] (SD Q) []
def Xg:=BL 1048030 [0,1,8,71] [10,72] r2 151 [a,b,c,d,e,f] h Q (zu Q) (by conv=>lhs;reduce) (by dsimp only[pO,Fu.ap])
def Xh:=Ca (fun r2=>Xg Q r2 a b c d) e f h
def zw:=cl 1048030 [0,1,8,71] [10,72] (Xg Q) (Xh Q) (zu Q)
def z4:=BL 33537790 [0,1,8,156] [10,157] r2 151 [a,b,c,d,e,f] h Q (zw Q) (by conv=>lhs;reduce) (by dsimp only[pO,Fu.ap])
def ALv:=Ca (fun r2=>z4 Q r2 a b c d) e f h
def Xf:=cl 33537790 [0,1,8,156] [10,157] (z4 Q) (ALv Q) (zw Q)
def z7:=BL 274741498874 [116675000,130] [20,131] s2 151 [a,b,c,d,e,f,g,i,j,k,l,m,n] h Q (cr 16768890 [16] r1 (Xf Q)) (by conv=>lhs;reduce) (by dsimp only[pO,Fu.ap])
def ALx:=Ca (fun s2=>z7 Q r1 s2 a b c d e f g i j k l) m n h
def zx:=cl 274741498874 [116675000,130] [20,131] (z7 Q r1) (ALx Q r1) (cr 16768890 [16] r1 (Xf Q))
def ALu:=AW (zx Q r1) 2146417959 [247747000] 151 [a,b,c,d,e,f,g,i,j,k,l] h Q (by conv=>lhs;reduce) (by dsimp only[pO,Fu.ap])
def zy:=cj 2146417959 [247747000] (ALu Q r1) (zx Q r1)
def z6:=BL 16768890 [51139000] [16] r1 151 [a,b,c,d,e,f,g,i,j,k] h Q (zy Q r1) (by conv=>lhs;reduce) (by dsimp only[pO,Fu.ap])
def ALw:=BQ (fun r1=>z6 Q r1 a b c d e f g i j) k h
def zz:=cl 16768890 [51139000] [16] (z6 Q) (ALw Q) (Xf Q)
def ALt:=AW (zz K) 1 [0,1] 151 [a,b] h K (by conv=>lhs;reduce) (by dsimp only[pO,Fu.ap])
def AA1:=AW (cr 14 [25] r1 []) 7375 [25169423001] 192 [a,b,c,d,e,f,g,i,j] h Q (by conv=>lhs;reduce) (by dsimp only[pO,Fu.ap])
def AAz:=cj 7375 [25169423001] (AA1 Q r1) (cr 14 [25] r1 [])
def SO:=BL 14 [15001,24] [25] r1 192 [a,b,c,d,e,f] h Q (AAz Q r1) (by conv=>lhs;reduce) (by dsimp only[pO,Fu.ap])
def AA2:=BQ (fun r1=>SO Q r1 a b c d e) f h
def AA0:=cl 14 [15001,24] [25] (SO Q) (AA2 Q) []
def AMZ:=AW (AA0 K) 1 [31000] 192 [a,b,c,d,e] h K (by conv=>lhs;reduce) (by dsimp only[pO,Fu.ap])
def AMa:=AW [] 1 [0] 193 [a] h K (by conv=>lhs;reduce) (by dsimp only[pO,Fu.ap])
def AMb:=AW [] 1 [0] 194 [a] h K (by conv=>lhs;reduce) (by dsimp only[pO,Fu.ap])
def ABw:=AW [] 1023 [8199000] 55 [a,b,c,d] h Q (by conv=>lhs;reduce) (by dsimp only[pO,Fu.ap])
def AJC:=cj 1023 [8199000] (ABw Q) []
def ABx:=AW (AJC Q) 8181 [9479000] 55 [a,b,c,d,e,f] h Q (by conv=>lhs;reduce) (by dsimp only[pO,Fu.ap])
def AJD:=cj 8181 [9479000] (ABx Q) (AJC Q)
def OX:=AW (AJD Q) 127 [5895000] 55 [a,b,c,d,e,f,g] h Q (by conv=>lhs;reduce) (by dsimp only[pO,Fu.ap])
def AJE:=cj 127 [5895000] (OX Q) (AJD Q)
def f55:=AW (AJE K) 1 [7000] 55 [a,b,c] h K (by conv=>lhs;reduce) (by dsimp only[pO,Fu.ap])
def ALs:=AW [] 1 [0] 150 [a] h K (by conv=>lhs;reduce) (by dsimp only[pO,Fu.ap])
def f52:=AW [] 1 [0] 52 [a] h K (by conv=>lhs;reduce) (by dsimp only[pO,Fu.ap])
def f53:=AW [] 1 [0] 53 [a] h K (by conv=>lhs;reduce) (by dsimp only[pO,Fu.ap])
def ABu:=BL 58 [193005] [13] r1 54 [a,b,c,d] h Q [] (by conv=>lhs;reduce) (by dsimp only[pO,Fu.ap])
def AJB:=BQ (fun r1=>ABu Q r1 a b c) d h
def AJA:=cl 58 [193005] [13] (ABu Q) (AJB Q) []
def f54:=AW (AJA K) 1 [0,1] 54 [a,b] h K (by conv=>lhs;reduce) (by dsimp only[pO,Fu.ap])
def AKV:=AW [] 3 [0,1,8] 90 [a,b,c] h Q (by conv=>lhs;reduce) (by dsimp only[pO,Fu.ap])
def AKU:=cj 3 [0,1,8] (AKV Q) []
def f90:=AW (AKU K) 1 [0,1] 90 [a,b] h K (by conv=>lhs;reduce) (by dsimp only[pO,Fu.ap])
def AMg:=AW [] 1 [0] 203 [a] h K (by conv=>lhs;reduce) (by dsimp only[pO,Fu.ap])
def AGQ:=AW [] 1 [0] 201 [a] h K (by conv=>lhs;reduce) (by dsimp only[pO,Fu.ap])
def Xo:=BL 65530 [195003,3099] [101] r1 166 [a,b,c,d,e,f,g] h Q [] (by conv=>lhs;reduce) (by dsimp only[pO,Fu.ap])
def Xs:=BQ (fun r1=>Xo Q r1 a b c d e f) g h
def SJ:=cl 65530 [195003,3099] [101] (Xo Q) (Xs Q) []
def AAV:=AW (cr 2096786 [17] s1 (cr 32762 [16] r1 (SJ Q))) 8387145 [29891003] 166 [a,b,c,d,e,f,g,i] h Q (by conv=>lhs;reduce) (by dsimp only[pO,Fu.ap])
def AAR:=cj 8387145 [29891003] (AAV Q r1 s1) (cr 2096786 [17] s1 (cr 32762 [16] r1 (SJ Q)))
def Xq:=BL 2096786 [13507003] [17] s1 166 [a,b,c,d,e,f,g,i] h Q (AAR Q r1 s1) (by conv=>lhs;reduce) (by dsimp only[pO,Fu.ap])
def AAW:=BQ (fun s1=>Xq Q r1 s1 a b c d e f g) i h
def AAS:=cl 2096786 [13507003] [17] (Xq Q r1) (AAW Q r1) (cr 32762 [16] r1 (SJ Q))
def Xp:=BL 32762 [5315003] [16] r1 166 [a,b,c,d,e,f,g] h Q (AAS Q r1) (by conv=>lhs;reduce) (by dsimp only[pO,Fu.ap])
def Xt:=BQ (fun r1=>Xp Q r1 a b c d e f) g h
def AAT:=cl 32762 [5315003] [16] (Xp Q) (Xt Q) (SJ Q)
def Xr:=BL 8186 [1219003,55] [] r0 166 [a,b,c,d,e,f] h Q (AAT Q) (by conv=>lhs;reduce) (by dsimp only[pO,Fu.ap])
def Xu:=Nz (fun r0=>Xr Q r0 a b c d e f) h
def AAU:=cl 8186 [1219003,55] [] (Xr Q) (Xu Q) (AAT Q)
def AMC:=AW (AAU K) 1 [7000] 166 [a,b,c] h K (by conv=>lhs;reduce) (by dsimp only[pO,Fu.ap])
def Wc:=BL 1018 [0,4,3072] [74] r1 112 [a,b,c,d,e] h Q [] (by conv=>lhs;reduce) (by dsimp only[pO,Fu.ap])
def Wg:=BQ (fun r1=>Wc Q r1 a b c d) e h
def Rl:=cl 1018 [0,4,3072] [74] (Wc Q) (Wg Q) []
def ve:=AW (cr 32402 [12] s1 (cr 506 [11] r1 (Rl Q))) 129609 [7441000] 112 [a,b,c,d,e,f] h Q (by conv=>lhs;reduce) (by dsimp only[pO,Fu.ap])
def uw:=cj 129609 [7441000] (ve Q r1 s1) (cr 32402 [12] s1 (cr 506 [11] r1 (Rl Q)))
def We:=BL 32402 [3345000] [12] s1 112 [a,b,c,d,e,f] h Q (uw Q r1 s1) (by conv=>lhs;reduce) (by dsimp only[pO,Fu.ap])
def vf:=BQ (fun s1=>We Q r1 s1 a b c d e) f h
def ux:=cl 32402 [3345000] [12] (We Q r1) (vf Q r1) (cr 506 [11] r1 (Rl Q))
def Wd:=BL 506 [1297000] [11] r1 112 [a,b,c,d,e] h Q (ux Q r1) (by conv=>lhs;reduce) (by dsimp only[pO,Fu.ap])
def Wh:=BQ (fun r1=>Wd Q r1 a b c d) e h
def uy:=cl 506 [1297000] [11] (Wd Q) (Wh Q) (Rl Q)
def Wf:=BL 122 [0,4,8,28] [] r0 112 [a,b,c,d] h Q (uy Q) (by conv=>lhs;reduce) (by dsimp only[pO,Fu.ap])
def vg:=Nz (fun r0=>Wf Q r0 a b c d) h
def uz:=cl 122 [0,4,8,28] [] (Wf Q) (vg Q) (uy Q)
def AFg:=AW (uz K) 1 [7000] 112 [a,b,c] h K (by conv=>lhs;reduce) (by dsimp only[pO,Fu.ap])
def AMe:=AW [] 1 [0,1] 200 [a,b] h K (by conv=>lhs;reduce) (by dsimp only[pO,Fu.ap])
def YE:=AW [] 31 [791000] 202 [a,b,c,d,e,f] h Q (by conv=>lhs;reduce) (by dsimp only[pO,Fu.ap])
def AA5:=cj 31 [791000] (YE Q) []
def AMf:=AW (AA5 K) 1 [31000] 202 [a,b,c,d,e] h K (by conv=>lhs;reduce) (by dsimp only[pO,Fu.ap])
def AMh:=AW [] 1 [15000] 204 [a,b,c,d] h K (by conv=>lhs;reduce) (by dsimp only[pO,Fu.ap])
def AMD:=AW [] 1 [15000] 167 [a,b,c,d] h K (by conv=>lhs;reduce) (by dsimp only[pO,Fu.ap])
def AB6:=AW [] 1073741823 [0,14,3037] 63 [a,b,c,d] h Q (by conv=>lhs;reduce) (by dsimp only[pO,Fu.ap])
def AJI:=cj 1073741823 [0,14,3037] (AB6 Q) []
def QX:=BL 536870906 [0,6211008,3326] [328] r1 63 [a,b,c,d,e,f,g,i,j] h Q (AJI Q) (by conv=>lhs;reduce) (by dsimp only[pO,Fu.ap])
def gn:=BQ (fun r1=>QX Q r1 a b c d e f g i) j h
def gh:=cl 536870906 [0,6211008,3326] [328] (QX Q) (gn Q) (AJI Q)
def gm:=AW (cr 68719453434 [131023] s3 (cr 16777210 [7019] r3 (gh Q))) 17592180079181 [5435784065000,233] 63 [a,b,c,d,e,f,g,i,j,k,l,m,n,o,p,q,r,s,t,u,v] h Q (by conv=>lhs;reduce) (by dsimp only[pO,Fu.ap])
def AJJ:=cj 17592180079181 [5435784065000,233] (gm Q r3 s3) (cr 68719453434 [131023] s3 (cr 16777210 [7019] r3 (gh Q)))
def UK:=BL 68719453434 [41909121000] [131023] s3 63 [a,b,c,d,e,f,g,i,j,k,l,m,n,o,p,q,r,s,t] h Q (AJJ Q r3 s3) (by conv=>lhs;reduce) (by dsimp only[pO,Fu.ap])
def UL:=Kv (fun s3=>UK Q r3 s3 a b c d e f g i j k l m n o p q) r s t h
def AJK:=cl 68719453434 [41909121000] [131023] (UK Q r3) (UL Q r3) (cr 16777210 [7019] r3 (gh Q))
def gk:=BL 137438906858 [33520513000] [17025] s2 63 [a,b,c,d,e,f,g,i,j,k,l,m,n,o,p,q,r,s,t] h Q (AJK Q r3) (by conv=>lhs;reduce) (by dsimp only[pO,Fu.ap])
def ACA:=Ca (fun s2=>gk Q r3 s2 a b c d e f g i j k l m n o p q r) s t h
def AJL:=cl 137438906858 [33520513000] [17025] (gk Q r3) (ACA Q r3) (AJK Q r3)
def AJR:=AW (AJL Q r3) 17179863357 [67074945000,196] 63 [a,b,c,d,e,f,g,i,j,k,l,m,n,o,p,q,r,s,t] h Q (by conv=>lhs;reduce) (by dsimp only[pO,Fu.ap])
def AJM:=cj 17179863357 [67074945000,196] (AJR Q r3) (AJL Q r3)
def AJS:=AW (AJM Q r3) 4294965839 [67074945000] 63 [a,b,c,d,e,f,g,i,j,k,l,m,n,o,p,q,r,s] h Q (by conv=>lhs;reduce) (by dsimp only[pO,Fu.ap])
def AJN:=cj 4294965839 [67074945000] (AJS Q r3) (AJM Q r3)
def AB4:=BL 68719453418 [33520513000] [9025] s2 63 [a,b,c,d,e,f,g,i,j,k,l,m,n,o,p,q,r,s,t] h Q (AJN Q r3) (by conv=>lhs;reduce) (by dsimp only[pO,Fu.ap])
def AJT:=Ca (fun s2=>AB4 Q r3 s2 a b c d e f g i j k l m n o p q r) s t h
def AJO:=cl 68719453418 [33520513000] [9025] (AB4 Q r3) (AJT Q r3) (AJN Q r3)
def AB7:=AW (AJO Q r3) 2147482919 [67074945000] 63 [a,b,c,d,e,f,g,i,j,k,l,m,n,o,p,q,r,s] h Q (by conv=>lhs;reduce) (by dsimp only[pO,Fu.ap])
def AJP:=cj 2147482919 [67074945000] (AB7 Q r3) (AJO Q r3)
def AJQ:=BL 68719453394 [33520513000,134] [135] s1 63 [a,b,c,d,e,f,g,i,j,k,l,m,n,o,p,q,r,s,t] h Q (AJP Q r3) (by conv=>lhs;reduce) (by dsimp only[pO,Fu.ap])
def APE:=BQ (fun s1=>AJQ Q r3 s1 a b c d e f g i j k l m n o p q r s) t h
def AB0:=cl 68719453394 [33520513000,134] [135] (AJQ Q r3) (APE Q r3) (AJP Q r3)
def AB5:=BL 137438906810 [33520513000] [5025] s2 63 [a,b,c,d,e,f,g,i,j,k,l,m,n,o,p,q,r,s,t] h Q (AB0 Q r3) (by conv=>lhs;reduce) (by dsimp only[pO,Fu.ap])
def ACB:=Ca (fun s2=>AB5 Q r3 s2 a b c d e f g i j k l m n o p q r) s t h
def AB1:=cl 137438906810 [33520513000] [5025] (AB5 Q r3) (ACB Q r3) (AB0 Q r3)
def UJ:=BL 16777210 [490369000] [7019] r3 63 [a,b,c,d,e,f,g,i,j,k,l,m,n,o] h Q (AB1 Q r3) (by conv=>lhs;reduce) (by dsimp only[pO,Fu.ap])
def AB9:=Kv (fun r3=>UJ Q r3 a b c d e f g i j k l) m n o h
def AB2:=cl 16777210 [490369000] [7019] (UJ Q) (AB9 Q) (gh Q)
def AB8:=AW (AB2 Q) 65535 [31617000] 63 [a,b,c,d,e,f,g,i] h Q (by conv=>lhs;reduce) (by dsimp only[pO,Fu.ap])
def AB3:=cj 65535 [31617000] (AB8 Q) (AB2 Q)
def f63:=AW (AB3 K) 1 [0] 63 [a] h K (by conv=>lhs;reduce) (by dsimp only[pO,Fu.ap])
def Wi:=BL 58 [0,1] [7004] r3 113 [a,b,c,d,e] h Q [] (by conv=>lhs;reduce) (by dsimp only[pO,Fu.ap])
def vi:=Kv (fun r3=>Wi Q r3 a b) c d e h
def vh:=cl 58 [0,1] [7004] (Wi Q) (vi Q) []
def ALS:=AW (vh K) 1 [0,1] 113 [a,b] h K (by conv=>lhs;reduce) (by dsimp only[pO,Fu.ap])
def AME:=AW [] 1 [7000] 168 [a,b,c] h K (by conv=>lhs;reduce) (by dsimp only[pO,Fu.ap])
def HG:=AW (cr 26 [22] r1 []) 6759 [7340163000] 114 [a,b,c,d,e,f] h Q (by conv=>lhs;reduce) (by dsimp only[pO,Fu.ap])
def vj:=cj 6759 [7340163000] (HG Q r1) (cr 26 [22] r1 [])
def OS:=AW (vj Q r1) 3460439 [7340355000,168] 114 [a,b,c,d,e,f,g,i] h Q (by conv=>lhs;reduce) (by dsimp only[pO,Fu.ap])
def vk:=cj 3460439 [7340355000,168] (OS Q r1) (vj Q r1)
def OT:=AW (vk Q r1) 865109 [7340355000,3134] 114 [a,b,c,d,e,f,g,i,j] h Q (by conv=>lhs;reduce) (by dsimp only[pO,Fu.ap])
def vl:=cj 865109 [7340355000,3134] (OT Q r1) (vk Q r1)
def Kb:=BL 26 [0,1,3020] [22] r1 114 [a,b,c,d,e] h Q (vl Q r1) (by conv=>lhs;reduce) (by dsimp only[pO,Fu.ap])
def vo:=BQ (fun r1=>Kb Q r1 a b c d) e h
def vn:=cl 26 [0,1,3020] [22] (Kb Q) (vo Q) []
def ALT:=AW (vn K) 1 [0,1] 114 [a,b] h K (by conv=>lhs;reduce) (by dsimp only[pO,Fu.ap])
def ALU:=AW [] 1 [0] 118 [a] h K (by conv=>lhs;reduce) (by dsimp only[pO,Fu.ap])
def Wj:=BL 5070602400912917605986812821498 [1,424] [3,425] r2 119 [a,b,c,d] h Q [] (by conv=>lhs;reduce) (by dsimp only[pO,Fu.ap])
def Wn:=Ca (fun r2=>Wj Q r2 a b) c d h
def vy:=cl 5070602400912917605986812821498 [1,424] [3,425] (Wj Q) (Wn Q) []
def Wk:=BL 618970019642690137449562106 [1,361] [3,362] r2 119 [a,b,c,d] h Q (vy Q) (by conv=>lhs;reduce) (by dsimp only[pO,Fu.ap])
def Wo:=Ca (fun r2=>Wk Q r2 a b) c d h
def vz:=cl 618970019642690137449562106 [1,361] [3,362] (Wk Q) (Wo Q) (vy Q)
def Wl:=BL 36028797018963962 [1,218] [3,219] r2 119 [a,b,c,d] h Q (vz Q) (by conv=>lhs;reduce) (by dsimp only[pO,Fu.ap])
def Wp:=Ca (fun r2=>Wl Q r2 a b) c d h
def wa:=cl 36028797018963962 [1,218] [3,219] (Wl Q) (Wp Q) (vz Q)
def Wm:=BL 281474976710650 [1,183] [3,184] r2 119 [a,b,c,d] h Q (wa Q) (by conv=>lhs;reduce) (by dsimp only[pO,Fu.ap])
def Wq:=Ca (fun r2=>Wm Q r2 a b) c d h
def wc:=cl 281474976710650 [1,183] [3,184] (Wm Q) (Wq Q) (wa Q)
def ALV:=AW (wc K) 1 [0] 119 [a] h K (by conv=>lhs;reduce) (by dsimp only[pO,Fu.ap])
def AMG:=AW [] 1 [0] 171 [a] h K (by conv=>lhs;reduce) (by dsimp only[pO,Fu.ap])
def ABW:=AW (cr 1018 [12,35] r2 []) 521423 [205009,7033] 23 [a,b,c,d,e,f,g,i] h Q (by conv=>lhs;reduce) (by dsimp only[pO,Fu.ap])
def AIQ:=cj 521423 [205009,7033] (ABW Q r2) (cr 1018 [12,35] r2 [])
def ABX:=AW (AIQ Q r2) 66742099 [109009,7033,64] 23 [a,b,c,d,e,f,g,i,j] h Q (by conv=>lhs;reduce) (by dsimp only[pO,Fu.ap])
def AIR:=cj 66742099 [109009,7033,64] (ABX Q r2) (AIQ Q r2)
def QU:=BL 1018 [5009,3033] [12,35] r2 23 [a,b,c,d,e,f] h Q (AIR Q r2) (by conv=>lhs;reduce) (by dsimp only[pO,Fu.ap])
def ABZ:=Ca (fun r2=>QU Q r2 a b c d) e f h
def AIS:=cl 1018 [5009,3033] [12,35] (QU Q) (ABZ Q) []
def ABY:=AW (AIS Q) 31 [385002] 23 [a,b,c] h Q (by conv=>lhs;reduce) (by dsimp only[pO,Fu.ap])
def AIT:=cj 31 [385002] (ABY Q) (AIS Q)
def f23:=AW (AIT K) 1 [7000] 23 [a,b,c] h K (by conv=>lhs;reduce) (by dsimp only[pO,Fu.ap])
def ABy:=BL 122 [3,3043] [45] r1 56 [a,b,c,d] h Q [] (by conv=>lhs;reduce) (by dsimp only[pO,Fu.ap])
def AJH:=BQ (fun r1=>ABy Q r1 a b c) d h
def AJF:=cl 122 [3,3043] [45] (ABy Q) (AJH Q) []
def ABz:=AW (AJF Q) 15 [1,3] 56 [a,b] h Q (by conv=>lhs;reduce) (by dsimp only[pO,Fu.ap])
def AJG:=cj 15 [1,3] (ABz Q) (AJF Q)
def f56:=AW (AJG K) 1 [0] 56 [a] h K (by conv=>lhs;reduce) (by dsimp only[pO,Fu.ap])
def f97:=AW [] 1 [0] 97 [a] h K (by conv=>lhs;reduce) (by dsimp only[pO,Fu.ap])
def ABa:=BL 58 [6,7] [3,8] r2 24 [a,b,c,d] h Q [] (by conv=>lhs;reduce) (by dsimp only[pO,Fu.ap])
def AIV:=Ca (fun r2=>ABa Q r2 a b) c d h
def AIU:=cl 58 [6,7] [3,8] (ABa Q) (AIV Q) []
def f24:=AW (AIU K) 1 [0] 24 [a] h K (by conv=>lhs;reduce) (by dsimp only[pO,Fu.ap])
def f38:=AW [] 1 [0] 38 [a] h K (by conv=>lhs;reduce) (by dsimp only[pO,Fu.ap])
def ACC:=BL 58 [6,7] [3,8] r2 64 [a,b,c,d] h Q [] (by conv=>lhs;reduce) (by dsimp only[pO,Fu.ap])
def AJV:=Ca (fun r2=>ACC Q r2 a b) c d h
def AJU:=cl 58 [6,7] [3,8] (ACC Q) (AJV Q) []
def f64:=AW (AJU K) 1 [0] 64 [a] h K (by conv=>lhs;reduce) (by dsimp only[pO,Fu.ap])
def f62:=AW [] 1 [0] 62 [a] h K (by conv=>lhs;reduce) (by dsimp only[pO,Fu.ap])
def f13:=AW [] 1 [7000] 13 [a,b,c] h K (by conv=>lhs;reduce) (by dsimp only[pO,Fu.ap])
def MJ:=BL 65530 [307000,3139] [11,141] r2 126 [a,b,c,d,e,f,g,i,j] h Q [] (by conv=>lhs;reduce) (by dsimp only[pO,Fu.ap])
def OU:=Ca (fun r2=>MJ Q r2 a b c d e f g) i j h
def wq:=cl 65530 [307000,3139] [11,141] (MJ Q) (OU Q) []
def Ws:=BL 4090 [371000,3117] [119] r1 126 [a,b,c,d,e,f,g,i,j] h Q (wq Q) (by conv=>lhs;reduce) (by dsimp only[pO,Fu.ap])
def Wu:=BQ (fun r1=>Ws Q r1 a b c d e f g i) j h
def wt:=cl 4090 [371000,3117] [119] (Ws Q) (Wu Q) (wq Q)
def MK:=AW (wt Q) 127 [371000] 126 [a,b,c,d,e,f] h Q (by conv=>lhs;reduce) (by dsimp only[pO,Fu.ap])
def wu:=cj 127 [371000] (MK Q) (wt Q)
def Wv:=DW (wu Q) 126 54043195528445951 9007196020701430 [371000,1162219497734273044,41] 126 [a,b,c,d,e,f,g,i,j,k,l,m,n,o,p,q,r,b] h Q (by conv=>lhs;reduce) (by dsimp only[pO,Fu.ap])
def ww:=ct 126 54043195528445951 [371000,1162219497734273044] (Wv Q) (wu Q)
def Ww:=DW (ww Q) 126 39406496739491839 281471742671094 [371000,36319590891649044,41,5090] 126 [a,b,c,d,e,f,g,i,j,k,l,m,n,o,p,q,b,(.func (.func 176) #[] #[e,d]),(.func (.func 176) #[] #[e,d])] h Q (by conv=>lhs;reduce) (by dsimp only[pO,Fu.ap,Cn])
def wy:=ct 126 39406496739491839 [371000,36319590891649044] (Ww Q) (ww Q)
def Wx:=DW (wy Q) 126 38949099902337023 8792858982646 [371000,3334242058369044,41,41087] 126 [a,b,c,d,e,f,g,i,j,k,l,m,n,o,p,q,b,(.func (.func 176) #[] #[e,d]),(.func (.func 176) #[] #[e,d]),(.func (.func 176) #[] #[e,d])] h Q (by conv=>lhs;reduce) (by dsimp only[pO,Fu.ap,Cn])
def wz:=ct 126 38949099902337023 [371000,3334242058369044] (Wx Q) (wy Q)
def Wy:=DW (wz Q) 126 38935905762803711 1096277588214 [371000,2372169384065044,41,1313082] 126 [a,b,c,d,e,f,g,i,j,k,l,m,n,o,p,q,b,(.func (.func 176) #[] #[e,d]),(.func (.func 176) #[] #[e,d]),(.func (.func 176) #[] #[e,d]),(.func (.func 176) #[] #[e,d])] h Q (by conv=>lhs;reduce) (by dsimp only[pO,Fu.ap,Cn])
def w4:=ct 126 38935905762803711 [371000,2372169384065044] (Wy Q) (wz Q)
def Wz:=DW (w4 Q) 126 38934531373268991 134204913910 [371000,2290565005441044,41,1313082] 126 [a,b,c,d,e,f,g,i,j,k,l,m,n,o,p,q,r,b,(.func (.func 176) #[] #[e,d]),(.func (.func 176) #[] #[e,d]),(.func (.func 176) #[] #[e,d]),(.func (.func 176) #[] #[e,d])] h Q (by conv=>lhs;reduce) (by dsimp only[pO,Fu.ap,Cn])
def w5:=ct 126 38934531373268991 [371000,2290565005441044] (Wz Q) (w4 Q)
def XB:=DW (w5 Q) 126 38934393934315519 31125698806 [371000,2273385136257044,41,42017077] 126 [a,b,c,d,e,f,g,i,j,k,l,m,n,o,p,q,b,(.func (.func 176) #[] #[e,d]),(.func (.func 176) #[] #[e,d]),(.func (.func 176) #[] #[e,d]),(.func (.func 176) #[] #[e,d]),(.func (.func 176) #[] #[e,d])] h Q (by conv=>lhs;reduce) (by dsimp only[pO,Fu.ap,Cn])
def w6:=ct 126 38934393934315519 [371000,2273385136257044] (XB Q) (w5 Q)
def XC:=DW (w6 Q) 126 38934359574577151 5355895030 [371000,2271237652609044,41,42017077] 126 [a,b,c,d,e,f,g,i,j,k,l,m,n,o,p,q,b,(.func (.func 176) #[] #[e,d]),(.func (.func 176) #[] #[e,d]),(.func (.func 176) #[] #[e,d]),(.func (.func 176) #[] #[e,d]),(.func (.func 176) #[] #[e,d])] h Q (by conv=>lhs;reduce) (by dsimp only[pO,Fu.ap,Cn])
def Zm:=ct 126 38934359574577151 [371000,2271237652609044] (XC Q) (w6 Q)
def XD:=DW (Zm Q) 126 38934350984642559 524056822 [371000,2270700781697044,41,42017077] 126 [a,b,c,d,e,f,g,i,j,k,l,m,n,o,p,q,b,(.func (.func 176) #[] #[e,d]),(.func (.func 176) #[] #[e,d]),(.func (.func 176) #[] #[e,d]),(.func (.func 176) #[] #[e,d]),(.func (.func 176) #[] #[e,d])] h Q (by conv=>lhs;reduce) (by dsimp only[pO,Fu.ap,Cn])
def Zn:=ct 126 38934350984642559 [371000,2270700781697044] (XD Q) (Zm Q)
def XE:=DW (Zn Q) 126 38934347226546175 121403638 [371000,2270482677889044,41,42017077] 126 [a,b,c,d,e,f,g,i,j,k,l,m,n,o,p,q,r,b,(.func (.func 176) #[] #[e,d]),(.func (.func 176) #[] #[e,d]),(.func (.func 176) #[] #[e,d]),(.func (.func 176) #[] #[e,d]),(.func (.func 176) #[] #[e,d])] h Q (by conv=>lhs;reduce) (by dsimp only[pO,Fu.ap,Cn])
def Zo:=ct 126 38934347226546175 [371000,2270482677889044] (XE Q) (Zn Q)
def Rq:=DW (Zo Q) 126 38934347092328447 20740342 [371000,2270474289281044,41,42017077] 126 [a,b,c,d,e,f,g,i,j,k,l,m,n,o,p,q,r,b,(.func (.func 176) #[] #[e,d]),(.func (.func 176) #[] #[e,d]),(.func (.func 176) #[] #[e,d]),(.func (.func 176) #[] #[e,d]),(.func (.func 176) #[] #[e,d])] h Q (by conv=>lhs;reduce) (by dsimp only[pO,Fu.ap,Cn])
def Zp:=ct 126 38934347092328447 [371000,2270474289281044] (Rq Q) (Zo Q)
def Rr:=DW (Zp Q) 126 38934347058774015 1865974 [371000,2270472192129044,41,42017077] 126 [a,b,c,d,e,f,g,i,j,k,l,m,n,o,p,q,r,b,(.func (.func 176) #[] #[e,d]),(.func (.func 176) #[] #[e,d]),(.func (.func 176) #[] #[e,d]),(.func (.func 176) #[] #[e,d]),(.func (.func 176) #[] #[e,d])] h Q (by conv=>lhs;reduce) (by dsimp only[pO,Fu.ap,Cn])
def Zq:=ct 126 38934347058774015 [371000,2270472192129044] (Rr Q) (Zp Q)
def Rs:=DW (Zq Q) 126 38934347044093951 293110 [371000,2270471340161044,41,42017077] 126 [a,b,c,d,e,f,g,i,j,k,l,m,n,o,p,q,r,s,b,(.func (.func 176) #[] #[e,d]),(.func (.func 176) #[] #[e,d]),(.func (.func 176) #[] #[e,d]),(.func (.func 176) #[] #[e,d]),(.func (.func 176) #[] #[e,d])] h Q (by conv=>lhs;reduce) (by dsimp only[pO,Fu.ap,Cn])
def Zr:=ct 126 38934347044093951 [371000,2270471340161044] (Rs Q) (Zq Q)
def Rt:=DW (Zr Q) 126 38934347043569663 14582 [371000,2270471307393044,41,42017077] 126 [a,b,c,d,e,f,g,i,j,k,l,m,n,o,p,q,r,s,b,(.func (.func 176) #[] #[e,d]),(.func (.func 176) #[] #[e,d]),(.func (.func 176) #[] #[e,d]),(.func (.func 176) #[] #[e,d]),(.func (.func 176) #[] #[e,d])] h Q (by conv=>lhs;reduce) (by dsimp only[pO,Fu.ap,Cn])
def Zs:=ct 126 38934347043569663 [371000,2270471307393044] (Rt Q) (Zr Q)
def Ru:=DW (Zs Q) 126 38934347043323903 2294 [371000,2270471292545044,41,42017077] 126 [a,b,c,d,e,f,g,i,j,k,l,m,n,o,p,q,r,s,t,b,(.func (.func 176) #[] #[e,d]),(.func (.func 176) #[] #[e,d]),(.func (.func 176) #[] #[e,d]),(.func (.func 176) #[] #[e,d]),(.func (.func 176) #[] #[e,d])] h Q (by conv=>lhs;reduce) (by dsimp only[pO,Fu.ap,Cn])
def Zt:=ct 126 38934347043323903 [371000,2270471292545044] (Ru Q) (Zs Q)
def Rv:=DW (Zt Q) 126 38934347043319807 118 [371000,2270471292289044,41,42017077] 126 [a,b,c,d,e,f,g,i,j,k,l,m,n,o,p,q,r,s,t,b,(.func (.func 176) #[] #[e,d]),(.func (.func 176) #[] #[e,d]),(.func (.func 176) #[] #[e,d]),(.func (.func 176) #[] #[e,d]),(.func (.func 176) #[] #[e,d])] h Q (by conv=>lhs;reduce) (by dsimp only[pO,Fu.ap,Cn])
def Zu:=ct 126 38934347043319807 [371000,2270471292289044] (Rv Q) (Zt Q)
def Rw:=DW (Zu Q) 126 38934347043317887 22 [371000,2270471292173044,41,42017077] 126 [a,b,c,d,e,f,g,i,j,k,l,m,n,o,p,q,r,s,t,u,b,(.func (.func 176) #[] #[e,d]),(.func (.func 176) #[] #[e,d]),(.func (.func 176) #[] #[e,d]),(.func (.func 176) #[] #[e,d]),(.func (.func 176) #[] #[e,d])] h Q (by conv=>lhs;reduce) (by dsimp only[pO,Fu.ap,Cn])
def Zv:=ct 126 38934347043317887 [371000,2270471292173044] (Rw Q) (Zu Q)
def Rx:=DW (Zv Q) 126 38934347043317855 2 [371000,2270471292171044,41,42017077] 126 [a,b,c,d,e,f,g,i,j,k,l,m,n,o,p,q,r,s,t,u,b,(.func (.func 176) #[] #[e,d]),(.func (.func 176) #[] #[e,d]),(.func (.func 176) #[] #[e,d]),(.func (.func 176) #[] #[e,d]),(.func (.func 176) #[] #[e,d])] h Q (by conv=>lhs;reduce) (by dsimp only[pO,Fu.ap,Cn])
def Zw:=ct 126 38934347043317855 [371000,2270471292171044] (Rx Q) (Zv Q)
def Wt:=AW (Zw Q) 31 [115000] 126 [a,b,c,d,e] h Q (by conv=>lhs;reduce) (by dsimp only[pO,Fu.ap])
def Zx:=cj 31 [115000] (Wt Q) (Zw Q)
def ALd:=AW (Zx K) 1 [0,1] 126 [a,b] h K (by conv=>lhs;reduce) (by dsimp only[pO,Fu.ap])
def fj:=AW (cr 1025658 [102] s1 (cr 250 [46] r1 [])) 131284275 [2183002,7044,7100,121] 14 [a,b,c,d,e,f,g,i,j,k,l,m] h Q (by conv=>lhs;reduce) (by dsimp only[pO,Fu.ap])
def AIA:=cj 131284275 [2183002,7044,7100,121] (fj Q r1 s1) (cr 1025658 [102] s1 (cr 250 [46] r1 []))
def zm:=BL 1025658 [135002,7044,3100] [102] s1 14 [a,b,c,d,e,f,g,i,j,k] h Q (AIA Q r1 s1) (by conv=>lhs;reduce) (by dsimp only[pO,Fu.ap])
def zr:=BQ (fun s1=>zm Q r1 s1 a b c d e f g i j) k h
def AIB:=cl 1025658 [135002,7044,3100] [102] (zm Q r1) (zr Q r1) (cr 250 [46] r1 [])
def zn:=BL 512826 [199002,7044,3084] [86] s1 14 [a,b,c,d,e,f,g,i,j,k,l] h Q (AIB Q r1) (by conv=>lhs;reduce) (by dsimp only[pO,Fu.ap])
def AIG:=BQ (fun s1=>zn Q r1 s1 a b c d e f g i j k) l h
def AIC:=cl 512826 [199002,7044,3084] [86] (zn Q r1) (AIG Q r1) (AIB Q r1)
def zp:=AW (AIC Q r1) 64103 [199002,7044] 14 [a,b,c,d,e,f,g,i] h Q (by conv=>lhs;reduce) (by dsimp only[pO,Fu.ap])
def AID:=cj 64103 [199002,7044] (zp Q r1) (AIC Q r1)
def zl:=BL 250 [7002,3044] [46] r1 14 [a,b,c,d,e,f] h Q (AID Q r1) (by conv=>lhs;reduce) (by dsimp only[pO,Fu.ap])
def zq:=BQ (fun r1=>zl Q r1 a b c d e) f h
def AIE:=cl 250 [7002,3044] [46] (zl Q) (zq Q) []
def zo:=BL 122 [29000,3028] [30] r1 14 [a,b,c,d,e,f,g] h Q (AIE Q) (by conv=>lhs;reduce) (by dsimp only[pO,Fu.ap])
def AIH:=BQ (fun r1=>zo Q r1 a b c d e f) g h
def AIF:=cl 122 [29000,3028] [30] (zo Q) (AIH Q) (AIE Q)
def f14:=AW (AIF K) 1 [0] 14 [a] h K (by conv=>lhs;reduce) (by dsimp only[pO,Fu.ap])
def gf:=AW [] 63 [217003] 46 [a,b,c,d,e] h Q (by conv=>lhs;reduce) (by dsimp only[pO,Fu.ap])
def AIx:=cj 63 [217003] (gf Q) []
def gg:=AW (AIx Q) 15 [999001] 46 [a,b,c,d,e,f,g,i] h Q (by conv=>lhs;reduce) (by dsimp only[pO,Fu.ap])
def AIy:=cj 15 [999001] (gg Q) (AIx Q)
def f46:=AW (AIy K) 1 [7000] 46 [a,b,c] h K (by conv=>lhs;reduce) (by dsimp only[pO,Fu.ap])
def ABt:=AW [] 15 [35001] 50 [a,b,c] h Q (by conv=>lhs;reduce) (by dsimp only[pO,Fu.ap])
def AI7:=cj 15 [35001] (ABt Q) []
def ABs:=BL 28 [1,2] [6] r1 50 [a,b,c] h Q (AI7 Q) (by conv=>lhs;reduce) (by dsimp only[pO,Fu.ap])
def AI9:=BQ (fun r1=>ABs Q r1 a b) c h
def AI8:=cl 28 [1,2] [6] (ABs Q) (AI9 Q) (AI7 Q)
def f50:=AW (AI8 K) 1 [0,1] 50 [a,b] h K (by conv=>lhs;reduce) (by dsimp only[pO,Fu.ap])
def f20:=AW [] 1 [0,1] 20 [a,b] h K (by conv=>lhs;reduce) (by dsimp only[pO,Fu.ap])
def fp:=BL 58 [2,3011] [6,13] r2 15 [a,b,c,d,e] h Q [] (by conv=>lhs;reduce) (by dsimp only[pO,Fu.ap])
def AAM:=Ca (fun r2=>fp Q r2 a b c) d e h
def AII:=cl 58 [2,3011] [6,13] (fp Q) (AAM Q) []
def f15:=AW (AII K) 1 [0,1] 15 [a,b] h K (by conv=>lhs;reduce) (by dsimp only[pO,Fu.ap])
def f31:=AW [] 1 [0] 31 [a] h K (by conv=>lhs;reduce) (by dsimp only[pO,Fu.ap])
def APJ:=BL 32762 [0,13,3106] [108] r1 6 [a,b,c,d,e] h Q [] (by conv=>lhs;reduce) (by dsimp only[pO,Fu.ap])
def ARo:=BQ (fun r1=>APJ Q r1 a b c d) e h
def APF:=cl 32762 [0,13,3106] [108] (APJ Q) (ARo Q) []
def APK:=BL 16378 [0,5011,3073] [75] r1 6 [a,b,c,d,e,f] h Q (APF Q) (by conv=>lhs;reduce) (by dsimp only[pO,Fu.ap])
def ARp:=BQ (fun r1=>APK Q r1 a b c d e) f h
def APG:=cl 16378 [0,5011,3073] [75] (APK Q) (ARp Q) (APF Q)
def APL:=BL 1018 [0,1,3043] [8,45] r2 6 [a,b,c,d,e,f] h Q (APG Q) (by conv=>lhs;reduce) (by dsimp only[pO,Fu.ap])
def ARq:=Ca (fun r2=>APL Q r2 a b c d) e f h
def APH:=cl 1018 [0,1,3043] [8,45] (APL Q) (ARq Q) (APG Q)
def ARn:=AW (APH Q) 63 [0,1] 6 [a,b] h Q (by conv=>lhs;reduce) (by dsimp only[pO,Fu.ap])
def API:=cj 63 [0,1] (ARn Q) (APH Q)
def APM:=BL 122 [0,1,3024] [5,26] r2 6 [a,b,c,d,e,f] h Q (API Q) (by conv=>lhs;reduce) (by dsimp only[pO,Fu.ap])
def ARr:=Ca (fun r2=>APM Q r2 a b c d) e f h
def ARm:=cl 122 [0,1,3024] [5,26] (APM Q) (ARr Q) (API Q)
def f6:=AW (ARm K) 1 [0,1] 6 [a,b] h K (by conv=>lhs;reduce) (by dsimp only[pO,Fu.ap])
def AAZ:=BL 250 [1,3034] [7,36] r2 16 [a,b,c,d,e] h Q [] (by conv=>lhs;reduce) (by dsimp only[pO,Fu.ap])
def AAb:=Ca (fun r2=>AAZ Q r2 a b c) d e h
def AIJ:=cl 250 [1,3034] [7,36] (AAZ Q) (AAb Q) []
def AAa:=BL 58 [24583000] [7,15] r2 16 [a,b,c,d,e,f,g] h Q (AIJ Q) (by conv=>lhs;reduce) (by dsimp only[pO,Fu.ap])
def AIL:=Ca (fun r2=>AAa Q r2 a b c d e) f g h
def AIK:=cl 58 [24583000] [7,15] (AAa Q) (AIL Q) (AIJ Q)
def f16:=AW (AIK K) 1 [7000] 16 [a,b,c] h K (by conv=>lhs;reduce) (by dsimp only[pO,Fu.ap])
def YB:=BL 58 [6,7] [3,8] r2 189 [a,b,c,d] h Q [] (by conv=>lhs;reduce) (by dsimp only[pO,Fu.ap])
def AAw:=Ca (fun r2=>YB Q r2 a b) c d h
def AAv:=cl 58 [6,7] [3,8] (YB Q) (AAw Q) []
def AMW:=AW (AAv K) 1 [0] 189 [a] h K (by conv=>lhs;reduce) (by dsimp only[pO,Fu.ap])
def XP:=BL 26 [0,8,9] [10] r1 139 [a,b,c,d] h Q [] (by conv=>lhs;reduce) (by dsimp only[pO,Fu.ap])
def yf:=BQ (fun r1=>XP Q r1 a b c) d h
def ye:=cl 26 [0,8,9] [10] (XP Q) (yf Q) []
def ALj:=AW (ye K) 1 [0] 139 [a] h K (by conv=>lhs;reduce) (by dsimp only[pO,Fu.ap])
def AMS:=AW [] 1 [0,1] 185 [a,b] h K (by conv=>lhs;reduce) (by dsimp only[pO,Fu.ap])
def AMm:=AW [] 1 [0] 209 [a] h K (by conv=>lhs;reduce) (by dsimp only[pO,Fu.ap])
def YC:=BL 58 [3010] [1051002] r5 190 [a,b,c,d,e,f,g] h Q [] (by conv=>lhs;reduce) (by dsimp only[pO,Fu.ap])
def AAy:=AH2 (fun r5=>YC Q r5 a b) c d e f g h
def AAx:=cl 58 [3010] [1051002] (YC Q) (AAy Q) []
def AMX:=AW (AAx K) 1 [0] 190 [a] h K (by conv=>lhs;reduce) (by dsimp only[pO,Fu.ap])
def Xe:=BL 26 [7,8] [9] r1 148 [a,b,c] h Q [] (by conv=>lhs;reduce) (by dsimp only[pO,Fu.ap])
def zj:=BQ (fun r1=>Xe Q r1 a b) c h
def zi:=cl 26 [7,8] [9] (Xe Q) (zj Q) []
def ALr:=AW (zi K) 1 [0] 148 [a] h K (by conv=>lhs;reduce) (by dsimp only[pO,Fu.ap])
def ALq:=AW [] 1 [7000] 147 [a,b,c] h K (by conv=>lhs;reduce) (by dsimp only[pO,Fu.ap])
def XY:=AW [] 15 [9] 143 [a] h Q (by conv=>lhs;reduce) (by dsimp only[pO,Fu.ap])
def yv:=cj 15 [9] (XY Q) []
def ALm:=AW (yv K) 1 [7000] 143 [a,b,c] h K (by conv=>lhs;reduce) (by dsimp only[pO,Fu.ap])
def ALl:=AW [] 1 [0] 142 [a] h K (by conv=>lhs;reduce) (by dsimp only[pO,Fu.ap])
def AMV:=AW [] 1 [0] 188 [a] h K (by conv=>lhs;reduce) (by dsimp only[pO,Fu.ap])
def f8:=AW [] 1 [0,1] 8 [a,b] h K (by conv=>lhs;reduce) (by dsimp only[pO,Fu.ap])
def ge:=AW (cr 58 [7003] r3 []) 1865 [57000,22] 29 [a,b,c,d,e] h Q (by conv=>lhs;reduce) (by dsimp only[pO,Fu.ap])
def AIk:=cj 1865 [57000,22] (ge Q r3) (cr 58 [7003] r3 [])
def ABe:=BL 58 [0] [7003] r3 29 [a,b,c,d] h Q (AIk Q r3) (by conv=>lhs;reduce) (by dsimp only[pO,Fu.ap])
def AIm:=Kv (fun r3=>ABe Q r3 a) b c d h
def AIl:=cl 58 [0] [7003] (ABe Q) (AIm Q) []
def f29:=AW (AIl K) 1 [0] 29 [a] h K (by conv=>lhs;reduce) (by dsimp only[pO,Fu.ap])
def ABm:=BL 122 [2063001] [13] r1 47 [a,b,c,d,e,f] h Q [] (by conv=>lhs;reduce) (by dsimp only[pO,Fu.ap])
def AI0:=BQ (fun r1=>ABm Q r1 a b c d e) f h
def AIz:=cl 122 [2063001] [13] (ABm Q) (AI0 Q) []
def f47:=AW (AIz K) 1 [0] 47 [a] h K (by conv=>lhs;reduce) (by dsimp only[pO,Fu.ap])
def ij:=BL 1018 [27000,3039] [8,41] r2 89 [a,b,c,d,e,f,g,i] h Q [] (by conv=>lhs;reduce) (by dsimp only[pO,Fu.ap])
def AC7:=Ca (fun r2=>ij Q r2 a b c d e f) g i h
def AKT:=cl 1018 [27000,3039] [8,41] (ij Q) (AC7 Q) []
def f89:=AW (AKT K) 1 [31000] 89 [a,b,c,d,e] h K (by conv=>lhs;reduce) (by dsimp only[pO,Fu.ap])
def Xa:=AW [] 511 [0,1,7] 144 [a,b,c] h Q (by conv=>lhs;reduce) (by dsimp only[pO,Fu.ap])
def yw:=cj 511 [0,1,7] (Xa Q) []
def SC:=AW (yw Q) 255 [1155000] 144 [a,b,c,d] h Q (by conv=>lhs;reduce) (by dsimp only[pO,Fu.ap])
def yz:=cj 255 [1155000] (SC Q) (yw Q)
def OV:=AW (yz Q) 63 [3211000] 144 [a,b,c,d,e,f] h Q (by conv=>lhs;reduce) (by dsimp only[pO,Fu.ap])
def za:=cj 63 [3211000] (OV Q) (yz Q)
def XZ:=BL 122 [805307547000] [11,30] r2 144 [a,b,c,d,e,f,g,i,j,k] h Q (za Q) (by conv=>lhs;reduce) (by dsimp only[pO,Fu.ap])
def zc:=Ca (fun r2=>XZ Q r2 a b c d e f g i) j k h
def zb:=cl 122 [805307547000] [11,30] (XZ Q) (zc Q) (za Q)
def ALn:=AW (zb K) 1 [31000] 144 [a,b,c,d,e] h K (by conv=>lhs;reduce) (by dsimp only[pO,Fu.ap])
def ALo:=AW [] 1 [0,1] 145 [a,b] h K (by conv=>lhs;reduce) (by dsimp only[pO,Fu.ap])
def Xc:=BL 29902 [1610641421001] [32] s1 146 [a,b,c,d,e,f,g,i,j] h Q (cr 58 [15] r1 []) (by conv=>lhs;reduce) (by dsimp only[pO,Fu.ap])
def zh:=BQ (fun s1=>Xc Q r1 s1 a b c d e f g i) j h
def zd:=cl 29902 [1610641421001] [32] (Xc Q r1) (zh Q r1) (cr 58 [15] r1 [])
def Xd:=AW (zd Q r1) 7475 [28701001] 146 [a,b,c,d,e,f,g] h Q (by conv=>lhs;reduce) (by dsimp only[pO,Fu.ap])
def ze:=cj 7475 [28701001] (Xd Q r1) (zd Q r1)
def Xb:=BL 58 [12293001] [15] r1 146 [a,b,c,d,e] h Q (ze Q r1) (by conv=>lhs;reduce) (by dsimp only[pO,Fu.ap])
def zg:=BQ (fun r1=>Xb Q r1 a b c d) e h
def zf:=cl 58 [12293001] [15] (Xb Q) (zg Q) []
def ALp:=AW (zf K) 1 [0] 146 [a] h K (by conv=>lhs;reduce) (by dsimp only[pO,Fu.ap])
def gz:=AW [] 16383 [0,5015] 85 [a,b,c] h Q (by conv=>lhs;reduce) (by dsimp only[pO,Fu.ap])
def AKM:=cj 16383 [0,5015] (gz Q) []
def UM:=AW (AKM Q) 4095 [32929000] 85 [a,b,c,d] h Q (by conv=>lhs;reduce) (by dsimp only[pO,Fu.ap])
def AKN:=cj 4095 [32929000] (UM Q) (AKM Q)
def ie:=AW (AKN Q) 261759 [46241000,160] 85 [a,b,c,d,e,f,g,i] h Q (by conv=>lhs;reduce) (by dsimp only[pO,Fu.ap])
def AKO:=cj 261759 [46241000,160] (ie Q) (AKN Q)
def ig:=AW (AKO Q) 16359 [113825000,130] 85 [a,b,c,d,e,f,g,i,j,k] h Q (by conv=>lhs;reduce) (by dsimp only[pO,Fu.ap])
def AKP:=cj 16359 [113825000,130] (ig Q) (AKO Q)
def UN:=AW (AKP Q) 4089 [113825000,112] 85 [a,b,c,d,e,f,g,i,j,k] h Q (by conv=>lhs;reduce) (by dsimp only[pO,Fu.ap])
def AKQ:=cj 4089 [113825000,112] (UN Q) (AKP Q)
def APN:=AW (AKQ Q) 501 [1185000] 85 [a,b,c,d] h Q (by conv=>lhs;reduce) (by dsimp only[pO,Fu.ap])
def AKR:=cj 501 [1185000] (APN Q) (AKQ Q)
def ii:=AW (AKR Q) 15 [417000] 85 [a,b,c,d] h Q (by conv=>lhs;reduce) (by dsimp only[pO,Fu.ap])
def AKS:=cj 15 [417000] (ii Q) (AKR Q)
def f85:=AW (AKS K) 1 [7000] 85 [a,b,c] h K (by conv=>lhs;reduce) (by dsimp only[pO,Fu.ap])
def gy:=AW (cr 122 [81] r1 []) 31335 [13006,7079] 83 [a,b,c,d,e,f] h Q (by conv=>lhs;reduce) (by dsimp only[pO,Fu.ap])
def AKH:=cj 31335 [13006,7079] (gy Q r1) (cr 122 [81] r1 [])
def AC1:=BL 122 [3079] [81] r1 83 [a,b,c] h Q (AKH Q r1) (by conv=>lhs;reduce) (by dsimp only[pO,Fu.ap])
def AC3:=BQ (fun r1=>AC1 Q r1 a b) c h
def AKI:=cl 122 [3079] [81] (AC1 Q) (AC3 Q) []
def AC2:=BL 58 [1,3043] [45] r1 83 [a,b,c,d] h Q (AKI Q) (by conv=>lhs;reduce) (by dsimp only[pO,Fu.ap])
def AC4:=BQ (fun r1=>AC2 Q r1 a b c) d h
def AKJ:=cl 58 [1,3043] [45] (AC2 Q) (AC4 Q) (AKI Q)
def AKL:=AW (AKJ Q) 7 [1] 83 [a] h Q (by conv=>lhs;reduce) (by dsimp only[pO,Fu.ap])
def AKK:=cj 7 [1] (AKL Q) (AKJ Q)
def f83:=AW (AKK K) 1 [0] 83 [a] h K (by conv=>lhs;reduce) (by dsimp only[pO,Fu.ap])
def f84:=AW [] 1 [0] 84 [a] h K (by conv=>lhs;reduce) (by dsimp only[pO,Fu.ap])
def yj:=AW (cr 58 [3,9] r2 []) 59799 [937000,20] 140 [a,b,c,d,e,f,g] h Q (by conv=>lhs;reduce) (by dsimp only[pO,Fu.ap])
def yh:=cj 59799 [937000,20] (yj Q r2) (cr 58 [3,9] r2 [])
def XQ:=BL 58 [0,7,8] [3,9] r2 140 [a,b,c,d,e] h Q (yh Q r2) (by conv=>lhs;reduce) (by dsimp only[pO,Fu.ap])
def yk:=Ca (fun r2=>XQ Q r2 a b c) d e h
def yi:=cl 58 [0,7,8] [3,9] (XQ Q) (yk Q) []
def AO4:=AW (yi K) 1 [0] 140 [a] h K (by conv=>lhs;reduce) (by dsimp only[pO,Fu.ap])
def AMT:=AW [] 1 [0] 186 [a] h K (by conv=>lhs;reduce) (by dsimp only[pO,Fu.ap])
def YA:=BL 58 [6,7] [3,8] r2 187 [a,b,c,d] h Q [] (by conv=>lhs;reduce) (by dsimp only[pO,Fu.ap])
def AAu:=Ca (fun r2=>YA Q r2 a b) c d h
def AAt:=cl 58 [6,7] [3,8] (YA Q) (AAu Q) []
def AMU:=AW (AAt K) 1 [0] 187 [a] h K (by conv=>lhs;reduce) (by dsimp only[pO,Fu.ap])
def AIu:=AW [] 1023 [13006] 44 [a,b,c] h Q (by conv=>lhs;reduce) (by dsimp only[pO,Fu.ap])
def AIp:=cj 1023 [13006] (AIu Q) []
def QW:=AW (AIp Q) 511 [13006] 44 [a,b,c] h Q (by conv=>lhs;reduce) (by dsimp only[pO,Fu.ap])
def ABh:=cj 511 [13006] (QW Q) (AIp Q)
def ABi:=AW (cr 2042 [60] r1 (ABh Q)) 4182847 [749006,7058] 44 [a,b,c,d,e,f,g,i,j,k] h Q (by conv=>lhs;reduce) (by dsimp only[pO,Fu.ap])
def AIq:=cj 4182847 [749006,7058] (ABi Q r1) (cr 2042 [60] r1 (ABh Q))
def AIv:=AW (AIq Q r1) 2091423 [749006,7058] 44 [a,b,c,d,e,f,g,i,j,k] h Q (by conv=>lhs;reduce) (by dsimp only[pO,Fu.ap])
def AIr:=cj 2091423 [749006,7058] (AIv Q r1) (AIq Q r1)
def AIw:=AW (AIr Q r1) 261427 [45006,7058] 44 [a,b,c,d,e,f,g] h Q (by conv=>lhs;reduce) (by dsimp only[pO,Fu.ap])
def AIs:=cj 261427 [45006,7058] (AIw Q r1) (AIr Q r1)
def QV:=BL 2042 [13006,3058] [60] r1 44 [a,b,c,d,e,f] h Q (AIs Q r1) (by conv=>lhs;reduce) (by dsimp only[pO,Fu.ap])
def ABj:=BQ (fun r1=>QV Q r1 a b c d e) f h
def AIt:=cl 2042 [13006,3058] [60] (QV Q) (ABj Q) (ABh Q)
def f44:=AW (AIt K) 1 [7000] 44 [a,b,c] h K (by conv=>lhs;reduce) (by dsimp only[pO,Fu.ap])
def f12:=AW [] 1 [0,1] 12 [a,b] h K (by conv=>lhs;reduce) (by dsimp only[pO,Fu.ap])
def f11:=AW [] 1 [7000] 11 [a,b,c] h K (by conv=>lhs;reduce) (by dsimp only[pO,Fu.ap])
def ABV:=BL 58 [1539000] [67005] r3 22 [a,b,c,d,e,f,g] h Q [] (by conv=>lhs;reduce) (by dsimp only[pO,Fu.ap])
def AIP:=Kv (fun r3=>ABV Q r3 a b c d) e f g h
def AIO:=cl 58 [1539000] [67005] (ABV Q) (AIP Q) []
def f22:=AW (AIO K) 1 [0,1] 22 [a,b] h K (by conv=>lhs;reduce) (by dsimp only[pO,Fu.ap])
def gv:=AW [] 31 [7000] 82 [a,b,c] h Q (by conv=>lhs;reduce) (by dsimp only[pO,Fu.ap])
def AJ0:=cj 31 [7000] (gv Q) []
def AJ9:=DW (AJ0 Q) 30 8191 124 [7000,49074,3067] 82 [a,b,c,d,e,f,a,a] h Q (by conv=>lhs;reduce) (by dsimp only[pO,Fu.ap])
def AJ1:=ct 30 8191 [7000,49074] (AJ9 Q) (AJ0 Q)
def gw:=AW (AJ1 Q) 15 [7000] 82 [a,b,c] h Q (by conv=>lhs;reduce) (by dsimp only[pO,Fu.ap])
def AJ2:=cj 15 [7000] (gw Q) (AJ1 Q)
def AC0:=DW (AJ2 Q) 14 4194303 1048568 [7000,12353048,3041] 82 [a,b,c,d,e,f,g,a,a] h Q (by conv=>lhs;reduce) (by dsimp only[pO,Fu.ap])
def AJ3:=ct 14 4194303 [7000,12353048] (AC0 Q) (AJ2 Q)
def AKA:=DW (AJ3 Q) 14 1032191 248 [7000,3633048,7040] 82 [a,b,c,d,e,f,g,i,j,a,a,a] h Q (by conv=>lhs;reduce) (by dsimp only[pO,Fu.ap])
def AJ4:=ct 14 1032191 [7000,3633048] (AKA Q) (AJ3 Q)
def AKB:=DW (AJ4 Q) 14 1031807 0 [7000,29123045,7040] 82 [a,b,c,d,e,f,g,i,j,k,l,a,a,a] h Q (by conv=>lhs;reduce) (by dsimp only[pO,Fu.ap])
def AJ5:=ct 14 1031807 [7000,29123045] (AKB Q) (AJ4 Q)
def AKC:=DW (AJ5 Q) 14 1023999 248 [7000,3609048,7040] 82 [a,b,c,d,e,f,g,i,j,a,a,a] h Q (by conv=>lhs;reduce) (by dsimp only[pO,Fu.ap])
def AJ6:=ct 14 1023999 [7000,3609048] (AKC Q) (AJ5 Q)
def AKD:=DW (AJ6 Q) 14 1023743 0 [7000,28871045,7040] 82 [a,b,c,d,e,f,g,i,j,k,l,a,a,a] h Q (by conv=>lhs;reduce) (by dsimp only[pO,Fu.ap])
def AJ7:=ct 14 1023743 [7000,28871045] (AKD Q) (AJ6 Q)
def AKE:=DW (AJ7 Q) 14 524287 16376 [7000,1601048,7040] 82 [a,b,c,d,e,f,g,a,a,a] h Q (by conv=>lhs;reduce) (by dsimp only[pO,Fu.ap])
def AJ8:=ct 14 524287 [7000,1601048] (AKE Q) (AJ7 Q)
def AKF:=DW (AJ8 Q) 14 507903 248 [7000,1593048,7040] 82 [a,b,c,d,e,f,g,i,j,a,a,a] h Q (by conv=>lhs;reduce) (by dsimp only[pO,Fu.ap])
def ACh:=ct 14 507903 [7000,1593048] (AKF Q) (AJ8 Q)
def AKG:=DW (ACh Q) 14 507647 0 [7000,12743045,7040] 82 [a,b,c,d,e,f,g,i,j,k,l,a,a,a] h Q (by conv=>lhs;reduce) (by dsimp only[pO,Fu.ap])
def ACi:=ct 14 507647 [7000,12743045] (AKG Q) (ACh Q)
def gx:=AW (ACi Q) 7 [7000] 82 [a,b,c] h Q (by conv=>lhs;reduce) (by dsimp only[pO,Fu.ap])
def ACj:=cj 7 [7000] (gx Q) (ACi Q)
def YT:=DW (ACj Q) 6 33554431 4194296 [7000,20545020,3011] 82 [a,b,c,d,e,f,g,a,a] h Q (by conv=>lhs;reduce) (by dsimp only[pO,Fu.ap])
def ACk:=ct 6 33554431 [7000,20545020] (YT Q) (ACj Q)
def ACt:=DW (ACk Q) 6 4128767 1016 [7000,3633020,7010] 82 [a,b,c,d,e,f,g,i,j,a,a,a] h Q (by conv=>lhs;reduce) (by dsimp only[pO,Fu.ap])
def ACl:=ct 6 4128767 [7000,3633020] (ACt Q) (ACk Q)
def ACu:=DW (ACl Q) 6 4127231 0 [3817275399000,7010] 82 [a,b,c,d,e,f,g,i,j,k,l,m,a,a,a] h Q (by conv=>lhs;reduce) (by dsimp only[pO,Fu.ap])
def ACm:=ct 6 4127231 [3817275399000] (ACu Q) (ACl Q)
def ACv:=DW (ACm Q) 6 4095999 1016 [7000,3609020,7010] 82 [a,b,c,d,e,f,g,i,j,a,a,a] h Q (by conv=>lhs;reduce) (by dsimp only[pO,Fu.ap])
def ACn:=ct 6 4095999 [7000,3609020] (ACv Q) (ACm Q)
def ACw:=DW (ACn Q) 6 4094975 256 [3783983111000,7010] 82 [a,b,c,d,e,f,g,i,j,k,l,a,a,a] h Q (by conv=>lhs;reduce) (by dsimp only[pO,Fu.ap])
def ACo:=ct 6 4094975 [3783983111000] (ACw Q) (ACn Q)
def ACx:=DW (ACo Q) 6 2097151 65528 [7000,1601020,7010] 82 [a,b,c,d,e,f,g,a,a,a] h Q (by conv=>lhs;reduce) (by dsimp only[pO,Fu.ap])
def ACp:=ct 6 2097151 [7000,1601020] (ACx Q) (ACo Q)
def ACy:=DW (ACp Q) 6 2031615 1016 [7000,1593020,7010] 82 [a,b,c,d,e,f,g,i,j,a,a,a] h Q (by conv=>lhs;reduce) (by dsimp only[pO,Fu.ap])
def ACq:=ct 6 2031615 [7000,1593020] (ACy Q) (ACp Q)
def ACz:=DW (ACq Q) 6 2030591 256 [1670053895000,7010] 82 [a,b,c,d,e,f,g,i,j,k,l,a,a,a] h Q (by conv=>lhs;reduce) (by dsimp only[pO,Fu.ap])
def ACr:=ct 6 2030591 [1670053895000] (ACz Q) (ACq Q)
def f82:=AW (ACr K) 1 [15000] 82 [a,b,c,d] h K (by conv=>lhs;reduce) (by dsimp only[pO,Fu.ap])
def XR:=AW [] 983 [7003,46] 141 [a,b,c,d] h Q (by conv=>lhs;reduce) (by dsimp only[pO,Fu.ap])
def yl:=cj 983 [7003,46] (XR Q) []
def XT:=AW (yl Q) 15 [7003] 141 [a,b,c] h Q (by conv=>lhs;reduce) (by dsimp only[pO,Fu.ap])
def ym:=cj 15 [7003] (XT Q) (yl Q)
def SB:=AW (ym Q) 7 [7003] 141 [a,b,c] h Q (by conv=>lhs;reduce) (by dsimp only[pO,Fu.ap])
def yn:=cj 7 [7003] (SB Q) (ym Q)
def yu:=DW (yn Q) 6 6291455 1048512 [9587031003] 141 [a,b,c,d,e,f,g,i,j,k,l] h Q (by conv=>lhs;reduce) (by dsimp only[pO,Fu.ap])
def yo:=ct 6 6291455 [9587031003] (yu Q) (yn Q)
def XU:=DW (yo Q) 6 5242879 131008 [5392895003] 141 [a,b,c,d,e,f,g,i,j,k,l,m,n,o] h Q (by conv=>lhs;reduce) (by dsimp only[pO,Fu.ap])
def yp:=ct 6 5242879 [5392895003] (XU Q) (yo Q)
def XV:=DW (yp Q) 6 5111807 16320 [6965759003] 141 [a,b,c,d,e,f,g,i,j,k,l,m,n,o,p] h Q (by conv=>lhs;reduce) (by dsimp only[pO,Fu.ap])
def yq:=ct 6 5111807 [6965759003] (XV Q) (yp Q)
def XW:=DW (yq Q) 6 5095423 1984 [7162367003] 141 [a,b,c,d,e,f,g,i,j,k,l,m,n,o,p,q] h Q (by conv=>lhs;reduce) (by dsimp only[pO,Fu.ap])
def yr:=ct 6 5095423 [7162367003] (XW Q) (yq Q)
def XX:=DW (yr Q) 6 5093375 192 [7186943003] 141 [a,b,c,d,e,f,g,i,j,k,l,m,n,o,p,q,r] h Q (by conv=>lhs;reduce) (by dsimp only[pO,Fu.ap])
def yt:=ct 6 5093375 [7186943003] (XX Q) (yr Q)
def ALk:=AW (yt K) 1 [0,1] 141 [a,b] h K (by conv=>lhs;reduce) (by dsimp only[pO,Fu.ap])
def AMv:=BL 67103130 [9985005,391116] [19,125] s2 3 [a,b,c,d,e,f,g,i,j,k,l,m] h Q (cr 65530 [118] r1 []) (by conv=>lhs;reduce) (by dsimp only[pO,Fu.ap])
def APD:=Ca (fun s2=>AMv Q r1 s2 a b c d e f g i j k) l m h
def AO5:=cl 67103130 [9985005,391116] [19,125] (AMv Q r1) (APD Q r1) (cr 65530 [118] r1 [])
def AMu:=BL 65530 [5,7013,3116] [118] r1 3 [a,b,c,d,e,f,g] h Q (AO5 Q r1) (by conv=>lhs;reduce) (by dsimp only[pO,Fu.ap])
def AMz:=BQ (fun r1=>AMu Q r1 a b c d e f) g h
def AO6:=cl 65530 [5,7013,3116] [118] (AMu Q) (AMz Q) []
def AMw:=AW (AO6 Q) 1023 [163004] 3 [a,b,c,d] h Q (by conv=>lhs;reduce) (by dsimp only[pO,Fu.ap])
def AO7:=cj 1023 [163004] (AMw Q) (AO6 Q)
def AMx:=AW (AO7 Q) 127 [433000] 3 [a,b,c,d,e] h Q (by conv=>lhs;reduce) (by dsimp only[pO,Fu.ap])
def AO8:=cj 127 [433000] (AMx Q) (AO7 Q)
def AMy:=AW (AO8 Q) 15 [49000] 3 [a,b,c] h Q (by conv=>lhs;reduce) (by dsimp only[pO,Fu.ap])
def AO9:=cj 15 [49000] (AMy Q) (AO8 Q)
def APC:=AW (AO9 Q) 7 [49000] 3 [a,b,c] h Q (by conv=>lhs;reduce) (by dsimp only[pO,Fu.ap])
def APA:=cj 7 [49000] (APC Q) (AO9 Q)
def f3:=AW (APA K) 1 [7000] 3 [a,b,c] h K (by conv=>lhs;reduce) (by dsimp only[pO,Fu.ap])
def f10:=AW [] 1 [0] 10 [a] h K (by conv=>lhs;reduce) (by dsimp only[pO,Fu.ap])
def AAo:=BL 122 [3,3019] [21] r1 17 [a,b,c,d] h Q [] (by conv=>lhs;reduce) (by dsimp only[pO,Fu.ap])
def AIN:=BQ (fun r1=>AAo Q r1 a b c) d h
def AIM:=cl 122 [3,3019] [21] (AAo Q) (AIN Q) []
def f17:=AW (AIM K) 1 [0,1] 17 [a,b] h K (by conv=>lhs;reduce) (by dsimp only[pO,Fu.ap])
def ABn:=BL 250 [2,3,3143] [145] r1 48 [a,b,c,d,e] h Q [] (by conv=>lhs;reduce) (by dsimp only[pO,Fu.ap])
def ABp:=BQ (fun r1=>ABn Q r1 a b c d) e h
def AI1:=cl 250 [2,3,3143] [145] (ABn Q) (ABp Q) []
def ABo:=BL 122 [2,3,3112] [114] r1 48 [a,b,c,d,e] h Q (AI1 Q) (by conv=>lhs;reduce) (by dsimp only[pO,Fu.ap])
def ABq:=BQ (fun r1=>ABo Q r1 a b c d) e h
def AI2:=cl 122 [2,3,3112] [114] (ABo Q) (ABq Q) (AI1 Q)
def AI5:=AW (AI2 Q) 15 [2,3] 48 [a,b] h Q (by conv=>lhs;reduce) (by dsimp only[pO,Fu.ap])
def AI3:=cj 15 [2,3] (AI5 Q) (AI2 Q)
def AI6:=AW (AI3 Q) 7 [2,3] 48 [a,b] h Q (by conv=>lhs;reduce) (by dsimp only[pO,Fu.ap])
def AI4:=cj 7 [2,3] (AI6 Q) (AI3 Q)
def f48:=AW (AI4 K) 1 [0,1] 48 [a,b] h K (by conv=>lhs;reduce) (by dsimp only[pO,Fu.ap])
def ABg:=BL 58 [8,9] [10] r1 43 [a,b,c] h Q [] (by conv=>lhs;reduce) (by dsimp only[pO,Fu.ap])
def AIo:=BQ (fun r1=>ABg Q r1 a b) c h
def AIn:=cl 58 [8,9] [10] (ABg Q) (AIo Q) []
def f43:=AW (AIn K) 1 [0] 43 [a] h K (by conv=>lhs;reduce) (by dsimp only[pO,Fu.ap])
def f81:=AW [] 1 [0] 81 [a] h K (by conv=>lhs;reduce) (by dsimp only[pO,Fu.ap])
end
section
variable {a b c d e f g i j k l m n o p q r s t u v:Vz}{h:H}{K:Kt}
def Gp:AMH a b h K->Call TP 172 [a,b] h K:=Bp nO (by kernel_rfl)
def Gq:AMI a b h K->Call TP 173 [a,b] h K:=Bp nO (by kernel_rfl)
def AGA:AMJ a b h K->Call TP 174 [a,b] h K:=Bp nO (by kernel_rfl)
def AC8:f92 a b c h K->Call TP 92 [a,b,c] h K:=Bp (fun _=>(AKZ K)) (by kernel_rfl)
def AFd:ALQ a h K->Call TP 108 [a] h K:=Bp nO (by kernel_rfl)
def AFf:ALR a h K->Call TP 110 [a] h K:=Bp nO (by kernel_rfl)
def AFw:ALy a b c h K->Call TP 152 [a,b,c] h K:=Bp (fun r=>(AAA K)++(z8 K (Fu.un (r 28)))) (by kernel_rfl)
def AF5:AMA a b h K->Call TP 164 [a,b] h K:=Bp (fun _=>(AAQ K)) (by kernel_rfl)
def ST:f98 a b h K->Call TP 98 [a,b] h K:=Bp nO (by kernel_rfl)
def Rk:AFY a h K->Call TP 100 [a] h K:=Bp nO (by kernel_rfl)
def Na:AFZ a b h K->Call TP 101 [a,b] h K:=Bp nO (by kernel_rfl)
def Rn:vu a b h K->Call TP 116 [a,b] h K:=Bp nO (by kernel_rfl)
def Ro:ot a b h K->Call TP 117 [a,b] h K:=Bp (fun _=>(vw K)) (by kernel_rfl)
def AGL:AMY a h K->Call TP 191 [a] h K:=Bp nO (by kernel_rfl)
def Kc:f57 a b h K->Call TP 57 [a,b] h K:=Bp nO (by kernel_rfl)
def MM:YU a h K->Call TP 91 [a] h K:=Bp (fun _=>(AKX K)) (by kernel_rfl)
def SR:f93 a h K->Call TP 93 [a] h K:=Bp nO (by kernel_rfl)
def YW:f96 a b c d h K->Call TP 96 [a,b,c,d] h K:=Bp nO (by kernel_rfl)
def AFb:ALN a h K->Call TP 104 [a] h K:=Bp nO (by kernel_rfl)
def Zh:AFe a h K->Call TP 109 [a] h K:=Bp nO (by kernel_rfl)
def Rm:vp a b h K->Call TP 115 [a,b] h K:=Bp (fun _=>(vq K)) (by kernel_rfl)
def AFc:ALO a h K->Call TP 107 [a] h K:=Bp (fun r=>(ul K)++(uj K (Fu.un (r 1020)))++(ub K (Fu.un (r 1020)) (Fu.un (r 66867114)))) (by kernel_rfl)
def SI:AL7 a b h K->Call TP 161 [a,b] h K:=Bp (fun _=>(AAO K)) (by kernel_rfl)
def AF3:AL8 a b h K->Call TP 162 [a,b] h K:=Bp nO (by kernel_rfl)
def AF4:AL9 a h K->Call TP 163 [a] h K:=Bp nO (by kernel_rfl)
def Nc:AFx a h K->Call TP 153 [a] h K:=Bp nO (by kernel_rfl)
def AFy:ALz a h K->Call TP 154 [a] h K:=Bp nO (by kernel_rfl)
def fk:AL0 a b c h K->Call TP 155 [a,b,c] h K:=Bp nO (by kernel_rfl)
def AFz:ou a b c h K->Call TP 156 [a,b,c] h K:=Bp (fun r=>(AAH K)++(AAE K (Fu.un (r 938)))++(AAD K (Fu.un (r 938)) (Fu.un (r 60050)))) (by kernel_rfl)
def SF:AF1 a h K->Call TP 158 [a] h K:=Bp nO (by kernel_rfl)
def SH:AL6 a h K->Call TP 160 [a] h K:=Bp nO (by kernel_rfl)
def fu:AMF a b c h K->Call TP 169 [a,b,c] h K:=Bp (fun _=>(AAX K)) (by kernel_rfl)
def Nf:AAc a b h K->Call TP 170 [a,b] h K:=Bp nO (by kernel_rfl)
def AGP:AMc a h K->Call TP 196 [a] h K:=Bp (fun _=>(AA3 K)) (by kernel_rfl)
def f0:AMd a h K->Call TP 197 [a] h K:=Bp nO (by kernel_rfl)
def AGT:AMi a b h K->Call TP 205 [a,b] h K:=Bp nO (by kernel_rfl)
def AGU:AMj a b h K->Call TP 206 [a,b] h K:=Bp (fun _=>(AA7 K)) (by kernel_rfl)
def AGY:AMn a b h K->Call TP 210 [a,b] h K:=Bp nO (by kernel_rfl)
def AGa:AMp a b h K->Call TP 213 [a,b] h K:=Bp nO (by kernel_rfl)
def Cd:f66 a b c h K->Call TP 66 [a,b,c] h K:=Bp (fun r=>(AJX K)++(AJW K (Fu.un (r 58)))) (by kernel_rfl)
def BH:f65 a b c d h K->Call TP 65 [a,b,c,d] h K:=Bp nO (by kernel_rfl)
def Jm:ALZ a b c h K->Call TP 122 [a,b,c] h K:=Bp nO (by kernel_rfl)
def Rz:ALg a b h K->Call TP 129 [a,b] h K:=Bp (fun _=>(xz K)) (by kernel_rfl)
def AFl:ALW a b h K->Call TP 121 [a,b] h K:=Bp (fun r=>(wh K)++(wg K (Fu.un (r 250)))) (by kernel_rfl)
def AGG:AMQ a b h K->Call TP 181 [a,b] h K:=Bp nO (by kernel_rfl)
def Jn:ALi a b c d e h K->Call TP 131 [a,b,c,d,e] h K:=Bp (fun _=>(yc K)) (by kernel_rfl)
def Zj:ALa a b h K->Call TP 123 [a,b] h K:=Bp nO (by kernel_rfl)
def Zk:ALb a b h K->Call TP 124 [a,b] h K:=Bp nO (by kernel_rfl)
def Zl:ALc a b h K->Call TP 125 [a,b] h K:=Bp nO (by kernel_rfl)
def ANA:f67 a b h K->Call TP 67 [a,b] h K:=Bp (fun r=>(AJe K)++(AJc K (Fu.un (r 126)))) (by kernel_rfl)
def Nb:ALf a b h K->Call TP 128 [a,b] h K:=Bp (fun _=>(xx K)) (by kernel_rfl)
def Fk:f45 a h K->Call TP 45 [a] h K:=Bp nO (by kernel_rfl)
def AGC:AML a b h K->Call TP 177 [a,b] h K:=Bp nO (by kernel_rfl)
def Zz:ALh a b h K->Call TP 130 [a,b] h K:=Bp nO (by kernel_rfl)
def AMt:f25 a h K->Call TP 25 [a] h K:=Bp (fun _=>(AId K)) (by kernel_rfl)
def ANB:f68 a b h K->Call TP 68 [a,b] h K:=Bp (fun r=>(AJo K)++(AJm K (Fu.un (r 508)))++(AJl K (Fu.un (r 508)) (Fu.un (r 2082262)))++(AJi K (Fu.un (r 2046)))) (by kernel_rfl)
def ANC:f69 a b h K->Call TP 69 [a,b] h K:=Bp (fun r=>(ACU K)++(AJu K (Fu.un (r 250)))++(AJt K (Fu.un (r 250)) (Fu.un (r 128154)))++(AJq K (Fu.un (r 1022)))) (by kernel_rfl)
def AFm:ALe a b c h K->Call TP 127 [a,b,c] h K:=Bp (fun r=>(xj K)++(w8 K (Fu.un (r 254)))) (by kernel_rfl)
def AGB:AMK a b c h K->Call TP 176 [a,b,c] h K:=Bp nO (by kernel_rfl)
def AGD:AMM a b c d h K->Call TP 178 [a,b,c,d] h K:=Bp (fun r=>(AAh K)++(AAd K (Fu.un (r 1018)))) (by kernel_rfl)
def AGE:AMN a b c d h K->Call TP 179 [a,b,c,d] h K:=Bp (fun _=>(AAn K)) (by kernel_rfl)
def AGF:AMP a b c h K->Call TP 180 [a,b,c] h K:=Bp (fun r=>(AAq K)++(AAp K (Fu.un (r 2)))) (by kernel_rfl)
def fw:AMR a h K->Call TP 184 [a] h K:=Bp nO (by kernel_rfl)
def AGV:AMk a b c d e h K->Call TP 207 [a,b,c,d,e] h K:=Bp (fun r=>(ABD K)++(ABC K (Fu.un (r 124)))) (by kernel_rfl)
def AGW:AMl a b c d e h K->Call TP 208 [a,b,c,d,e] h K:=Bp (fun r=>(ABM K)++(ABI K (Fu.un (r 254)))) (by kernel_rfl)
def AGZ:AMo a b h K->Call TP 212 [a,b] h K:=Bp (fun _=>(ABT K)) (by kernel_rfl)
def AFa:ALM a b c h K->Call TP 103 [a,b,c] h K:=Bp (fun _=>(tx K)) (by kernel_rfl)
def AF2:AL5 a b h K->Call TP 159 [a,b] h K:=Bp (fun _=>(AAK K)) (by kernel_rfl)
def AF0:AL4 a h K->Call TP 157 [a] h K:=Bp nO (by kernel_rfl)
def YV:f95 a b c h K->Call TP 95 [a,b,c] h K:=Bp (fun r=>(ADE K)++(AKf K (Fu.un (r 34359738202)))++(AKe K (Fu.un (r 34359738202)) (Fu.un (r 2199023244946)))) (by kernel_rfl)
def AFv:ALt a b h K->Call TP 151 [a,b] h K:=Bp (fun r=>(zz K)++(zy K (Fu.un (r 16768890)))) (by kernel_rfl)
def AGM:AMZ a b c d e h K->Call TP 192 [a,b,c,d,e] h K:=Bp (fun r=>(AA0 K)++(AAz K (Fu.un (r 14)))) (by kernel_rfl)
def AGN:AMa a h K->Call TP 193 [a] h K:=Bp nO (by kernel_rfl)
def AGO:AMb a h K->Call TP 194 [a] h K:=Bp nO (by kernel_rfl)
def ABv:f55 a b c h K->Call TP 55 [a,b,c] h K:=Bp (fun _=>(AJE K)) (by kernel_rfl)
def AFu:ALs a h K->Call TP 150 [a] h K:=Bp nO (by kernel_rfl)
def AM3:f52 a h K->Call TP 52 [a] h K:=Bp nO (by kernel_rfl)
def AM4:f53 a h K->Call TP 53 [a] h K:=Bp nO (by kernel_rfl)
def AM5:f54 a b h K->Call TP 54 [a,b] h K:=Bp (fun _=>(AJA K)) (by kernel_rfl)
def ANG:f90 a b h K->Call TP 90 [a,b] h K:=Bp (fun _=>(AKU K)) (by kernel_rfl)
def AGR:AMg a h K->Call TP 203 [a] h K:=Bp nO (by kernel_rfl)
def gc:AGQ a h K->Call TP 201 [a] h K:=Bp nO (by kernel_rfl)
def AF6:AMC a b c h K->Call TP 166 [a,b,c] h K:=Bp (fun r=>(AAU K)++(AAS K (Fu.un (r 32762)))++(AAR K (Fu.un (r 32762)) (Fu.un (r 2096786)))) (by kernel_rfl)
def Zi:AFg a b c h K->Call TP 112 [a,b,c] h K:=Bp (fun r=>(uz K)++(ux K (Fu.un (r 506)))++(uw K (Fu.un (r 506)) (Fu.un (r 32402)))) (by kernel_rfl)
def f9:AMe a b h K->Call TP 200 [a,b] h K:=Bp nO (by kernel_rfl)
def SP:AMf a b c d e h K->Call TP 202 [a,b,c,d,e] h K:=Bp (fun _=>(AA5 K)) (by kernel_rfl)
def AGS:AMh a b c d h K->Call TP 204 [a,b,c,d] h K:=Bp nO (by kernel_rfl)
def AF7:AMD a b c d h K->Call TP 167 [a,b,c,d] h K:=Bp nO (by kernel_rfl)
def AM8:f63 a h K->Call TP 63 [a] h K:=Bp (fun r=>(AB3 K)++(AB1 K (Fu.un (r 16777210)))++(AJJ K (Fu.un (r 16777210)) (Fu.un (r 68719453434)))) (by kernel_rfl)
def AFh:ALS a b h K->Call TP 113 [a,b] h K:=Bp (fun _=>(vh K)) (by kernel_rfl)
def AF8:AME a b c h K->Call TP 168 [a,b,c] h K:=Bp nO (by kernel_rfl)
def AFi:ALT a b h K->Call TP 114 [a,b] h K:=Bp (fun r=>(vn K)++(vl K (Fu.un (r 26)))) (by kernel_rfl)
def AFj:ALU a h K->Call TP 118 [a] h K:=Bp nO (by kernel_rfl)
def AFk:ALV a h K->Call TP 119 [a] h K:=Bp (fun _=>(wc K)) (by kernel_rfl)
def AF9:AMG a h K->Call TP 171 [a] h K:=Bp nO (by kernel_rfl)
def AMr:f23 a b c h K->Call TP 23 [a,b,c] h K:=Bp (fun r=>(AIT K)++(AIR K (Fu.un (r 1018)))) (by kernel_rfl)
def AM6:f56 a h K->Call TP 56 [a] h K:=Bp (fun _=>(AJG K)) (by kernel_rfl)
def SS:f97 a h K->Call TP 97 [a] h K:=Bp nO (by kernel_rfl)
def AMs:f24 a h K->Call TP 24 [a] h K:=Bp (fun _=>(AIU K)) (by kernel_rfl)
def ABf:f38 a h K->Call TP 38 [a] h K:=Bp nO (by kernel_rfl)
def AM9:f64 a h K->Call TP 64 [a] h K:=Bp (fun _=>(AJU K)) (by kernel_rfl)
def AM7:f62 a h K->Call TP 62 [a] h K:=Bp nO (by kernel_rfl)
def yg:f13 a b c h K->Call TP 13 [a,b,c] h K:=Bp nO (by kernel_rfl)
def Zy:ALd a b h K->Call TP 126 [a,b] h K:=Bp (fun _=>(Zx K)) (by kernel_rfl)
def zk:f14 a h K->Call TP 14 [a] h K:=Bp (fun r=>(AIF K)++(AID K (Fu.un (r 250)))++(AIA K (Fu.un (r 250)) (Fu.un (r 1025658)))) (by kernel_rfl)
def ABk:f46 a b c h K->Call TP 46 [a,b,c] h K:=Bp (fun _=>(AIy K)) (by kernel_rfl)
def ABr:f50 a b h K->Call TP 50 [a,b] h K:=Bp (fun _=>(AI8 K)) (by kernel_rfl)
def YP:f20 a b h K->Call TP 20 [a,b] h K:=Bp nO (by kernel_rfl)
def SG:f15 a b h K->Call TP 15 [a,b] h K:=Bp (fun _=>(AII K)) (by kernel_rfl)
def Ed:f31 a h K->Call TP 31 [a] h K:=Bp nO (by kernel_rfl)
def SK:f16 a b c h K->Call TP 16 [a,b,c] h K:=Bp (fun _=>(AIK K)) (by kernel_rfl)
def fy:AMW a h K->Call TP 189 [a] h K:=Bp (fun _=>(AAv K)) (by kernel_rfl)
def SA:ALj a h K->Call TP 139 [a] h K:=Bp (fun _=>(ye K)) (by kernel_rfl)
def AGH:AMS a b h K->Call TP 185 [a,b] h K:=Bp nO (by kernel_rfl)
def AGX:AMm a h K->Call TP 209 [a] h K:=Bp nO (by kernel_rfl)
def AGK:AMX a h K->Call TP 190 [a] h K:=Bp (fun _=>(AAx K)) (by kernel_rfl)
def AFt:ALr a h K->Call TP 148 [a] h K:=Bp (fun _=>(zi K)) (by kernel_rfl)
def fh:ALq a b c h K->Call TP 147 [a,b,c] h K:=Bp nO (by kernel_rfl)
def fg:ALm a b c h K->Call TP 143 [a,b,c] h K:=Bp (fun _=>(yv K)) (by kernel_rfl)
def AFp:ALl a h K->Call TP 142 [a] h K:=Bp nO (by kernel_rfl)
def Gr:AMV a h K->Call TP 188 [a] h K:=Bp nO (by kernel_rfl)
def ABd:f29 a h K->Call TP 29 [a] h K:=Bp (fun r=>(AIl K)++(AIk K (Fu.un (r 58)))) (by kernel_rfl)
def ABl:f47 a h K->Call TP 47 [a] h K:=Bp (fun _=>(AIz K)) (by kernel_rfl)
def AC6:f89 a b c d e h K->Call TP 89 [a,b,c,d,e] h K:=Bp (fun _=>(AKT K)) (by kernel_rfl)
def AFq:ALn a b c d e h K->Call TP 144 [a,b,c,d,e] h K:=Bp (fun _=>(zb K)) (by kernel_rfl)
def AFr:ALo a b h K->Call TP 145 [a,b] h K:=Bp nO (by kernel_rfl)
def AFs:ALp a h K->Call TP 146 [a] h K:=Bp (fun r=>(zf K)++(ze K (Fu.un (r 58)))) (by kernel_rfl)
def ANF:f85 a b c h K->Call TP 85 [a,b,c] h K:=Bp (fun _=>(AKS K)) (by kernel_rfl)
def ANE:f83 a h K->Call TP 83 [a] h K:=Bp (fun r=>(AKK K)++(AKH K (Fu.un (r 122)))) (by kernel_rfl)
def AC5:f84 a h K->Call TP 84 [a] h K:=Bp nO (by kernel_rfl)
def AFn:AO4 a h K->Call TP 140 [a] h K:=Bp (fun r=>(yi K)++(yh K (Fu.un (r 58)))) (by kernel_rfl)
def AGI:AMT a h K->Call TP 186 [a] h K:=Bp nO (by kernel_rfl)
def AGJ:AMU a h K->Call TP 187 [a] h K:=Bp (fun _=>(AAt K)) (by kernel_rfl)
def AM1:f44 a b c h K->Call TP 44 [a,b,c] h K:=Bp (fun r=>(AIt K)++(AIs K (Fu.un (r 2042)))) (by kernel_rfl)
def yb:f12 a b h K->Call TP 12 [a,b] h K:=Bp nO (by kernel_rfl)
def we:f11 a b c h K->Call TP 11 [a,b,c] h K:=Bp nO (by kernel_rfl)
def AMq:f22 a b h K->Call TP 22 [a,b] h K:=Bp (fun _=>(AIO K)) (by kernel_rfl)
def ACs:f82 a b c d h K->Call TP 82 [a,b,c,d] h K:=Bp (fun _=>(ACr K)) (by kernel_rfl)
def AFo:ALk a b h K->Call TP 141 [a,b] h K:=Bp (fun _=>(yt K)) (by kernel_rfl)
def APB:f3 a b c h K->Call TP 3 [a,b,c] h K:=Bp (fun r=>(APA K)++(AO5 K (Fu.un (r 65530)))) (by kernel_rfl)
def uv:f10 a h K->Call TP 10 [a] h K:=Bp nO (by kernel_rfl)
def AMO:f17 a b h K->Call TP 17 [a,b] h K:=Bp (fun _=>(AIM K)) (by kernel_rfl)
def AM2:f48 a b h K->Call TP 48 [a,b] h K:=Bp (fun _=>(AI4 K)) (by kernel_rfl)
def AM0:f43 a h K->Call TP 43 [a] h K:=Bp (fun _=>(AIn K)) (by kernel_rfl)
def AND:f81 a h K->Call TP 81 [a] h K:=Bp nO (by kernel_rfl)
end
end Go.Proofs.YtollddkkdgoonaaGreatDoor
