/- A part of a proof over images that are written and read. No condition; a step. -/
import Derived.Test.YtollddkkdgoonaaGreatDoorM2
namespace Go.Proofs.YtollddkkdgoonaaGreatDoor
open Go
set_option linter.unusedVariables false
set_option linter.unusedSimpArgs false
set_option maxRecDepth 100000
section
section
variable {P:Program} {ops:Array Oper} {Q:Exit→Act→World→Prop} {pl:I3} {n:Nat}
def Wp (L:Nat)(listed:Array Bool):Prop:=∀ i,listed.getD i false=hasB L i
theorem Wp.step {L i:Nat}{listed:Array Bool}(c:Wp L listed)(hi:i<listed.size):Wp (L ||| (1 <<< i)) (listed.setIfInBounds i true):=fun k=>by
 rw[Gq,PZ,←c k]
 cases hk:(listed.setIfInBounds i true).getD k false with
 | true=>
  rcases (Bn hi).1 hk with h|h
  ·simp[h]
  ·rw[h];rfl
 | false=>
  cases hb:(listed.getD k false||decide (k=i)) with
  | false=>rfl
  | true=>
   simp only[B14,A84] at hb
   rw[(Bn hi).2 hb.symm] at hk
   cases hk
theorem FH (rg:JG P ops pl){L R i:Nat}{listed:Array Bool}(c:Wp L listed)(I:YU ops pl listed R):i∈Region.ready .any ops listed↔i∈EO L pl.deps 0:=by
 rw[Ke]
 constructor
 ·intro h
  obtain⟨h1,o,ho,h2⟩:=CV I h
  refine⟨i,depB o,rg.dep i o ho,by omega,by rw[←c i];exact h1,Oz.2 fun k hk=>?_⟩
  obtain⟨e,h3,h4,h5⟩:=Is.1 hk
  rw[←c k,←h5]
  exact h2 e h3 h4
 ·rintro⟨t,d,h1,h2,h3,h4⟩
  have:i=t:=by omega
  subst this
  have hlt:i<ops.size:=by rw[←rg.len];exact (A02.1 h1).1
  obtain⟨o,ho⟩:∃ o,ops[i]? = some o:=⟨_,Array.getElem?_eq_getElem hlt⟩
  rw[rg.dep i o ho] at h1
  cases h1
  refine mem_ready.2 ⟨?_,o,ho,fun e he hb=>?_⟩
  ·rw[←c i] at h3
   have hl:i<listed.size:=by rw[I.size];exact hlt
   simpa[Array.getD,hl] using h3
  ·rw[c e.on]
   exact Oz.1 h4 _ (Is.2 ⟨e,he,hb,rfl⟩)
theorem Ol {o:Oper}{ρ:Operand→Value}{h:H}{k:Kt}(hh:Hh P o ρ h k):Hh P o ρ h fun v h'=>(assignB o=true→h'=h)∧k v h':=by
 cases ha:assignB o with
 | false=>exact El (fun v h' hk=>⟨fun hx=>(by cases hx),hk⟩) hh
 | true=>
  obtain⟨dst,op,type,pos,after,guard⟩:=o
  unfold Hh at hh ⊢
  cases op<;>(try (cases ha;done))
  exact⟨fun _=>rfl,hh⟩
theorem UY (hng:Lc P)(rg:JG P ops pl)(hd:∀ (k:Nat) (o:Oper) (d:Nat),ops[k]? = some o→o.dst=some d→d<n)(hQp:∀ c a w,¬Q (.panic c) a w){w0:World}{K:Env→H→Prop}
  (hQ:∀ a w,Ef n a→Ce w0 w→K (A9 a) w.heap→Q .normal a w) :
  ∀ (f L R:Nat) (listed:Array Bool) (a:Act) (w:World),Wp L listed→YU ops pl listed R→Ef n a→Ce w0 w→JF P ops listed R a w.heap→C7 P ops pl f L R K (A9 a) w.heap →
   wpX P ops pl n Q f listed R a w:=by
 intro f
 induction f with
 | zero=>
  intro L R listed a w c I g s G H
  unfold C7 at H
  split at H
  ·rename_i hr
   refine⟨List.eq_nil_iff_forall_not_mem.2 fun i hi=>?_,hQ a w g s H⟩
   rw[FH rg c I,hr] at hi
   cases hi
  ·exact H.elim
 | succ f ih=>
  intro L R listed a w c I g s G H
  unfold C7 at H
  split at H
  ·rename_i hr
   have:Region.ready .any ops listed=[]:=List.eq_nil_iff_forall_not_mem.2 fun i hi=>by
    rw[FH rg c I,hr] at hi
    cases hi
   exact⟨fun _=>hQ a w g s H,fun j hj=>by rw[this] at hj;cases hj⟩
  ·rename_i hne
   split at H
   ·rename_i i hfc
    obtain⟨hi1,hi2⟩:=Gb _ hfc
    have hir:=(FH rg c I).2 hi1
    obtain⟨_,oi,hoi,_⟩:=CV I hir
    have hc:calmB P oi=true:=by rw[←rg.calm i oi hoi];exact hi2
    have hlt:i<listed.size:=by rw[I.size];exact (A46.1 hoi).1
    unfold HK at H
    simp only[hoi] at H
    have done:∀ v,YN P ops a w.heap oi v→C7 P ops pl f (L ||| (1 <<< i)) R K (Ns (A9 a) oi.dst v) w.heap→wpX P ops pl n Q (f+1) listed R a w:=by
     intro v hy hk
     rw[←IS g (hd i oi · hoi)] at hk
     refine first rg hd hQp hoi hc f listed R a w v I hir g hy G ?_
     have I':=I.step rg hir
     rw[H4 hoi hc] at I'
     exact ih _ _ _ _ _ (c.step hlt) I' (g.put _ _) s (Ha rg hd I g hir hoi hc hy G) hk
    rcases Gx H with⟨hw,hA⟩|⟨hw,hB⟩
    ·obtain⟨v,hk,hv⟩:=X2 hc hA
     refine done v (.inl ⟨hw,?_⟩) hk
     rw[Gg] at hv
     exact El (fun _ _ h _=>h) hv
    ·exact done undef (.inr ⟨hw,rfl⟩) hB
   ·rename_i hfc
    have hcl:=GH _ hfc
    have hal:=LG _ H
    refine⟨fun h0=>absurd h0 fun h0=>?_,fun j hj=>?_⟩
    ·cases hr:EO L pl.deps 0 with
     | nil=>exact hne hr
     | cons x l=>
      have:x∈Region.ready .any ops listed:=(FH rg c I).2 (by rw[hr];exact A13 ..)
      rw[h0] at this;cases this
    ·have hjr:=(FH rg c I).1 hj
     obtain⟨_,oj,hoj,_⟩:=CV I hj
     have hc:calmB P oj=false:=by rw[←rg.calm j oj hoj];exact hcl j hjr
     have hlt:j<listed.size:=by rw[I.size];exact (A46.1 hoj).1
     have hs:=hal j hjr
     unfold HK at hs
     simp only[hoj] at hs
     have I':=I.step rg hj
     rw[Mx hoj hc] at I' ⊢
     have hold:∀ k ok,ops[k]? = some ok→calmB P ok=true→(listed.setIfInBounds j true).getD k false=true→hasB (R ||| pl.befs.getD j 0) k=false →
       k≠j∧YN P ops a w.heap ok (Fh a ok)∧(∀ x,oj.dst=some x→x∉ok.looksAt ops)∧(∀ x,oj.dst=some x→ok.dst≠some x):=by
      intro k ok hok hck hlk hRk
      have hkj:k≠j:=by rintro rfl;rw[hoj] at hok;cases hok;rw[hc] at hck;cases hck
      have hlk':=((Bn hlt).1 hlk).resolve_left hkj
      have hRk':hasB R k=false:=by
       rw[Gq,Bool.or_eq_false_iff] at hRk;exact hRk.1
      exact⟨hkj,G k ok hok hck hlk' hRk',F3 rg I hj hoj hok (.inr hlk') (by rw[Mx hoj hc];exact hRk),fun x hx=>rg.dist j k oj ok x hoj hok (Ne.symm hkj) hx⟩
     unfold wpOp
     simp only[hoj]
     rcases Gx hs with⟨hw,hA⟩|⟨hw,hB⟩
     ·rw[A03 hw]
      refine .inl (St hng (Ol hA) fun v w' sd hk=>?_)
      obtain⟨hsame,hk⟩:=hk
      rw[←IS g (hd j oj · hoj)] at hk
      obtain⟨hk,hks⟩:=JB _ hk
      have G':JF P ops (listed.setIfInBounds j true) (R ||| pl.befs.getD j 0) (a.put oj.dst v) w'.heap:=by
       intro k ok hok hck hlk hRk
       obtain⟨hkj,hy,hap,hds⟩:=hold k ok hok hck hlk hRk
       rw[EZ hds]
       by_cases hH:w'.heap=w.heap
       ·rw[YN.put hap,hH];exact hy
       ·cases hl:looksB P ok with
        | false=>
         rw[YN.put hap]
         rcases hy with⟨h1,h2⟩|h
         ·exact .inl ⟨h1,VN (φ:=fun v'=>ok.dst.isSome=true→v'=Fh a ok) hck hl h2⟩
         ·exact .inr h
        | true=>
         have hasg:pl.asg.getD j false=false:=by
          rw[rg.asg j oj hoj]
          cases ha:assignB oj with
          | false=>rfl
          | true=>exact absurd (hsame ha) hH
         rw[hasg] at hks
         have hm:k∈Ig (L ||| (1 <<< j)) (R ||| pl.befs.getD j 0) pl.looks 0:=KT _ 0 k (by rw[rg.looks k ok hok,hl]) (by omega) (by rw[←c.step hlt];exact hlk) hRk
         obtain⟨ok',hok',hg⟩:=hks k hm
         rw[hok] at hok'
         cases hok'
         rcases Gx hg with⟨hw1,hg⟩|⟨hw1,_⟩
         ·refine .inl ⟨hw1,?_⟩
          rw[Gg] at hg
          refine El (fun v' _ hv' hsm=>?_) hg
          rw[hv',←EZ hds (u:=v)]
          unfold Fh
          cases hod:ok.dst with
          | none=>rfl
          | some d=>rfl
         ·rw[wanted_put ok a oj.dst v hap] at hw1
          rcases hy with⟨h1,_⟩|⟨_,h2⟩
          ·rw[hw1] at h1;cases h1
          ·exact .inr ⟨by rw[wanted_put ok a oj.dst v hap];exact hw1,h2⟩
      exact⟨g.put _ _,G',ih _ _ _ _ _ (c.step hlt) I' (g.put _ _) ⟨sd.1.trans s.1,sd.2.trans s.2⟩ G' hk⟩
     ·rw[A05 (by rw[hw];decide)]
      rw[←IS g (hd j oj · hoj)] at hB
      have G':JF P ops (listed.setIfInBounds j true) (R ||| pl.befs.getD j 0) (a.put oj.dst undef) w.heap:=by
       intro k ok hok hck hlk hRk
       obtain⟨hkj,hy,hap,hds⟩:=hold k ok hok hck hlk hRk
       rw[EZ hds,YN.put hap]
       exact hy
      exact⟨g.put _ _,G',ih _ _ _ _ _ (c.step hlt) I' (g.put _ _) s G' hB⟩
end
end
section
def W5 (P:Program)(n:Nat):Code→Bool
 | .region _ ops draw=>(ops.toList.all fun o=>match o.dst with|some d=>Nat.blt d n|none=>true)&&bif draw then ACh P ops&&Region.noSelect ops else true
 | .seq a b=>W5 P n a&&W5 P n b
 | .cond _ a b=>W5 P n a&&W5 P n b
 | .block _ b=>W5 P n b
 | .loop b=>W5 P n b
 | _=>true
def wfB (P:Program)(k:Nat)(fn:Func):Bool:=fn.body.isSome&&Nat.ble k fn.ntmps&&W5 P fn.ntmps (GK fn)&&fn.results.toList.all fun|.cell _ t=>ED P t|_=>true
section
variable {P:Program} {n:Nat}
def QQ (Kn Kr:Env→H→Prop)(Kx:Nat→Env→H→Prop)(n:Nat)(w0:World):Exit→Act→World→Prop
 | .normal,a,w=>Ef n a∧Ce w0 w∧Kn (A9 a) w.heap
 | .ret,a,w=>Ef n a∧Ce w0 w∧Kr (A9 a) w.heap
 | .exit i,a,w=>Ef n a∧Ce w0 w∧Kx i (A9 a) w.heap
 | _,_,_=>False
theorem W1 {p:Nat→Prop}:∀ m,p m→∃ m,p m∧∀ k,p k→m≤k:=by
 intro m
 induction m using Nat.strongRecOn with
 | _ m ih=>
  intro hm
  by_cases h:∃ k,k<m∧p k
  ·obtain⟨k,hk,hp⟩:=h;exact ih k hk hp
  ·exact⟨m,hm,fun k hk=>Nat.le_of_not_lt fun hlt=>h ⟨k,hlt,hk⟩⟩
theorem QX (hng:Lc P)(hm:P.follows .mixedOrders=true){w0:World}(c:Code){Kn Kr:Env→H→Prop}{Kx:Nat→Env→H→Prop}(hc:W5 P n c=true) :
  ∀ (a:Act) (w:World),Ef n a→Ce w0 w→Ck P c Kn Kr Kx (A9 a) w.heap→c.wp P (QQ Kn Kr Kx n w0) a w:=by
 induction c generalizing Kn Kx with
 | skip=>exact fun a w g s h=>wp_skip ⟨g,s,h⟩
 | region id ops draw=>
  intro a w g s h
  unfold Ck at h
  simp only[W5,A42] at hc
  cases draw with
  | false=>
   exact wp_region_list (Ix hng (fun a w g s h=>⟨g,s,h⟩) ops.toList a w hc.1 g s h)
  | true=>
   have h2:=hc.2
   simp only[cond,A42] at h2
   have hd:∀ (k:Nat) (o:Oper) (d:Nat),ops[k]? = some o→o.dst=some d→d<n:=fun k o d ho hd=>by
    have:=B10.1 hc.1 o (Array.mem_toList_iff.2 (B24 ho))
    rw[hd] at this
    simpa using this
   have hf:∀ i,(Array.replicate ops.size false).getD i false=false:=fun i=>by
    rw[A70,Array.getElem?_replicate]
    split<;>rfl
   refine wp_region_any hm (Kz _ _ 0 _ _ (UY hng (Xw h2.1 h2.2) hd (fun c a w h=>h) (fun a w g s h=>⟨g,s,h⟩) ops.size 0 0 _ a {w with drawn:=w.drawn+1} ?_ ?_ g s ?_ h))
   ·exact fun i=>by rw[hf,FQ]
   ·exact⟨by simp,fun m k hm=>(by rw[hf] at hm;cases hm),fun k hk=>(by rw[FQ] at hk;cases hk)⟩
   ·exact fun k o _ _ hl=>by rw[hf] at hl;cases hl
 | seq x y ihx ihy=>
  intro a w g s h
  simp only[W5,A42] at hc
  refine wp_seq (Code.wp_mono (fun e a w q=>?_) (ihx (Kn:=Ck P y Kn Kr Kx) hc.1 a w g s h))
  cases e<;>first|exact ihy hc.2 a w q.1 q.2.1 q.2.2|exact q
 | cond c x y ihx ihy=>
  intro a w g s h
  simp only[W5,A42] at hc
  cases c with
  | tmp t=>
   unfold Ck at h
   rcases Pj h with⟨h1,h2⟩|⟨h1,h2⟩
   ·rw[GU h1] at h2
    exact wp_cond_true h1 (ihx hc.1 a w g s h2)
   ·rw[GU h1] at h2
    exact wp_cond_false h1 (ihy hc.2 a w g s h2)
  | _=>exact h.elim
 | block id b ih=>
  intro a w g s h
  refine wp_block (Code.wp_mono (fun e a w q=>?_) (ih (Kn:=Kn) (Kx:=fun i=>bif Nat.beq i id then Kn else Kx i) hc a w g s h))
  cases e<;>first|exact q|skip
  rename_i i
  obtain⟨q1,q2,q3⟩:=q
  show if i=id then _ else _
  by_cases hi:i=id
  ·rw[A03 hi]
   subst hi
   rw[Nat.beq_refl] at q3
   exact⟨q1,q2,q3⟩
  ·rw[A05 hi]
   have:Nat.beq i id=false:=by
    cases hb:Nat.beq i id with
    | false=>rfl
    | true=>exact absurd (B23 hb) hi
   rw[this] at q3
   exact⟨q1,q2,q3⟩
 | exit id=>exact fun a w g s h=>wp_exit ⟨g,s,h⟩
 | ret=>exact fun a w g s h=>wp_ret ⟨g,s,h⟩
 | loop b ih=>
  intro a w g s h
  unfold Ck at h
  obtain⟨I,⟨m0,h0⟩,hs⟩:=h
  classical
  let J:Act→World→Prop:=fun a w=>Ef n a∧Ce w0 w∧∃ m,I m (A9 a) w.heap
  let μ:Act→World→Nat:=fun a w=>if hx:∃ m,I m (A9 a) w.heap then (W1 (p:=fun m=>I m (A9 a) w.heap) hx.choose hx.choose_spec).choose else 0
  have hμ:∀ a w,J a w→I (μ a w) (A9 a) w.heap∧∀ k,I k (A9 a) w.heap→μ a w≤k:=by
   rintro a w ⟨_,_,hx⟩
   have:μ a w=(W1 (p:=fun m=>I m (A9 a) w.heap) hx.choose hx.choose_spec).choose:=dif_pos hx
   rw[this]
   exact (W1 (p:=fun m=>I m (A9 a) w.heap) hx.choose hx.choose_spec).choose_spec
  refine wp_loop J μ ⟨g,s,m0,h0⟩ fun a w hJ=>?_
  have h1:=hs _ _ _ (hμ a w hJ).1
  refine Code.wp_mono (fun e a' w' q=>?_) (ih (Kn:=fun e' h'=>∃ m',m'<μ a w∧I m' e' h') (Kx:=Kx) hc a w hJ.1 hJ.2.1 h1)
  cases e<;>first|exact q|skip
  obtain⟨q1,q2,m',q3,q4⟩:=q
  have hJ':J a' w':=⟨q1,q2,m',q4⟩
  exact⟨hJ',B06 ((hμ a' w' hJ').2 m' q4) q3⟩
 | _=>exact fun a w g s h=>h.elim
theorem O5 {fn:Func}{a:Act}{w:World}{k:Kt}(hok:(fn.results.toList.all fun|.cell _ t=>ED P t|_=>true)=true)(h:Lj P fn.results.toList (A9 a) w.heap k) :
  ∃ v,(results fn a.tmps).run P w=.ok v w∧k v w.heap:=by
 obtain⟨rs,hrs⟩:∃ rs,fn.results=rs:=⟨_,rfl⟩
 obtain⟨rs⟩:=rs
 unfold results
 rw[hrs] at h hok ⊢
 have hcell:∀ {x:Tmp} {t:TypeId} {v:Value} {p:Addr},ED P t=true→A9 a x=.pointer (some p)→MM (Cm P t) (Ap P t) w.heap p=some v →
   (asAddr (a.tmps[x]?.getD undef)).run P w=.ok p w∧(loadVar t p).run P w=.ok v w:=fun ho he hv=>by
  unfold A9 at he
  rw[A70] at he
  rw[he]
  exact⟨rfl,GL ho hv⟩
 unfold Lj at h
 dsimp only at h hok
 split at h
 ·refine⟨_,?_,h⟩;simp[A9]
 ·refine⟨_,?_,h⟩;simp[A9]
 ·rename_i x t
  simp only[B33,List.all_nil,Bool.and_true] at hok
  obtain⟨p,v,h1,h2,h3⟩:=h
  refine⟨v,?_,h3⟩
  obtain⟨e1,e2⟩:=hcell hok h1 h2
  simp[A9,e1,e2]
 ·refine⟨_,?_,h⟩;simp[A9]
 ·refine⟨_,?_,h⟩;simp[A9]
 ·refine⟨_,?_,h⟩;simp[A9]
 ·rename_i x t u
  simp only[B33,List.all_nil,Bool.and_true] at hok
  obtain⟨p,v,h1,h2,h3⟩:=h
  refine⟨_,?_,h3⟩
  obtain⟨e1,e2⟩:=hcell hok h1 h2
  simp[A9,e1,e2]
 ·rename_i u x t
  simp only[B33,List.all_nil,Bool.and_true] at hok
  obtain⟨p,v,h1,h2,h3⟩:=h
  refine⟨_,?_,h3⟩
  obtain⟨e1,e2⟩:=hcell hok h1 h2
  simp[A9,e1,e2]
 ·exact h.elim
theorem V9 {args:List Value}{m:Nat}:A9 {tmps:=args.toArray++Array.replicate m undef,defers:=[]}=ZC args:=by
 funext i
 show (args.toArray++Array.replicate m undef).getD i undef=args.getD i undef
 rw[A70,Array.getElem?_append,A10]
 simp only[A31]
 by_cases hi:i<args.length
 ·simp[hi]
 ·simp only[hi,if_false,Array.getElem?_replicate,A40 (Nat.le_of_not_lt hi)]
  split<;>rfl
theorem QU (hng:Lc P)(hm:P.follows .mixedOrders=true){f:FuncId}{fn:Func}{args:List Value}{h:H}{Q:Kt}(hf:P.funcs[f]? = some fn)
  (hw:wfB P args.length fn=true) {Kn:Env→H→Prop} (hK:Kn=fun e h=>Lj P fn.results.toList e h Q) (H1:Ck P (GK fn) Kn Kn (fun _ _ _=>False) (ZC args) h):Call P f args h Q:=by
 intro w hh
 subst hh
 simp only[wfB,A42] at hw
 obtain⟨⟨⟨hb,hle⟩,hwf⟩,hok⟩:=hw
 obtain⟨c,hc⟩:=Option.isSome_iff_exists.1 hb
 have hcode:GK fn=c:=by unfold GK;rw[hc];rfl
 rw[hcode] at hwf H1
 refine calls_of_wp hf hc (Code.wp_mono (fun e a w' q=>?_) (QX hng hm (w0:=w) c hwf _ w ?_ As (by rw[V9];exact H1)))
 ·have fin:Ef fn.ntmps a∧Ce w w'∧Kn (A9 a) w'.heap→a.defers=[]∧∃ v,(results fn a.tmps).run P w'=.ok v w'∧UD w Q (.returned v) w':=by
   rintro⟨q1,q2,q3⟩
   rw[hK] at q3
   obtain⟨v,hr,hk⟩:=O5 hok q3
   exact⟨q1.defers,v,hr,q2,hk⟩
  cases e<;>first|exact fin q|exact q.elim|exact q.2.2.elim
 ·have:args.length≤fn.ntmps:=Nat.le_of_ble_eq_true hle
  exact⟨by simp;omega,rfl⟩
end
end
theorem AH4:Lc TP:=by
 have h:(TP.funcs.toList.all fun fn=>!(fn.body.isSome&&(fn.name == "runtime.NumGoroutine")))=true:=by kernel_rfl
 intro f fn hf hb
 have:=B10.1 h fn (Array.mem_toList_iff.2 (B24 hf))
 simp only[hb,Bool.true_and,B31] at this
 exact this
theorem mixed:TP.follows .mixedOrders=true:=by kernel_rfl
theorem Za {n:FuncId}{fn:Func}{args:List Value}{h:H}{Q:Kt}(hf:TP.funcs[n]? = some fn)(hw:wfB TP args.length fn=true){Kn:Env→H→Prop}
  (hK:Kn=fun e h=>Lj TP fn.results.toList e h Q) (H1:Ck TP (GK fn) Kn Kn (fun _ _ _=>False) (ZC args) h):Call TP n args h Q:=
 QU AH4 mixed hf hw hK H1
section
abbrev EP:=Env→H→Prop
abbrev Rec:=List Value→H→Prop
abbrev RS:=Nat→Rec
def Uld (a:Value)(h:H)(k:Value→Prop):Prop:=AB false 1 a h k
def Ufl (o:Nat)(p:Value)(h:H)(k:Value→Prop):Prop:=AC o p fun a=>AB false 1 a h k
def Unf (o:Nat)(p:Value)(h:H)(k:Value→Prop):Prop:=AE p fun a=>AC o a fun a=>AB false 1 a h k
def Uff (o:Nat)(p:Value)(k:Value→Prop):Prop:=AE p fun a=>AC o a k
def Uil (s i:Value)(h:H)(k:Value→Prop):Prop:=AI (.slice 1) s i fun a=>AB false 1 a h k
def Ucm (o:BinOp)(a b:Value)(A B:Prop):Prop:=AD o a b fun c=>AK c A B
def Ucg (o:BinOp)(a b:Value)(A B:Prop):Prop:=AD o a b fun c=>Az c true A B
def Ucf (o:BinOp)(a b:Value)(A B:Prop):Prop:=AD o a b fun c=>Az c false A B
def Unt (a:Value)(A B:Prop):Prop:=LH .not a fun c=>AK c A B
def Ukp (a:Value)(h:H)(v:Value):Prop:=AB false 1 a h fun u=>u=v
noncomputable def Ucl (n:FuncId)(l:List Value)(h:H)(Q:Kt):Prop:=Call TP n l h Q
noncomputable def Umk (T:TypeId)(h:H)(k:Kt):Prop:=AQ (AG TP T) T h k
def ML (B:Rec→List Value→H→Prop)(l:List Value)(h:H):Prop:=∃ I:Nat→List Value→H→Prop,(∃ m,I m l h)∧∀ m l h,I m l h→B (fun l h=>∃ m',m'<m∧I m' l h) l h
def gl (l:List Value)(i:Nat):Value:=l.getD i undef
def u0 (s:Rec)(h:H):Prop:=s [] h
def u1 (s:Rec)(a:Value)(h:H):Prop:=s [a] h
def u2 (s:Rec)(a b:Value)(h:H):Prop:=s [a,b] h
def u3 (s:Rec)(a b c:Value)(h:H):Prop:=s [a,b,c] h
def u4 (s:Rec)(a b c d:Value)(h:H):Prop:=s [a,b,c,d] h
def u5 (s:Rec)(a b c d e:Value)(h:H):Prop:=s [a,b,c,d,e] h
abbrev R0:=H→Prop
abbrev R1:=Value→R0
abbrev R2:=Value→R1
abbrev R3:=Value→R2
abbrev R4:=Value→R3
abbrev R5:=Value→R4
def Kv (B:R0→R0):R0:=ML (fun s _=>B (u0 s)) []
def A1 (B:R1→R1)(a:Value):R0:=ML (fun s l=>B (u1 s) (gl l 0)) [a]
def Bx (B:R2→R2)(a b:Value):R0:=ML (fun s l=>B (u2 s) (gl l 0) (gl l 1)) [a,b]
def K9 (B:R3→R3)(a b c:Value):R0:=ML (fun s l=>B (u3 s) (gl l 0) (gl l 1) (gl l 2)) [a,b,c]
def AA6 (B:R4→R4)(a b c d:Value):R0:=ML (fun s l=>B (u4 s) (gl l 0) (gl l 1) (gl l 2) (gl l 3)) [a,b,c,d]
section
variable {h:H} {a b c d e:Value}
theorem ABT {B:R0→R0}(I:Nat→R0)(m:Nat)(h0:I m h)(step:∀ (rec:R0) (m:Nat) (h:H),I m h→(∀ (m':Nat) (h':H),I m' h'→m'<m→rec h')→B rec h):Kv B h:=
 ⟨fun m l h=>l=[]∧I m h,⟨m,rfl,h0⟩,fun m _ h ⟨_,hI⟩=>step _ m h hI fun m' h' hi hl=>⟨m',hl,rfl,hi⟩⟩
theorem Ba {B:R1→R1}(I:Nat→R1)(m:Nat)(h0:I m a h)(step:∀ (rec:R1) (m:Nat) (u0:Value) (h:H),I m u0 h→(∀ (m':Nat) (v0:Value) (h':H),I m' v0 h'→m'<m→rec v0 h')→B rec u0 h):A1 B a h:=
 ⟨fun m l h=>∃ a,l=[a]∧I m a h,⟨m,_,rfl,h0⟩,fun m _ h ⟨_,e,hI⟩=>e▸step _ m _ h hI fun m' _ h' hi hl=>⟨m',hl,_,rfl,hi⟩⟩
theorem DE {B:R2→R2}(I:Nat→R2)(m:Nat)(h0:I m a b h)(step:∀ (rec:R2) (m:Nat) (u0 u1:Value) (h:H),I m u0 u1 h→(∀ (m':Nat) (v0 v1:Value) (h':H),I m' v0 v1 h'→m'<m→rec v0 v1 h')→B rec u0 u1 h):Bx B a b h:=
 ⟨fun m l h=>∃ a b,l=[a,b]∧I m a b h,⟨m,_,_,rfl,h0⟩,fun m _ h ⟨_,_,e,hI⟩=>e▸step _ m _ _ h hI fun m' _ _ h' hi hl=>⟨m',hl,_,_,rfl,hi⟩⟩
theorem MA {B:R3→R3}(I:Nat→R3)(m:Nat)(h0:I m a b c h)(step:∀ (rec:R3) (m:Nat) (u0 u1 u2:Value) (h:H),I m u0 u1 u2 h→(∀ (m':Nat) (v0 v1 v2:Value) (h':H),I m' v0 v1 v2 h'→m'<m→rec v0 v1 v2 h')→B rec u0 u1 u2 h):K9 B a b c h:=
 ⟨fun m l h=>∃ a b c,l=[a,b,c]∧I m a b c h,⟨m,_,_,_,rfl,h0⟩,fun m _ h ⟨_,_,_,e,hI⟩=>e▸step _ m _ _ _ h hI fun m' _ _ _ h' hi hl=>⟨m',hl,_,_,_,rfl,hi⟩⟩
theorem AGj {B:R4→R4}(I:Nat→R4)(m:Nat)(h0:I m a b c d h)(step:∀ (rec:R4) (m:Nat) (u0 u1 u2 u3:Value) (h:H),I m u0 u1 u2 u3 h→(∀ (m':Nat) (v0 v1 v2 v3:Value) (h':H),I m' v0 v1 v2 v3 h'→m'<m→rec v0 v1 v2 v3 h')→B rec u0 u1 u2 u3 h):AA6 B a b c d h:=
 ⟨fun m l h=>∃ a b c d,l=[a,b,c,d]∧I m a b c d h,⟨m,_,_,_,_,rfl,h0⟩,fun m _ h ⟨_,_,_,_,e,hI⟩=>e▸step _ m _ _ _ _ h hI fun m' _ _ _ _ h' hi hl=>⟨m',hl,_,_,_,_,rfl,hi⟩⟩
theorem ADs {B:R0→R0}(x:∃ I:Nat→R0,(∃ m,I m h)∧∀ m h,I m h→B (fun h=>∃ m',m'<m∧I m' h) h):Kv B h:=by
 obtain⟨I,⟨m,h0⟩,hs⟩:=x
 exact⟨fun m l h=>I m h,⟨m,h0⟩,fun m _ h hI=>hs m h hI⟩
theorem Vq {B:R1→R1}(x:∃ I:Nat→R1,(∃ m,I m a h)∧∀ m a h,I m a h→B (fun a h=>∃ m',m'<m∧I m' a h) a h):A1 B a h:=by
 obtain⟨I,⟨m,h0⟩,hs⟩:=x
 exact⟨fun m l h=>I m (gl l 0) h,⟨m,h0⟩,fun m _ h hI=>hs m _ h hI⟩
end
inductive DJ where
 | no
 | jn (J:EP)
 | lp (cs vs:List Nat) (B:Rec→Env→List Value→H→Prop)
def tab:List (Nat×DJ)→Nat→DJ
 | [],_=>.no
 | (k,c)::l,q=>bif Nat.beq k q then c else tab l q
def rst (cs:List Nat)(e:Env):Env:=fun j=>bif cs.any (Nat.beq j) then e j else undef
def AFB (rs:RS)(p:Nat)(r:Rec):RS:=fun q=>bif Nat.beq q p then r else rs q
def AFD (C:DJ)(K:EP):EP:=match C with|.jn J=>J|_=>K
def AFh (C:DJ)(K:EP):EP:=match C with|.lp cs vs B=>fun e h=>ML (fun s l h=>B s (rst cs e) l h) (vs.map e) h|_=>K
section
variable (P:Program) (T:RS→Nat→DJ)
def HB (rs:RS):Nat→Code→EP→EP→(Nat→EP)→EP
 | p,.seq a b,Kn,Kr,Kx=>HB rs (2*p) a (AFD (T rs (2*(2*p+1))) (HB rs (2*p+1) b Kn Kr Kx)) Kr Kx
 | p,.cond (.tmp t) a b,Kn,Kr,Kx=>fun e h=>AK (e t) (HB rs (2*p) a Kn Kr Kx (La e t (.bool true)) h) (HB rs (2*p+1) b Kn Kr Kx (La e t (.bool false)) h)
 | p,.block id b,Kn,Kr,Kx=>HB rs (2*p) b Kn Kr (fun i=>bif Nat.beq i id then Kn else Kx i)
 | p,.loop b,Kn,Kr,Kx=>AFh (T rs (2*p+1)) fun _ _=>False
 | _,c,Kn,Kr,Kx=>Ck P c Kn Kr Kx
inductive Tr where
 | nil
 | eq (a:EP) (t u:Tr)
 | all (k:Bool) (f:Rec→EP) (g:Rec→Tr)
 | two (a b:Tr)
def D8 (s:Bool)(rs:RS):Nat→Code→EP→EP→(Nat→EP)→Tr
 | p,.seq a b,Kn,Kr,Kx=>match T rs (2*(2*p+1)) with
  | .jn J=>.eq (bif s then HB P T rs (2*p+1) b Kn Kr Kx else J) (D8 s rs (2*p+1) b Kn Kr Kx) (D8 s rs (2*p) a J Kr Kx)
  | _=>.two (D8 s rs (2*p+1) b Kn Kr Kx) (D8 s rs (2*p) a (HB P T rs (2*p+1) b Kn Kr Kx) Kr Kx)
 | p,.cond (.tmp _) a b,Kn,Kr,Kx=>.two (D8 s rs (2*p) a Kn Kr Kx) (D8 s rs (2*p+1) b Kn Kr Kx)
 | p,.block id b,Kn,Kr,Kx=>D8 s rs (2*p) b Kn Kr (fun i=>bif Nat.beq i id then Kn else Kx i)
 | p,.loop b,_,Kr,Kx=>match T rs (2*p+1) with
  | .lp cs vs B=>.all (bif s then true else Gi cs b) (fun r=>bif s then HB P T (AFB rs p r) (2*p) b (fun e h=>r (vs.map e) h) Kr Kx else fun e h=>B r (rst cs e) (vs.map e) h)
    fun r=>D8 s (AFB rs p r) (2*p) b (fun e h=>r (vs.map e) h) Kr Kx
  | _=>.nil
 | _,_,_,_,_=>.nil
variable {P T}
theorem Wn {cs:List Nat}{e e':Env}(h:H3 cs e e'):rst cs e'=rst cs e:=by
 funext j
 unfold rst
 cases hj:cs.any (Nat.beq j) with
 | false=>rfl
 | true=>
  obtain⟨i,hi,hb⟩:=List.any_eq_true.1 hj
  have:j=i:=B23 hb
  subst this
  exact h j hi
theorem Zu (c:Code):∀ (rs:RS) (p:Nat) (Kn Kr:EP) (Kx:Nat→EP),D8 P T false rs p c Kn Kr Kx=D8 P T true rs p c Kn Kr Kx→∀ e h,HB P T rs p c Kn Kr Kx e h→Ck P c Kn Kr Kx e h:=by
 induction c with
 | seq a b iha ihb=>
  intro rs p Kn Kr Kx ht e h hx
  unfold D8 at ht
  unfold HB at hx
  unfold Ck
  cases hc:T rs (2*(2*p+1)) with
  | jn J=>
   rw[hc] at ht hx
   simp only[cond,Tr.eq.injEq] at ht
   obtain⟨h1,h2,h3⟩:=ht
   refine FW a (fun e h x=>ihb rs _ Kn Kr Kx h2 e h ?_) (fun _ _ x=>x) (fun _ _ _ x=>x) e h (iha rs _ J Kr Kx h3 e h hx)
   rw[←h1];exact x
  | _=>
   rw[hc] at ht hx
   simp only[Tr.two.injEq] at ht
   exact FW a (fun e h x=>ihb rs _ Kn Kr Kx ht.1 e h x) (fun _ _ x=>x) (fun _ _ _ x=>x) e h (iha rs _ _ Kr Kx ht.2 e h hx)
 | cond c a b iha ihb=>
  intro rs p Kn Kr Kx ht e h hx
  cases c with
  | tmp t=>
   unfold D8 at ht
   simp only[Tr.two.injEq] at ht
   unfold HB at hx
   unfold Ck
   exact OA (iha rs _ Kn Kr Kx ht.1 _ _) (ihb rs _ Kn Kr Kx ht.2 _ _) hx
  | _=>unfold HB at hx;exact hx
 | block id b ih=>
  intro rs p Kn Kr Kx ht e h hx
  unfold D8 at ht
  unfold HB at hx
  unfold Ck
  exact ih rs _ Kn Kr _ ht e h hx
 | loop b ih=>
  intro rs p Kn Kr Kx ht e h hx
  unfold D8 at ht
  unfold HB at hx
  cases hc:T rs (2*p+1) with
  | lp cs vs B=>
   rw[hc] at ht hx
   simp only[cond,Tr.all.injEq] at ht
   obtain⟨h1,h2,h3⟩:=ht
   obtain⟨I,⟨m,hm⟩,hs⟩:=hx
   unfold Ck
   refine Vl cs h1 (fun m e h=>I m (vs.map e) h) m hm fun m e' h' hsame hI=>?_
   have hb:=hs _ _ _ hI
   rw[←Wn (e:=e) (e':=e') hsame] at hb
   have e1:=congrFun (congrFun (congrFun h2 fun l h=>∃ m',m'<m∧I m' l h) e') h'
   exact ih _ _ _ Kr Kx (congrFun h3 _) e' h' (by rw[←e1];exact hb)
  | _=>rw[hc] at hx;exact hx.elim
 | _=>intro rs p Kn Kr Kx ht e h hx;unfold HB at hx;exact hx
def nT:RS→Nat→DJ:=fun _ _=>.no
theorem Bb {n:FuncId}{fn:Func}{args:List Value}{h:H}{Q:Kt}{A:Prop}(T:RS→Nat→DJ)(hf:TP.funcs[n]? = some fn)
  (hk:(wfB TP args.length fn,D8 TP T false (fun _ _ _=>False) 1 (GK fn) (fun e h=>Lj TP fn.results.toList e h Q) (fun e h=>Lj TP fn.results.toList e h Q) (fun _ _ _=>False),A) =
   (true,D8 TP T true (fun _ _ _=>False) 1 (GK fn) (fun e h=>Lj TP fn.results.toList e h Q) (fun e h=>Lj TP fn.results.toList e h Q) (fun _ _ _=>False),
    HB TP T (fun _ _ _=>False) 1 (GK fn) (fun e h=>Lj TP fn.results.toList e h Q) (fun e h=>Lj TP fn.results.toList e h Q) (fun _ _ _=>False) (ZC args) h)) (x:A):Call TP n args h Q:=by
 simp only[B43] at hk
 obtain⟨h1,h2,h3⟩:=hk
 exact Za hf h1 rfl (Zu _ _ _ _ _ _ h2 _ _ (by rw[←h3];exact x))
end
end
section
inductive RC where
 | no|one (o:Obj)|bad
def RC.add:RC→RC→RC
 | .no,x=>x
 | x,.no=>x
 | _,_=>.bad
def Res:=Nat→RC
def pts (b:Nat)(o:Obj):Res:=fun i=>if i=b then .one o else .no
instance:Add Res:=⟨fun x y i=>(x i).add (y i)⟩
instance:Zero Res:=⟨fun _=>.no⟩
theorem Res.add_at (x y:Res)(i:Nat):(x+y) i=(x i).add (y i):=rfl
theorem Res.comm (x y:Res):x+y=y+x:=by
 funext i
 rw[Res.add_at,Res.add_at]
 cases x i<;>cases y i<;>rfl
theorem Res.assoc (x y z:Res):x+y+z=x+(y+z):=by
 funext i
 rw[Res.add_at,Res.add_at,Res.add_at,Res.add_at]
 cases x i<;>cases y i<;>cases z i<;>rfl
theorem Res.zero_add (x:Res):0+x=x:=rfl
theorem Res.add_zero (x:Res):x+0=x:=by rw[Res.comm];rfl
instance:Std.Commutative (α:=Res) (· + ·):=⟨Res.comm⟩
instance:Std.Associative (α:=Res) (· + ·):=⟨Res.assoc⟩
theorem Res.left_comm (x y z:Res):x+(y+z)=y+(x+z):=by rw[←Res.assoc,Res.comm x y,Res.assoc]
def AN (x:Res)(h:H):Prop:=∀ b,match x b with|.no=>True|.one o=>h[b]? = some o|.bad=>False
theorem AN.left {x y:Res}{h:H}(w:AN (x+y) h):AN x h:=fun b=>by
 have:=w b
 rw[Res.add_at] at this
 revert this
 cases x b<;>cases y b<;>intro this<;>first|trivial|exact this|exact this.elim
theorem AN.right {x y:Res}{h:H}(w:AN (x+y) h):AN y h:=by rw[Res.comm] at w;exact w.left
theorem AN.one {b:Nat}{o:Obj}{h:H}(w:AN (pts b o) h):h[b]? = some o:=by
 have:=w b
 simpa[pts] using this
theorem AN.ext {x:Res}{h h':H}(w:AN x h)(e:U4 h h'):AN x h':=fun b=>by
 have:=w b
 revert this
 cases x b with
 | no=>intro _;trivial
 | bad=>intro h;exact h
 | one o=>
  intro hb
  have hlt:b<h.size:=(A46.1 hb).1
  show h'[b]? = some o
  rw[e b hlt];exact hb
theorem AN.new {x:Res}{h h':H}{b:Nat}{o:Obj}(w:AN x h)(e:U4 h h')(hb:h.size≤b)(ho:h'[b]? = some o):AN (pts b o+x) h':=fun i=>by
 have hi:=(w.ext e) i
 have h0:=w i
 rw[Res.add_at]
 unfold pts
 by_cases hib:i=b
 ·subst hib
  simp only[if_true]
  revert h0
  cases x i with
  | no=>intro _;exact ho
  | bad=>intro h;exact h
  | one o'=>intro h1;have:=(A46.1 h1).1;omega
 ·simp only[hib,if_false]
  exact hi
theorem AN.set {x:Res}{h:H}{b:Nat}{o o':Obj}(w:AN (pts b o+x) h):AN (pts b o'+x) (h.setIfInBounds b o'):=fun i=>by
 have hi:=w i
 have hb:=w.left.one
 have hlt:b<h.size:=(A46.1 hb).1
 rw[Res.add_at] at hi ⊢
 unfold pts at hi ⊢
 by_cases hib:i=b
 ·subst hib
  simp only[if_true] at hi ⊢
  revert hi
  cases x i with
  | no=>intro _;show (h.setIfInBounds i o')[i]? = some o';simp[hlt]
  | bad=>intro h;exact h
  | one o'=>intro h;exact h
 ·simp only[hib,if_false] at hi ⊢
  revert hi
  cases x i with
  | no=>intro h;exact h
  | bad=>intro h;exact h
  | one o'=>intro h1;show (h.setIfInBounds b _)[i]? = some o';rw[Array.getElem?_setIfInBounds_ne (Ne.symm hib)];exact h1
theorem AN.ne {x:Res}{h:H}{a b:Nat}{p q:Obj}(w:AN (pts a p+(pts b q+x)) h):a≠b:=by
 rintro rfl
 have:=w a
 simp only[Res.add_at,pts,if_true] at this
 cases hx:x a<;>rw[hx] at this<;>exact this
class CO (b:Nat) (x:Res) (o:outParam Obj):Prop where
 ex:∃ y,x=pts b o+y
class U2 (b:Nat) (x:Res) (o:outParam Obj) (o':Obj) (x':outParam Res):Prop where
 ex:∃ y,x=pts b o+y∧x'=pts b o'+y
instance CO.here {b:Nat} {o:Obj}:CO b (pts b o) o:=⟨0,(Res.add_zero _).symm⟩
instance CO.inl {b:Nat} {o:Obj} {x y:Res} [f:CO b x o]:CO b (x+y) o:=by
 obtain⟨z,hz⟩:=f.ex
 exact⟨z+y,by rw[hz,Res.assoc]⟩
instance CO.inr {b:Nat} {o:Obj} {x y:Res} [f:CO b y o]:CO b (x+y) o:=by
 obtain⟨z,hz⟩:=f.ex
 exact⟨x+z,by rw[hz,Res.left_comm]⟩
instance U2.here {b:Nat} {o o':Obj}:U2 b (pts b o) o o' (pts b o'):=⟨0,(Res.add_zero _).symm,(Res.add_zero _).symm⟩
instance U2.inl {b:Nat} {o o':Obj} {x x' y:Res} [f:U2 b x o o' x']:U2 b (x+y) o o' (x'+y):=by
 obtain⟨z,h1,h2⟩:=f.ex
 exact⟨z+y,by rw[h1,Res.assoc],by rw[h2,Res.assoc]⟩
instance U2.inr {b:Nat} {o o':Obj} {x y y':Res} [f:U2 b y o o' y']:U2 b (x+y) o o' (x+y'):=by
 obtain⟨z,h1,h2⟩:=f.ex
 exact⟨x+z,by rw[h1,Res.left_comm],by rw[h2,Res.left_comm]⟩
theorem AN.find {x:Res}{h:H}{b:Nat}{o:Obj}(w:AN x h)[f:CO b x o]:h[b]? = some o:=by
 obtain⟨y,hy⟩:=f.ex
 rw[hy] at w
 exact w.left.one
theorem AN.put {x x':Res}{h:H}{b:Nat}{o o':Obj}(w:AN x h)[f:U2 b x o o' x']:AN x' (h.setIfInBounds b o'):=by
 obtain⟨y,h1,h2⟩:=f.ex
 rw[h1] at w
 rw[h2]
 exact w.set
variable {h:H} {k:Value→Prop} {kt:Kt}
@[go_sem] theorem AG1 {p:Addr}:AE (.pointer (some p)) k=k (.pointer (some p)):=by simp[AE,Lk]
@[go_sem] theorem AFu {f:FuncId}{a c:Array Value}:AE (.func (.func f) a c) k=k (.func (.func f) a c):=by simp[AE,Lk]
@[go_sem] theorem AAz {b o:Nat}:(⟨b,o,none⟩:Addr).add 0=⟨b,o,none⟩:=rfl
theorem Bm {b o n:Nat}:(⟨b,o,none⟩:Addr).add n=⟨b,o+n,none⟩:=by
 unfold Addr.add;split
 ·rename_i h;subst h;rfl
 ·rfl
@[go_sem high] theorem Fp {b n:Nat}:(⟨b,0,none⟩:Addr).add n=⟨b,n,none⟩:=by rw[Bm,A29]
@[go_sem] theorem DW {off:Nat}{p:Addr}:AC off (.pointer (some p)) k=k (.pointer (some (p.add off))):=by simp[AC]
@[go_sem] theorem Ak {A B:Prop}:AK (.bool true) A B=A:=rfl
@[go_sem] theorem AU {A B:Prop}:AK (.bool false) A B=B:=rfl
@[go_sem] theorem Cq {A B:Prop}:Az (.bool true) true A B=A:=rfl
@[go_sem] theorem PD {A B:Prop}:Az (.bool true) false A B=B:=rfl
@[go_sem] theorem SR {A B:Prop}:Az (.bool false) true A B=B:=rfl
@[go_sem] theorem Cr {A B:Prop}:Az (.bool false) false A B=A:=rfl
@[go_sem] theorem AIH {a b:Value}:Hk (.bool true) a b k=k a:=rfl
@[go_sem] theorem AHc {a b:Value}:Hk (.bool false) a b k=k b:=rfl
theorem AX {p:Prop}[Decidable p]{A B:Prop}(ha:p→A)(hb:¬p→B):AK (.bool (decide p)) A B:=by
 by_cases hp:p
 ·rw[A04 hp];exact ha hp
 ·rw[A08 hp];exact hb hp
theorem C3 {p:Prop}[Decidable p]{A B:Prop}(ha:p→A)(hb:¬p→B):Az (.bool (decide p)) true A B:=by
 by_cases hp:p
 ·rw[A04 hp];exact ha hp
 ·rw[A08 hp];exact hb hp
theorem J2 {p:Prop}[Decidable p]{A B:Prop}(ha:¬p→A)(hb:p→B):Az (.bool (decide p)) false A B:=by
 by_cases hp:p
 ·rw[A04 hp];exact hb hp
 ·rw[A08 hp];exact ha hp
@[go_sem] theorem DA {a:Value}{l:List Value}:AO (.tuple ⟨a::l⟩) 0 k=k a:=by simp[AO]
@[go_sem] theorem DH {a b:Value}{l:List Value}:AO (.tuple ⟨a::b::l⟩) 1 k=k b:=by simp[AO]
@[go_sem] theorem Un {a b c:Value}{l:List Value}:AO (.tuple ⟨a::b::c::l⟩) 2 k=k c:=by simp[AO]
@[go_sem] theorem AEa {a b c d:Value}{l:List Value}:AO (.tuple ⟨a::b::c::d::l⟩) 3 k=k d:=by simp[AO]
@[go_sem] theorem Ao {kk:IntKind}{a b:Int}:AD .gtr (.int kk a) (.int kk b) k=k (.bool (decide (a>b))):=by simp[AD,CT]
@[go_sem] theorem BD {kk:IntKind}{a b:Int}:AD .geq (.int kk a) (.int kk b) k=k (.bool (decide (a≥b))):=by simp[AD,CT]
@[go_sem] theorem AT {kk:IntKind}{a b:Int}:AD .lss (.int kk a) (.int kk b) k=k (.bool (decide (a<b))):=by simp[AD,CT]
@[go_sem] theorem BW {kk:IntKind}{a b:Int}:AD .leq (.int kk a) (.int kk b) k=k (.bool (decide (a≤b))):=by simp[AD,CT]
@[go_sem] theorem Aa {kk:IntKind}{a b:Int}:AD .eql (.int kk a) (.int kk b) k=k (.bool (decide (a=b))):=by simp[AD,CT];rfl
@[go_sem] theorem A3 {kk:IntKind}{a b:Int}:AD .neq (.int kk a) (.int kk b) k=k (.bool (decide (a≠b))):=by
 have:(a != b)=decide (a≠b):=by by_cases h:a=b<;>simp[h]
 simp[AD,CT];simpa using A76 (fun x=>k (.bool x)) this
@[go_sem] theorem F1 {b:Bool}:LH .not (.bool b) k=k (.bool (!b)):=by simp[LH,unV]
@[go_sem] theorem AAd {p:Prop}[Decidable p]:(!decide p)=decide (¬p):=by by_cases h:p<;>simp[h]
theorem QN {kk:IntKind}(hs:kk.signed=false){a:Int}(h0:0≤a)(h1:a<2^kk.bits):kk.wrap a=a:=by
 unfold IntKind.wrap
 cases kk<;>simp_all [IntKind.signed,IntKind.bits]<;>omega
theorem AAD {a:Int}(h0:0≤a)(h1:a<256):IntKind.u8.wrap a=a:=by unfold IntKind.wrap;simp[IntKind.signed,IntKind.bits];omega
theorem YI {a:Int}(h0:0≤a)(h1:a<65536):IntKind.u16.wrap a=a:=by unfold IntKind.wrap;simp[IntKind.signed,IntKind.bits];omega
theorem Vz {a:Int}(h0:0≤a)(h1:a<4294967296):IntKind.u32.wrap a=a:=by unfold IntKind.wrap;simp[IntKind.signed,IntKind.bits];omega
theorem VP {a:Int}(h0:0≤a)(h1:a<18446744073709551616):IntKind.u64.wrap a=a:=by unfold IntKind.wrap;simp[IntKind.signed,IntKind.bits];omega
theorem Ge {a:Int}(h0 : -9223372036854775808≤a)(h1:a<9223372036854775808):IntKind.i64.wrap a=a:=by unfold IntKind.wrap;simp[IntKind.signed,IntKind.bits];omega
theorem A0 {kk:IntKind}{a b:Int}:AD .add (.int kk a) (.int kk b) k=k (.int kk (kk.wrap (a+b))):=by simp[AD,CT]
theorem Bv {kk:IntKind}{a b:Int}:AD .sub (.int kk a) (.int kk b) k=k (.int kk (kk.wrap (a-b))):=by simp[AD,CT]
theorem Bc {kk:IntKind}{a b:Int}:AD .mul (.int kk a) (.int kk b) k=k (.int kk (kk.wrap (a*b))):=by simp[AD,CT]
theorem M5 {kk:IntKind}{a b:Int}(hb:b≠0):AD .quo (.int kk a) (.int kk b) k=k (.int kk (kk.wrap (a.tdiv b))):=by simp[AD,CT,hb]
theorem AKO {kk:IntKind}{a b:Int}(hb:b≠0):AD .rem (.int kk a) (.int kk b) k=k (.int kk (a.tmod b)):=by simp[AD,CT,hb]
@[go_sem] theorem DO {s d:IntKind}{n:Int}:AV d (.int s n) k=k (.int d (d.wrap n)):=propext ⟨fun⟨_,_,h,hk⟩=>by cases h;exact hk,fun hk=>⟨_,_,rfl,hk⟩⟩
@[go_sem] theorem AE2 {s:ByteArray}:CL (.string s) k=k (.int .i64 s.size):=by simp[CL]
@[go_sem] theorem Aw {a:Option Addr}{n c:Nat}:Ab (.slice a n c) k=k (.int .i64 n):=propext ⟨fun⟨_,_,_,h,hk⟩=>by cases h;exact hk,fun hk=>⟨_,_,_,rfl,hk⟩⟩
@[go_sem] theorem LE:Bq .iface true true h .nilIface .nilIface k=k (.bool false):=by simp[Bq,GG]
@[go_sem] theorem AII:Bq .iface true false h .nilIface .nilIface k=k (.bool true):=by simp[Bq,GG]
@[go_sem] theorem AIj {c:Bool}{t:TypeId}{v:Value}:Bq .iface c true h (.iface t v) .nilIface k=k (.bool true):=by simp[Bq,GG]
@[go_sem] theorem AIa {c:Bool}{t:TypeId}{v:Value}:Bq .iface c false h (.iface t v) .nilIface k=k (.bool false):=by simp[Bq,GG]
@[go_sem] theorem AIi {c:Bool}{p:Addr}:Bq .ptr c true h (.pointer (some p)) (.pointer none) k=k (.bool true):=by simp[Bq,GG]
@[go_sem] theorem AG5 {c:Bool}{p:Addr}:Bq .ptr c false h (.pointer (some p)) (.pointer none) k=k (.bool false):=by simp[Bq,GG]
@[go_sem] theorem AIl {c:Bool}:Bq .ptr c true h (.pointer none) (.pointer none) k=k (.bool false):=by simp[Bq,GG]
@[go_sem] theorem AIA {c:Bool}:Bq .ptr c false h (.pointer none) (.pointer none) k=k (.bool true):=by simp[Bq,GG]
def U3 (c:Option Value)(k:Value→Prop):Prop:=match c with|some v=>k v|none=>False
@[go_sem] theorem Fi {v:Value}:U3 (some v) k=k v:=rfl
@[go_sem] theorem J7 {a:Value}{l:List Value}:U3 (⟨a::l⟩:Array Value)[0]? k=k a:=rfl
@[go_sem] theorem AGy {a:Value}{l:List Value}{n:Nat}:U3 (⟨a::l⟩:Array Value)[n+1]? k=U3 (⟨l⟩:Array Value)[n]? k:=by simp
theorem AF {x:Res}(w:AN x h){b o:Nat}{c:Array Value}{T:TypeId}{fz:Nat×Nat}[CO b x (.cells c T fz)]:AB false 1 (.pointer (some ⟨b,o,none⟩)) h k=U3 c[o]? k:=by
 have hc:Mo h ⟨b,o,none⟩=c[o]?:=by
  unfold Mo
  rw[w.find (b:=b)]
  rfl
 unfold AB MM U3
 refine propext ⟨fun⟨p,v,h1,h2,h3⟩=>?_,fun hk=>?_⟩
 ·cases h1
  simp only[cond,hc] at h2
  rw[h2]
  exact h3
 ·cases hv:c[o]? with
  | none=>rw[hv] at hk;exact hk.elim
  | some v=>rw[hv] at hk;exact⟨_,v,rfl,by simp only[cond,hc,hv],hk⟩
theorem Gy {x x':Res}(w:AN x h){b o n:Nat}{v:Value}{c:Array Value}{T:TypeId}{kh:H→Prop}[CO b x (.cells c T (0,0))][p:U2 b x (.cells c T (0,0)) (.cells (Ai c o v.cells.toList) T (0,0)) x']
  (hv:v.cells.size=n) (hle:o+n≤c.size) (ho:v.cells.toList.all Value.oneCell'=true) (K:∀ h,AN x' h→kh h):AJ n (.pointer (some ⟨b,o,none⟩)) v h kh:=
 ⟨_,c,T,rfl,rfl,w.find,hv,hle,ho,K _ w.put⟩
theorem AL {x x':Res}(w:AN x h){b o n:Nat}{v:Value}{c:Array Value}(c':Array Value){T:TypeId}{kh:H→Prop}[CO b x (.cells c T (0,0))][p:U2 b x (.cells c T (0,0)) (.cells c' T (0,0)) x']
  (hc:Ai c o v.cells.toList=c') (hv:v.cells.size=n) (hle:o+n≤c.size) (ho:v.cells.toList.all Value.oneCell'=true) (K:∀ h,AN x' h→kh h):AJ n (.pointer (some ⟨b,o,none⟩)) v h kh:=by
 subst hc
 exact Gy w hv hle ho K
theorem AN.cast {x y:Res}(w:AN x h)(e:x=y):AN y h:=e▸w
theorem BJ {x:Res}(w:AN x h){T:TypeId}{cs:Array Value}(K:∀ b h,AN (pts b (.cells cs T (0,0))+x) h→kt (Pt b) h):BB T cs h kt:=
 fun b _ e hb ho=>K b _ (w.new e hb ho)
def GE:List Value→Nat→List Value→List Value
 | l,_,[]=>l
 | l,o,v::vs=>GE (l.set o v) (o+1) vs
def DC (pl:Nat→Option (Nat×Nat))(l:List Value):List (Nat×Value)→Option (List Value)
 | []=>some l
 | (i,v)::r=>match pl i with
  | none=>none
  | some (off,size)=>if v.cells.toList.length≠size∨l.length<off+size then none else DC pl (GE l off v.cells.toList) r
theorem JH:∀ (vs l:List Value) (o:Nat),(GE l o vs).length=l.length
 | [],_,_=>rfl
 | v::vs,l,o=>by rw[GE,JH vs];simp
theorem A2:∀ (vs l:List Value) (o:Nat),Ai ⟨l⟩ o vs=⟨GE l o vs⟩
 | [],_,_=>rfl
 | v::vs,l,o=>by
  rw[Ai,GE,←A2 vs]
  congr 1
  apply A56
  simp
theorem L9 (off:Nat):∀ (vs l:List Value) (j:Nat),(vs.zipIdx j).foldl (fun (cs:Array Value) (p:Value×Nat)=>cs.setIfInBounds (off+p.2) p.1) ⟨l⟩=⟨GE l (off+j) vs⟩
 | [],l,j=>rfl
 | v::vs,l,j=>by
  rw[List.zipIdx_cons,A71,GE]
  have:((⟨l⟩:Array Value).setIfInBounds (off+j) v)=⟨l.set (off+j) v⟩:=by apply A56;simp
  rw[this,L9 off vs _ (j+1)]
  rfl
theorem Es {pl:Nat→Option (Nat×Nat)}:∀ (parts:List (Nat×Value)) (l r:List Value),DC pl l parts=some r→Instr.fill pl ⟨l⟩ parts=some ⟨r⟩
 | [],l,r,h=>by cases h;rfl
 | (i,v)::ps,l,r,h=>by
  unfold DC at h
  unfold Instr.fill
  cases hp:pl i with
  | none=>rw[hp] at h;cases h
  | some os=>
   obtain⟨off,size⟩:=os
   rw[hp] at h
   dsimp only at h ⊢
   split at h
   ·cases h
   ·rename_i hn
    simp only[not_or,Decidable.not_not,Nat.not_lt] at hn
    have h1:v.cells.size=size:=by simpa using hn.1
    rw[A05 (by simp only[h1,ne_eq,not_true_eq_false,A45,decide_false,Bool.false_or,A84,Nat.not_lt,gt_iff_lt];simpa using hn.2)]
    have:=L9 off v.cells.toList l 0
    rw[A58] at this
    have h2:v.cells.zipIdx.foldl (fun (cs:Array Value) (p:Value×Nat)=>cs.setIfInBounds (off+p.2) p.1) ⟨l⟩=⟨GE l off v.cells.toList⟩:=by
     rw[←this,←Array.foldl_toList,Array.toList_zipIdx]
    rw[show (v.cells.zipIdx.foldl (fun cs (c,j)=>cs.setIfInBounds (off+j) c) (⟨l⟩:Array Value))=⟨GE l off v.cells.toList⟩ from h2]
    exact Es ps _ r h
theorem CY {z:Value}{n:Nat}(hz:z.cells=#[z]):Ax z.cells n=⟨List.replicate n z⟩:=by
 unfold Ax
 rw[hz]
 apply A56
 apply A60
 intro i
 simp
 by_cases h:i<n<;>simp[h,Nat.mod_one]
theorem AIq {b o:Nat}{k:Value→Prop}:AC o (Pt b) k=k (.pointer (some ⟨b,o,none⟩)):=by simp only[go_sem]
theorem AIw {b o:Nat}{k:Value→Prop}:(AE (Pt b) fun a=>AC o a k)=k (.pointer (some ⟨b,o,none⟩)):=by simp only[go_sem]
theorem Kq0 (a b c d:Res):a+(b+(c+d))=c+(a+(b+d)):=by ac_rfl
theorem Kq1 (a b c:Res):a+(b+c)=b+(a+c):=by ac_rfl
theorem Kq2 (a b c d:Res):a+(b+(c+d))=a+((b+c)+d):=by ac_rfl
theorem Kq3 (a b c d:Res):a+(b+(c+d))=b+((a+c)+d):=by ac_rfl
theorem Kq4 (a b c d:Res):a+(b+(c+d))=(a+(b+c))+d:=by ac_rfl
theorem Kq5 (a b c d e:Res):a+(b+(c+(d+e)))=b+(a+(c+(d+e))):=by ac_rfl
theorem Kq6 (a b c d e:Res):a+(b+(c+(d+e)))=a+(b+(d+(c+e))):=by ac_rfl
theorem Kq7 (a b c d:Res):a+(b+(c+d))=c+(b+(a+d)):=by ac_rfl
theorem Kq8 (a b c d e:Res):a+(b+(c+(d+e)))=c+(b+(a+(d+e))):=by ac_rfl
theorem Kq9 (a b c:Res):a+(b+c)=a+c+b:=by ac_rfl
theorem AK7 (a b c d e:Res):a+(b+(c+(d+e)))=d+(a+(b+(c+e))):=by ac_rfl
theorem AK8 (a b c d e f:Res):a+(b+(c+(d+(e+f))))=b+(c+(d+((a+e)+f))):=by ac_rfl
theorem AK3 (a b c d e:Res):a+(b+(c+(d+e)))=b+(c+((a+d)+e)):=by ac_rfl
theorem AKv (a b c d:Res):a+((b+c)+d)=b+(a+(c+d)):=by ac_rfl
theorem ALF (a b c d e f g i j:Res):a+(b+((c+(d+(e+(f+g))))+(i+j)))=g+(a+((b+((c+(d+(e+f)))+i))+j)):=by ac_rfl
theorem ALE (a b c d e f:Res):a+(b+(c+(d+(e+f))))=a+(b+(d+((c+e)+f))):=by ac_rfl
theorem ALG (a b c d e:Res):a+(b+(c+(d+e)))=a+((b+(c+d))+e):=by ac_rfl
theorem ALD (a b c d e f:Res):a+(b+(c+(d+(e+f))))=(a+(b+(c+(d+e))))+f:=by ac_rfl
theorem ALS (a b c d e f g:Res):a+(b+(c+(d+(e+(f+g)))))=e+((a+(b+(c+(d+f))))+g):=by ac_rfl
end
abbrev Bs:=List UInt8
def bc (b:UInt8):Value:=.int .u8 b.toNat
def bcs (l:Bs):Array Value:=(l.map bc).toArray
abbrev buf (b:Nat)(all:Bs):Res:=pts b (.cells (bcs all) 5 (0,0))
theorem CH (l:Bs):(bcs l).size=l.length:=by simp[bcs]
theorem G9 (l:Bs)(i:Nat):(bcs l)[i]? = (l[i]?).map bc:=by simp[bcs]
theorem Fl (l m:Bs):bcs (l++m)=bcs l++bcs m:=by simp[bcs]
theorem OW (l:Bs)(i j:Nat):(bcs l).extract i j=bcs ((l.take j).drop i):=by
 apply A56
 simp[bcs,A44,A49]
theorem H6 (l:Bs):(bcs l).toList.all Value.oneCell'=true:=by
 rw[B10]
 intro x hx
 simp only[bcs,A35] at hx
 obtain⟨b,_,rfl⟩:=hx
 rfl
theorem O7:AG TP 5=some (.int .u8 0):=by kernel_rfl
theorem QR (n:Nat):Builtin.zeroCells (Value.int .u8 0).cells n=bcs (List.replicate n 0):=by
 unfold Builtin.zeroCells
 apply A56
 simp only[Value.cells,bcs]
 apply A60
 intro i
 simp[bc]
 by_cases h:i<n<;>simp[h,Nat.mod_one]
def setL (l:Bs)(o:Nat)(m:Bs):Bs:=l.take o++m++l.drop (o+m.length)
theorem AS {l m:Bs}{o:Nat}(h:o+m.length≤l.length):(setL l o m).length=l.length:=by simp[setL];omega
theorem DZ:∀ (vs:List Value) (c:Array Value) (o i:Nat),o+vs.length≤c.size→(Ai c o vs)[i]? = if o≤i∧i<o+vs.length then vs[i-o]? else c[i]?
 | [],c,o,i,_=>by simp[Ai];omega
 | v::vs,c,o,i,h=>by
  simp only[A19] at h
  rw[Ai,DZ vs _ _ _ (by simp;omega)]
  by_cases h1:o+1≤i∧i<o+1+vs.length
  ·rw[A03 h1,A03 (by simp;omega)]
   rw[show i-o=(i-(o+1))+1 by omega];simp
  ·rw[A05 h1,A47]
   by_cases h2:o=i
   ·subst h2;rw[A03 rfl,A03 (show o<c.size by omega),A03 (by simp)];simp
   ·rw[A05 h2,A05 (by simp;omega)]
theorem Cc {l m:Bs}{o:Nat}(h:o+m.length≤l.length):Ai (bcs l) o (bcs m).toList=bcs (setL l o m):=by
 apply B02
 intro i
 rw[DZ _ _ _ _ (by simp[bcs];omega),G9,G9]
 have hm:(bcs m).toList=m.map bc:=rfl
 rw[hm]
 simp only[A25,A21]
 unfold setL
 by_cases h1:o≤i∧i<o+m.length
 ·rw[A03 h1,A18 (by simp;omega),A17 (by simp;omega)]
  simp[A30 (show o≤l.length by omega)]
 ·rw[A05 h1]
  by_cases h2:i<o
  ·rw[A12,A18 (by simp;omega)]
   simp[h2]
  ·rw[A17 (by simp;omega)]
   simp only[A01,A20,A53]
   rw[A30 (show o≤l.length by omega)]
   congr 2
   omega
inductive BufV:Value→Bs→Res→Prop
 | nil:BufV (.slice none 0 0) [] 0
 | own {b n:Nat} {all:Bs}:n≤all.length→BufV (.slice (some ⟨b,0,none⟩) n all.length) (all.take n) (buf b all)
theorem BufV.own' {b n c:Nat}{all bs:Bs}(hn:n≤all.length)(hc:all.length=c)(ht:all.take n=bs):BufV (.slice (some ⟨b,0,none⟩) n c) bs (pts b (.cells (bcs all) 5 (0,0))):=by
 subst hc ht;exact .own hn
def Rd (h:H)(v:Value)(bs:Bs):Prop:=
 (∃ a c,v=.slice a 0 c∧bs=[])∨∃ b o c all T fz,v=.slice (some ⟨b,o,none⟩) bs.length c∧h[b]? = some (.cells ⟨all⟩ T fz)∧o+bs.length≤all.length∧(all.drop o).take bs.length=bs.map bc
theorem Od {h:H}{a:Option Addr}{m c sz n:Nat}(h0:n*sz=0):BF sz n h (.slice a m c)=some #[]:=by
 cases a with
 | none=>rfl
 | some a=>
  unfold BF
  simp only[h0,if_true,A58]
  split
  ·split
   ·rfl
   ·split
    ·simp;omega
    ·rfl
  ·rfl
theorem WH {h:H}{a:Option Addr}{c:Nat}:J5 h (.slice a 0 c)=some (.string .empty):=by
 cases a with
 | none=>rfl
 | some a=>
  unfold J5
  simp only[if_true,A58]
  split
  ·split
   ·rfl
   ·split
    ·simp[DU];rfl
    ·rfl
  ·rfl
theorem BufV.rd {v:Value}{bs:Bs}{r x:Res}{h:H}(b:BufV v bs r)(w:AN (r+x) h):Rd h v bs:=by
 cases b with
 | nil=>exact .inl ⟨none,0,rfl,rfl⟩
 | own hn=>
  rename_i b n all
  refine .inr ⟨b,0,all.length,all.map bc,5,(0,0),?_,w.left.one,?_,?_⟩
  ·simp[A30 hn]
  ·simp;omega
  ·simp
theorem Rd.len {h:H}{v:Value}{bs:Bs}(r:Rd h v bs):∃ a c,v=.slice a bs.length c:=by
 rcases r with⟨a,c,h1,h2⟩|⟨b,o,c,all,T,fz,h1,_⟩
 ·subst h2;exact⟨_,c,h1⟩
 ·exact⟨_,c,h1⟩
theorem Rd.src {h:H}{v:Value}{bs:Bs}(r:Rd h v bs)(n:Nat)(hn:n≤bs.length):BF 1 n h v=some (bcs (bs.take n)):=by
 rcases r with⟨a,c,h1,h2⟩|⟨b,o,c,all,T,fz,h1,h2,h3,h4⟩
 ·subst h1 h2
  rw[Od (by simp at hn;omega)];simp[bcs]
 ·subst h1
  unfold BF
  simp only[h2,A67]
  simp only[A86,A45,if_false]
  rw[A03 (by simp;omega)]
  have e:(bs.take n).map bc=((all.drop o).take bs.length).take n:=by rw[h4,B11]
  congr 1
  apply A56
  show _=(bs.take n).map bc
  rw[e,A95,A30 hn]
  simp[A44]
theorem Rd.srcLen {h:H}{v:Value}{bs:Bs}(r:Rd h v bs):srcLen v=some bs.length:=by
 obtain⟨a,c,rfl⟩:=r.len
 rfl
theorem BufV.srcv {v:Value}{bs:Bs}{r x:Res}{h:H}(b:BufV v bs r)(w:AN (r+x) h):BF 1 bs.length h v=some (bcs bs):=by
 have:=(b.rd w).src bs.length (A07 _)
 rwa [A38] at this
theorem Dn (n:Nat):bcs (List.replicate n 0)=Array.replicate n (.int .u8 0):=by
 apply A56;simp[bcs,bc]
theorem GO {v:Value}{bs news:Bs}{r x:Res}{h:H}{kt:Kt}(b:BufV v bs r)(w:AN (r+x) h)(hlen:bs.length+news.length≤140737488355328)
  (K:∀ v' r' h,BufV v' (bs++news) r'→AN (r'+x) h→kt v' h):JI 5 (AG TP 5) 1 1 v news.length (bcs news) h kt:=by
 have hsrc:=b.srcv w
 cases b with
 | nil=>
  refine⟨none,0,0,.int .u8 0,#[],rfl,O7,rfl,by simpa using hlen,by simpa using hlen,rfl,fun h0=>?_,fun _ b c' h' hc hc2 e hb ho=>?_⟩
  ·have:news=[]:=A69.1 (by omega)
   subst this
   exact .inl ⟨rfl,rfl,K _ _ h .nil w⟩
  ·rw[QR,show (#[]:Array Value)++bcs news=bcs news by simp,←Fl] at ho
   exact K _ _ h' (.own' (by simp) (by simp;omega) (by rw[A29,A24 (A07 _),A38];rfl)) (w.right.new e hb ho)
 | own hn=>
  rename_i b n all
  have hl:(all.take n).length=n:=by simp[A30 hn]
  rw[hl] at hlen hsrc
  refine⟨_,n,all.length,.int .u8 0,_,rfl,O7,rfl,by simpa using hlen,hlen,hsrc,fun h0=>?_,fun _ b' c' h' hc hc2 e hb ho=>?_⟩
  ·refine .inr ⟨_,_,5,rfl,rfl,w.left.one,by simp[CH];exact h0,H6 _,?_⟩
   have hle:n+news.length≤all.length:=h0
   simp only[A29,A67]
   rw[Cc hle]
   exact K _ _ _ (.own' (by rw[AS hle];exact hle) (AS hle) (by
    unfold setL
    rw[A24 (by simp;omega),A43 (by simp;omega)])) (w.set (o':=.cells (bcs (setL all n news)) 5 (0,0)))
  ·rw[QR,←Fl,←Fl] at ho
   exact K _ _ h' (.own' (by simp;omega) (by simp;omega) (by
    rw[A24 (by simp;omega),A43 (by simp;omega)])) (w.right.new e hb ho)
theorem BU {v s:Value}{bs news:Bs}{r x:Res}{h:H}{kt:Kt}(b:BufV v bs r)(w:AN (r+x) h)(rd:Rd h s news)(hlen:bs.length+news.length≤140737488355328)
  (K:∀ v' r' h,BufV v' (bs++news) r'→AN (r'+x) h→kt v' h):AM 5 (AG TP 5) 1 1 v s h kt:=by
 refine⟨news.length,bcs news,rd.srcLen,?_,GO b w hlen K⟩
 have:=rd.src news.length (A07 _)
 rwa [A38] at this
theorem II {v:Value}{bs:Bs}{r x:Res}{h:H}{kt:Kt}{kk:IntKind}{n:Nat}(b:BufV v bs r)(w:AN (r+x) h)(hlen:bs.length+n≤140737488355328)
  (K:∀ v' r' h,BufV v' (bs++List.replicate n 0) r'→AN (r'+x) h→kt v' h):CI 5 (AG TP 5) 1 1 v (.int kk n) h kt:=by
 refine⟨kk,n,.int .u8 0,rfl,by omega,by omega,by omega,O7,?_⟩
 have:=GO (news:=List.replicate n 0) b w (by simpa using hlen) K
 simp only[A09] at this
 have hz:(if (n:Int).toNat*1=0 then #[] else Builtin.zeroCells (Value.int .u8 0).cells (n:Int).toNat)=bcs (List.replicate n 0):=by
  rw[QR]
  by_cases h0:n=0
  ·subst h0;rfl
  ·rw[A05 (by omega)];simp
 rw[hz]
 simpa using this
theorem CZ {x:Res}{h:H}{kt:Kt}{n:Nat}{parts:List (Nat×Value)}{l:Bs}(w:AN x h)(hn:n≤16777216)(hf:DC (Br (.arr 1)) (List.replicate n (.int .u8 0)) parts=some (l.map bc))(hl:l.length=n)
  (K:∀ b h,AN (buf b l+x) h→kt (.slice (some ⟨b,0,none⟩) n n) h):AH (.arr 1) 5 (AG TP 5) 1 n parts h kt:=
 ⟨.int .u8 0,bcs l,O7,by omega,by
  have e:(if n*1=0 then #[] else Ax (Value.int .u8 0).cells (n*1))=⟨List.replicate n (.int .u8 0)⟩:=by
   by_cases h0:n=0
   ·subst h0;rfl
   ·rw[A05 (by omega),A67];exact CY rfl
  rw[e]
  exact Es _ _ _ hf,fun b h' e hb ho=>K b h' (w.new e hb ho)⟩
theorem Px {b:Nat}{l:Bs}{x:Res}{h:H}{n:Nat}(w:AN x h)[f:CO b x (.cells (bcs l) 5 (0,0))](hl:l.length=n):Rd h (.slice (some ⟨b,0,none⟩) n n) l:=
 .inr ⟨b,0,n,l.map bc,5,(0,0),by rw[hl],w.find,by simp,by simp[←B11]⟩
section
set_option maxRecDepth 100000
def ACE (a b:Value)(h:H)(Q:Kt):Prop:=
 AV .u8 b fun c=>AD .shr b (.int .u64 8) fun d=>AV .u8 d fun d=>AD .shr b (.int .u64 16) fun f=>AV .u8 f fun f=>AD .shr b (.int .u64 24) fun b=>AV .u8 b fun b=>AH (.arr 1) 5 (AG TP 5) 1 4 [(0,c),(1,d),(2,f),(3,b)] h fun b h=>AM 5 (AG TP 5) 1 1 a b h fun a h=>Q a h
theorem Eo {a b:Value}{h:H}{Q:Kt}(x:ACE a b h Q):Call TP 172 [a,b] h Q:=Bb nT Tryz.func172 (by kernel_rfl) x
def AD8 (a b:Value)(h:H)(Q:Kt):Prop:=
 AV .u8 b fun c=>AD .shr b (.int .u64 8) fun b=>AV .u8 b fun b=>AH (.arr 1) 5 (AG TP 5) 1 2 [(0,c),(1,b)] h fun b h=>AM 5 (AG TP 5) 1 1 a b h fun a h=>Q a h
theorem Ek {a b:Value}{h:H}{Q:Kt}(x:AD8 a b h Q):Call TP 173 [a,b] h Q:=Bb nT Tryz.func173 (by kernel_rfl) x
def ABz (a b:Value)(h:H)(Q:Kt):Prop:=
 AV .u32 b fun c=>Ucl 172 [a,c] h fun a h=>AD .shr b (.int .u64 32) fun b=>AV .u32 b fun b=>Ucl 172 [a,b] h fun a h=>Q a h
theorem Yz {a b:Value}{h:H}{Q:Kt}(x:ABz a b h Q):Call TP 174 [a,b] h Q:=Bb nT Tryz.func174 (by kernel_rfl) x
end
section
def Aq (n:Nat):Bs:=[UInt8.ofNat n,UInt8.ofNat (n/256)]
def Ac (n:Nat):Bs:=[UInt8.ofNat n,UInt8.ofNat (n/256),UInt8.ofNat (n/65536),UInt8.ofNat (n/16777216)]
variable {h:H} {k:Value→Prop} {kt Q:Kt} {x r:Res}
@[go_sem low] theorem AGq {m:Nat}:IntKind.u8.wrap (m:Int)=((m%256:Nat):Int):=by unfold IntKind.wrap;simp[IntKind.signed,IntKind.bits]
@[go_sem low] theorem AEZ {m:Nat}:IntKind.u16.wrap (m:Int)=((m%65536:Nat):Int):=by unfold IntKind.wrap;simp[IntKind.signed,IntKind.bits]
@[go_sem low] theorem Uj {m:Nat}:IntKind.u32.wrap (m:Int)=((m%4294967296:Nat):Int):=by unfold IntKind.wrap;simp[IntKind.signed,IntKind.bits]
@[go_sem low] theorem UB {m:Nat}:IntKind.u64.wrap (m:Int)=((m%18446744073709551616:Nat):Int):=by unfold IntKind.wrap;simp[IntKind.signed,IntKind.bits]
theorem EC {kk k':IntKind}{a s:Nat}:AD .shr (.int kk (a:Int)) (.int k' (no_index (OfNat.ofNat s:Int))) k=k (.int kk ((a/2^(min s kk.bits):Nat):Int)):=by
 have h0:(OfNat.ofNat s:Int)=(s:Int):=rfl
 rw[h0]
 have h1:CT .shr (.int kk (a:Int)) (.int k' (s:Int))=some (.int kk ((a/2^(min s kk.bits):Nat):Int)):=by
  unfold CT
  simp only
  rw[A05 (by omega),A77]
  congr 2
  have:(2:Int)^(min s kk.bits)=((2^(min s kk.bits):Nat):Int):=by simp[Int.natCast_pow]
  rw[this,←Int.ofNat_fdiv]
 exact propext ⟨fun⟨v,h2,h3⟩=>by rw[h1] at h2;cases h2;exact h3,fun h3=>⟨_,h1,h3⟩⟩
@[go_sem] theorem AIe {kk k':IntKind}{a:Nat}:AD .shr (.int kk (a:Int)) (.int k' 8) k=k (.int kk ((a/256:Nat):Int)):=by
 have:=EC (kk:=kk) (k':=k') (a:=a) (s:=8) (k:=k)
 cases kk<;>exact this
@[go_sem] theorem AGX {k':IntKind}{a:Nat}:AD .shr (.int .u32 (a:Int)) (.int k' 16) k=k (.int .u32 ((a/65536:Nat):Int)):=EC (s:=16)
@[go_sem] theorem AGn {k':IntKind}{a:Nat}:AD .shr (.int .u32 (a:Int)) (.int k' 24) k=k (.int .u32 ((a/16777216:Nat):Int)):=EC (s:=24)
@[go_sem] theorem AF4 {k':IntKind}{a:Nat}:AD .shr (.int .u64 (a:Int)) (.int k' 32) k=k (.int .u64 ((a/4294967296:Nat):Int)):=EC (s:=32)
theorem MZ {m:Nat}:Value.int .u8 ((m%256:Nat):Int)=bc (UInt8.ofNat m):=by simp[bc]
theorem OU {v:Value}{bs:Bs}{n:Nat}(b:BufV v bs r)(w:AN (r+x) h)(hl:bs.length+4≤140737488355328)(K:∀ v r h,BufV v (bs++Ac n) r→AN (r+x) h→Q v h):ACE v (.int .u32 n) h Q:=by
 unfold ACE
 simp only[go_sem]
 refine CZ (l:=Ac n) w (by decide) ?_ rfl fun b1 h w=>?_
 ·simp only[MZ];rfl
 ·rw[Res.left_comm] at w
  exact BU b w (Px w rfl) (by simpa[Ac] using hl) fun v r h b w=>K v r h b (by rw[Res.left_comm] at w;exact w.right)
end
end Go.Proofs.YtollddkkdgoonaaGreatDoor
