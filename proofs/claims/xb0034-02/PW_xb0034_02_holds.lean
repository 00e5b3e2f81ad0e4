import PyProof.Rows.All
import PyProof.AttrMiss
import PyProof.PureStr
import KE.KBoundM
import KE.KDictSum
import KE.KNestM
import KE.KPairComp
import KE.KSortTup
import Wide.FinOn
import OpenK.AllK
import Wide.All
import Lean
import PySem.Challenge.RW_xb0034_02
set_option Elab.async false
set_option maxRecDepth 100000
set_option linter.all false
set_option genSizeOf false
set_option genInjectivity false
open PySem renaming wpAny_bind->ox,Shared->oC,wpAny_pure->pk,wpAny->si,Addr->sx,Scope->te,DictEntry->th,Around->tj,wpAny_holding->ub,Comprehension->uj,wpAny_standAt->uk,wpAny_mono->wb,call->xi,Heap->xI,wpAny_newObj_type->B1,Stmt->B2,OsState->Dx,Params->Hc,Obj->Nw,World->Pm,wpAny_call_entry->PQ,Fin->RR,Env->Ts,builtinLookup_eq_fast->U2,wpAny_loadPart_at->aai,wpAny_field->aaj,sizeLine_eq->aak,assignEach->aal,assign->aaq,wpAny_callSpecial?_slot->aau,NameKind->aav,intKind->aax,Pos->aaK
open Option.some renaming inj->oy,injEq->aap
open Nat renaming le_refl->pd,sub_add_cancel->rl,le_trans->vb,not_lt_of_le->vi,lt_of_le_of_lt->vw,beq->vT,le_succ_of_le->w3,lt_of_lt_of_le->xp,ne_of_lt->x5,le_of_lt->y7,zero_le->zr,ble->Bi,lt_succ_self->BM,le_succ->Ee,le_of_ble_eq_true->Fh,le_of_eq->Fu,zero_add->FR,lt_of_succ_lt->FV,add_comm->HI,le_add_right->Kk,sub_le->Md,lt_succ_of_lt->Mo,lt_of_le_of_ne->OK,div_add_mod->QQ,succ_pos->Sr,sub_self->X1,lt_trans->X2,add_zero->aab,lt_irrefl->aah
open List renaming length_map->ph,length_append->pj,length_cons->pE,append_nil->rn,getElem?_eq_getElem->sg,lookup_cons->sT,append_assoc->ta,length_nil->tm,getD_eq_getElem?_getD->tv,map_map->tx,getElem?_set_self->tA,replicate->t4,map_append->vk,getElem?_append_left->vl,mem_singleton->vu,length_set->vx,getElem?_set_ne->v3,mem_filter->wi,mem_cons_self->wx,range->w8,map_cons->xb,mem_map->xt,getElem?_map->x3,mem_cons_of_mem->y0,mem_append_left->y2,mem_cons->y3,mem_append_right->y4,idxOf_lt_length_iff->y8,getElem?_append_right->zt,filter_cons->Bn,countP_cons->Bz,length_filter_le->D1,mem_append->Fm,mem_of_getElem?->Fn,getLast?_eq_some_getLast->Fs,getElem_mem->FC,filter_cons_of_neg->He,nodup_cons->Hk,nil_append->Hm,size_toArray->H0,nodup_nil->Iy,foldl_cons->Jn,range'->Ki,filter_cons_of_pos->Kj,length_range->Kt,forIn_cons->NA,getLastD_eq_getLast?->NM,not_mem_nil->Oy,set_append_left->Pt,length->PH,countP_congr->Qb,countP_eq_length_filter->QP,filter_eq_self->QR,take_of_length_le->Q1,set_set->RF,length_drop->SF,all_eq_true->SU,length_zipIdx->Tx,take_append_drop->TB,countP_map->TO,set_comm->aag,map_eq_nil_iff->aam,lookup_eq_none_iff->aan,filter_append->aar,drop_of_length_le->aas,set_append_right->aay,length_singleton->aaz,getElem?_eq_none->aaA,toArray->aaF,drop_eq_getElem_cons->aaG,of_mem_zip->aaM
open PySem.Heap renaming get?_push_of_some->px,get?_push_size->tc,lt_size->ti,size_push->xc,get?_update_other->Hn,get?_update_self->TC
open PySem.Str renaming ofString->t5
open Bool renaming and_eq_true->vr,false_ne_true->wy,eq_false_iff->H5,not_eq_true'->L9,false_eq_true->aat,and_true->aaL
open PySem.NameKind renaming cell->wa,free->Ap
open Classical renaming byContradiction->xf,byCases->aaN
open False renaming elim->xk
open Array renaming getElem?_toList->xv,length_toList->D2,toList_append->aaH
open PySem.DictEntry renaming hash->x4
open Prod.mk renaming inj->yA
open PySem.Value renaming isInt->yB
open PUnit renaming unit->y5
open PySem.Obj renaming mapSeq->y6
open PySem.W renaming piece_app->FK
open ForInStep renaming yield->FX
open PySem.Value.ref renaming inj->IH
open Int renaming natCast_nonneg->Kb,ofNat->XB,zero_add->aac,toNat_natCast->aad,ofNat_lt->aae,add_zero->aaf,toNat_of_nonneg->aao,not_lt->aaw
open PySem.Heap.SameBut renaming update->Pl
open HAdd renaming hAdd->Qr
open Pure renaming pure->TK
open PySem.Builtin.Int renaming intBits->aaB
open Prod renaming ext->aaC
open PySem.Builtin.Range renaming rangeSize->aaD
open Array.Perm renaming refl->aaE
open Option renaming isSome_iff_exists->aaI
open Ne renaming symm->aaJ
noncomputable section
namespace Mine
theorem bE{p:Prop}(h:false=true):p:=absurd h wy
theorem a_{x y:Bool}(h:(x&&y)=true):x=true/\y=true:=Bool.and_eq_true_iff.mp h
theorem bX{x y:Bool}(h:x=true/\y=true):(x&&y)=true:=Bool.and_eq_true_iff.mpr h
theorem pQ{x y:Bool}(h:(x||y)=false):x=false/\y=false:=Bool.or_eq_false_iff.mp h
theorem bx{α:Type}{a b:α}{l:List α}(h:a∈b::l):a=b\/a∈l:=y3.mp h
theorem eI{α:Type}{i:Nat}{a:α}{l:List α}(h:l[i]?=some a):∃h:i<l.length,l[i]=a:=List.getElem?_eq_some_iff.mp h
theorem cj{α:Type}{p:α->Bool}{l:List α}(h:l.all p=true):∀x,x∈l->p x=true:=SU.mp h
theorem gF{α β:Type}{b:α}{x:Option β}{f:β->α}(h:x.map f=some b):∃a,x=some a/\f a=b:=Option.map_eq_some_iff.mp h
theorem t7{α β:Type}{b:α}{x:Option β}{f:β->Option α}(h:x.bind f=some b):∃a,x=some a/\f a=some b:=Option.bind_eq_some_iff.mp h
theorem rZ{α:Type}{a b:List α}(h:(a++b).Nodup):a.Nodup/\b.Nodup/\∀x,x∈a->∀y,y∈b->x≠y:=List.nodup_append.mp h
theorem nA{α:Type}{a:α}{l:List α}(h:(a::l).Nodup):¬a∈l/\l.Nodup:=Hk.mp h
theorem nB{α:Type}{x:Option α}(h:x.isSome=true):∃a,x=some a:=aaI.mp h
theorem AY{α β:Type}{b:β}{f:α->β}{l:List α}(h:b∈l.map f):∃a,a∈l/\f a=b:=xt.mp h
theorem I6{α β:Type}{b:β}{f:α->β}{l:List α}(h:∃a,a∈l/\f a=b):b∈l.map f:=xt.mpr h
theorem EK{m n:Nat}(h:m∈w8 n):m<n:=List.mem_range.mp h
theorem I7{α:Type}{p:α->Bool}{l:List α}{x:α}(h:x∈l.filter p):x∈l/\p x=true:=wi.mp h
theorem zu{α:Type}[BEq α][LawfulBEq α]{a b:α}(h:a≠b):(a==b)=false:=beq_eq_false_iff_ne.mpr h
inductive Ln where
|at(i:Nat)|lit(n:Nat)|add(a b:Ln)|mul(n:Nat)(a:Ln)|pR(n:Nat)(a:Ln)|LU(a:Ln)
namespace Ln
noncomputable def I8:List Nat->Nat->Nat|[],aR=>0|a::aR,0=>a|aR::v,i+1=>I8 v i
def den(v:List Nat):Ln->Nat|.at i=>I8 v i|.lit n=>n|.add a b=>a.den v+b.den v|.mul n a=>n* a.den v|.pR n a=>a.den v* n|.LU a=>(a.den v).succ
noncomputable def co(i:Nat):Ln->Nat|.at j=>bif vT i j then 1 else 0|.lit _=>0|.add a b=>a.co i+b.co i|.mul n a=>n* a.co i|.pR n a=>n* a.co i|.LU a=>a.co i
noncomputable def c0:Ln->Nat|.at _=>0|.lit n=>n|.add a b=>a.c0+b.c0|.mul n a=>n* a.c0|.pR n a=>n* a.c0|.LU a=>a.c0+1
noncomputable def dec(f c:Nat):Ln×Nat:=match f with
|0=>(.lit 0,c)|f+1=>
 bif Bi (c %16) 7 then(.at (c %16),c/16)
 else bif vT (c %16) 8 then match dec f (c/16) with |(a,c)=>match dec f c with |(b,c)=>(.add a b,c)
 else bif vT (c %16) 9 then(.lit (c/16 %16),c/256)
 else bif vT (c %16) 10 then
  bif vT (c/16 %16) 0 then match dec f (c/1048576) with |(a,r)=>(.mul (c/256 %4096) a,r)
  else match dec f (c/256) with |(a,r)=>(.mul (c/16 %16) a,r)
 else bif vT (c %16) 11 then match dec f (c/256) with |(a,r)=>(.pR (c/16 %16) a,r)
 else bif vT (c %16) 12 then(.at (c/16 %16),c/256)
 else bif vT (c %16) 13 then match dec f (c/16) with |(a,r)=>(.LU a,r)
 else bif vT (c %16) 14 then(.lit (c/16 %256),c/4096)
 else bif vT (c/16 %16) 0 then(.lit (c/65536 %16^(c/256 %256)),c/65536/16^(c/256 %256))
 else(.lit (c/256 %16^(c/16 %16)),c/256/16^(c/16 %16))
inductive Rk where
|le|lt|eq|qe|AZ|A0|no
noncomputable def Rk.dec(n:Nat):Rk:=bif vT n 0 then .le else bif vT n 1 then .lt else bif vT n 2 then .eq else bif vT n 3 then .qe else bif vT n 4 then .AZ else bif vT n 5 then .A0 else .no
noncomputable def kU{α:Type}(p:Ln×Nat)(q:Nat->Ln×Nat)(m:Nat)(t:Rk)(k:Nat->Rk->Ln->Ln->Nat->α):α:=match p with |(a,r)=>match q r with |(b,r)=>k m t a b r
def Rk.den(v:List Nat)(k:Rk)(a b:Ln):Prop:=match k with |.le=>a.den v<=b.den v|.lt=>a.den v<b.den v|.eq=>a.den v=b.den v|.qe=>a.den v=b.den v|.AZ=>¬a.den v<=b.den v|.A0=>¬a.den v<b.den v|.no=>False
def Dn(v:List Nat):Nat->Nat->Prop|0,c=>kU (dec 64 (c/256)) (dec 64) (c %16) (.dec (c/16 %16)) λd k a b d=>k.den v a b|n+1,c=>kU (dec 64 (c/256)) (dec 64) (c %16) (.dec (c/16 %16)) λd k a b c=>k.den v a b->Dn v n c
noncomputable def step(m e:Nat)(l r L R:Ln):Ln×Ln:=(.add (.mul m (.add l (.lit e))) L,.add (.mul m r) R)
noncomputable def Rk.add(t:Bool)(m:Nat)(k:Rk)(a b L R:Ln):Ln×Ln:=match k with |.le=>step m 0 a b L R|.lt=>step m 1 a b L R|.eq=>bif t then step m 0 a b L R else step m 0 b a L R|.qe=>bif t then step m 0 b a L R else step m 0 a b L R|.AZ=>step m 1 b a L R|.A0=>step m 0 b a L R|.no=>(L,R)
noncomputable def Rp(v:List Nat)(i:Nat)(L R:Ln):Bool:=match v with |[]=>true|_::v=>Bi (R.co i) (L.co i)&&Rp v (i+1) L R
def fin(v:List Nat)(p:Ln×Ln):Bool:=Nat.blt p.2.c0 p.1.c0&&Rp v 0 p.1 p.2
def Rk.goal(v:List Nat)(m:Nat)(k:Rk)(a b:Ln)(P Q:Ln×Ln):Bool:=match k with |.le=>fin v (step m 1 b a P.1 P.2)|.lt=>fin v (step m 0 b a P.1 P.2)|.eq=>fin v (step (m %4) 1 b a P.1 P.2)&&fin v (step (m/4) 1 a b Q.1 Q.2)|.AZ=>fin v (step m 0 a b P.1 P.2)|.A0=>fin v (step m 1 a b P.1 P.2)|_=>fin v P
noncomputable def dm(v:List Nat)(q:Bool):Nat->Nat->Ln×Ln->Ln×Ln->Bool|0,c,P,Q=>kU (dec 64 (c/256)) (dec 64) (c %16) (.dec (c/16 %16)) λm k a b d=>k.goal v m a b P Q|n+1,c,P,Q=>kU (dec 64 (c/256)) (dec 64) (c %16) (.dec (c/16 %16)) λm k a b c=>dm v q n c (k.add true (bif q then m %4 else m) a b P.1 P.2) (k.add false (m/4) a b Q.1 Q.2)
noncomputable def dot(v:List Nat)(f:Nat->Nat):Nat:=match v with |[]=>0|a::v=>f 0* a+dot v λi=>f (i+1)
theorem EL(v:List Nat)(f g:Nat->Nat):dot v (λi=>f i+g i)=dot v f+dot v g:=by
 induction v generalizing f g with |nil=>rfl|cons a v ih=>exact(congr (congrArg Qr (Nat.add_mul ..)) (ih ..)).trans (Nat.add_add_add_comm ..)
theorem xW(v:List Nat)(n:Nat)(f:Nat->Nat):dot v (λi=>n* f i)=n* dot v f:=by
 induction v generalizing f with |nil=>rfl|cons a v ih=>exact(congr (congrArg Qr (Nat.mul_assoc ..)) (ih ..)).trans (Nat.mul_add ..).symm
theorem t8(v:List Nat):dot v (λb=>0)=0:=by
 induction v with |nil=>rfl|cons a v ih=>exact(congr (congrArg Qr (Nat.zero_mul a)) ih).trans rfl
theorem I9(v:List Nat)(j:Nat):dot v (λi=>bif vT i j then 1 else 0)=I8 v j:=by
 induction v generalizing j with |nil=>rfl|cons a v ih=>cases j with |zero=>exact(congr (congrArg Qr (Nat.one_mul a)) (t8 v)).trans (aab a)|succ j=>exact(congr (congrArg Qr (Nat.zero_mul a)) (ih j)).trans (FR _)
theorem sum(v:List Nat)(t:Ln):t.den v=t.c0+dot v λi=>t.co i:=by
 induction t with |«at»j=>exact(I9 v j).symm.trans (FR _).symm|lit n=>exact(congrArg (n+·) (t8 v)).symm|add a b ha hb=>exact(congr (congrArg Qr ha) hb).trans ((Nat.add_add_add_comm ..).trans (congrArg _ (EL ..).symm))|mul n a h=>exact(congrArg (n* ·) h).trans ((Nat.mul_add ..).trans (congrArg _ (xW ..).symm))|pR n a h=>exact(Nat.mul_comm ..).trans ((congrArg (n* ·) h).trans ((Nat.mul_add ..).trans (congrArg _ (xW ..).symm)))|LU a h=>exact(congrArg Nat.succ h).trans (Nat.succ_add ..).symm
theorem I_(v:List Nat)(L R:Ln)(i:Nat)(h:Rp v i L R=true):dot v (λj=>R.co (j+i))<=dot v (λj=>L.co (j+i)):=by
 induction v generalizing i with
 |nil=>exact pd _|cons a v ih=>
  obtain⟨h1,h2⟩:=a_ h;refine Nat.add_le_add (Nat.mul_le_mul (by show R.co (0+i)<=L.co (0+i);rw[FR];exact Fh h1) (pd _)) ?_;have :=ih _ h2
  simp only[Nat.add_assoc,HI 1 i];exact this
theorem cL{v:List Nat}{p:Ln×Ln}(h:fin v p=true)(q:p.1.den v<=p.2.den v):False:=by
 obtain⟨h1,h2⟩:=a_ h;have h1:=Fh h1
 have :=I_ v p.1 p.2 0 h2;rw[Ln.sum,Ln.sum] at q;exact absurd (xp (Nat.add_lt_add_of_lt_of_le h1 this) q) (aah _)
theorem aU{v:List Nat}{m e:Nat}{l r L R:Ln}(h:l.den v+e<=r.den v)(q:L.den v<=R.den v):(step m e l r L R).1.den v<=(step m e l r L R).2.den v:=Nat.add_le_add (Nat.mul_le_mul_left m h) q
theorem Rk.A6{v:List Nat}{t:Bool}{m:Nat}{k:Rk}{a b L R:Ln}(h:k.den v a b)(q:L.den v<=R.den v):(k.add t m a b L R).1.den v<=(k.add t m a b L R).2.den v:=by
 cases k with
 |le=>exact aU h q|lt=>exact aU h q|AZ=>exact aU (Nat.lt_of_not_le h) q|A0=>exact aU (Nat.le_of_not_lt h) q|no=>exact q|eq=>cases t;exact aU (Fu h.symm) q;exact aU (Fu h) q
 |qe=>cases t;exact aU (Fu h) q;exact aU (Fu h.symm) q
theorem Rk.r7{v:List Nat}{m:Nat}{k:Rk}{a b:Ln}{P Q:Ln×Ln}(h:k.goal v m a b P Q=true)(p:P.1.den v<=P.2.den v)(q:Q.1.den v<=Q.2.den v):k.den v a b:=by
 cases k with |le=>exact Nat.le_of_not_lt λx=>cL h (aU x p)|lt=>exact Nat.lt_of_not_le λx=>cL h (aU x p)|eq=>exact Nat.le_antisymm (Nat.le_of_not_lt λx=>cL (a_ h).1 (aU x p)) (Nat.le_of_not_lt λx=>cL (a_ h).2 (aU x q))|AZ=>exact λx=>cL h (aU x p)|A0=>exact λx=>cL h (aU x p)|no=>exact cL h p|qe=>exact(cL h p).elim
theorem jY{α β:Type}{R:α->β->Prop}{p:Ln×Nat}{q:Nat->Ln×Nat}{m:Nat}{t:Rk}{k:Nat->Rk->Ln->Ln->Nat->α}{k':Nat->Rk->Ln->Ln->Nat->β}(h:∀m t a b c,R (k m t a b c) (k' m t a b c)):R (kU p q m t k) (kU p q m t k'):=h ..
theorem wm{v:List Nat}{g:Bool}{n c:Nat}{P Q:Ln×Ln}(h:dm v g n c P Q=true)(p:P.1.den v<=P.2.den v)(q:Q.1.den v<=Q.2.den v):Dn v n c:=by
 induction n generalizing c P Q with |zero=>exact jY (R:=λx y=>x=true->y) (λa a a a a h=>Rk.r7 h p q) h|succ n ih=>exact jY (R:=λx y=>x=true->y) (λa a a a a h x=>ih h (Rk.A6 x p) (Rk.A6 x q)) h
theorem go(c:Nat)(v:List Nat)(h:dm v (vT (c/16 %16) 1) (c %16) (c/256) (.lit 0,.lit 0) (.lit 0,.lit 0)=true):Dn v (c %16) (c/256):=wm h (pd _) (pd _)
theorem bI(a b:Nat):a<=a-b+b:=Nat.sub_le_iff_le_add.mp (pd _)
end Ln
theorem ae:true=true:=rfl
theorem aS(c:Nat){a:Nat}(h:Ln.dm [a] (vT (c/16 %16) 1) (c %16) (c/256) (.lit 0,.lit 0) (.lit 0,.lit 0)=true):Ln.Dn [a] (c %16) (c/256):=Ln.go c _ h
theorem aL(c:Nat){a b:Nat}(h:Ln.dm [a,b] (vT (c/16 %16) 1) (c %16) (c/256) (.lit 0,.lit 0) (.lit 0,.lit 0)=true):Ln.Dn [a,b] (c %16) (c/256):=Ln.go c _ h
theorem aW(c:Nat){a b d:Nat}(h:Ln.dm [a,b,d] (vT (c/16 %16) 1) (c %16) (c/256) (.lit 0,.lit 0) (.lit 0,.lit 0)=true):Ln.Dn [a,b,d] (c %16) (c/256):=Ln.go c _ h
theorem e9(c:Nat){a b d e:Nat}(h:Ln.dm [a,b,d,e] (vT (c/16 %16) 1) (c %16) (c/256) (.lit 0,.lit 0) (.lit 0,.lit 0)=true):Ln.Dn [a,b,d,e] (c %16) (c/256):=Ln.go c _ h
theorem v7(c:Nat){a b d e f:Nat}(h:Ln.dm [a,b,d,e,f] (vT (c/16 %16) 1) (c %16) (c/256) (.lit 0,.lit 0) (.lit 0,.lit 0)=true):Ln.Dn [a,b,d,e,f] (c %16) (c/256):=Ln.go c _ h
end Mine
end
noncomputable section
open PySem PySem.W PySem.Builtin PySem.Builtin.Str
namespace Mine
set_option genInjectivity true in
inductive V where
 |none|bool(b:Bool)|int(i:Int)|str(s:Str)|lst(xs:List V)|tup(xs:List V)|aE(kvs:List (Str×V))|t9(a b:Int)|ref(k:Nat)|fn(f:Nat)|cls(c:Nat)|blt(id:String)|typ(id:String)|bm(self:Nat)(f:Nat)|r8(params:List Str)(body:Expr)(sc:te)(dD:List (Str×V))|tabI(kvs:List (Int×Str))|zv(xs:List Int)
 deriving Inhabited
inductive aF where
 |gone|lst(xs:List V)|aE(kvs:List (Str×V))|inst(c:Nat)(fs:List (Str×V))|qp(r8:V)(fs:List (Str×V))|mK(f:V)(stop:V)(live:Bool)
 deriving Inhabited
abbrev AH:=List aF
abbrev af:=List (Str×V)
abbrev M(α:Type):=AH->Option (α×AH)
noncomputable def M.ret(a:α):M α:=λH=>some (a,H)
noncomputable def M.aT(m:M α)(f:α->M β):M β:=λH=>match m H with |some (a,H')=>f a H'|none=>none
noncomputable def M.fail:M α:=λa=>none
noncomputable instance:Monad M where
 pure:=M.ret
 bind:=M.aT
noncomputable def opt(o:Option α):M α:=λH=>o.map (·,H)
noncomputable def hget(k:Nat):M aF:=λH=>match H[k]? with |some .gone=>none|some o=>some (o,H)|none=>none
noncomputable def ik(k:Nat)(o:aF):M Unit:=λH=>some ((),H.set k o)
noncomputable def iA(o:aF):M V:=λH=>some (.ref H.length,H++[o])
inductive Fl where
|next|cont
|ret(v:V)
noncomputable def Rq:Fl->V|.ret v=>v|_=>.none
structure A7 where
 params:List Str
 body:List B2
 sc:te
structure Ja where
 meths:List (Str×Nat)
 EM:List Str
structure Cx where
 LV:List (Str×V)
 fns:List (Nat×A7)
 gG:List (Nat×Ja)
 mu:aaK->Bool
 frz:Nat->Bool
 wo:Str->Bool
 lim:Nat
noncomputable def aH{β:Type}(l:List (Str×β))(x:Str)(v:β):List (Str×β):=match l with |[]=>[(x,v)]|p::r=>bif x==p.1 then(p.1,v)::r else p::aH r x v
noncomputable def aY(l:List (Str×V))(x:Str):Option V:=l.lookup x
def Qi(v:V):M Bool:=match v with
|.none=>pure false|.bool b=>pure b|.int i=>pure (i !=0)|.str s=>pure (s.length !=0)|.lst xs=>pure (xs.length !=0)|.ref k=>do match <-hget k with |.lst xs=>pure (xs.length !=0)|_=>M.fail
|_=>M.fail
noncomputable def deref(H:AH)(a:V):V:=match a with
|.ref k=>match H[k]? with |some (.lst xs)=>.lst xs|some (.aE kvs)=>.aE kvs|_=>a
|_=>a
noncomputable def aJ{α:Type}(a:V)(f:Int->Option α):Option α:=by induction a using V.casesOn with |int i=>exact f i|_=>exact none
noncomputable def onStr{α:Type}(a:V)(f:Str->Option α):Option α:=by induction a using V.casesOn with |str i=>exact f i|_=>exact none
noncomputable def eJ{α:Type}(a:V)(f:Bool->Option α):Option α:=by induction a using V.casesOn with |bool i=>exact f i|_=>exact none
noncomputable def dP{α:Type}(a:V)(f:List V->Option α):Option α:=by induction a using V.casesOn with |lst i=>exact f i|_=>exact none
noncomputable def jr{α:Type}(a:V)(f:List V->Option α):Option α:=by induction a using V.casesOn with |tup i=>exact f i|_=>exact none
noncomputable def iB{α:Type}(a:V)(f:List (Str×V)->Option α):Option α:=by induction a using V.casesOn with |aE i=>exact f i|_=>exact none
noncomputable def kW{α:Type}(a:V)(f:Option α):Option α:=by induction a using V.casesOn with |none=>exact f|_=>exact Option.none
noncomputable def onSet{α:Type}(a:V)(f:List Int->Option α):Option α:=by induction a using V.casesOn with |zv i=>exact f i|_=>exact none
noncomputable def xX{α:Type}(a:V)(f:Nat->Option α):Option α:=by induction a using V.casesOn with |ref i=>exact f i|_=>exact none
noncomputable def EN{α:Type}(a:V)(f:Int->Option α)(g:Str->Option α):Option α:=by induction a using V.casesOn with |int i=>exact f i|str x=>exact g x|_=>exact none
noncomputable def alt{α:Type}(a b:Option α):Option α:=match a with |some x=>some x|none=>b
noncomputable def veqs(f:V->V->Option Bool):List V->List V->Option Bool
|[],[]=>some true|x::xs,y::ys=>match f x y,veqs f xs ys with |some p,some q=>some (p&&q)|aR,bV=>none
|aR,bV=>none
noncomputable def veqd(f:V->V->Option Bool)(ys xs:List (Str×V)):Bool:=xs.all λp=>(ys.lookup p.1).bind (f p.2)==some true
def VN(f:V->V->Option Bool)(H:AH)(a b:V):Option Bool:=
 alt (aJ a λi=>aJ b λj=>some (i==j)) (alt (onStr a λx=>onStr b λy=>some (x==y)) (alt (eJ a λx=>eJ b λy=>some (x==y))
 (alt (jr a λxs=>jr b λys=>bif xs.length==ys.length then veqs f xs ys else none) (alt (dP (deref H a) λxs=>dP (deref H b) λys=>bif xs.length==ys.length then veqs f xs ys else none)
 (iB (deref H a) λkx=>iB (deref H b) λky=>bif kx.length==ky.length&&veqd f ky kx then some true else none)))))
noncomputable def gH:Nat->AH->V->V->Option Bool|0,aR,bV,iq=>none|n+1,H,a,b=>VN (gH n H) H a b
noncomputable def v8{α:Type}(as:List V)(f:V->V->Option α):Option α:=match as with |[v,u]=>f v u|_=>none
def iC(v:V):Option (Str×Str):=jr v λxs=>v8 xs λa b=>onStr a λp=>onStr b λq=>some (p,q)
noncomputable def Lv(a b:V):Option Bool:=alt (aJ a λi=>aJ b λj=>some (i==j)) (alt (onStr a λx=>onStr b λy=>some (x==y)) ((iC a).bind λp=>(iC b).map λq=>p==q))
noncomputable def eqRow(x:V):List V->Option (List Bool)|[]=>some []|y::r=>match Lv y x,eqRow x r with |some p,some q=>some (p::q)|aR,bV=>none
noncomputable def bj:Nat:=10
noncomputable def strLt(a b:Str):Bool:=decide (a.cps.toList<b.cps.toList)
noncomputable def strSub(x y:Str):Bool:=!(occurrences y x 0 y.length 1).isEmpty
def LW(_:Nat)(a b:V):Option Bool:=alt (aJ a λi=>aJ b λj=>some (decide (i<j))) (alt (onStr a λx=>onStr b λy=>some (strLt x y)) ((iC a).bind λp=>(iC b).map λq=>bif p.1==q.1 then bif p.2==q.2 then false else strLt p.2 q.2 else strLt p.1 q.1))
noncomputable def runK{α:Type}(hU:Nat->Nat->Option Bool):PySem.W.KasT α->Option α|.ret a=>some a|.ask i j k=>match hU i j with |some b=>runK hU (k b)|none=>none
def sortAns(ks:List V)(i j:Nat):Option Bool:=match ks[i]?,ks[j]? with |some a,some b=>LW bj a b|aR,bV=>none
noncomputable def EO(v:V):Bool:=vT v.ctorIdx 2
noncomputable def EP(v:V):Bool:=vT v.ctorIdx 3
def ER(v:V):Bool:=(iC v).isSome
noncomputable def sortable(ks:List V):Bool:=ks.all EO||(ks.all EP||ks.all ER)
noncomputable def small(i:Int):Bool:=decide (i.natAbs<2^128)
noncomputable def sizeOk(n:Nat):Bool:=decide (n<2^20)
noncomputable def ai:Nat:=2^20
noncomputable def r9(f:Int->Int->Option V)(a b:V):Option V:=aJ a λi=>aJ b λj=>f i j
def A8(a b:V):Option V:=match a with
|.int i=>aJ b λj=>some (.int (i+j))|.str x=>onStr b λy=>if sizeOk (x.length+y.length) then some (.str (x++y)) else none
|.lst x=>dP b λy=>if sizeOk (x.length+y.length) then some (.lst (x++y)) else none
|.tup x=>jr b λy=>if x.length !=0&&y.length !=0&&sizeOk (x.length+y.length) then some (.tup (x++y)) else none
|_=>none
def Jb(a b:V):Option V:=match a with
|.int i=>aJ b λj=>if small i&&small j then some (.int (i* j)) else none
|.lst x=>aJ b λj=>match x with
 |[v]=>if decide (0<=j)&&decide (j<1000) then some (.lst (t4 j.toNat v)) else none
 |_=>none
|_=>none
def binop(op:Operator)(a b:V):Option V:=match op with |.Add=>A8 a b|.Mult=>Jb a b|.Sub=>r9 (λi j=>some (.int (i-j))) a b|.FloorDiv=>r9 (λi j=>if j !=0&&small j then some (.int (i.fdiv j)) else none) a b|.Mod=>r9 (λi j=>if j !=0 then some (.int (i.fmod j)) else none) a b|.Pow=>r9 (λi j=>if small i&&decide (0<=j)&&decide (j<100) then some (.int (i^j.toNat)) else none) a b|_=>none
def jZ(a b:V):Option V:=match a with
|.int i=>aJ b λj=>some (.int (i+j))|.str x=>onStr b λy=>if sizeOk (x.length+y.length) then some (.str (x++y)) else none
|_=>none
def inside(H:AH)(a b:V):Option Bool:=alt (onStr a λx=>alt (onStr b λy=>some (strSub x y)) (iB (deref H b) λkvs=>some (kvs.lookup x).isSome)) (dP b λys=>(eqRow a ys).map (·.any id))
def bG(H:AH)(op:CmpOp)(a b:V):Option V:=match op with |.Eq=>(gH bj H a b).map .bool|.NotEq=>(gH bj H a b).map λr=>.bool !r|.Lt=>alt (aJ a λi=>aJ b λj=>some (.bool (decide (i<j)))) (onStr a λx=>onStr b λy=>some (.bool (strLt x y)))|.Gt=>alt (aJ a λi=>aJ b λj=>some (.bool (decide (j<i)))) (onStr a λx=>onStr b λy=>some (.bool (strLt y x)))|.GtE=>aJ a λi=>aJ b λj=>some (.bool (decide (j<=i)))|.IsNot=>alt (eJ b λy=>eJ a λx=>some (.bool (x !=y))) (kW b (alt (kW a (some (.bool false))) (onStr a λc=>some (.bool true))))|.In=>alt (onSet b λxs=>aJ a λi=>some (.bool (xs.contains i))) ((inside H a b).map .bool)|.NotIn=>(inside H a b).map λr=>.bool !r|_=>none
def eS(x:V)(l:List V):Option Nat:=(eqRow x l).map (·.countP id)
def i7(x:V)(l:List V):Option Nat:=(eqRow x l).bind (·.findIdx? id)
noncomputable def dF(n:Nat)(i:Int):Option Nat:=if decide (-2^63<=i)&&decide (i<2^63) then seqIndex? i n else none
def t_(a i:V):Option V:=match a with |.lst xs=>aJ i λi=>(dF xs.length i).bind λk=>xs[k]?|.tup xs=>aJ i λi=>(dF xs.length i).bind λk=>xs[k]?|.aE kvs=>onStr i λx=>kvs.lookup x|_=>none
def item(H:AH)(a i:V):Option V:=t_ (deref H a) i
noncomputable def cut(xs:List α)(lo hi:Option Int):List α:=(xs.drop (lo.elim 0 (clipAt xs.length))).take (hi.elim xs.length (clipAt xs.length)-lo.elim 0 (clipAt xs.length))
noncomputable def HZ(j:Int)(n:Nat):Bool:=decide (0<=j)&&decide (j<n)
def slice(H:AH)(a:V)(lo hi:Option Int):Option V:=match deref H a with |.tup xs=>lo.elim (hi.bind λj=>bif HZ j xs.length then some (.tup (xs.take j.toNat)) else none) λb=>none|.lst xs=>some (.lst (cut xs lo hi))|_=>none
noncomputable def eU(f:V->M V):List V->M (List V)
|[]=>pure []|x::r=>do
 let y<-f x
 return y::(<-eU f r)
noncomputable def eV(f:V->M V):List (Str×V)->M (List (Str×V))
|[]=>pure []|(k,x)::r=>do
 let y<-f x
 return (k,y)::(<-eV f r)
noncomputable def freeze:Nat->V->M V
|0,aR=>M.fail|n+1,.ref k=>do
 match <-hget k with |.lst xs=>ik k .gone;return .lst (<-eU (freeze n) xs)|.aE kvs=>ik k .gone;return .aE (<-eV (freeze n) kvs)|_=>M.fail
|n+1,.tup xs=>do return .tup (<-eU (freeze n) xs)
|aR,v=>pure v
def srcOf(v:V):M (List V×Option (Nat×aF)):=match v with
|.lst xs=>pure (xs,none)|.tup xs=>pure (xs,none)|.str x=>pure (x.cps.toList.map λc=>.str ⟨#[c]⟩,none)|.t9 a b=>pure ((w8 (b-a).toNat).map λ(i:Nat)=>.int (a+(i:Int)),none)|.aE kvs=>pure (kvs.map λkv=>.str kv.1,none)|.ref k=>do
 match <-hget k with |.lst xs=>ik k .gone;return (xs,some (k,.lst xs))|_=>M.fail
|_=>M.fail
def ES(v:V):M (List (Str×V)×Option (Nat×aF)):=match v with |.aE kvs=>pure (kvs,none)|_=>M.fail
noncomputable def aX(i:Int):List V->List V|[]=>[]|x::r=>.tup [.int i,x]::aX (i+1) r
def i8:Option (Nat×aF)->M Unit|none=>pure ()|some (k,o)=>ik k o
noncomputable def ua:List V->Option (List Str)|[]=>some []|v::r=>onStr v λx=>(ua r).map (x::·)
noncomputable def uc(y:Str):Option Nat:=match y.cps.toList with |[c]=>some c|_=>none
noncomputable def nC(c:Nat)(x:Str):Nat:=(x.cps.toList.filter (·==c)).length
noncomputable def sumInts:List V->Option Int|[]=>some 0|v::r=>aJ v λi=>(sumInts r).map (i+·)
noncomputable def jD(C:Cx)(f:Nat):Option A7:=C.fns.lookup f
noncomputable def kindOf(sc:te)(x:Str):Option aav:=sc.names.lookup x
def fM(sc:te)(env:af):Option (List (Str×V)):=(sc.names.filter (·.2==.free)).mapM λn=>(aY env n.1).map (n.1,·)
noncomputable def nD:List String:=["len","chr","ord","sorted","sum","isinstance","iter"]
noncomputable def nF:List String:=["int","list","tuple","range","enumerate"]
noncomputable def f9(sc:te):te:={sc with names:=sc.names++[(Str.empty,.globalExplicit)]}
noncomputable def h_(sc:te):Bool:=sc.names.any λn=>n.1==Str.empty
def lookGlob(C:Cx)(x:Str):Option V:=match C.LV.lookup x with |some v=>some v|none=>match nD.find? (λn=>t5 n==x) with |some n=>some (.blt n)|none=>(nF.find? λn=>t5 n==x).map .typ
def d9(C:Cx)(sc:te)(env:af)(x:Str):Option V:=match kindOf sc x with
|some .local|some .cell|some .free=>aY env x
|some .globalImplicit=>lookGlob C x|_=>none
noncomputable def A9(v:V):Bool:=vT v.ctorIdx 13
noncomputable def i9(i:Int):Bool:=decide (i.natAbs<2^60)
noncomputable def lR{α:Type}(as:List V)(f:V->Option α):Option α:=match as with |[v]=>f v|_=>none
noncomputable def xY{α:Type}(a:V)(f:String->Option α):Option α:=by induction a using V.casesOn with |typ i=>exact f i|_=>exact none
noncomputable def ET{α:Type}(a:V)(f:Option α):Option α:=match a with |.bm _ _=>f|_=>none
noncomputable def Jc(a:V):Option Nat:=dP a λx=>some x.length
noncomputable def LY(as:List V):M V:=λH=>lR as λv=>(Jc (deref H v)).map λ(n:Nat)=>(.int n,H)
noncomputable def LZ(as:List V):M V:=λH=>lR as λv=>aJ v λi=>bif decide (0<=i)&&decide (i<0x110000) then some (.str ⟨#[i.toNat]⟩,H) else none
noncomputable def L0(as:List V):M V:=λH=>lR as λv=>onStr v λx=>(uc x).map λ(c:Nat)=>(.int c,H)
def L1(as:List V):M V:=λH=>lR as λv=>dP v λxs=>(sumInts xs).map λi=>(.int i,H)
noncomputable def L2(as:List V):M V:=λH=>v8 as λv t=>aJ v λa=>xY t λt=>bif t=="tuple" then some (.bool false,H) else none
def H6(as:List V):M V:=λH=>v8 as λf v=>ET f (iA (.mK f v true) H)
def lT(id:String)(as:List V):M V:=
 if id=="len" then LY as else if id=="chr" then LZ as else if id=="ord" then L0 as else if id=="sum" then L1 as
 else if id=="isinstance" then L2 as else if id=="iter" then H6 as else M.fail
noncomputable def xZ(v:V):Option (List V):=match v with |.lst xs=>some xs|.str x=>some (x.cps.toList.map λc=>.str ⟨#[c]⟩)|.t9 a b=>some ((w8 (b-a).toNat).map λ(i:Nat)=>.int (a+(i:Int)))|_=>none
noncomputable def L3(as:List V):M V:=λH=>lR as λv=>eJ v λb=>some (.int (if b then 1 else 0),H)
def rangeT(as:List V):M V:=λH=>alt (lR as λv=>aJ v λb=>bif i9 b then some (.t9 0 b,H) else none) (v8 as λu v=>aJ u λa=>aJ v λb=>bif i9 a&&i9 b then some (.t9 a b,H) else none)
def A_(b:Bool)(as:List V):M V:=λH=>lR as λv=>(xZ v).bind λxs=>bif sizeOk xs.length then(if b then iA (.lst xs) else pure (.lst xs):M V) H else none
def jE(b:Bool)(id:String)(as:List V):M V:=if id=="int" then L3 as else if id=="range" then rangeT as else if id=="list" then A_ b as else M.fail
def jF(xs:List V)(i:Int)(v:V):Option (List V):=if decide (0<=i) then(dF xs.length i).map λk=>xs.set k v else none
def Ba(k:Nat)(i:Int)(v:V):aF->M Unit
|.lst xs=>match jF xs i v with |some ys=>ik k (.lst ys)|none=>M.fail
|_=>M.fail
def qq(k:Nat)(x:Str)(v:V):aF->M Unit
|.aE kvs=>if sizeOk (kvs.length+1) then ik k (.aE (aH kvs x v)) else M.fail
|_=>M.fail
def j0(o i v:V):M Unit:=λH=>xX o λk=>EN i (λi=>M.aT (hget k) (Ba k i v) H) λx=>M.aT (hget k) (qq k x v) H
noncomputable def qu(C:Cx)(c:Nat)(a:Str):Bool:=match C.gG.lookup c with |some d=>d.EM.contains a|none=>false
noncomputable def nG(v:V):Bool:=!Nat.beq v.ctorIdx 11
def getAttrA(C:Cx)(o:V)(a:Str):M V:=match o with
|.ref k=>do
 match <-hget k with
 |.inst c fs=>match fs.lookup a with
  |some v=>if qu C c a&&nG v then pure v else M.fail
  |none=>match (C.gG.lookup c).bind λd=>d.meths.lookup a with |some f=>pure (.bm k f)|none=>M.fail
 |_=>M.fail
|_=>M.fail
def setAttrA(C:Cx)(o:V)(a:Str)(v:V):M Unit:=match o with
|.ref k=>do
 match <-hget k with
 |.inst c fs=>if qu C c a&&sizeOk (fs.length+1) then ik k (.inst c (aH fs a v)) else M.fail
 |.qp c fs=>match v with
  |.r8 ..=>if a=="read"&&fs.isEmpty then ik k (.qp c [(a,v)]) else M.fail
  |_=>M.fail
 |_=>M.fail
|_=>M.fail
def qw(x:Str)(v:V):M V:=λH=>dP (deref H v) λvs=>(ua vs).bind λys=>bif sizeOk (ys.map (·.length)).sum&&sizeOk (Txt.join x ys).length then some (.str (Txt.join x ys),H) else none
def Jd(x:Str)(v:V):M V:=opt (onStr v λy=>(uc y).map λc=>.int (nC c x))
noncomputable def Xf{α:Type}(as:List V)(f:Option α):Option α:=match as with |[]=>f|_=>none
def nH(x:Str)(m:Str)(as:List V):M V:=λH=>alt (Xf as (if m=="lower"&&x.length==1 then some (.str (Txt.lower x),H) else none)) (lR as λv=>(if m=="join"&&x.length==0 then qw x v else if m=="count" then Jd x v else M.fail) H)
def L4(k:Nat)(xs:List V)(v:V):M V:=if sizeOk (xs.length+1) then(do ik k (.lst (xs++[v]));pure .none) else M.fail
noncomputable def L5(k:Nat)(xs:List V)(v:V):M V:=λH=>aJ v λi=>match xs with |x::r=>bif i==0 then some (x,H.set k (.lst r)) else none|[]=>none
def Bb(i:Int)(n:Nat):Bool:=decide (0<=i)&&decide (i<2^63)&&sizeOk (n+1)
def L6(k:Nat)(xs:List V)(i v:V):M V:=λH=>aJ i λi=>bif Bb i xs.length then some (.none,H.set k (.lst (xs.take i.toNat++v::xs.drop i.toNat))) else none
def kX(k:Nat)(m:Str)(as:List V):aF->M V|.lst xs=>λH=>alt (lR as λv=>(if m=="append" then L4 k xs v else if m=="pop" then L5 k xs v else M.fail) H) (v8 as λi v=>(if m=="insert" then L6 k xs i v else M.fail) H)|_=>M.fail
def x6(xs:List V)(m:Str)(as:List V):M V:=λH=>lR as λv=>if m=="count" then(eS v xs).map λ(n:Nat)=>(.int n,H) else if m=="index" then(i7 v xs).map λ(n:Nat)=>(.int n,H) else none
noncomputable def ud(kvs:List (Int×Str))(m:Str)(as:List V):M V:=λH=>lR as λv=>aJ v λi=>if m=="get" then some (match kvs.lookup i with |some x=>.str x|none=>.none,H) else none
noncomputable def qx(kvs:List (Str×V))(m:Str)(as:List V):M V:=λH=>v8 as λv d=>onStr v λx=>if m=="get" then some ((kvs.lookup x).getD d,H) else none
noncomputable def c7(a:Arguments):Option (List Str):=bif a.posonlyargs.isEmpty&&(a.vararg.isNone&&(a.kwonlyargs.isEmpty&&(a.kw_defaults.isEmpty&&(a.kwarg.isNone&&a.defaults.isEmpty)))) then some (a.args.map (·.arg)) else none
noncomputable def dU(e:Expr):Bool:=vT e.ctorIdx 16
noncomputable def enumSrc(v:V):Bool:=Bi 3 v.ctorIdx&&Bi v.ctorIdx 5
inductive Acc where
|l(xs:List V)|d(kvs:List (Str×V))
inductive Out where
|e(x:Expr)|kv(k v:Expr)
noncomputable def Out.start:Out->Acc|.e _=>.l []|.kv _ _=>.d []
def gI(sc aB:te):Bool:=aB.kind==.function&&decide (aB.names.map (·.1)).Nodup&&!h_ aB&&
 aB.names.all λn=>n.2 !=.free||((kindOf sc n.1==some .cell||kindOf sc n.1==some .free)&&n.1 !=t5 "__classdict__")
noncomputable def Bc:V->Bool|.r8 ..=>true|_=>false
def j5(v:V):M (List V):=match v with |.lst xs=>pure xs|_=>M.fail
def bO(ks xs:List V):Option V:=if xs.length<2 then some (.lst xs) else if decide (xs.length<64)&&sortable ks then
  (runK (sortAns ks) (PySem.W.kas_sort xs.length)).map λp=>.lst (p.toList.map λi=>xs.getD i .none)
 else none
def fN(vs:List V):M V:=match vs with
|[v]=>do
 let xs<-j5 v
 opt (bO xs xs)
|_=>M.fail
noncomputable def Rr(v:Expr):Bool:=by induction v using Expr.casesOn with |Tuple vs _ _=>exact vs.all (constantsAlone 8)&&!vs.all (foldedForSure 8)|_=>exact false
def nI(t v:Expr):Bool:=vT t.ctorIdx 24||(vT t.ctorIdx 25&&Rr v)
noncomputable def gJ(e:Expr):Bool:=vT e.ctorIdx 8||(vT e.ctorIdx 9||vT e.ctorIdx 10)
noncomputable def isSlice(e:Expr):Bool:=vT e.ctorIdx 26
noncomputable def isStarred(e:Expr):Bool:=vT e.ctorIdx 22
def x7(ps:List Str)(sc:te)(dD:List (Str×V)):Bool:=dD.all (λkv=>kindOf sc kv.1==some .free&&kv.1 !=t5 "__classdict__")&&sc.kind==.function&&!sc.isCoroutine&&!sc.isGenerator&&sc.names.all (λn=>n.2 !=.cell)&&ps.all (λp=>kindOf sc p==some .local)&&decide (sc.names.map (·.1)).Nodup&&decide ps.Nodup&&!h_ sc
theorem nE{α:Type _}{a:α}{P:Prop}(h:(none:Option α)=some a):P:=nomatch h
theorem bE'{P:Prop}(h:true=false):P:=nomatch h
@[elab_as_elim] theorem iD{α:Type}{a:α}{H:AH}{P:α->AH->Prop}{b:α}{H':AH}(h:(M.ret a) H=some (b,H'))(k:P a H):P b H':=by have h':some (a,H)=some (b,H'):=h;cases h';exact k
@[elab_as_elim] theorem nJ{α β:Type}{a:α}{c:β}{H:AH}{P:α->β->AH->Prop}{b:α}{d:β}{H':AH}(h:(M.ret (a,c)) H=some ((b,d),H'))(k:P a c H):P b d H':=by have h':some ((a,c),H)=some ((b,d),H'):=h;cases h';exact k
theorem cY{α β:Type}{m:M α}{f:α->M β}{H H':AH}{b:β}{P:Prop}(h:(M.aT m f) H=some (b,H'))(k:∀a H₁,m H=some (a,H₁)->f a H₁=some (b,H')->P):P:=by
 unfold M.aT at h;cases e:m H with |none=>rw[e] at h;exact nE h|some p=>obtain⟨a,H₁⟩:=p;rw[e] at h;exact k a H₁ e h
theorem Xg{α:Type}{c:Prop}[Decidable c]{m:M α}{H:AH}{r:α×AH}{P:Prop}(h:(if c then(M.fail:M α) else m) H=some r)(k:¬c->m H=some r->P):P:=by
 by_cases hc:c
 ·rw[if_pos hc] at h;exact nE h
 ·rw[if_neg hc] at h;exact k hc h
theorem Be{α:Type}{c:Prop}[Decidable c]{m:M α}{H:AH}{r:α×AH}{P:Prop}(h:(if c then m else(M.fail:M α)) H=some r)(k:c->m H=some r->P):P:=by
 by_cases hc:c
 ·rw[if_pos hc] at h;exact k hc h
 ·rw[if_neg hc] at h;exact nE h
set_option tactic.hygienic false
section
variable{β:Type}
noncomputable def aI(f:β->V)(l:List (Str×β)):List (Str×V):=l.map λkv=>(kv.1,f kv.2)
theorem bz(f:β->V)(l:List (Str×β)):(aI f l).length=l.length:=ph _
theorem gK(f:β->V)(d:List (Str×β))(x:Str)(v:β):aH (aI f d) x (f v)=aI f (aH d x v):=by
 induction d with
 |nil=>rfl|cons p r ih=>
  show(bif x==p.1 then(p.1,f v)::aI f r else(p.1,f p.2)::aH (aI f r) x (f v))=aI f (bif x==p.1 then(p.1,v)::r else p::aH r x v);induction x==p.1 with |true=>rfl|false=>exact congrArg ((p.1,f p.2)::·) ih
theorem jG(f:β->V)(d:List (Str×β))(x:Str):(aI f d).lookup x=(d.lookup x).map f:=by
 induction d with
 |nil=>rfl|cons p r ih=>
  refine sT.trans (.trans ?_ (congrArg (Option.map f) sT.symm));induction x==p.1 with |true=>rfl|false=>exact ih
theorem cN(d:List (Str×β))(x:Str)(v:β)(y:Str):(aH d x v).lookup y=if y==x then some v else d.lookup y:=by
 induction d with
 |nil=>refine sT.trans ?_;induction y==x<;>rfl
 |cons p r ih=>
  refine .trans ?_ (congrArg (ite _ _) sT.symm);show List.lookup y (bif x==p.1 then(p.1,v)::r else p::aH r x v)=_;induction hz:x==p.1 with
  |true=>refine sT.trans ?_;rw[eq_of_beq hz];induction y==p.1<;>rfl
  |false=>
   refine sT.trans ?_;rw[ih];induction hy:y==p.1 with
   |false=>rfl|true=>
    induction h:y==x with |false=>rfl|true=>exact nomatch (eq_of_beq h▸hy).symm.trans hz
theorem dQ(d:List (Str×β))(x:Str):d.lookup x=none↔x∉d.map (·.1):=by
 induction d with
 |nil=>exact⟨λa=>Oy,λa=>rfl⟩|cons p r ih=>
  rw[sT];induction h:x==p.1 with |true=>exact⟨nofun,λq=>absurd (eq_of_beq h▸.head _) q⟩|false=>exact ih.trans ⟨λh1 h2=>(bx h2).elim (ne_of_beq_false h) h1,λh1 h2=>h1 (.tail _ h2)⟩
theorem ue(d:List (Str×β))(x:Str)(v:β):(aH d x v).map (·.1)=if(d.lookup x).isSome then d.map (·.1) else d.map (·.1)++[x]:=by
 induction d with
 |nil=>rfl|cons p r ih=>
  rw[sT];show List.map (·.1) (bif x==p.1 then(p.1,v)::r else p::aH r x v)=_;induction h:x==p.1 with |true=>rfl|false=>refine(congrArg (p.1::·) ih).trans ?_;induction (r.lookup x).isSome<;>rfl
theorem bP(d:List (Str×β))(x:Str)(v:β):(aH d x v).length<=d.length+1:=by
 induction d with
 |nil=>exact pd _|cons p r ih=>
  show PH (bif x==p.1 then(p.1,v)::r else p::aH r x v)<=_;induction x==p.1 with |true=>exact Ee _|false=>exact Nat.succ_le_succ ih
theorem EU(d:List (Str×β)){x:Str}{v:β}(h:x∉d.map (·.1)):aH d x v=d++[(x,v)]:=by
 induction d with |nil=>rfl|cons p r ih=>show(bif x==p.1 then(p.1,v)::r else p::aH r x v)=_;rw[beq_false_of_ne λe:x=p.1=>h (y3.mpr (.inl e))];exact congrArg (p::·) (ih λq=>h (.tail _ q))
end
end Mine
end
noncomputable section
open PySem PySem.W PySem.Calls PyProof.Rows
namespace Hd
noncomputable section
noncomputable abbrev pw:Program:=PySem.Challenge.pw_xb0034_02
noncomputable abbrev S(x:String):Str:=t5 x
def st(i:Nat):B2:=(pw.main.body[i]?).getD (.Pass default)
noncomputable def Rt(s:B2):List B2:=by induction s using B2.casesOn with |ClassDef _ _ _ b _ _ _ _ _ _ _=>exact b|_=>exact []
def cst(i j:Nat):B2:=(Rt (st i)).getD j (.Pass default)
noncomputable def fA(s:B2):Arguments×List B2×te:=by induction s using B2.casesOn with |FunctionDef _ a b _ _ _ s _ _ _=>exact(a,b,s)|_=>exact(default,[],default)
def fP(s:B2):Arguments:=(fA s).1
def fB(s:B2):List B2:=(fA s).2.1
def fS(s:B2):te:=(fA s).2.2
def mL:Ts:={scope:=pw.main.scope,locals:=mainNs,globals:=mainNs,cells:=[],code:=.ref 13,frame:=some 14}
noncomputable abbrev c0:Code:=.body (behindTheImports pw) mL
noncomputable abbrev sh(h:xI)(t:Nat)(os:Dx):oC:=⟨h,#[],boot_drawn,t,os⟩
noncomputable abbrev B0:List Frame:=[topFrame ⟨0,0,0,0⟩]
noncomputable abbrev go(w:Pm)(n:Nat)(s:oC)(t:Thread):Option (oC×Thread):=segGo treeTable pw w 11 (some (.ref 6)) 1 n s t
def Go{α:Type}(w:Pm)(n:Nat)(s:oC)(m:Sem α)(s':oC)(a:α):Prop:=∀(p:aaK),∃p':aaK,∀(K:α->Sem RR) (H:Value->Sem RR) (gd:Bool->Bool) (lv:List Value->List Value) (N:Nat),go w (n+N) s ⟨Sem.wrap K H gd lv m,c0,p,B0⟩=go w N s' ⟨K a,c0,p',B0⟩
section
variable{α β:Type}{w:Pm}{s s' L7:oC}{n m:Nat}{a:α}
theorem Go.pure:Go w 0 s (Sem.pure a) s a:=λp=>⟨p,λK H gd lv N=>by rw[FR];rfl⟩
theorem Go.pure':Go w 0 s (TK a:Sem α) s a:=Go.pure
theorem Go.bind{t:Sem α}{f:α->Sem β}{b:β}(h:Go w n s t s' a)(k:Go w m s' (f a) L7 b):Go w (n+m) s (t>>=f) L7 b:=λp=>by obtain⟨p',h⟩:=h p;obtain⟨H7,k⟩:=k p';refine⟨H7,λK H gd lv N=>?_⟩;simp only[Sem.bind_eq_wrap',Sem.wrap_wrap,Nat.add_assoc];exact(h _ _ _ _ _).trans (k K H gd lv N)
theorem Go.keep{vs:List Value}{t:Sem α}(h:Go w n s t s' a):Go w n s (t.keep vs) s' a:=λp=>by obtain⟨p',h⟩:=h p;refine⟨p',λK H gd lv N=>?_⟩;simp only[Sem.keep_eq_wrap,Sem.wrap_wrap];exact h _ _ _ _ N
theorem Go.holding{vs:List Value}{t:Sem α}(h:Go w n s t s' a):Go w n s (holding vs t) s' a:=by
 unfold PySem.holding;split
 ·exact h
 ·exact h.keep
theorem Go.onRaise{t:Sem α}{hd:Value->Sem Unit}(h:Go w n s t s' a):Go w n s (t.onRaise hd) s' a:=λp=>by obtain⟨p',h⟩:=h p;refine⟨p',λK H gd lv N=>?_⟩;simp only[Sem.onRaise_eq_wrap,Sem.wrap_wrap];exact h _ _ _ _ N
theorem go_succ(n:Nat)(s:oC)(t:Thread):go w (n+1) s t=match endAt 1 t with |some _=>none|none=>match stepOk 11 (some (.ref 6)) t with |false=>none|true=>match step (denote treeTable) pw w s t with |.go s' t'=>go w n s' t'|.halt _ _=>none:=rfl
theorem Go.rule{tag:String}:Go w 1 s (PySem.rule tag) s ():=λp=>⟨p,λK H gd lv N=>by rw[HI];rfl⟩
theorem Go.standAt{q:aaK}:Go w 1 s (standAt q) s ():=λp=>⟨q,λK H gd lv N=>by rw[HI];rfl⟩
theorem Go.point:Go w 1 s point s ():=λp=>⟨p,λK H gd lv N=>by rw[HI];rfl⟩
theorem Go.ask:Go w 1 s ask s ⟨pw,w.params⟩:=λp=>⟨p,λK H gd lv N=>by rw[HI];rfl⟩
theorem Go.fresh{h:xI}{t:Nat}{os:Dx}:Go w 1 (sh h t os) fresh (sh h (t+1) os) t:=λp=>⟨p,λK H gd lv N=>by rw[HI];rfl⟩
theorem Go.alloc{h:xI}{t:Nat}{os:Dx}{o:Nw}:Go w 1 (sh h t os) (alloc o) (sh (h.push o) t os) h.objs.size:=λp=>⟨p,λK H gd lv N=>by rw[HI];rfl⟩
theorem Go.loadPart{h:xI}{t:Nat}{os:Dx}{b:sx}{part:Option Value}{o:Nw}(ho:h.get? b=some o):Go w 1 (sh h t os) (loadPart b part) (sh h t os) o:=λp=>⟨p,λK H gd lv N=>by rw[HI];show(match step (denote treeTable) pw w (sh h t os) ⟨.load b part (λx=>Sem.wrap K H gd lv (.pure x)),c0,p,B0⟩ with |.go s' t'=>go w N s' t'|.halt _ _=>none)=_;simp only[step,ho];rfl⟩
theorem Go.updatePart{h:xI}{t:Nat}{os:Dx}{b:sx}{part:Option Value}{f:Nw->Nw}{o:Nw}(ho:h.get? b=some o)(hb:Bi 11 b=true):
  Go w 1 (sh h t os) (updatePart b part f) (sh (h.update b f) t os) ():=λp=>⟨p,λK H gd lv N=>by
 rw[HI];obtain e:stepOk 11 (some (.ref 6)) ⟨.update b part f (λx=>Sem.wrap K H gd lv (.pure x)),c0,p,B0⟩=true:=by unfold stepOk;simp only[hb,Bool.true_or,aaL];rfl
 show(match stepOk 11 (some (.ref 6)) ⟨.update b part f (λx=>Sem.wrap K H gd lv (.pure x)),c0,p,B0⟩ with |false=>none|true=>match step (denote treeTable) pw w (sh h t os) ⟨.update b part f (λx=>Sem.wrap K H gd lv (.pure x)),c0,p,B0⟩ with |.go s' t'=>go w N s' t'|.halt _ _=>none)=_
 rw[e];simp only[step,ho,Option.isSome_some,if_true];rfl⟩
theorem Go.cast{t:Sem α}(h:Go w n s t s' a)(e:n=m):Go w m s t s' a:=e▸h
end
theorem EV(w:Pm):∀(h:xI) (t:Nat) (os:Dx) (i:Int) (k:Nat) (K:Int->Sem RR) (H:Value->Sem RR) (gd:Bool->Bool) (lv:List Value->List Value) (N:Nat) (p:aaK),
  go w (N+5) (sh h t os) ⟨Sem.wrap K H gd lv (pyHash (.int i k)),c0,p,B0⟩=go w N (sh h (t+1) os) ⟨Sem.wrap K H gd lv (pyHashByItsType.reduced (rawHash i)),c0,p,B0⟩:=by
 refine byRow2 (P:=λw=>∀(h:xI) (t:Nat) (os:Dx) (i:Int) (k:Nat) (K:Int->Sem RR) (H:Value->Sem RR) (gd:Bool->Bool) (lv:List Value->List Value) (N:Nat) (p:aaK),go w (N+5) (sh h t os) ⟨Sem.wrap K H gd lv (pyHash (.int i k)),c0,p,B0⟩=go w N (sh h (t+1) os) ⟨Sem.wrap K H gd lv (pyHashByItsType.reduced (rawHash i)),c0,p,B0⟩) "special-get-raises" (λw=>?_) (λw=>?_) w
 ·intros;kernel_rfl
 ·intros;kernel_rfl
theorem Go.hash{w:Pm}{h:xI}{t:Nat}{os:Dx}{i:Int}{k:Nat}(hi:hashInt i=i)(hr:rawHash i=i):Go w 5 (sh h t os) (pyHash (.int i k)) (sh h (t+1) os) i:=λp=>⟨p,λK H gd lv N=>by
 rw[HI,EV,hr];obtain Ru:=rawHash_range i;rw[hr] at Ru;obtain e:pyHashByItsType.reduced i=TK i:=by
  refine(if_pos (by simp only[decide_eq_true Ru.1,decide_eq_true Ru.2];rfl)).trans ?_;obtain cG:(i==-1)=false:=by
   unfold hashInt at hi;rw[hr] at hi;cases q:(i==-1) with |false=>rfl|true=>rw[q,if_pos rfl] at hi;rw[<-hi] at q;exact absurd q (by decide)
  rw[cG];rfl
 rw[e];rfl⟩
noncomputable abbrev dO(es:Array th)(n:Nat):Nw:={cls:=.type "dict",data:=.dict es n}
noncomputable def HL(b:xI)(l:List Nw):xI:=⟨b.objs++l.toArray,b.life⟩
theorem x8(b:xI)(l:List Nw)(o:Nw):(HL b l).push o=HL b (l++[o]):=by simp[HL,xI.push]
theorem x9(b:xI)(l:List Nw):(HL b l).objs.size=b.objs.size+l.length:=by simp[HL]
theorem kY(b:xI)(pre post:List Nw)(es:Array th)(n:Nat):(HL b (pre++dO es n::post)).get? (b.objs.size+pre.length)=some (dO es n):=by
 obtain e:(HL b (pre++dO es n::post)).objs[b.objs.size+pre.length]?=some (dO es n):=by simp[HL,Array.getElem?_append]
 unfold xI.get?;rw[e]
set_option tactic.hygienic true in
theorem zw(b:xI)(pre post:List Nw)(o:Nw)(f:Nw->Nw):(HL b (pre++o::post)).update (b.objs.size+pre.length) f=HL b (pre++f o::post):=by
 obtain⟨os,lf⟩:=b;simp only[HL,xI.update,xI.mk.injEq,and_true];apply Array.ext
 ·simp
 ·intro i h1 h2;simp only[Array.getElem_modify,Array.getElem_append,List.getElem_toArray];by_cases hi:i<os.size
  ·have :os.size+pre.length≠i:=by exact Mine.aW (nat_lit 0x90961021821101102) Mine.ae hi
   simp[hi,this]
  ·simp only[hi,dif_neg,not_false_eq_true];by_cases he:os.size+pre.length=i
   ·subst he;simp
   ·refine(if_neg he).trans ?_;obtain h3:i-os.size≠pre.length:=by lia
    simp only[List.getElem_append,List.getElem_append];split
    ·rfl
    ·rename_i h4;simp only[List.getElem_cons,h3];split
     ·lia
     ·rfl
section
variable{w:Pm}{t:Nat}{os:Dx}{b:xI}{pre post:List Nw}{es:Array th}{n:Nat}
def nK(es:Array th)(i:Int):Prop:=∀(j:Nat) (e:th),es[j]?=some e->e.hash≠i
theorem uf{es:Array th}{i:Int}(hn:nK es i):placesWithHash es.size (λj=>es[j]?.map x4) i=[]:=by unfold placesWithHash;rw[List.filter_eq_nil_iff];intro j _;simp only[beq_iff_eq,Option.map_eq_some_iff,not_exists,not_and];exact λe he=>hn j e he
abbrev fQ(b:xI)(l:List Nw)(t:Nat)(os:Dx):oC:=sh (HL b l) t os
theorem Go.dictEntries{part:Option Value}:Go w 1 (fQ b (pre++dO es n::post) t os) (dictEntries (b.objs.size+pre.length) part) (fQ b (pre++dO es n::post) t os) es:=by exact(Go.bind (Go.loadPart (kY ..)) Go.pure':Go w (1+0) _ (PySem.loadPart _ _>>=λo=>match o.data with |.dict es _=>TK es|_=>unsupported "internal:not-a-dict") _ _)
theorem Go.dictFind{i:Int}{k:Nat}(hn:nK es i):Go w 1 (fQ b (pre++dO es n::post) t os) (dictFind (b.objs.size+pre.length) (.int i k) i) (fQ b (pre++dO es n::post) t os) none:=by refine Go.holding ?_;refine(Go.bind Go.dictEntries ?_:Go w (1+0) _ _ _ _);refine(uf hn)▸?_;exact Go.pure'
theorem Go.nL{part:Option Value}{f:Array th->Array th}(hb:Bi 11 (b.objs.size+pre.length)=true)(hz:(f es).size<=sizeLine):
  Go w 3 (fQ b (pre++dO es n::post) t os) (updateDictKeys (b.objs.size+pre.length) f part) (fQ b (pre++dO (f es) (n+1)::post) t os) ():=by
 refine(Go.bind (Go.loadPart (kY ..)) ?_:Go w (1+2) _ _ _ _);refine(Go.bind (Go.updatePart (kY ..) hb) ?_:Go w (1+1) _ _ _ _);rw[zw];refine(Go.bind (Go.loadPart (kY ..)) ?_:Go w (1+0) _ _ _ _);have :(Nw.mapDictKeys f (dO es n)).data.pastItsLine=none:=by exact if_neg (Mine.aL (nat_lit 0x909610191811100102) Mine.ae hz)
 have e:(dO (f es) (n+1)).data.pastItsLine=none:=this;refine e▸?_;exact Go.pure'
theorem Go.dictSet{i:Int}{k:Nat}{v:Value}(hi:hashInt i=i)(hr:rawHash i=i)(hn:nK es i)(hb:Bi 11 (b.objs.size+pre.length)=true)(hz:es.size<sizeLine):
  Go w 10 (fQ b (pre++dO es n::post) t os) (dictSet (b.objs.size+pre.length) (.int i k) v) (fQ b (pre++dO (es.push ⟨i,.int i k,v⟩) (n+1)::post) (t+1) os) ():=by
 refine Go.holding ?_;refine(Go.bind (Go.hash hi hr) ?_:Go w (5+5) _ _ _ _);refine Go.holding ?_;refine(Go.bind (Go.dictFind hn) ?_:Go w (1+4) _ _ _ _);refine(Go.bind Go.rule ?_:Go w (1+3) _ _ _ _);exact Go.nL hb (by rw[Array.size_push];assumption)
theorem Go.dictPut{i:Int}{k:Nat}{v:Value}(hn:nK es i)(hb:Bi 11 (b.objs.size+pre.length)=true)(hz:es.size<sizeLine):
  Go w 4 (fQ b (pre++dO es n::post) t os) (dictPut (b.objs.size+pre.length) i (.int i k) v) (fQ b (pre++dO (es.push ⟨i,.int i k,v⟩) (n+1)::post) t os) ():=by
 refine(Go.bind (Go.dictFind hn) ?_:Go w (1+3) _ _ _ _);exact Go.nL hb (by rw[Array.size_push];assumption)
end
abbrev E3:=Int×Str
noncomputable def ent(T:Nat)(e:E3):th:=⟨e.1,.int e.1 T,.str e.2 (T+1)⟩
noncomputable def ents(st:Nat):Nat->List E3->List th|aR,[]=>[]|T,e::r=>ent T e::ents st (T+st) r
theorem gu(st:Nat):∀(T:Nat) (R:List E3),(ents st T R).length=R.length|aR,[]=>rfl|T,e::r=>by simp[ents,gu st (T+st) r]
theorem e6(st:Nat):∀(T:Nat) (R:List E3),(ents st T R).map x4=R.map (·.1)|aR,[]=>rfl|T,e::r=>by simp[ents,e6 st (T+st) r,ent]
theorem iE(st:Nat):∀(T:Nat) (R R':List E3),ents st T (R++R')=ents st T R++ents st (T+st* R.length) R'|aR,[],bV=>by rfl|T,e::r,R'=>by simp only[List.cons_append,ents,iE st (T+st) r R',pE];rw[show T+st+st* r.length=T+st* (r.length+1) by rw[Nat.mul_add];exact Mine.aW (nat_lit 0x11b2808210882510) Mine.ae]
def Et(e:E3):Prop:=hashInt e.1=e.1/\rawHash e.1=e.1
theorem kZ{es:List th}{i:Int}(h:i∉es.map x4):nK es.toArray i:=λj e he q=>h (Mine.I6 ⟨e,Fn (by simpa using he),q⟩)
noncomputable abbrev pS(p:aaK)(e:E3):Sem Value×Sem Value:=(mkInt e.1,do let x<-mkText e.2;standAt p;TK x)
section
variable{w:Pm}{os:Dx}{b:xI}{pre post:List Nw}{p:aaK}
abbrev cA(es:List th):Nw:=dO es.toArray es.length
theorem Go.mkInt{h:xI}{t:Nat}{i:Int}:Go w 1 (sh h t os) (PySem.mkInt i) (sh h (t+1) os) (.int i t):=by exact Go.bind (n:=1) (m:=0) Go.fresh Go.pure'
theorem Go.mkText{h:xI}{t:Nat}{x:Str}:Go w 1 (sh h t os) (PySem.mkText x) (sh h (t+1) os) (.str x t):=by unfold PySem.mkText;exact Go.bind (n:=1) (m:=0) Go.fresh Go.pure'
theorem Go.wq{h:xI}{t:Nat}{e:E3}:Go w 2 (sh h t os) (pS p e).2 (sh h (t+1) os) (.str e.2 t):=by refine Go.bind (n:=1) (m:=1) Go.mkText ?_;exact Go.bind (n:=1) (m:=0) Go.standAt Go.pure'
theorem Go.wu{α:Type}{s:oC}{f:α->PUnit->Sem (ForInStep PUnit)}:Go w 0 s (forIn [] y5 f) s y5:=by exact Go.pure'
theorem Go.r_{α:Type}{s s' L7:oC}{n m:Nat}{x:α}{l:List α}{f:α->PUnit->Sem (ForInStep PUnit)}(h:Go w n s (f x y5) s' (.yield y5))(k:Go w m s' (forIn l y5 f) L7 y5):
  Go w (n+m) s (forIn (x::l) y5 f) L7 y5:=by
 rw[NA];exact Go.bind h k
theorem Go.ug{d:sx}(Je:d=b.objs.size+pre.length)(f:Sem Value×Sem Value->PUnit->Sem (ForInStep PUnit))
  (hf:∀kv u,f kv u=(do let k<-kv.1;let v<-PySem.holding [k] kv.2;PySem.holding [k,v] (PySem.dictSet d k v);TK (.yield y5)))(hb:Bi 11 d=true):
  ∀(R:List E3) (es:List th) (T:Nat),(∀e∈R,Et e)->(es.map x4++R.map (·.1)).Nodup->es.length+R.length<sizeLine->Go w (13* R.length) (fQ b (pre++cA es::post) T os) (forIn (R.map (pS p)) y5 f) (fQ b (pre++cA (es++ents 3 T R)::post) (T+3* R.length) os) y5
 |[],es,T,aR,bV,iq=>by simp only[List.map_nil,ents,rn,tm,Nat.mul_zero,aab];exact Go.wu|e::R,es,T,gO,jj,hsz=>by
  subst Je;obtain hn:e.1∉es.map x4:=by exact λq=>(Mine.rZ jj).2.2 _ q _ wx rfl
  obtain ih:=Go.ug rfl f hf hb R (es++[ent T e]) (T+3) (λx hx=>gO x (y0 _ hx)) (by simpa [ent] using jj) (by simp only[pj,pE,tm] at hsz⊢;exact Mine.aW (nat_lit 0x21190980881121918081101) Mine.ae hsz);obtain one:Go w 13 (fQ b (pre++cA es::post) T os) (f (pS p e) y5) (fQ b (pre++cA (es++[ent T e])::post) (T+3) os) (.yield y5):=by
   rw[hf];refine Go.bind (n:=1) (m:=12) Go.mkInt ?_;refine Go.bind (n:=2) (m:=10) (Go.holding Go.wq) ?_;refine Go.bind (n:=10) (m:=0) (Go.holding (Go.dictSet (gO e wx).1 (gO e wx).2 (kZ hn) hb (by simp only[H0,pE] at hsz⊢;exact Mine.aW (nat_lit 0x201121918081101) Mine.ae hsz))) ?_;obtain q:dO (es.toArray.push ⟨e.1,.int e.1 T,.str e.2 (T+1)⟩) (es.length+1)=cA (es++[ent T e]):=by simp[cA,ent]
   rw[q];exact Go.pure'
  obtain this:=Go.r_ one ih
  rw[show 13+13* R.length=13* (e::R).length by simp only[pE];exact Mine.aS (nat_lit 0x1908da0dad982510) Mine.ae,show T+3+3* R.length=T+3* (e::R).length by simp only[pE];exact Mine.aL (nat_lit 0x19183a0813a390882510) Mine.ae,
   show es++[ent T e]++ents 3 (T+3) R=es++ents 3 T (e::R) by simp[ents]] at this
  exact this
theorem Go.x_{l:List Nw}{T:Nat}{R:List E3}(hlen:15<R.length)(gO:∀e∈R,Et e)(jj:(R.map (·.1)).Nodup)(hsz:R.length<sizeLine)(hb:Bi 11 (b.objs.size+l.length)=true):
  Go w (2+13* R.length) (fQ b l T os) (subDict (R.map (pS p))) (fQ b (l++[cA (ents 3 T R)]) (T+3* R.length) os) (b.objs.size+l.length):=by
 obtain ha:=Go.alloc (w:=w) (h:=HL b l) (t:=T) (os:=os) (o:={cls:=.type "dict",data:=.dict #[]});rw[x8,x9] at ha;refine(Go.bind ha ?_:Go w (1+(1+13* R.length)) _ _ _ _).cast (Mine.aS (nat_lit 0xda2980da1981982510) Mine.ae);refine Go.bind (n:=1+13* R.length) (m:=0) (a:=()) (Go.holding ?_) Go.pure';rw[if_neg (by rw[ph];exact Mine.aS (nat_lit 0x90961f90010f91102) Mine.ae hlen)];refine Go.bind (n:=1) (m:=13* R.length) Go.rule ?_;refine Go.bind (n:=13* R.length) (m:=0) (a:=y5) ?_ Go.pure';obtain this:=Go.ug (w:=w) (os:=os) (b:=b) (pre:=l) (post:=[]) (p:=p) rfl _ (λc c=>rfl) hb R [] T gO (by exact jj) (by simp_all);exact this
end
section
variable{w:Pm}{os:Dx}{b:xI}{pre post:List Nw}{p:aaK}
theorem Go.evalPairs:∀(R:List E3) (h:xI) (T:Nat),Go w (3* R.length) (sh h T os) (PySem.evalPairs (R.map (pS p))) (sh h (T+2* R.length) os) ((ents 2 T R).map λe=>(e.key,e.val))|[],h,T=>by exact Go.pure'|e::R,h,T=>by obtain ih:=Go.evalPairs R h (T+2);obtain ih:=(show T+2+2* R.length=T+2* (e::R).length by simp only[pE];exact Mine.aL (nat_lit 0x19182a0812a290882510) Mine.ae)▸ih;refine(Go.bind (n:=1) (m:=2+3* R.length) Go.mkInt ?_).cast (by simp only[pE];exact Mine.aS (nat_lit 0x19083a03a2981982510) Mine.ae);refine Go.bind (n:=2) (m:=3* R.length) (Go.holding Go.wq) ?_;refine Go.bind (n:=3* R.length) (m:=0) (Go.holding ih) ?_;exact Go.pure'
theorem Go.qy{d:sx}(Je:d=b.objs.size+pre.length)(f:Value×Value->PUnit->Sem (ForInStep PUnit))
  (hf:∀kv u,f kv u=(do PySem.dictSet d kv.1 kv.2;TK (.yield y5)))(hb:Bi 11 d=true):
  ∀(R:List E3) (es:List th) (T T':Nat),(∀e∈R,Et e)->(es.map x4++R.map (·.1)).Nodup->es.length+R.length<sizeLine->Go w (10* R.length) (fQ b (pre++cA es::post) T os) (forIn ((ents 2 T' R).map λe=>(e.key,e.val)) y5 f) (fQ b (pre++cA (es++ents 2 T' R)::post) (T+R.length) os) y5
 |[],es,T,T',aR,bV,iq=>by simp only[List.map_nil,ents,rn,tm,Nat.mul_zero,aab];exact Go.wu|e::R,es,T,T',gO,jj,hsz=>by
  subst Je;obtain hn:e.1∉es.map x4:=by exact λq=>(Mine.rZ jj).2.2 _ q _ wx rfl
  obtain ih:=Go.qy rfl f hf hb R (es++[ent T' e]) (T+1) (T'+2) (λx hx=>gO x (y0 _ hx)) (by simpa [ent] using jj) (by simp only[pj,pE,tm] at hsz⊢;exact Mine.aW (nat_lit 0x21190980881121918081101) Mine.ae hsz);obtain one:Go w 10 (fQ b (pre++cA es::post) T os) (f (.int e.1 T',.str e.2 (T'+1)) y5) (fQ b (pre++cA (es++[ent T' e])::post) (T+1) os) (.yield y5):=by
   rw[hf];refine Go.bind (n:=10) (m:=0) (Go.dictSet (gO e wx).1 (gO e wx).2 (kZ hn) hb (by simp only[H0,pE] at hsz⊢;exact Mine.aW (nat_lit 0x201121918081101) Mine.ae hsz)) ?_;obtain q:dO (es.toArray.push ⟨e.1,.int e.1 T',.str e.2 (T'+1)⟩) (es.length+1)=cA (es++[ent T' e]):=by simp[cA,ent]
   rw[q];exact Go.pure'
  obtain this:=Go.r_ one ih
  rw[show 10+10* R.length=10* (e::R).length by simp only[pE];exact Mine.aS (nat_lit 0x1908aa0aaa982510) Mine.ae,show T+1+R.length=T+(e::R).length by simp only[pE];exact Mine.aL (nat_lit 0x1918081190882510) Mine.ae,
   show es++[ent T' e]++ents 2 (T'+2) R=es++ents 2 T' (e::R) by simp[ents]] at this
  exact this
theorem Go.Bf{l:List Nw}{T:Nat}{R:List E3}(hlen:R.length<=15)(gO:∀e∈R,Et e)(jj:(R.map (·.1)).Nodup)(hb:Bi 11 (b.objs.size+l.length)=true):
  Go w (1+13* R.length) (fQ b l T os) (subDict (R.map (pS p))) (fQ b (l++[cA (ents 2 T R)]) (T+3* R.length) os) (b.objs.size+l.length):=by
 have ha:=Go.alloc (w:=w) (h:=HL b l) (t:=T) (os:=os) (o:={cls:=.type "dict",data:=.dict #[]});rw[x8,x9] at ha;refine(Go.bind (n:=1) (m:=13* R.length) ha ?_);rw[show 13* R.length=(3* R.length+10* R.length)+0 by exact Mine.aS (nat_lit 0x90aa03a880da2510) Mine.ae];refine Go.bind (n:=3* R.length+10* R.length) (m:=0) (a:=()) (Go.holding ?_) Go.pure';rw[if_pos (by rw[ph];omega)];refine Go.bind (n:=3* R.length) (m:=10* R.length) (Go.evalPairs R _ _) (Go.holding ?_);refine Go.bind (n:=10* R.length) (m:=0) (a:=y5) ?_ Go.pure';obtain this:=Go.qy (w:=w) (os:=os) (b:=b) (pre:=l) (post:=[]) rfl _ (λc c=>rfl) hb R [] (T+2* R.length) T gO (by exact jj) (by simp only[tm];unfold sizeLine;exact Mine.aS (nat_lit 0x10000007f009811f900101) Mine.ae hlen);simp only[show T+2* R.length+R.length=T+3* R.length by exact Mine.aL (nat_lit 0x13a08112a0882510) Mine.ae] at this;exact this
theorem Go.qA{d a:sx}{subs:List Nw}{ss:List th}(hd:d=b.objs.size+0)(ha:a=b.objs.size+(subs.length+1))(hb:Bi 11 d=true){T:Nat}
  (f:Nat->PUnit->Sem (ForInStep PUnit))
  (hf:∀(m:List th) (i:Nat) (e:th),ss[i]?=some e->e.hash∉m.map x4->(∃i k,e.key=.int i k/\e.hash=i)->m.length<sizeLine->Go w 6 (fQ b (cA m::(subs++[cA ss])) T os) (f i y5) (fQ b (cA (m++[e])::(subs++[cA ss])) T os) (.yield y5)):
  ∀(n i:Nat) (m:List th),i+n=ss.length->(∀e∈ss,∃i k,e.key=.int i k/\e.hash=i)->(m.map x4++(ss.drop i).map x4).Nodup->m.length+n<sizeLine->Go w (6* n) (fQ b (cA m::(subs++[cA ss])) T os) (forIn (Ki i n) y5 f) (fQ b (cA (m++ss.drop i)::(subs++[cA ss])) T os) y5
 |0,i,m,hi,aR,bV,iq=>by rw[List.drop_eq_nil_of_le (by exact Mine.aL (nat_lit 17665352020225) Mine.ae hi),rn];exact Go.wu|n+1,i,m,hi,hk,jj,hsz=>by
  obtain cF:i<ss.length:=by exact Mine.aW (nat_lit 0x201121918082101) Mine.ae hi
  obtain hg:ss[i]?=some ss[i]:=sg cF;rw[aaG cF,xb] at jj;obtain h1:ss[i].hash∉m.map x4:=λq=>(Mine.rZ jj).2.2 _ q _ wx rfl
  obtain ih:=Go.qA hd ha hb f hf n (i+1) (m++[ss[i]]) (Mine.aW (nat_lit 0x21190882521918082511) Mine.ae hi) hk (by simp_all) (by simp only[pj,pE,tm];exact Mine.aW (nat_lit 0x21190980881121918081101) Mine.ae hsz);obtain this:=Go.r_ (hf m i _ hg h1 (hk _ (FC cF)) (Mine.aW (nat_lit 0x201121918081101) Mine.ae hsz)) ih;rw[show 6+6* n=6* (n+1) by exact Mine.aS (nat_lit 0x19086a06a6982510) Mine.ae] at this;rw[List.range'_succ];simpa using this
end
section
variable{w:Pm}{os:Dx}{b:xI}{p:aaK}
theorem Go.dictEpoch{h:xI}{t:Nat}{d:sx}{part:Option Value}{es:Array th}{n:Nat}(ho:h.get? d=some (dO es n)):Go w 1 (sh h t os) (dictEpoch d part) (sh h t os) n:=by exact Go.bind (n:=1) (m:=0) (Go.loadPart ho) Go.pure'
theorem Go.f_{h:xI}{t:Nat}{d:sx}{part:Option Value}{es:Array th}{n:Nat}(ho:h.get? d=some (dO es n)):Go w 1 (sh h t os) (PySem.dictEntries d part) (sh h t os) es:=by exact Go.bind (n:=1) (m:=0) (Go.loadPart ho) Go.pure'
theorem Go.merge{subs:List Nw}{m ss:List th}{T:Nat}(hb:Bi 11 b.objs.size=true)(hm:m≠[])(hk:∀e∈ss,∃i k,e.key=.int i k/\e.hash=i)(jj:(m.map x4++ss.map x4).Nodup)
  (hsz:m.length+ss.length<sizeLine):
  Go w (5+6* ss.length) (fQ b (cA m::(subs++[cA ss])) T os) (mergeMapping b.objs.size (.ref (b.objs.size+(subs.length+1))) false) (fQ b (cA (m++ss)::(subs++[cA ss])) T os) ():=by
 have hA:∀m',(HL b (cA m'::(subs++[cA ss]))).get? (b.objs.size+(subs.length+1))=some (cA ss):=λm'=>kY b (cA m'::subs) [] ss.toArray ss.length
 obtain hM:∀m',(HL b (cA m'::(subs++[cA ss]))).get? b.objs.size=some (cA m'):=λm'=>kY b [] (subs++[cA ss]) m'.toArray m'.length
 obtain h1:¬(b.objs.size+(subs.length+1)==sysModules)=true:=by obtain this:=Fh hb;simp only[sysModules,beq_iff_eq];exact Mine.aL (nat_lit 0x9096119191808210b90102) Mine.ae this
 obtain hI:Go w 1 (fQ b (cA m::(subs++[cA ss])) T os) (isInstance (.ref (b.objs.size+(subs.length+1))) (.type "dict")) (fQ b (cA m::(subs++[cA ss])) T os) true:=by unfold isInstance typeOf isSubtype;refine Go.bind (n:=1) (m:=0) (a:=.type "dict") (Go.bind (n:=1) (m:=0) (Go.loadPart (hA m)) Go.pure') ?_;exact Go.bind (n:=0) (m:=0) Go.pure' Go.pure'
 have hS:Go w 1 (fQ b (cA m::(subs++[cA ss])) T os) (specialOf (.ref (b.objs.size+(subs.length+1))) "__iter__") (fQ b (cA m::(subs++[cA ss])) T os) (some (.builtin "dict.__iter__")):=by refine Go.bind (n:=1) (m:=0) (a:=.type "dict") (Go.bind (n:=1) (m:=0) (Go.loadPart (hA m)) Go.pure') ?_;exact Go.pure'
 refine(Go.bind (n:=1) (m:=4+6* ss.length) (a:=true) hI ?_).cast (by exact Mine.aS (nat_lit 0x6a59806a4981982510) Mine.ae);refine(Go.bind (n:=1) (m:=3+6* ss.length) hS ?_).cast (by exact Mine.aS (nat_lit 0x6a49806a3981982510) Mine.ae);rw[show(some (Value.builtin "dict.__iter__")==some (Value.builtin "dict.__iter__"))=true by kernel_rfl];refine(Go.bind (n:=0) (m:=3+6* ss.length) Go.pure' ?_).cast (by exact Mine.aS (nat_lit 0x6a39806a3980982510) Mine.ae);dsimp only;rw[if_neg h1];refine(Go.bind (n:=1) (m:=2+6* ss.length) (Go.f_ (hM m)) ?_).cast (by exact Mine.aS (nat_lit 0x6a39806a2981982510) Mine.ae);have h2:¬(m.toArray.isEmpty=true):=by simpa using hm
 rw[if_neg h2];refine(Go.bind (n:=1) (m:=1+6* ss.length) (Go.f_ (hA m)) ?_).cast (by exact Mine.aS (nat_lit 0x6a29806a1981982510) Mine.ae);refine(Go.bind (n:=1) (m:=6* ss.length) (Go.dictEpoch (hA m)) ?_).cast (by exact Mine.aS (nat_lit 0x6a19806a1982510) Mine.ae);refine(Go.bind (n:=6* ss.length) (m:=0) (a:=y5) ?_ Go.pure').cast (by exact Mine.aS (nat_lit 0x6a0906a82510) Mine.ae);rw[List.range_eq_range',H0,show m++ss=m++ss.drop 0 by simp];refine Go.qA (w:=w) (os:=os) (b:=b) (subs:=subs) (ss:=ss) (d:=b.objs.size) (a:=b.objs.size+(subs.length+1)) rfl rfl hb (T:=T) _ (λm' i e he hn i_ hs=>?_) ss.length 0 m (Mine.aS (nat_lit 9970960) Mine.ae) hk (by simpa using jj) hsz;have hh:ss.toArray[i]?=some e:=by simpa using he
 refine(Go.bind (n:=1) (m:=5) (Go.f_ (hA m')) ?_);rw[hh];obtain⟨ki,kt,h3,h4⟩:=i_;refine(Go.bind (n:=4) (m:=1) (a:=()) (s':=fQ b (cA (m'++[e])::(subs++[cA ss])) T os) (Go.holding ?_) ?_)
 ·rw[if_neg wy,h3,h4];have :=Go.dictPut (w:=w) (t:=T) (os:=os) (b:=b) (pre:=[]) (post:=subs++[cA ss]) (es:=m'.toArray) (n:=m'.length) (i:=ki) (k:=kt) (v:=e.val) (kZ (by rw[<-h4];exact hn)) hb (by simpa using hs);have q:dO (m'.toArray.push ⟨ki,.int ki kt,e.val⟩) (m'.length+1)=cA (m'++[e]):=by obtain⟨hh,ke,va⟩:=e;dsimp only at h3 h4;subst h3 h4;simp[cA]
  rw[q] at this;exact this
 ·refine(Go.bind (n:=1) (m:=0) (Go.dictEpoch (hA _)) ?_);rw[if_neg (by simp)];exact Go.pure'
end
abbrev RS:=Option sx×List (Sem Value×Sem Value)
abbrev zx(p:aaK)(e:E3):Option (Sem Value)×Sem Value:=(some (pS p e).1,(pS p e).2)
noncomputable def iF(run:List (Sem Value×Sem Value))(main:Option sx):Sem (Option sx):=
 if run.isEmpty=true then TK main
 else match main with
  |none=>do
   let a<-subDict run
   TK (some a)
  |some d=>do
   let sub<-PySem.holding [Value.ref d] (subDict run)
   (PySem.holding [Value.ref d,Value.ref sub] (mergeMapping d (Value.ref sub) false)).onRaise λ(x:Value)=>do
     let _<-PySem.holding [Value.ref d,x] (runValue (Code.builtin "proto.let_go" {}))
     TK ()
   TK (some d)
noncomputable def subsOf:Nat->Nat->List E3->List Nw|0,aR,bV=>[]|j+1,T,L=>cA (ents 3 T (L.take 17))::subsOf j (T+51) (L.drop 17)
section
variable{w:Pm}{os:Dx}{b:xI}{p:aaK}{f:(Option (Sem Value)×Sem Value)->RS->Sem (ForInStep RS)}
def ya(p:aaK)(f:(Option (Sem Value)×Sem Value)->RS->Sem (ForInStep RS)):Prop:=∀e m r,f (zx p e) (m,r)=if((r++[pS p e]).length==17)=true then(iF (r++[pS p e]) m>>=λm'=>TK (.yield (m',[]))) else TK (.yield (m,r++[pS p e]))
theorem nM(hf:ya p f):∀(X:List E3) (r:List (Sem Value×Sem Value)) (m:Option sx) (rest:List (Option (Sem Value)×Sem Value)),r.length+X.length<17->
  forIn (X.map (zx p)++rest) (m,r) f=forIn rest (m,r++X.map (pS p)) f
 |[],r,m,rest,aR=>by simp |e::X,r,m,rest,h=>by rw[xb,List.cons_append,NA,hf,if_neg (by simp only[pj,pE,tm,beq_iff_eq] at h⊢;exact Mine.aL (nat_lit 0x9096111e19098083111e1918081102) Mine.ae h),pure_bind];simp only;rw[nM hf X (r++[pS p e]) m rest (by simp only[pj,pE,tm] at h⊢;exact Mine.aL (nat_lit 0x11e1190980881111e1918081101) Mine.ae h)];simp
theorem nN(hf:ya p f)(X:List E3)(m:Option sx)(rest:List (Option (Sem Value)×Sem Value))(h:X.length=17):
  forIn (X.map (zx p)++rest) (m,[]) f=iF (X.map (pS p)) m>>=λm'=>forIn rest (m',[]) f:=by
 obtain⟨X',e,rfl⟩:∃X' e,X=X'++[e]:=⟨X.dropLast,X.getLast (by intro q;subst q;exact nomatch h),(List.dropLast_concat_getLast _).symm⟩;obtain h':X'.length=16:=by simpa using h
 rw[vk,ta,nM hf X' [] m _ (by simp only[tm];exact Mine.aS (nat_lit 0x11e00981110e02101) Mine.ae h')];simp only[xb,List.map_nil,List.cons_append,Hm];rw[NA,hf,if_pos (by simp_all)];simp only[bind_assoc,pure_bind,vk,xb,List.map_nil]
theorem nO(st:Nat):∀(T:Nat) (R:List E3),∀e∈ents st T R,∃i k,e.key=.int i k/\e.hash=i
|aR,[],bV,h=>by cases h
|T,x::r,e,h=>by
 rcases Mine.bx h with rfl|h
 ·exact⟨_,_,rfl,rfl⟩
 ·exact nO st (T+st) r e h
theorem Go.flush{m:List th}{subs:List Nw}{T:Nat}{X:List E3}{se:List th}{n:Nat}(hb:Bi 11 b.objs.size=true)(hX:X≠[])(hm:m≠[])
  (L8:Go w n (fQ b (cA m::subs) T os) (subDict (X.map (pS p))) (fQ b (cA m::subs++[cA se]) (T+3* X.length) os) (b.objs.size+(cA m::subs).length))
  (VO:se.map x4=X.map (·.1))(hk:∀e∈se,∃i k,e.key=.int i k/\e.hash=i)(jj:(m.map x4++X.map (·.1)).Nodup)(hsz:m.length+X.length<sizeLine):
  Go w (n+(5+6* X.length)) (fQ b (cA m::subs) T os) (iF (X.map (pS p)) (some b.objs.size)) (fQ b (cA (m++se)::(subs++[cA se])) (T+3* X.length) os) (some b.objs.size):=by
 obtain hl:se.length=X.length:=by obtain this:=congrArg PH VO;simpa using this
 unfold iF;rw[if_neg (by simpa using hX)];refine Go.bind (Go.holding L8) ?_;refine Go.bind (n:=5+6* X.length) (m:=0) (a:=()) (Go.onRaise (Go.holding ?_)) Go.pure';refine hl▸?_;exact Go.merge hb hm hk (by exact VO▸(jj)) (by refine hl▸?_;exact hsz)
theorem uh{a n:Nat}(h:Bi 11 a=true):Bi 11 (a+n)=true:=Nat.ble_eq_true_of_le (vb (Fh h) (Kk _ _))
theorem Go.EW{m:List th}{subs:List Nw}{T:Nat}{X:List E3}(hb:Bi 11 b.objs.size=true)(hX:X.length=17)(hm:m≠[])(gO:∀e∈X,Et e)(jj:(m.map x4++X.map (·.1)).Nodup)(hsz:m.length+X.length<sizeLine):
  Go w 330 (fQ b (cA m::subs) T os) (iF (X.map (pS p)) (some b.objs.size)) (fQ b (cA (m++ents 3 T X)::(subs++[cA (ents 3 T X)])) (T+51) os) (some b.objs.size):=by
 obtain hs:=Go.x_ (w:=w) (os:=os) (b:=b) (p:=p) (l:=cA m::subs) (T:=T) (R:=X) (Mine.aS (nat_lit 0xf91111e03101) Mine.ae hX) gO (Mine.rZ jj).2.1 (Mine.aW (nat_lit 36357452337409) Mine.ae hsz) (uh hb);obtain this:=Go.flush (m:=m) (subs:=subs) (X:=X) hb (by intro q;rw[q] at hX;exact nomatch hX) hm hs (e6 ..) (nO _ _ _) jj hsz;obtain this:=hX▸this;exact this
theorem Go.zA{m:List th}{subs:List Nw}{T:Nat}{X:List E3}(hb:Bi 11 b.objs.size=true)(hX:X.length<=15)(Xh:X≠[])(hm:m≠[])(gO:∀e∈X,Et e)(jj:(m.map x4++X.map (·.1)).Nodup)(hsz:m.length+X.length<sizeLine):
  Go w (1+13* X.length+(5+6* X.length)) (fQ b (cA m::subs) T os) (iF (X.map (pS p)) (some b.objs.size)) (fQ b (cA (m++ents 2 T X)::(subs++[cA (ents 2 T X)])) (T+3* X.length) os) (some b.objs.size):=by
 obtain hs:=Go.Bf (w:=w) (os:=os) (b:=b) (p:=p) (l:=cA m::subs) (T:=T) (R:=X) hX gO (Mine.rZ jj).2.1 (uh hb);exact Go.flush (m:=m) (subs:=subs) (X:=X) hb Xh hm hs (e6 ..) (nO _ _ _) jj hsz
theorem Go.Bg(hf:ya p f)(hb:Bi 11 b.objs.size=true):∀(j:Nat) (L:List E3) (m:List th) (subs:List Nw) (T:Nat),17* j<=L.length->L.length-17* j<17->m≠[]->(∀e∈L,Et e)->(m.map x4++L.map (·.1)).Nodup->m.length+L.length<sizeLine->
  Go w (330* j) (fQ b (cA m::subs) T os) (forIn (L.map (zx p)) (some b.objs.size,[]) f) (fQ b (cA (m++ents 3 T (L.take (17* j)))::(subs++subsOf j T L)) (T+51* j) os) (some b.objs.size,(L.drop (17* j)).map (pS p))
 |0,L,m,subs,T,aR,h2,bV,iq,yb,H8=>by obtain this:=nM hf L [] (some b.objs.size) [] (by simp only[tm];exact Mine.aL (nat_lit 0x11e10981111e011090110a0810102) Mine.ae (Mine.Ln.bI (L.length) (17* 0)) h2);rw[rn] at this;simp only[this];simp only[List.forIn_nil,Nat.mul_zero,List.take_zero,ents,rn,subsOf,aab,List.drop_zero,Hm];exact Go.pure'
 |j+1,L,m,subs,T,h1,h2,hm,gO,jj,hsz=>by
  have wz:(L.take 17).length=17:=by rw[List.length_take];omega
  obtain eL:L.map (zx p)=(L.take 17).map (zx p)++(L.drop 17).map (zx p):=by rw[<-vk,TB]
  have eN:m.map x4++L.map (·.1)=(m.map x4++(L.take 17).map (·.1))++(L.drop 17).map (·.1):=by rw[ta,<-vk,TB]
  rw[eN] at jj;obtain Xi:=Go.EW (w:=w) (os:=os) (p:=p) (b:=b) (m:=m) (subs:=subs) (T:=T) hb wz hm (λe he=>gO e (List.mem_of_mem_take he)) (Mine.rZ jj).1 (Mine.v7 (nat_lit 0x301811219480110a0132181111e02103) Mine.ae wz hsz h1)
  obtain ih:=Go.Bg hf hb j (L.drop 17) (m++ents 3 T (L.take 17)) (subs++[cA (ents 3 T (L.take 17))]) (T+51) (by rw[SF];exact Mine.aW (nat_lit 0x200110a0111e28101119080110a0102) Mine.ae h1 (Mine.Ln.bI (L.length) (17))) (by rw[SF];exact Mine.v7 (nat_lit 0x11e11111e01119380110a08201211e4821430110a182104) Mine.ae (rl (Mine.aW (nat_lit 0x200110a0111e28101119080110a0102) Mine.ae h1 (Mine.Ln.bI (L.length) (17)):17* j<=L.length-17)) (rl (Mine.aL (nat_lit 0x111e01119080110a0101) Mine.ae h1:17<=L.length)) (Mine.Ln.bI (L.length) (17* (j+1))) h2) (by simp[hm]) (λe he=>gO e (List.mem_of_mem_drop he))
   (by rw[vk,e6];exact jj) (by rw[pj,gu,wz,SF];exact Mine.e9 (nat_lit 0x2311e08811111e382121081102) Mine.ae hsz (rl (Mine.aL (nat_lit 0x111e01119080110a0101) Mine.ae h1:17<=L.length)))
  rw[eL,nN hf _ _ _ wz];obtain this:=Go.bind (f:=λm'=>forIn ((L.drop 17).map (zx p)) (m',[]) f) Xi ih;rw[show 330+330* j=330* (j+1) by exact Mine.aS (nat_lit 0x190814a0a014a0a14a3f82510) Mine.ae,show T+51+51* j=T+51* (j+1) by exact Mine.aL (nat_lit 0x19180330a0810330a33e0882510) Mine.ae,List.drop_drop,show 17+17* j=17* (j+1) by exact Mine.aS (nat_lit 0x19080110a00110a11e82510) Mine.ae] at this;obtain e1:m++ents 3 T (L.take 17)++ents 3 (T+51) ((L.drop 17).take (17* j))=m++ents 3 T (L.take (17* (j+1))):=by rw[ta,show 17* (j+1)=17+17* j by exact Mine.aS (nat_lit 0x110a11e819080110a2510) Mine.ae,List.take_add,iE,wz]
  rw[e1] at this;simpa [subsOf] using this
end
section
variable{w:Pm}{os:Dx}{b:xI}{p:aaK}
theorem Go.display{j:Nat}{L:List E3}{T:Nat}(hb:Bi 11 b.objs.size=true)(h1:17* (j+1)<L.length)(h2:L.length-17* (j+1)<=15)(gO:∀e∈L,Et e)(jj:(L.map (·.1)).Nodup)(hsz:L.length<sizeLine):
  Go w (223+330* j+(6+19* (L.length-17* (j+1)))) (sh b T os) (dictDisplay (L.map (zx p)))
   (sh (HL b (cA (ents 3 T (L.take (17* (j+1)))++ents 2 (T+51* (j+1)) (L.drop (17* (j+1))))::(subsOf j (T+51) (L.drop 17)++[cA (ents 2 (T+51* (j+1)) (L.drop (17* (j+1))))]))) (T+3* L.length) os) (.ref b.objs.size):=by
 have wz:(L.take 17).length=17:=by rw[List.length_take];omega
 have eD:(L.drop (17* (j+1))).length=L.length-17* (j+1):=by rw[SF]
 obtain eL:L.map (zx p)=(L.take 17).map (zx p)++(L.drop 17).map (zx p):=by rw[<-vk,TB]
 obtain eN:L.map (·.1)=(L.take 17).map (·.1)++(L.drop 17).map (·.1):=by rw[<-vk,TB]
 obtain hs:=Go.x_ (w:=w) (os:=os) (b:=b) (p:=p) (l:=[]) (T:=T) (R:=L.take 17) (Mine.aS (nat_lit 0xf91111e03101) Mine.ae wz) (λe he=>gO e (List.mem_of_mem_take he)) (by rw[eN] at jj;exact(Mine.rZ jj).1) (Mine.e9 (nat_lit 0x2011119380110a11211111e02103) Mine.ae wz hsz h1) hb;rw[wz] at hs;unfold fQ at hs;obtain Xj:Go w 223 (sh b T os) (iF ((L.take 17).map (pS p)) none) (sh (HL b [cA (ents 3 T (L.take 17))]) (T+51) os) (some b.objs.size):=by unfold iF;rw[if_neg (by rw[List.isEmpty_iff,aam];intro q;rw[q] at wz;exact nomatch wz)];exact Go.bind (n:=223) (m:=0) hs Go.pure'
 have Xk:((L.take 17).map (·.1)++(L.drop 17).map (·.1)).Nodup:=by rw[<-eN];exact jj
 refine Go.bind (n:=223+330* j) (m:=6+19* (L.length-17* (j+1))) (a:=(some b.objs.size,(L.drop (17* (j+1))).map (pS p))) (s':=sh (HL b (cA (ents 3 T (L.take (17* (j+1))))::subsOf j (T+51) (L.drop 17))) (T+51* (j+1)) os) ?_ ?_
 ·rw[eL,nN (p:=p) (by intro e m r;rfl) _ _ _ wz];refine Go.bind (n:=223) (m:=330* j) Xj ?_
  have hc:=λf (hf:ya p f)=>Go.Bg (w:=w) (os:=os) (p:=p) (b:=b) (f:=f) hf hb j (L.drop 17) (ents 3 T (L.take 17)) [] (T+51) (by rw[SF];exact Mine.aW (nat_lit 0x200110a0111e28101119080110a1102) Mine.ae h1 (Mine.Ln.bI (L.length) (17))) (by rw[SF];exact Mine.v7 (nat_lit 0x11e111f900119380110a08201211e4821430110a182104) Mine.ae (rl (Mine.aW (nat_lit 0x200110a0111e28101119080110a1102) Mine.ae h1 (Mine.Ln.bI (L.length) (17)):17* j<=L.length-17)) (rl (Mine.aL (nat_lit 0x111e01119080110a1101) Mine.ae h1:17<=L.length)) (Mine.Ln.bI (L.length) (17* (j+1))) h2)
   (by intro q;have :=congrArg PH q;rw[gu,wz] at this;exact nomatch this) (λe he=>gO e (List.mem_of_mem_drop he)) (by rw[e6];exact Xk) (by rw[gu,wz,SF];exact Mine.aW (nat_lit 0x1211e8111011011e282102) Mine.ae (rl (Mine.aL (nat_lit 0x111e01119080110a1101) Mine.ae h1:17<=L.length)) hsz)
  have e1:ents 3 T (L.take 17)++ents 3 (T+51) ((L.drop 17).take (17* j))=ents 3 T (L.take (17* (j+1))):=by rw[show 17* (j+1)=17+17* j by exact Mine.aS (nat_lit 0x110a11e819080110a2510) Mine.ae,List.take_add,iE,wz]
  rw[e1,List.drop_drop,show 17+17* j=17* (j+1) by exact Mine.aS (nat_lit 0x19080110a00110a11e82510) Mine.ae,show T+51+51* j=T+51* (j+1) by exact Mine.aL (nat_lit 0x19180330a0810330a33e0882510) Mine.ae,Hm] at hc;exact hc _ (by intro e m r;rfl)
 ·have cG:L.drop (17* (j+1))≠[]:=by intro q;rw[q] at eD;simp only[tm] at eD;exact Mine.aW (nat_lit 0x9096119180110a08201219180110a110093103) Mine.ae eD h1 (Mine.Ln.bI (L.length) (17* (j+1)))
  have eT:(L.take (17* (j+1))).length=17* (j+1):=by rw[List.length_take];omega
  obtain hl:=Go.zA (w:=w) (os:=os) (p:=p) (b:=b) (m:=ents 3 T (L.take (17* (j+1)))) (subs:=subsOf j (T+51) (L.drop 17)) (T:=T+51* (j+1)) (X:=L.drop (17* (j+1))) hb (Mine.aL (nat_lit 0xf9001f9101102102) Mine.ae eD h2) cG
   (by intro q;have :=congrArg PH q;rw[gu,eT] at this;simp only[tm] at this;exact Mine.aS (nat_lit 0x909610919080110a2101) Mine.ae this) (λe he=>gO e (List.mem_of_mem_drop he))
   (by rw[e6,<-vk,TB];exact jj) (by rw[gu,eT,eD];exact Mine.e9 (nat_lit 0x1319280110a8111011019280110a382102) Mine.ae (rl (Mine.aL (nat_lit 0x119080110a01119080110a1101) Mine.ae h1:17* (j+1)<=L.length)) hsz)
  rw[eD,show T+51* (j+1)+3* (L.length-17* (j+1))=T+3* L.length by exact Mine.e9 (nat_lit 0x33a0823a19180330a0882519180110a2830c319180110a282312) Mine.ae (rl (Mine.aL (nat_lit 0x119080110a01119080110a1101) Mine.ae h1:17* (j+1)<=L.length)) (Mine.Ln.bI (L.length) (17* (j+1)))] at hl;rw[show 6+19* (L.length-17* (j+1))=1+13* (L.length-17* (j+1))+(5+6* (L.length-17* (j+1)))+0 by exact Mine.aS (nat_lit 0x906a5980da1988800130a6982510) Mine.ae];exact Go.bind hl Go.pure'
end
theorem wA(b:xI)(l:List Nw){i:Nat}{o:Nw}(h:b.get? i=some o):(HL b l).get? i=some o:=by
 obtain hi:i<b.objs.size:=by
  unfold xI.get? at h;by_cases q:i<b.objs.size
  ·exact q
  ·rw[Array.getElem?_eq_none (by simp_all)] at h;exact nomatch h
 obtain e:(HL b l).objs[i]?=b.objs[i]?:=by simp[HL,Array.getElem?_append,hi]
 unfold xI.get? at h⊢;refine e▸?_;exact h
theorem Go.wB{w:Pm}{h:xI}{t:Nat}{os:Dx}{part:Option Value}{f:Nw->Nw}{o:Nw}(ho:h.get? mainNs=some o):
  Go w 1 (sh h t os) (PySem.updatePart mainNs part f) (sh (h.update mainNs f) t os) ():=λp=>⟨p,λK H gd lv N=>by
 rw[HI];show(match step (denote treeTable) pw w (sh h t os) ⟨.update mainNs part f (λx=>Sem.wrap K H gd lv (.pure x)),c0,p,B0⟩ with |.go s' t'=>go w N s' t'|.halt _ _=>none)=_;simp only[step,ho,Option.isSome_some,if_true];rfl⟩
theorem Go.zB{w:Pm}{h:xI}{t:Nat}{os:Dx}{x:Str}{v:Value}{o:Nw}{es:Array th}{m:Nat}(ho:h.get? mainNs=some o)(hd:o.data=.dict es m)(hr:aRefKeyMayBeTheName x es=false):
  Go w 4 (sh h t os) (nsSet mainNs x v) (sh (h.update mainNs (Nw.putName x (PyData.keyHash w.params x) (.str x t) v)) (t+1) os) ():=by
 refine Go.bind (n:=1) (m:=3) (a:=PyData.keyHash w.params x) (s':=sh h t os) (Go.bind (n:=1) (m:=0) Go.ask ?_) ?_
 ·exact Go.pure'
 ·refine Go.bind (n:=1) (m:=2) Go.mkText ?_;refine Go.bind (n:=1) (m:=1) (Go.loadPart ho) ?_;refine hd▸?_;dsimp only;refine hr▸?_;exact Go.wB ho
noncomputable def EX(e:Expr):Const:=by induction e using Expr.casesOn with |Constant c _ _=>exact c|_=>exact .none
def Xl(a:Option Expr)(b:Expr):Option E3:=match (a.map EX).getD .none with
|.int i=>match EX b with |.str x=>some (i,x)|_=>none
|_=>none
noncomputable def Xm(s:B2):Expr:=by induction s using B2.casesOn with |Assign _ v _=>exact v|_=>exact .Constant .none 0 default
def Xn(e:Expr):List E3:=by induction e using Expr.casesOn with |Dict a b _=>exact(List.zipWith Xl a b).filterMap id|_=>exact []
def fH:List E3:=Xn (Xm (st 10))
def Xo(k:Nat):Nw:=cA (ents 3 (398+51* k) ((fH.drop (17* k)).take 17))
def qs(x:String)(t:Nat):Value:=.str (S x) t
noncomputable def qr(a:Nat):Value:=.ref a
noncomputable def qi(n:Nat):Value:=.int n 0
def qk(P:Hc)(x:String)(t:Nat)(v:Value):th:=⟨PyData.keyHash P (S x),.str (S x) t,v⟩
noncomputable def qd(l:List th)(n:Nat):Nw:={cls:=.type "dict",dict:=none,data:=.dict l.toArray n,slots:=#[]}
noncomputable def qt(l:Array Value):Nw:={cls:=.type "tuple",dict:=none,data:=.seq l 0,slots:=#[]}
noncomputable def qg(c:Value)(l:Array Value):Nw:={cls:=c,dict:=none,data:=.fields l,slots:=#[]}
def qf(c:Value)(q:B2)(n m:String)(b:Nat)(doc md cd:Value):Nw:={cls:=c,dict:=none,data:=(.func {name:=S n,qualname:=S m,params:=fP q,body:=.stmts (fB q),scope:=fS q,globals:=b,closure:=[],defaults:=.none,kwdefaults:=.none,doc:=doc,pyModule:=md,annotations:=none,code:=cd,closureTuple:=.none,builtins:=0}),slots:=#[]}
noncomputable def qh(P:Hc)(l:List Nw):xI:=⟨l.toArray,(boot_heap P).life⟩
def e3(P:Hc):List th:=[qk P "__name__" 165 (qs "law_xb0034_02" 2357),qk P "__doc__" 166 .none,qk P "__package__" 167 .none,qk P "__loader__" 168 (.builtin "__main__.__loader__#opaque"),qk P "__spec__" 169 .none,qk P "__annotations__" 170 (qr 6),qk P "__builtins__" 171 (qr 4),qk P "__file__" 173 (qs "/claim/cut.py" 172),qk P "__cached__" 174 .none,qk P "_netrclex" 246 (qr 52),qk P "TupleComp" 290 (qr 80),qk P "add_func_stats" 308 (qr 91),qk P "add_callers" 319 (qr 98),qk P "count_calls" 328 (qr 105),qk P "b1_set" 390 (qr 113),qk P "in_table_b1" 397 (qr 123),qk P "b3_exceptions" 2348 (qr 124),qk P "map_table_b3" 2356 (qr 169),qk P "_law_cells" 2368 (qr 176),qk P "_law_dresses" 2379 (qr 183),qk P "_law_written" 2393 (qr 190),qk P "_law_lexer" 2406 (qr 197),qk P "_law_book" 2419 (qr 204),qk P "_law_sorted" 2425 (qr 209),qk P "_law_met" 2437 (qr 216),qk P "_law_core" 2443 (qr 221),qk P "_law_solved" 2449 (qr 226),qk P "law" 2455 (qr 231)]
def H9(P:Hc):Nw:={cls:=(.type "type"),dict:=none,data:=(.cls {name:=(S "_netrclex"),bases:=[.type "object"],mro:=[qr 52,.type "object"],ns:=51,qualname:=(S "_netrclex"),hasDict:=true,slotNames:=[],subclasses:=[],abstract:=false,collection:=none,hasDel:=false}),slots:=#[none,none,some (qs "_netrclex" 189),some (qs "_netrclex" 197),some (.builtin "object.__new__"),some (.bool true)]}
def H_(P:Hc):Nw:={cls:=(.type "type"),dict:=none,data:=(.cls {name:=(S "TupleComp"),bases:=[.type "object"],mro:=[qr 80,.type "object"],ns:=79,qualname:=(S "TupleComp"),hasDict:=true,slotNames:=[],subclasses:=[],abstract:=false,collection:=none,hasDel:=false}),slots:=#[none,none,some (qs "TupleComp" 249),some (qs "TupleComp" 257),some (.builtin "object.__new__"),some (.bool true)]}
noncomputable def sd(P:Hc):Nw:={cls:=(.type "set"),dict:=none,data:=(.set #[(65024,(.int 65024 347)),(65025,(.int 65025 348)),(65026,(.int 65026 349)),(65027,(.int 65027 350)),(65028,(.int 65028 351)),(65029,(.int 65029 352)),(6150,(.int 6150 333)),(65030,(.int 65030 353)),(65031,(.int 65031 354)),(65032,(.int 65032 355)),(65033,(.int 65033 356)),(6155,(.int 6155 334)),(6156,(.int 6156 335)),(6157,(.int 6157 336)),(8203,(.int 8203 337)),(8204,(.int 8204 338)),(8205,(.int 8205 339)),(65034,(.int 65034 357)),(65035,(.int 65035 358)),(65036,(.int 65036 359)),(65037,(.int 65037 360)),(65038,(.int 65038 361)),(65039,(.int 65039 362)),(173,(.int 173 331)),(847,(.int 847 332)),(8288,(.int 8288 340)),(65279,(.int 65279 341))] 29 {mask:=127,place:=#[0,1,2,3,4,5,6,7,8,9,10,11,12,13,14,15,16,17,18,19,20,21,22,45,79,96,127],dummies:=#[],finger:=0,led:=!P.followText "set-order",moves:=2,plain:=true}),slots:=#[]}
def wC(P:Hc):Nw:=cA (ents 3 398 (fH.take 646)++ents 2 2336 (fH.drop 646))
def m0:Value:=qs "cpy313.netrc" 187
def m1:Value:=qs "cpy313.pstats" 247
def m2:Value:=qs "cpy313.stringprep" 329
def m3:Value:=qs "law_xb0034_02" 2357
noncomputable def qz:Nat->List String->List Value|aR,[]=>[]|t,x::r=>qs x t::qz (t+1) r
def qc(n m:String)(l a t u b:Nat)(x y z:Value):Nw:=qg (.type "code") #[qs n t,qs m (t+1),qs "/claim/cut.py" (t+2),qi l,qi a,qi 0,qi 0,qi 3,qr b,.bool true,qi 181,qr (b+1),.none,x,y,z,qi u,qi l,qs "/claim/cut.py" (u+1)]
def fo(q:B2)(n m:String)(l a t:Nat)(v:Value)(b:Nat)(x y:List String):List Nw:=[qt #[],qg .none #[],qt (qz (t+3) x).toArray,qt (qz (t+3+x.length) y).toArray,qf .none q n m 0 .none .none .none,qc n m l a t (t+3+x.length+y.length) b (qr (b+2)) (qr (b+3)) (qr (b+4)),qf (.type "function") q n m 3 .none v (qr (b+5))]
def fp(q:B2)(n m:String)(l a t:Nat)(v:Value)(b:Nat):List Nw:=[qt #[],qg .none #[],qf .none q n m 0 .none .none .none,qc n m l a t (t+3) b .none .none (qr (b+2)),qf (.type "function") q n m 3 .none v (qr (b+3))]
def n3(P:Hc)(v:Value)(n:Nat):Nw:=qd (qk P "__name__" 165 v::((e3 P).take n).tail) n
def Rv(n:Nat):Nw:=qg .none ((([(2,20),(46,62),(60,90),(64,97),(77,104),(84,122),(87,168),(93,175),(97,182),(102,189),(109,196),(117,203),(123,208),(132,215),(139,220),(144,225),(169,230)].take n).map λp=>[qi p.1,qi 0,qr p.2]).flatten).toArray
def aO(P:Hc):List Nw:=[boot_o_0 P,boot_o_1 P,boot_o_2 P,n3 P m3 28,boot_o_4 P,boot_o_5 P,boot_o_6 P,boot_o_7 P,boot_o_8 P,boot_o_9 P,boot_o_10 P,qt #[],Rv 17,qg (.type "code") #[qs "<module>" 182,qs "<module>" 183,qs "/claim/cut.py" 184,qi 1,qi 0,qi 0,qi 0,qi 0,qr 11,.bool false,qi 181,qr 12,.none,.none,.none,.none,qi 185,qi 1,qs "/claim/cut.py" 186],{cls:=(.type "frame"),dict:=none,data:=.plain,slots:=#[some (qr 13),some (qr 3),some (qr 3),none,some (qs "__main__" 164),none,some (qr 0)]},qt #[],qg (.type "builtin_function_or_method") #[.builtin "type.__prepare__",.type "type"],qd [qk P "__module__" 196 (qs "cpy313.netrc" 187),qk P "__qualname__" 198 (qs "_netrclex" 197),qk P "__firstlineno__" 200 (.int 2 199),qk P "__init__" 208 (qr 28),qk P "_read_char" 216 (qr 35),qk P "get_token" 226 (qr 42),qk P "push_token" 234 (qr 49),qk P "__static_attributes__" 239 (qr 50)] 8,qt #[],qg .none #[qi 4,qi 4,qr 27,qi 10,qi 4,qr 34,qi 16,qi 4,qr 41,qi 43,qi 4,qr 48],qg (.type "code") #[qs "_netrclex" 191,qs "_netrclex" 192,qs "/claim/cut.py" 193,qi 2,qi 0,qi 0,qi 0,qi 0,qr 18,.bool false,qi 181,qr 19,.none,.none,.none,.none,qi 194,qi 2,qs "/claim/cut.py" 195],{cls:=(.type "frame"),dict:=none,data:=.plain,slots:=#[some (qr 20),some (qr 3),some (qr 17),none,some (qs "cpy313.netrc" 187),none,some (qr 0)]}]++(fo (cst 1 0) "__init__" "_netrclex.__init__" 4 2 201 m0 22 ["self","fp"] []++(fo (cst 1 1) "_read_char" "_netrclex._read_char" 10 1 209 m0 29 ["self","ch"] []++(fo (cst 1 2) "get_token" "_netrclex.get_token" 16 1 217 m0 36 ["self","token","fiter","ch"] []++(fo (cst 1 3) "push_token" "_netrclex.push_token" 43 2 227 m0 43 ["self","token"] []++([qt #[qs "instream" 235,qs "lineno" 236,qs "pushback" 237,qs "whitespace" 238],qd [qk P "__module__" 196 (qs "cpy313.netrc" 187),qk P "__firstlineno__" 200 (.int 2 199),qk P "__init__" 208 (qr 28),qk P "_read_char" 216 (qr 35),qk P "get_token" 226 (qr 42),qk P "push_token" 234 (qr 49),qk P "__static_attributes__" 239 (qr 50),qk P "__dict__" 241 (qr 53),qk P "__weakref__" 243 (qr 54),qk P "__doc__" 244 .none] 4,H9 P,qg (.type "getset_descriptor") #[qs "__dict__" 240,qr 52,.builtin "function.__dict__",.builtin "function.__dict__#set"],qg (.type "getset_descriptor") #[qs "__weakref__" 242,qr 52,.builtin "ExceptionGroup.__weakref__",.none],qg (.type "super") #[qr 52,qr 52,qr 52],qg (.type "builtin_function_or_method") #[.builtin "object.__init_subclass__",qr 52],qt #[],qg (.type "builtin_function_or_method") #[.builtin "type.__prepare__",.type "type"],qd [qk P "__module__" 256 (qs "cpy313.pstats" 247),qk P "__qualname__" 258 (qs "TupleComp" 257),qk P "__firstlineno__" 260 (.int 46 259),qk P "__init__" 268 (qr 70),qk P "compare" 281 (qr 77),qk P "__static_attributes__" 283 (qr 78)] 6,qt #[],qg .none #[qi 48,qi 4,qr 69,qi 51,qi 4,qr 76],qg (.type "code") #[qs "TupleComp" 251,qs "TupleComp" 252,qs "/claim/cut.py" 253,qi 46,qi 0,qi 0,qi 0,qi 0,qr 60,.bool false,qi 181,qr 61,.none,.none,.none,.none,qi 254,qi 46,qs "/claim/cut.py" 255],{cls:=(.type "frame"),dict:=none,data:=.plain,slots:=#[some (qr 62),some (qr 3),some (qr 59),none,some (qs "cpy313.pstats" 247),none,some (qr 0)]}]++(fo (cst 3 0) "__init__" "TupleComp.__init__" 48 2 261 m1 64 ["self","comp_select_list"] []++(fo (cst 3 1) "compare" "TupleComp.compare" 51 3 269 m1 71 ["self","left","right","index","direction","l","r"] []++([qt #[qs "comp_select_list" 282],qd [qk P "__module__" 256 (qs "cpy313.pstats" 247),qk P "__firstlineno__" 260 (.int 46 259),qk P "__init__" 268 (qr 70),qk P "compare" 281 (qr 77),qk P "__static_attributes__" 283 (qr 78),qk P "__dict__" 285 (qr 81),qk P "__weakref__" 287 (qr 82),qk P "__doc__" 288 .none] 4,H_ P,qg (.type "getset_descriptor") #[qs "__dict__" 284,qr 80,.builtin "function.__dict__",.builtin "function.__dict__#set"],qg (.type "getset_descriptor") #[qs "__weakref__" 286,qr 80,.builtin "ExceptionGroup.__weakref__",.none],qg (.type "super") #[qr 80,qr 80,qr 80],qg (.type "builtin_function_or_method") #[.builtin "object.__init_subclass__",qr 80]]++(fo (st 4) "add_func_stats" "add_func_stats" 60 2 291 m1 85 ["target","source","cc","nc","tt","ct","callers","t_cc","t_nc","t_tt","t_ct","t_callers"] []++(fo (st 5) "add_callers" "add_callers" 64 2 309 m1 92 ["target","source","new_callers","func","caller"] []++(fo (st 6) "count_calls" "count_calls" 77 1 320 m1 99 ["callers","nc","calls"] []++([{cls:=(.type "list"),dict:=none,data:=(.seq #[.int 173 331,.int 847 332,.int 6150 333,.int 6155 334,.int 6156 335,.int 6157 336,.int 8203 337,.int 8204 338,.int 8205 339,.int 8288 340,.int 65279 341] 0),slots:=#[]},qg (.type "range") #[.int 65024 342,.int 65040 343,.int 1 344],{cls:=(.type "list"),dict:=none,data:=(.seq #[.int 65024 347,.int 65025 348,.int 65026 349,.int 65027 350,.int 65028 351,.int 65029 352,.int 65030 353,.int 65031 354,.int 65032 355,.int 65033 356,.int 65034 357,.int 65035 358,.int 65036 359,.int 65037 360,.int 65038 361,.int 65039 362] 18),slots:=#[]},qg (.type "range_iterator") #[qi 65040,qi 0,qi 1],qt #[],qg (.type "StopIteration") #[qr 110,.none,.none,.none,.bool false,.none],{cls:=(.type "list"),dict:=none,data:=(.seq #[.int 173 331,.int 847 332,.int 6150 333,.int 6155 334,.int 6156 335,.int 6157 336,.int 8203 337,.int 8204 338,.int 8205 339,.int 8288 340,.int 65279 341,.int 65024 347,.int 65025 348,.int 65026 349,.int 65027 350,.int 65028 351,.int 65029 352,.int 65030 353,.int 65031 354,.int 65032 355,.int 65033 356,.int 65034 357,.int 65035 358,.int 65036 359,.int 65037 360,.int 65038 361,.int 65039 362] 0),slots:=#[]},sd P,qg (.type "list_iterator") #[.none,qi 27],qt #[],qg (.type "StopIteration") #[qr 115,.none,.none,.none,.bool false,.none]]++(fo (st 9) "in_table_b1" "in_table_b1" 84 1 391 m2 117 ["code"] []++([wC P]++(((w8 37).map λk=>Xo (k+1))++([cA (ents 2 2336 (fH.drop 646))]++(fo (st 11) "map_table_b3" "map_table_b3" 87 1 2349 m2 163 ["code","r"] []++(fo (st 13) "_law_cells" "_law_cells" 93 2 2359 m3 170 ["script","cells","place","number"] []++(fo (st 14) "_law_dresses" "_law_dresses" 97 1 2369 m3 177 ["number","unseen","others","no","near"] []++(fo (st 15) "_law_written" "_law_written" 102 3 2380 m3 184 ["raw","way","end","text","place","sign","hard","ends"] []++(fo (st 16) "_law_lexer" "_law_lexer" 109 2 2394 m3 191 ["text","count","tokens","stream","lexer","turn"] ["signs"]++(fo (st 17) "_law_book" "_law_book" 117 2 2407 m3 198 ["calls","price","book","one","other","often","entry"] []++(fp (st 18) "_law_sorted" "_law_sorted" 123 2 2420 m3 205++(fo (st 19) "_law_met" "_law_met" 132 2 2426 m3 210 ["one","arcs","met","turn","here","there"] []++(fp (st 20) "_law_core" "_law_core" 139 2 2438 m3 217++(fp (st 21) "_law_solved" "_law_solved" 144 5 2444 m3 222++(fp (st 22) "law" "law" 169 1 2450 m3 227)))))))))))))))))))))))))))
def hq(P:Hc)(n:Nat)(v:Value)(j c:Nat):xI:=qh P ((((aO P).take n).set 3 (n3 P v j)).set 12 (Rv c))
def Qj(P:Hc):xI:=qh P ((((aO P).take 15).set 3 (boot_o_3 P)).set 12 (Rv 0))
def Qk(P:Hc):xI:=hq P 15 m0 9 0
def VP(P:Hc):xI:=hq P 57 m0 10 1
def VQ(P:Hc):xI:=hq P 57 m1 10 1
def VR(P:Hc):xI:=hq P 85 m1 11 2
def VS(P:Hc):xI:=hq P 92 m1 12 3
def VT(P:Hc):xI:=hq P 99 m1 13 4
def VU(P:Hc):xI:=hq P 106 m1 14 5
def EY(P:Hc):xI:=hq P 106 m2 14 5
def EZ(P:Hc):xI:=hq P 117 m2 15 5
def um(P:Hc):xI:=hq P 124 m2 16 6
def Bh(P:Hc):xI:=hq P 163 m2 17 6
def L_(P:Hc):xI:=hq P 170 m2 18 7
def Ma(P:Hc):xI:=hq P 170 m3 18 7
def Mb(P:Hc):xI:=hq P 177 m3 19 8
def Mc(P:Hc):xI:=hq P 184 m3 20 9
def Me(P:Hc):xI:=hq P 191 m3 21 10
def Mf(P:Hc):xI:=hq P 198 m3 22 11
def Mg(P:Hc):xI:=hq P 205 m3 23 12
def Mh(P:Hc):xI:=hq P 210 m3 24 13
def Mi(P:Hc):xI:=hq P 217 m3 25 14
def Mj(P:Hc):xI:=hq P 222 m3 26 15
def Mk(P:Hc):xI:=hq P 227 m3 27 16
def nP(P:Hc):xI:=qh P ((aO P).take 232)
noncomputable abbrev yc:=@PySem.W.Fast.tw14374325043358763698
noncomputable abbrev Bj:=PySem.W.Fast.tw14364793385576792824
noncomputable abbrev Bl:=PySem.W.Fast.tw12563942051412417395
abbrev yd(l:List B2)(env:Ts)(c:Code)(p:aaK)(B:List Frame):Thread:=⟨(Bl l env).wrap doneF deadEnd id id,c,p,B⟩
abbrev seg(w:Pm)(n:Nat)(s:oC)(i:Nat)(p:aaK):Option (Flow×oC×Code×aaK):=segRun treeTable pw w 11 (some (.ref 6)) 1 n s (piecesOf [st i] mL c0 p [topFrame ⟨0,0,0,0⟩])
abbrev zC(w:Pm)(n:Nat)(s:oC)(i:Nat)(p:aaK):Option (Flow×oC×Code×aaK):=yc Bj pw w 11 (some (.ref 6)) 1 n s (yd [st i] mL c0 p [topFrame ⟨0,0,0,0⟩])
abbrev Pc(n:Nat)(h k:Hc->xI)(t u i:Nat)(p q:aaK):Prop:=∀(w:Pm) (os:Dx),seg w n (sh (h w.params) t os) i p=some (.next,sh (k w.params) u os,c0,q)
theorem ye(w:Pm)(n:Nat)(s:oC)(i:Nat)(p:aaK):seg w n s i p=zC w n s i p:=by unfold seg zC;unfold yd piecesOf Bl yc Bj;rw[<-PySem.W.Fast.te14374325043358763698,<-PySem.W.Fast.te14364793385576792824,<-PySem.W.Fast.te12563942051412417395]
theorem Xp:Pc 10 Qj Qk 187 189 0 ⟨0,0,0,0⟩ ⟨1,0,1,8⟩:=λw os=>by kernel_rfl
theorem Xq:Pc 324 Qk VP 189 247 1 ⟨1,0,1,8⟩ ⟨2,0,44,35⟩:=λw os=>by kernel_rfl
theorem Xr:Pc 10 VP VQ 247 249 2 ⟨2,0,44,35⟩ ⟨45,0,45,8⟩:=λw os=>by kernel_rfl
theorem Xs:Pc 260 VQ VR 249 291 3 ⟨45,0,45,8⟩ ⟨46,0,59,16⟩:=λw os=>by kernel_rfl
theorem Xu:Pc 41 VR VS 291 309 4 ⟨46,0,59,16⟩ ⟨60,0,63,88⟩:=λw os=>by kernel_rfl
theorem Xv:Pc 34 VS VT 309 320 5 ⟨60,0,63,88⟩ ⟨64,0,76,22⟩:=λw os=>by kernel_rfl
theorem Xw:Pc 32 VT VU 320 329 6 ⟨64,0,76,22⟩ ⟨77,0,81,13⟩:=λw os=>by kernel_rfl
theorem Xx:Pc 10 VU EY 329 331 7 ⟨77,0,81,13⟩ ⟨82,0,82,8⟩:=λw os=>by kernel_rfl
theorem Ml(w:Pm)(os:Dx):zC ((w.withFollow "special-get-raises" false).withFollow "set-order" false) 999 (sh (EY ((w.withFollow "special-get-raises" false).withFollow "set-order" false).params) 331 os) 8 ⟨82,0,82,8⟩=some (.next,sh (EZ ((w.withFollow "special-get-raises" false).withFollow "set-order" false).params) 391 os,c0,⟨83,0,83,6⟩):=by kernel_rfl
theorem Mm(w:Pm)(os:Dx):zC ((w.withFollow "special-get-raises" false).withFollow "set-order" true) 999 (sh (EY ((w.withFollow "special-get-raises" false).withFollow "set-order" true).params) 331 os) 8 ⟨82,0,82,8⟩=some (.next,sh (EZ ((w.withFollow "special-get-raises" false).withFollow "set-order" true).params) 391 os,c0,⟨83,0,83,6⟩):=by kernel_rfl
theorem Mn(w:Pm)(os:Dx):zC ((w.withFollow "special-get-raises" true).withFollow "set-order" false) 999 (sh (EY ((w.withFollow "special-get-raises" true).withFollow "set-order" false).params) 331 os) 8 ⟨82,0,82,8⟩=some (.next,sh (EZ ((w.withFollow "special-get-raises" true).withFollow "set-order" false).params) 391 os,c0,⟨83,0,83,6⟩):=by kernel_rfl
theorem Mp(w:Pm)(os:Dx):zC ((w.withFollow "special-get-raises" true).withFollow "set-order" true) 999 (sh (EY ((w.withFollow "special-get-raises" true).withFollow "set-order" true).params) 331 os) 8 ⟨82,0,82,8⟩=some (.next,sh (EZ ((w.withFollow "special-get-raises" true).withFollow "set-order" true).params) 391 os,c0,⟨83,0,83,6⟩):=by kernel_rfl
theorem Xy(w:Pm)(os:Dx):seg w 999 (sh (EY w.params) 331 os) 8 ⟨82,0,82,8⟩=some (.next,sh (EZ w.params) 391 os,c0,⟨83,0,83,6⟩):=by
 refine byRow2 (P:=λw=>∀os:Dx,seg w 999 (sh (EY w.params) 331 os) 8 ⟨82,0,82,8⟩=some (.next,sh (EZ w.params) 391 os,c0,⟨83,0,83,6⟩)) "set-order" (λw=>?_) (λw=>?_) w os
 ·exact byRow2 (P:=λw=>∀os:Dx,seg (w.withFollow "set-order" false) 999 (sh (EY (w.withFollow "set-order" false).params) 331 os) 8 ⟨82,0,82,8⟩=some (.next,sh (EZ (w.withFollow "set-order" false).params) 391 os,c0,⟨83,0,83,6⟩)) "special-get-raises" (λw os=>(ye ..).trans (Ml w os)) (λw os=>(ye ..).trans (Mn w os)) w
 ·exact byRow2 (P:=λw=>∀os:Dx,seg (w.withFollow "set-order" true) 999 (sh (EY (w.withFollow "set-order" true).params) 331 os) 8 ⟨82,0,82,8⟩=some (.next,sh (EZ (w.withFollow "set-order" true).params) 391 os,c0,⟨83,0,83,6⟩)) "special-get-raises" (λw os=>(ye ..).trans (Mm w os)) (λw os=>(ye ..).trans (Mp w os)) w
theorem Rw:Pc 30 EZ um 391 398 9 ⟨83,0,83,6⟩ ⟨84,0,85,30⟩:=λw os=>by kernel_rfl
theorem Mq:exec (st 10) mL=(do
  standAt ⟨86,0,86,8704⟩
  let v<-(do standAt ⟨86,16,86,8704⟩;dictDisplay (fH.map (zx ⟨86,16,86,8704⟩)))
  assignStores mL v none [assign (.Name (S "b3_exceptions") ⟨86,0,86,13⟩) mL]):=by kernel_rfl
noncomputable def incr:List Int->Bool|a::b::r=>decide (a<b)&&incr (b::r)|_=>true
theorem yf:∀(l:List Int) (a:Int),incr (a::l)=true->∀x∈l,a<x
|[],aR,bV,x,hx=>nomatch hx|b::l,a,h,x,hx=>by
 simp only[incr,vr,decide_eq_true_eq] at h;rcases Mine.bx hx with rfl|hx
 ·exact h.1
 ·exact Int.lt_trans h.1 (yf l b h.2 x hx)
theorem nQ:∀l:List Int,incr l=true->l.Nodup
|[],aR=>Iy|a::l,h=>Hk.mpr ⟨λq=>absurd (yf l a h a q) (Int.lt_irrefl a),nQ l (by
  cases l with |nil=>rfl|cons b l=>simp only[incr,vr] at h;exact h.2)⟩
theorem Jf:∀e∈fH,Et e:=λe he=>by
 obtain h:(fH.all λe=>decide (hashInt e.1=e.1)&&decide (rawHash e.1=e.1))=true:=by kernel_rfl
 obtain this:=Mine.cj h e he;simp only[vr,decide_eq_true_eq] at this;exact this
theorem Rx:(fH.map (·.1)).Nodup:=nQ _ (by kernel_rfl)
theorem Mr:fH.length=650:=by kernel_rfl
theorem Ry(w:Pm)(os:Dx):∃p,seg w 12525 (sh (um w.params) 398 os) 10 ⟨84,0,85,30⟩=some (.next,sh (Bh w.params) 2349 os,c0,p):=by
 have hL:=Mr;have hg:Bi 11 (um w.params).objs.size=true:=by kernel_rfl
 have hd:=Go.display (w:=w) (os:=os) (b:=um w.params) (p:=⟨86,16,86,8704⟩) (j:=38-1) (L:=fH) (T:=398) hg (by rw[hL];decide) (by rw[hL];decide) Jf Rx (by rw[hL];decide);have hs:∀v,storeName mL (S "b3_exceptions") v=nsSet mainNs (S "b3_exceptions") v:=λv=>by kernel_rfl
 have ho:(um w.params).get? mainNs=some (n3 w.params m2 16):=by kernel_rfl
 have hx:∃es m,(n3 w.params m2 16).data=.dict es m/\aRefKeyMayBeTheName (S "b3_exceptions") es=false:=⟨_,_,rfl,by kernel_rfl⟩;obtain⟨es,m,Xz,XA⟩:=hx;have XC:Go w 12524 (sh (um w.params) 398 os) (execs [st 10] mL) (sh (Bh w.params) 2349 os) .next:=by
  rw[execs_cons,Mq];refine Go.bind (n:=12524) (m:=0) (a:=Flow.next) (s':=sh (Bh w.params) 2349 os) ?_ (by show Go w 0 _ (execs [] mL) _ _;exact Go.pure');refine Go.bind (n:=1) (m:=12524-1) Go.standAt ?_;refine Go.bind (n:=12524-8) (m:=7) (Go.bind (n:=1) (m:=12524-9) Go.standAt (hd.cast (by rw[hL]))) ?_;show Go w 7 _ (aaq (.Name (S "b3_exceptions") ⟨86,0,86,13⟩) mL _>>=λc=>TK Flow.next) _ _;refine Go.bind (n:=7) (m:=0) (a:=()) ?_ Go.pure';show Go w 7 _ (standAt ⟨86,0,86,13⟩>>=λc=>bindName mL (S "b3_exceptions") _) _ _;refine Go.bind (n:=1) (m:=6) Go.standAt ?_;refine Go.bind (n:=1) (m:=5) (Go.holding Go.point) ?_;refine Go.bind (n:=4) (m:=1) (Go.zB (wA _ _ ho) Xz XA) ?_;rw[hL]
  have e:(HL (um w.params) (cA (ents 3 398 (fH.take (17* (38-1+1)))++ents 2 (398+51* (38-1+1)) (fH.drop (17* (38-1+1))))::(subsOf (38-1) (398+51) (fH.drop 17)++[cA (ents 2 (398+51* (38-1+1)) (fH.drop (17* (38-1+1))))]))).update mainNs
    (Nw.putName (S "b3_exceptions") (PyData.keyHash w.params (S "b3_exceptions")) (.str (S "b3_exceptions") (398+3* 650)) (.ref (um w.params).objs.size))=Bh w.params:=by kernel_rfl
  rw[e];exact Go.point
 obtain⟨p',hp⟩:=XC ⟨84,0,85,30⟩;refine⟨p',?_⟩;obtain h0:=hp doneF deadEnd id id 0;exact seg_go (n:=12524) (N:=1) h0 rfl
theorem Rz(w:Pm)(os:Dx)(p:aaK):seg w 31 (sh (Bh w.params) 2349 os) 11 p=some (.next,sh (L_ w.params) 2357 os,c0,⟨87,0,91,23⟩):=by kernel_rfl
theorem RA:Pc 10 L_ Ma 2357 2359 12 ⟨87,0,91,23⟩ ⟨92,0,92,8⟩:=λw os=>by kernel_rfl
theorem RB:Pc 33 Ma Mb 2359 2369 13 ⟨92,0,92,8⟩ ⟨93,0,96,16⟩:=λw os=>by kernel_rfl
theorem RC:Pc 34 Mb Mc 2369 2380 14 ⟨93,0,96,16⟩ ⟨97,0,101,231⟩:=λw os=>by kernel_rfl
theorem RD:Pc 37 Mc Me 2380 2394 15 ⟨97,0,101,231⟩ ⟨102,0,108,53⟩:=λw os=>by kernel_rfl
theorem RE:Pc 36 Me Mf 2394 2407 16 ⟨102,0,108,53⟩ ⟨109,0,116,33⟩:=λw os=>by kernel_rfl
theorem RG:Pc 36 Mf Mg 2407 2420 17 ⟨109,0,116,33⟩ ⟨117,0,122,15⟩:=λw os=>by kernel_rfl
theorem RH:Pc 27 Mg Mh 2420 2426 18 ⟨117,0,122,15⟩ ⟨123,0,131,36⟩:=λw os=>by kernel_rfl
theorem RI:Pc 35 Mh Mi 2426 2438 19 ⟨123,0,131,36⟩ ⟨132,0,138,14⟩:=λw os=>by kernel_rfl
theorem RJ:Pc 27 Mi Mj 2438 2444 20 ⟨132,0,138,14⟩ ⟨139,0,143,54⟩:=λw os=>by kernel_rfl
theorem RK:Pc 27 Mj Mk 2444 2450 21 ⟨139,0,143,54⟩ ⟨144,0,168,83⟩:=λw os=>by kernel_rfl
theorem RM:Pc 27 Mk nP 2450 2456 22 ⟨144,0,168,83⟩ ⟨169,0,204,172⟩:=λw os=>by kernel_rfl
def qv:Program:={pw with main:={pw.main with body:=[st 22]}}
def sf:List Str:=[S "_netrclex",S "TupleComp",S "add_func_stats",S "add_callers",S "count_calls",S "b1_set",S "in_table_b1",S "b3_exceptions",S "map_table_b3",S "_law_cells",S "_law_dresses",S "_law_written",S "_law_lexer",S "_law_book",S "_law_sorted",S "_law_met",S "_law_core",S "_law_solved"]
theorem RN(w:Pm)(os:Dx):topGo treeTable pw w 11 (some (.ref 6)) 12 (sh (boot_heap w.params) boot_toks os) (topStub pw)=some (sh (Qj w.params) 187 os,⟨denote treeTable c0,c0,⟨0,0,0,0⟩,[topFrame ⟨0,0,0,0⟩]⟩):=by kernel_rfl
theorem RO(w:Pm)(os:Dx):segRun treeTable pw w 11 (some (.ref 6)) 1 1 (sh (Qj w.params) 187 os) (blockOf (behindTheImports pw) mL c0 ⟨0,0,0,0⟩ [topFrame ⟨0,0,0,0⟩])=some (.next,sh (Qj w.params) 187 os,c0,⟨0,0,0,0⟩):=by kernel_rfl
theorem RP(w:Pm)(os:Dx):topRun treeTable pw w 11 (some (.ref 6)) 2 (sh (nP w.params) 2456 os) ⟨doneF .next,c0,⟨169,0,204,172⟩,[topFrame ⟨0,0,0,0⟩]⟩=some (sh (nP w.params) 2456 os):=by kernel_rfl
theorem Ms:behindTheImports pw=[st 0]++([st 1]++([st 2]++([st 3]++([st 4]++([st 5]++([st 6]++([st 7]++([st 8]++([st 9]++([st 10]++([st 11]++([st 12]++([st 13]++([st 14]++([st 15]++([st 16]++([st 17]++([st 18]++([st 19]++([st 20]++([st 21]++([st 22]++[])))))))))))))))))))))):=by kernel_rfl
theorem RQ(w:Pm)(os:Dx):topRun treeTable pw w 11 (some (.ref 6)) (12+(1+(10+(324+(10+(260+(41+(34+(32+(10+(999+(30+(12525+(31+(10+(33+(34+(37+(36+(36+(27+(35+(27+(27+(27+2))))))))))))))))))))))))) (sh (boot_heap w.params) boot_toks os) (topStub pw)=some (sh (nP w.params) 2456 os):=by obtain⟨p,hp⟩:=Ry w os;refine go_top (RN w os) (piece_block (RO w os) ?_);rw[Ms];exact FK (Xp w os) (FK (Xq w os) (FK (Xr w os) (FK (Xs w os) (FK (Xu w os) (FK (Xv w os) (FK (Xw w os) (FK (Xx w os) (FK (Xy w os) (FK (Rw w os) (FK hp (FK (Rz w os p) (FK (RA w os) (FK (RB w os) (FK (RC w os) (FK (RD w os) (FK (RE w os) (FK (RG w os) (FK (RH w os) (FK (RI w os) (FK (RJ w os) (FK (RK w os) (FK (RM w os) (piece_nil (RP w os))))))))))))))))))))))))
noncomputable def kA:List sx:=[3,4,5,6,7,8,9,10,11,13,14,15,16,17,18,20,21,22,24,25,27,28,29,31,32,34,35,36,38,39,41,42,43,45,46,48,49,50,51,52,53,54,55,56,57,58,59,60,62,63,64,66,67,69,70,71,73,74,76,77,78,79,80,81,82,83,84,85,87,88,90,91,92,94,95,97,98,99,101,102,104,105,106,107,108,109,110,111,112,113,114,115,116,117,119,120,122,123,124,163,165,166,168,169,170,172,173,175,176,177,179,180,182,183,184,186,187,189,190,191,193,194,196,197,198,200,201,203,204,205,208,209,210,212,213,215,216,217,220,221,222,225,226,227,230,231]
def oA(P:Hc)(n:Nat):Nw:=(aO P).getD n (qt #[])
def kF(P:Hc):Frag:=kA.map λa=>(a,oA P a)
noncomputable def kT:List sx:=[23,30,37,44,65,72,86,93,100,118,164,171,178,185,192,199,206,211,218,223,228]
def hk:Hook:=kmHook kF kA (λa=>rfl) kT
abbrev RT:oC->Bool:=λs=>xlAt qv [] s&&recOk [] s
theorem Mt(w:Pm):((boot_heap w.params).isNs mainGlobals&&(#[]:Array GenState).size==0,(boot_heap w.params).objs.size,(boot_heap w.params).nsMap mainGlobals "__annotations__")=(true,11,some (.ref 6)):=by kernel_rfl
theorem XD(w:Pm)(os:Dx):(staticsOk (importedModules pw.main.body) (boot_heap w.params) (nP w.params)&&namesBound pw (nP w.params)&&gensDone (sh (nP w.params) 2456 os)&&laidKept (boot_heap w.params) (nP w.params))=true:=by kernel_rfl
theorem XE(w:Pm)(os:Dx):openSeen qv sf (importedModules pw.main.body) RT true (sh (nP w.params) 2456 os)=openGood qv sf:=by kernel_rfl
theorem XF(w:Pm)(os:Dx):hk.obs (sh (nP w.params) 2456 os)=hk.val w:=by kernel_rfl
theorem Mu:LeftO pw qv sf RT hk.obs hk.val 29300 true:=
 LeftO.of_pieces (H₀:=boot_heap) (H₁:=nP) (gs₀:=#[]) (gs₁:=#[]) (d₀:=boot_drawn) (d₁:=boot_drawn) (k₀:=boot_toks) (k₁:=2456) (m₀:=11) (ann:=some (.ref 6)) (M:=(12+(1+(10+(324+(10+(260+(41+(34+(32+(10+(999+(30+(12525+(31+(10+(33+(34+(37+(36+(36+(27+(35+(27+(27+(27+2))))))))))))))))))))))))))
  (boot_open rfl rfl (λa=>rfl)) Mt RQ rfl (λw=>funext λos=>by rw[XD w os,XE w os,XF w os])
end
end Hd
end
noncomputable section
open PySem PySem.W PySem.Builtin PySem.Builtin.Str PyProof.Rows
namespace Mine
noncomputable abbrev T(x:String):Str:=t5 x
def d_(s:B2):A7:=⟨(c7 (Hd.fP s)).getD [],Hd.fB s,Hd.fS s⟩
noncomputable def XG:List (Nat×Nat):=[(8,24),(65,18),(110,29),(110,41),(110,45),(118,11),(124,22),(145,38),(145,68),(170,31)]
def XH:List Str:=[T "signs",T "marks",T "cells",T "plain",T "keys",T "price",T "ranks",T "ahead",T "letters",T "tells"]
noncomputable def cZ:List Int:=[173,847,6150,6155,6156,6157,8203,8204,8205,8288,65279,65024,65025,65026,65027,65028,65029,65030,65031,65032,65033,65034,65035,65036,65037,65038,65039]
def Mv:List Str:=[T "lineno",T "instream",T "whitespace",T "pushback",T "comp_select_list"]
def Bm:List (Str×V):=[(T "_netrclex",.cls 52),(T "TupleComp",.cls 80),(T "add_func_stats",.fn 91),(T "add_callers",.fn 98),(T "count_calls",.fn 105),(T "b1_set",.zv cZ),(T "in_table_b1",.fn 123),(T "b3_exceptions",.tabI Hd.fH),(T "map_table_b3",.fn 169),(T "_law_cells",.fn 176),(T "_law_dresses",.fn 183),(T "_law_written",.fn 190),(T "_law_lexer",.fn 197),(T "_law_book",.fn 204),(T "_law_sorted",.fn 209),(T "_law_met",.fn 216),(T "_law_core",.fn 221),(T "_law_solved",.fn 226),(T "law",.fn 231)]
def VV:List (Nat×A7):=[(28,d_ (Hd.cst 1 0)),(35,d_ (Hd.cst 1 1)),(42,d_ (Hd.cst 1 2)),(49,d_ (Hd.cst 1 3)),(70,d_ (Hd.cst 3 0)),(77,d_ (Hd.cst 3 1)),(91,d_ (Hd.st 4)),(98,d_ (Hd.st 5)),(105,d_ (Hd.st 6)),(123,d_ (Hd.st 9)),(169,d_ (Hd.st 11)),(176,d_ (Hd.st 13)),(183,d_ (Hd.st 14)),(190,d_ (Hd.st 15)),(197,d_ (Hd.st 16)),(204,d_ (Hd.st 17)),(209,d_ (Hd.st 18)),(216,d_ (Hd.st 19)),(221,d_ (Hd.st 20)),(226,d_ (Hd.st 21)),(231,d_ (Hd.st 22))]
def Jg:List (Nat×Ja):=[(52,⟨[(T "__init__",28),(T "_read_char",35),(T "get_token",42),(T "push_token",49)],Mv⟩),(80,⟨[(T "__init__",70),(T "compare",77)],Mv⟩)]
def C4:Cx:=⟨Bm,VV,Jg,λq=>XG.contains (q.line,q.col),λf=>[98,176,204,209,226].contains f,λx=>XH.contains x,100000⟩
def uq:List (sx×sx×Str):=[(27,23,T "_netrclex.__init__"++".<locals>."),(34,30,T "_netrclex._read_char"++".<locals>."),(41,37,T "_netrclex.get_token"++".<locals>."),(48,44,T "_netrclex.push_token"++".<locals>."),(69,65,T "TupleComp.__init__"++".<locals>."),(76,72,T "TupleComp.compare"++".<locals>."),(90,86,T "add_func_stats"++".<locals>."),(97,93,T "add_callers"++".<locals>."),(104,100,T "count_calls"++".<locals>."),(122,118,T "in_table_b1"++".<locals>."),(168,164,T "map_table_b3"++".<locals>."),(175,171,T "_law_cells"++".<locals>."),(182,178,T "_law_dresses"++".<locals>."),(189,185,T "_law_written"++".<locals>."),(196,192,T "_law_lexer"++".<locals>."),(203,199,T "_law_book"++".<locals>."),(208,206,T "_law_sorted"++".<locals>."),(215,211,T "_law_met"++".<locals>."),(220,218,T "_law_core"++".<locals>."),(225,223,T "_law_solved"++".<locals>."),(230,228,T "law"++".<locals>.")]
noncomputable abbrev lU:Program:=PySem.Challenge.rw_xb0034_02.row.prog
def Good(w:Pm):Prop:=∀{s:oC} {p:Program} {loose:List Str} {ur:ExcName->Option Value} {mg mb:Str->Option Value} {fa a:sx} {vs:List Value} {ns:List Int} {m:Nat} {E:Value->oC->Prop} (dp:(Hd.kF w.params).In s.heap) (TT:∀P∈Hd.kT,s.heap.get? P=some (tabObj #[])) (T:Top p loose ur mg mb s.heap)
  (hf:mg (Mine.T "law")=some (.ref fa)) (g:s.heap.get? a=some {cls:=.type "list",data:=.seq vs.toArray m}) (hI:IntsAre vs ns) (hl:ns.length<64),
si (model lU w) callerA (xi (.ref fa) [.ref a]) (λv s'=>v=.bool true/\OldK s.heap s'.heap/\s'.os=s.os/\s'.gens=s.gens) E s
noncomputable def w0:Pm:=@Classical.epsilon Pm ⟨⟨λa a=>0,⟨λa=>0,id,id,λa=>0,λa a=>0,λa=>true,λa=>0,.refcount,.text,λa=>0,λa=>none,λa=>false,λa a a=>true,λa a a=>true,true,λa=>false,λa=>none,λa=>none,λa a a=>0,λa a=>none,λa=>none,λa=>(0,false,"UTC"),λa=>none,id,λa=>false⟩⟩⟩ λw=>¬Good w
end Mine
end
noncomputable section
open PySem PySem.W PySem.Builtin PySem.Builtin.Str
namespace Mine
structure Gl where
 w:Pm
 prog:Program
 C:Cx
 fa:Nat->sx
 ca:Nat->sx
 zD:sx
 E0:sx
 cZ:List Int
 uu:List (Int×Str)
 tabs:List (sx×sx×Str)
 VW:Nat->Str
 VX:Nat->Value
def G:Gl:=⟨w0,lU,C4,λa=>a,λa=>a,113,124,cZ,Hd.fH,uq,λb=>T "",λb=>.none⟩
abbrev gM:Model:=model G.prog G.w
def Gl.fR(G:Gl)(a:sx):Prop:=∃c q,(c,a,q)∈G.tabs
structure Wd where
 φ:Nat->Option sx
 own:sx->Option Nat
 Z:sx->Option Nw
noncomputable abbrev ja(xs:Array Value)(n:Nat):Nw:={cls:=.type "list",data:=.seq xs n}
noncomputable abbrev qB(xs:Array Value)(n:Nat):Nw:={cls:=.type "tuple",data:=.seq xs n}
noncomputable abbrev dO(es:Array th)(n:Nat):Nw:={cls:=.type "dict",data:=.dict es n}
inductive RU(s:Str)(x:Value):Prop|mk(h:s.length<ai)(t:Tok)(e:x=.str s t)
inductive E4(Z:sx->Option Nw)(f:Array Value->Nat->Nw)(len:Nat)(R:List Value->Prop)(x:Value):Prop|mk(a:sx)(n:Nat)(xs:Array Value)(h1:x=.ref a)(h2:Z a=some (f xs n))(h3:len<ai)(h4:R xs.toList)
inductive Mw(Z:sx->Option Nw)(kvs:List (Str×V))(R:List th->Prop)(x:Value):Prop|mk(a:sx)(n:Nat)(es:Array th)(h1:x=.ref a)(h2:Z a=some (dO es n))(h3:a≠sysModules)(h4:(kvs.map (·.1)).Nodup)(h5:kvs.length<ai)(h6:R es.toList)
inductive RV(W:Wd)(k:Nat)(x:Value):Prop|mk(a:sx)(h1:x=.ref a)(h2:W.φ k=some a)
inductive XI(W:Wd)(k f:Nat)(x:Value):Prop|mk(a b:sx)(h1:x=.ref a)(h2:W.φ k=some b)(h3:W.Z a=some {cls:=.type "method",data:=.fields #[.ref (G.fa f),.ref b]})(h4:(jD G.C f).isSome)
inductive qC(Z:sx->Option Nw)(cd:Value)(q:Str):Prop|mk(c:sx)(oc:Nw)(vs:Array Value)(t:Tok)(h1:cd=.ref c)(h2:Z c=some oc)(h3:oc.data=.fields vs)(h4:vs[1]?=some (.str q t))
theorem qC.mono{Z Z':sx->Option Nw}{cd:Value}{q:Str}(h:qC Z cd q)(L:∀a o,Z a=some o->Z' a=some o):qC Z' cd q:=by
 induction h with |mk c oc vs t h1 h2 h3 h4=>exact⟨c,oc,vs,t,h1,L _ _ h2,h3,h4⟩
inductive RW(Z:sx->Option Nw)(ps:List Str)(body:Expr)(sc:te)(R:List (Str×sx)->Prop)(x:Value):Prop
|mk(a:sx)(o:Nw)(fd:FuncData)(h1:x=.ref a)(h2:Z a=some o)(h3:o.cls=.type "function")(h4:o.data=.func fd)(h5:c7 fd.params=some ps)(h6:fd.body=.expr body)(h7:fd.scope=sc)
  (h8:fd.globals=mainGlobals) (h9:fd.builtins=builtinsNs) (Mx:fd.defaults=.none) (RX:fd.kwdefaults=.none) (RY:qC Z fd.code fd.qualname) (XJ:R fd.closure)
inductive My(k:Str)(e:th):Prop|mk(h1:k.length<ai)(h2:e.hash=hashStr G.w k)(t:Tok)(h3:e.key=.str k t)
inductive Ia(Z:sx->Option Nw)(n:Str)(cl:List (Str×sx))(R:Value->Prop):Prop|mk(c:sx)(o:Nw)(y:Value)(h1:cl.lookup n=some c)(h2:Z c=some o)(h3:o.data=.cell (some y))(h4:R y)
mutual
def Rel(W:Wd):V->Value->Prop|.none,x=>x=.none|.bool b,x=>x=.bool b|.int i,x=>∃t,x=.int i t|.str s,x=>RU s x|.lst vs,x=>E4 W.Z ja vs.length (aG W vs) x|.tup vs,x=>E4 W.Z qB vs.length (aG W vs) x|.aE kvs,x=>Mw W.Z kvs (Reld W kvs) x|.t9 a b,x=>∃r t u v,x=.ref r/\W.Z r=some {cls:=.type "range",dict:=none,data:=.fields #[.int a t,.int b u,.int 1 v],slots:=#[]}/\Builtin.Range.small a b 1=true|.ref k,x=>RV W k x|.fn f,x=>x=.ref (G.fa f)/\(jD G.C f).isSome|.cls c,x=>x=.ref (G.ca c)|.blt i,x=>x=.builtin i|.typ i,x=>x=.type i|.bm k f,x=>XI W k f x|.r8 ps body sc dD,x=>RW W.Z ps body sc (mO W dD) x|.tabI kvs,x=>x=.ref G.E0/\kvs=G.uu|.zv xs,x=>x=.ref G.zD/\xs=G.cZ
def aG(W:Wd):List V->List Value->Prop|[],[]=>True|v::vs,x::xs=>Rel W v x/\aG W vs xs|aR,bV=>False
def Reld(W:Wd):List (Str×V)->List th->Prop|[],[]=>True|(k,v)::r,e::es=>My k e/\Rel W v e.val/\Reld W r es|aR,bV=>False
def mO(W:Wd):List (Str×V)->List (Str×sx)->Prop|[],aR=>True|(n,v)::r,cl=>Ia W.Z n cl (Rel W v)/\mO W r cl
end
structure Wd.Le(W W':Wd):Prop where
 z:∀a o,W.Z a=some o->W'.Z a=some o
 φ:∀k a,W.φ k=some a->W'.φ k=some a
theorem Wd.Le.refl(W:Wd):W.Le W:=⟨λa a h=>h,λa a h=>h⟩
theorem Wd.Le.trans{ag a9 cx:Wd}(x:ag.Le a9)(y:a9.Le cx):ag.Le cx:=⟨λa o h=>y.z a o (x.z a o h),λk a h=>y.φ k a (x.φ k a h)⟩
section
variable{W W':Wd}
mutual
theorem Rel.mono(L:W.Le W'):∀{v:V} {x:Value},Rel W v x->Rel W' v x
|.none,x,h=>h|.bool b,x,h=>h|.int i,x,h=>h|.str s,x,h=>h|.lst vs,x,h=>by obtain⟨a,n,xs,h1,h2,h5,h6⟩:=h;exact⟨a,n,xs,h1,L.z _ _ h2,h5,aG.mono L h6⟩
|.tup vs,x,h=>by obtain⟨a,n,xs,h1,h2,h5,h6⟩:=h;exact⟨a,n,xs,h1,L.z _ _ h2,h5,aG.mono L h6⟩
|.aE kvs,x,h=>by obtain⟨a,n,es,h1,h2,h0,hn,h5,h6⟩:=h;exact⟨a,n,es,h1,L.z _ _ h2,h0,hn,h5,Reld.mono L h6⟩
|.t9 a b,x,h=>by obtain⟨r,t,u,v,h1,h2,h3⟩:=h;exact⟨r,t,u,v,h1,L.z _ _ h2,h3⟩
|.ref k,x,h=>by obtain⟨a,h1,h2⟩:=h;exact⟨a,h1,L.φ _ _ h2⟩
|.fn f,x,h=>h|.cls c,x,h=>h|.blt i,x,h=>h|.typ i,x,h=>h|.bm k f,x,h=>by obtain⟨a,b,h1,h2,h3,h4⟩:=h;exact⟨a,b,h1,L.φ _ _ h2,L.z _ _ h3,h4⟩
|.r8 ps body sc dD,x,h=>by obtain⟨a,o,fd,h1,h2,h3,h4,h5,h6,h7,h8,h9,Mx,RX,RY,XK⟩:=h;exact⟨a,o,fd,h1,L.z _ _ h2,h3,h4,h5,h6,h7,h8,h9,Mx,RX,RY.mono L.z,mO.mono L XK⟩
|.tabI kvs,x,h=>h|.zv xs,x,h=>h
theorem aG.mono(L:W.Le W'):∀{vs:List V} {xs:List Value},aG W vs xs->aG W' vs xs|[],[],h=>trivial|v::vs,x::xs,h=>by exact⟨Rel.mono L h.1,aG.mono L h.2⟩|[],aR::bV,h=>xk h|aR::bV,[],h=>xk h
theorem Reld.mono(L:W.Le W'):∀{kvs:List (Str×V)} {es:List th},Reld W kvs es->Reld W' kvs es|[],[],h=>trivial|(k,v)::r,e::es,h=>by exact⟨h.1,Rel.mono L h.2.1,Reld.mono L h.2.2⟩|[],aR::bV,h=>xk h|aR::bV,[],h=>xk h
theorem mO.mono(L:W.Le W'):∀{dD:List (Str×V)} {cl:List (Str×sx)},mO W dD cl->mO W' dD cl|[],aR,h=>trivial|(n,v)::r,cl,h=>by obtain⟨⟨c,o,y,h1,h2,h3,h4⟩,h5⟩:=h;exact⟨⟨c,o,y,h1,L.z _ _ h2,h3,Rel.mono L h4⟩,mO.mono L h5⟩
end
end
def FldR(W:Wd)(m:Str->Option Value)(fs:List (Str×V)):Prop:=∀x,match fs.lookup x with |some v=>∃y,m x=some y/\Rel W v y|none=>m x=none
inductive Bo(W:Wd)(h:xI)(d:sx)(fs:List (Str×V)):Prop|mk(m:Str->Option Value)(h1:h.Ns1 d m)(h2:FldR W m fs)
inductive RZ(g:Option Nw)(f:Array Value->Nat->Nw)(len:Nat)(R:List Value->Prop):Prop|mk(n:Nat)(xs:Array Value)(h1:g=some (f xs n))(h2:len<ai)(h3:R xs.toList)
inductive R0(g:Option Nw)(a:sx)(kvs:List (Str×V))(R:List th->Prop):Prop|mk(n:Nat)(es:Array th)(h1:g=some (dO es n))(h2:a≠sysModules)(h3:(kvs.map (·.1)).Nodup)(h4:kvs.length<ai)(h5:R es.toList)
inductive Mz(W:Wd)(h:xI)(a:sx)(k c:Nat)(fs:List (Str×V)):Prop|mk(o:Nw)(d:sx)(h1:h.get? a=some o)(h2:o.cls=.ref (G.ca c))(h3:o.dict=some d)(h4:∀c,o.data≠.cls c)(h5:d≠a)(h6:W.own d=some k)(h7:fs.length<ai)(h8:Bo W h d fs)
inductive MA(W:Wd)(h:xI)(a:sx)(k:Nat)(o:Nw)(fs:List (Str×V)):Prop|mk(d:sx)(h1:fs≠[])(h2:o.dict=some d)(h3:d≠a)(h4:W.own d=some k)(h5:Bo W h d fs)
inductive R1(W:Wd)(h:xI)(a:sx)(k:Nat)(fs:List (Str×V)):Prop|mk(o:Nw)(fd:FuncData)(h1:h.get? a=some o)(h2:o.cls=.type "function")(h3:o.data=.func fd)(h4:(fs=[]/\o.dict=none)\/MA W h a k o fs)
inductive R2(h:xI)(a:sx)(live:Bool)(R S:Value->Prop):Prop|mk(o:Nw)(x y:Value)(h1:h.get? a=some o)(h2:o.cls=.type "callable_iterator")(h3:o.data=.fields (if live then #[x,y,.bool false] else #[.none,.none,.bool true]))(h4:live=true->R x/\S y)
def mP(W:Wd)(h:xI)(a:sx)(k:Nat):aF->Prop|.gone=>True|.lst vs=>RZ (h.get? a) ja vs.length (aG W vs)|.aE kvs=>R0 (h.get? a) a kvs (Reld W kvs)|.inst c fs=>Mz W h a k c fs|.qp _ fs=>R1 W h a k fs|.mK f stop live=>R2 h a live (Rel W f) (Rel W stop)
def pT(H:AH)(k:Nat):Prop:=∃o,H[k]?=some o/\(match o with |.gone=>False|_=>True)
def Bp(sc:te)(x:Str):Bool:=match kindOf sc x with
|some .local|some .cell=>true
|_=>false
def A7.ok(d:A7):Bool:=d.sc.kind==.function&&!d.sc.isCoroutine&&!d.sc.isGenerator&&d.params.all (Bp d.sc)&&decide (d.sc.names.map (·.1)).Nodup&&decide d.params.Nodup&&!h_ d.sc
inductive FnAt(h:xI)(f:Nat)(d:A7):Prop
|mk(o:Nw)(fd:FuncData)(h1:h.get? (G.fa f)=some o)(h2:o.cls=.type "function")(h3:o.data=.func fd)(h4:fd.body=.stmts d.body)(h5:fd.scope=d.sc)(h6:fd.globals=mainGlobals)(h7:fd.builtins=builtinsNs)(h8:fd.closure=[])
  (h9:fd.defaults=.none) (Mx:fd.kwdefaults=.none) (RX:c7 fd.params=some d.params) (RY:h.CodeRec fd.code fd.qualname) (XJ:∃c P,fd.code=.ref c/\(c,P,fd.qualname++".<locals>.")∈G.tabs)
structure MethAt(mN:Str->Option Value)(m:Str)(f:Nat):Prop where
 h1:mN m=some (.ref (G.fa f))
 h2:(jD G.C f).isSome
 h3:∃y,typeLookup (.type "object") m=pure y
inductive Jh(h:xI)(c:Nat)(d:Ja):Prop
|mk(nm q:Str)(N:sx)(bs:List Value)(sn:List Str)(sub:List Value)(col:Option Bool)(dd:Option sx)(k0 k1 k2 k3 k5:Option Value)(mN:Str->Option Value)(h1:h.get? (G.ca c)=some (excClassObj nm q (G.ca c) N bs [.type "object"] true sn sub false col dd k0 k1 k2 k3 k5 "object.__new__"))(h2:h.Ns N mN)
 (h3:mN "__getattribute__"=none) (h4:mN "__getattr__"=none) (h5:mN "__setattr__"=none) (h6:∀m f,d.meths.lookup m=some f->MethAt mN m f) (h7:∀a∈d.EM,mN a=none/\typeLookup (.type "object") a=pure none)
structure Bq(h:xI):Prop where
 noLimit:h.NoLimit
 mods:sysModules<h.objs.size
 fns:∀f d,jD G.C f=some d->d.ok=true/\FnAt h f d
 cls:∀c d,G.C.gG.lookup c=some d->Jh h c d
 bound:∀c d a f,G.C.gG.lookup c=some d->d.meths.lookup a=some f->∀{A:tj} {E:Value->oC->Prop} {Q:Value->oC->Prop} {s:oC} {x dx:sx} {o od:Nw} {es:Array th} {ep:Nat},s.heap=h->
  s.heap.get? x=some o->o.cls=.ref (G.ca c)->o.dict=some dx->(∀c,o.data≠.cls c)->s.heap.get? dx=some od->od.data=.dict es ep->StrKeys es->nsFind es a=none->
  Q (.ref s.heap.objs.size) {s with heap:=s.heap.push {cls:=.type "method",data:=.fields #[.ref (G.fa f),.ref x]},toks:=s.toks+1}->si gM A (getAttr (.ref x) a true) Q E s
 setIn:∀{A:tj} {E:Value->oC->Prop} {Q:Value->oC->Prop} {s:oC} {i:Int} {t:Tok},s.heap=h->(∀k,Q (.bool (G.cZ.contains i)) {s with toks:=k})->si gM A (compareOp .In (.int i t) (.ref G.zD)) Q E s
 Br:∀c P q c' q',(c,P,q)∈G.tabs->(c',P,q')∈G.tabs->q=q'
 Ib:∃es n,h.get? G.E0=some (dO es n)
 Bs:∀{A:tj} {E:Value->oC->Prop} {Q:Value->oC->Prop} {s:oC} {i:Int} {t:Tok},s.heap=h->(∀x,G.uu.lookup i=some x->∀t' k,Q (.str x t') {s with toks:=k})->(G.uu.lookup i=none->∀k,Q .none {s with toks:=k})->si gM A (call (.builtin "dict.get") [.ref G.E0,.int i t]) Q E s
 Bt:∀i x,G.uu.lookup i=some x->x.length<ai
 glob:∃mg mb,h.Ns mainGlobals mg/\h.Ns builtinsNs mb/\
  (∀x v,lookGlob G.C x=some v->∃y,(∀W,Rel W v y)/\(mg x=some y\/(mg x=none/\mb x=some y)))/\
  (∀c P q,(c,P,q)∈G.tabs->h.BuiltinsAt mg P/\mainGlobals≠P)
def Base(Z:sx->Option Nw):Prop:=∀h:xI,(∀a o,Z a=some o->h.get? a=some o)->Bq h
inductive TabAt(W:Wd)(h:xI)(c P:sx)(q:Str):Prop|mk(h1:CodeHd h c P)(h2:∃oc,W.Z c=some oc)(h3:W.Z P=none)(h4:W.own P=none)(ps:Array Value)(h5:h.get? P=some (tabObj ps))(h6:TriplesOk ps.toList)(h7:∀pos cv,codeAmong pos ps.toList=some cv->qC W.Z cv (q++"<lambda>"))
structure aN(W:Wd)(H:AH)(s:oC):Prop where
 z:∀a o,W.Z a=some o->s.heap.get? a=some o
 jV:∀k a,W.φ k=some a->W.own a=some k
 cH:∀a k,W.own a=some k->k<H.length/\a<s.heap.objs.size
 uv:∀a k,W.own a=some k->pT H k->W.Z a=none
 obj:∀k o,H[k]?=some o->∃a,W.φ k=some a/\mP W s.heap a k o
 tab:∀c P q,(c,P,q)∈G.tabs->TabAt W s.heap c P q
 base:Base W.Z
structure ah(W:Wd)(H:AH)(s:oC)(X:sx->Prop)(W':Wd)(H':AH)(s':oC):Prop where
 sim:aN W' H' s'
 le:W.Le W'
 yg:∀a k,W.own a=some k->W'.own a=some k
 Eu:∀a k,W'.own a=some k->W.own a=some k\/(s.heap.objs.size<=a/\H[k]?≠some aF.gone)
 yh:∀a o,W'.Z a=some o->W.Z a=some o\/s.heap.objs.size<=a\/(∃k,W.own a=some k/\pT H k)\/X a
 keep:∀a o,s.heap.get? a=some o->¬G.fR a->(∀k,W.own a=some k->¬pT H k)->¬X a->s'.heap.get? a=some o
 cl:∀a ps,G.fR a->s.heap.get? a=some (tabObj ps)->∃more,s'.heap.get? a=some (tabObj (ps++more))
 gone:∀k:Nat,H[k]?=some aF.gone->H'[k]?=some aF.gone
 len:H.length<=H'.length
 size:s.heap.objs.size<=s'.heap.objs.size
 os:s'.os=s.os
 gens:s'.gens=s.gens
theorem pT.lV{H:AH}{k:Nat}(h:¬pT H k)(hk:k<H.length):H[k]?=some aF.gone:=by
 obtain e:=sg hk;refine e.trans ?_;induction hg:H[k] with |gone=>rfl|_=>exact absurd ⟨_,e,by refine hg▸?_;trivial⟩ h
namespace ah
variable{W ag a9:Wd}{H H₁ H2:AH}{s s₁ ar:oC}{X X':sx->Prop}
theorem refl(S:aN W H s):ah W H s X W H s:=⟨S,.refl W,λa a h=>h,λa a h=>.inl h,λa a h=>.inl h,λa a h a a a=>h,λa ps a h=>⟨#[],by exact h⟩,λa h=>h,pd _,pd _,rfl,rfl⟩
theorem dead(P:ah W H s X ag H₁ s₁)(S:aN W H s){a:sx}(cF:a<s.heap.objs.size)(h:∀k,W.own a=some k->¬pT H k):∀k,ag.own a=some k->¬pT H₁ k:=by
 intro k hk hl;refine(P.Eu a k hk).elim (λh1=>?_) λh1=>?_
 ·obtain hg:=P.gone k (pT.lV (h k h1) (S.cH a k h1).1);obtain⟨o,ho,hn⟩:=hl;rw[hg] at ho;obtain rfl:=oy ho;exact hn
 ·exact absurd cF (vi h1.1)
theorem trans(S:aN W H s)(P:ah W H s X ag H₁ s₁)(Q:ah ag H₁ s₁ X a9 H2 ar):ah W H s X a9 H2 ar:=by
 refine⟨Q.sim,P.le.trans Q.le,λa k h=>Q.yg a k (P.yg a k h),?_,?_,?_,?_,λk h=>Q.gone k (P.gone k h),vb P.len Q.len,vb P.size Q.size,Q.os.trans P.os,Q.gens.trans P.gens⟩
 ·intro a k h;rcases Q.Eu a k h with h1|h1
  ·exact P.Eu a k h1
  ·exact .inr ⟨vb P.size h1.1,λe=>h1.2 (P.gone k e)⟩
 ·intro a o h;rcases Q.yh a o h with h1|h1|⟨k,h1,hl⟩|h1
  ·exact P.yh a o h1
  ·exact .inr (.inl (vb P.size h1))
  ·rcases P.Eu a k h1 with h2|h2
   ·refine .inr (.inr (.inl ⟨k,h2,?_⟩));refine xf λhn=>?_
    obtain hg:=P.gone k (pT.lV hn (S.cH a k h2).1);obtain⟨o,ho,hx⟩:=hl;rw[hg] at ho;obtain rfl:=oy ho;exact hx
   ·exact .inr (.inl h2.1)
  ·exact .inr (.inr (.inr h1))
 ·intro a o h hc hd hx;exact Q.keep a o (P.keep a o h hc hd hx) hc (P.dead S (ti h) hd) hx
 ·intro a ps ht h;refine(P.cl a ps ht h).elim λm1 h1=>?_
  refine(Q.cl a _ ht h1).elim λm2 h2=>?_
  exact⟨m1++m2,by simp only[h2,Array.append_assoc]⟩
theorem wk(P:ah W H s X ag H₁ s₁)(h:∀a,X a->X' a):ah W H s X' ag H₁ s₁:=
 {P with
  yh:=λa o ha=>(P.yh a o ha).imp id (Or.imp id (Or.imp id (h a)))
  keep:=λa o e hc hd hx=>P.keep a o e hc hd λhh=>hx (h a hh)}
theorem drop(P:ah W H s X ag H₁ s₁)(h:∀a,X a->X' a\/s.heap.objs.size<=a):ah W H s X' ag H₁ s₁:=
 {P with
  yh:=λa o ha=>by
   rcases P.yh a o ha with h1|h1|h1|h1
   ·exact .inl h1
   ·exact .inr (.inl h1)
   ·exact .inr (.inr (.inl h1))
   ·refine(h a h1).elim (λh2=>?_) λh2=>?_
    ·exact .inr (.inr (.inr h2))
    ·exact .inr (.inl h2)
  keep:=λa o e hc hd hx=>P.keep a o e hc hd λhh=>by
   refine(h a hh).elim (λh2=>?_) λh2=>?_
   ·exact hx h2
   ·exact absurd (ti e) (vi h2)}
theorem Ic(P:ah W H s X ag H₁ s₁)(h:∀a,X a->X' a\/∃k,W.own a=some k/\pT H k):ah W H s X' ag H₁ s₁:=
 {P with
  yh:=λa o ha=>by
   rcases P.yh a o ha with h1|h1|h1|h1
   ·exact .inl h1
   ·exact .inr (.inl h1)
   ·exact .inr (.inr (.inl h1))
   ·refine(h a h1).elim (λh2=>?_) λh2=>?_
    ·exact .inr (.inr (.inr h2))
    ·exact .inr (.inr (.inl h2))
  keep:=λa o e hc hd hx=>P.keep a o e hc hd λhh=>by
   rcases h a hh with h2|⟨k,h2,h3⟩
   ·exact hx h2
   ·exact hd k h2 h3}
theorem trans'{Y:sx->Prop}(S:aN W H s)(P:ah W H s X ag H₁ s₁)(Q:ah ag H₁ s₁ Y a9 H2 ar)(h:∀a,Y a->X a\/s.heap.objs.size<=a):ah W H s X a9 H2 ar:=((P.wk λb=>.inl).trans S (Q.wk h)).drop λb x=>x
end ah
end Mine
end
noncomputable section
namespace Mine
inductive Iz where
|at(i:Nat)|cast(t:Ln)|lit(n:Nat)|add(a b:Iz)|sub(a b:Iz)|neg(a:Iz)|mul(n:Nat)(a:Iz)|pR(n:Nat)(a:Iz)
namespace Iz
noncomputable def I8:List Int->Nat->Int|[],aR=>0|a::aR,0=>a|aR::v,i+1=>I8 v i
def den(u:List Nat)(v:List Int):Iz->Int|.at i=>I8 v i|.cast t=>(t.den u:Nat)|.lit n=>XB n|.add a b=>a.den u v+b.den u v|.sub a b=>a.den u v-b.den u v|.neg a=>-a.den u v|.mul n a=>XB n* a.den u v|.pR n a=>a.den u v* XB n
noncomputable def av(f:Nat->Int)(g:Ln->Int)(h:Nat->Int):Iz->Int|.at i=>f i|.cast t=>g t|.lit n=>h n|.add a b=>a.av f g h+b.av f g h|.sub a b=>a.av f g h+-1* b.av f g h|.neg a=>-1* a.av f g h|.mul n a=>XB n* a.av f g h|.pR n a=>XB n* a.av f g h
noncomputable def ci(i:Nat)(t:Iz):Int:=t.av (λj=>bif vT i j then 1 else 0) (λa=>0) λa=>0
noncomputable def cn(i:Nat)(t:Iz):Int:=t.av (λa=>0) (λt=>XB (t.co i)) λa=>0
noncomputable def c0(t:Iz):Int:=t.av (λa=>0) (λt=>XB t.c0) λn=>XB n
noncomputable def dec(f c:Nat):Iz×Nat:=match f with
|0=>(.lit 0,c)|f+1=>
 bif Bi (c %16) 5 then(.at (c %16),c/16)
 else bif vT (c %16) 6 then(.at (c/16 %16),c/256)
 else bif vT (c %16) 7 then match Ln.dec 64 (c/16) with |(t,r)=>(.cast t,r)
 else bif vT (c %16) 8 then match dec f (c/16) with |(a,c)=>match dec f c with |(b,c)=>(.add a b,c)
 else bif vT (c %16) 9 then(.lit (c/16 %16),c/256)
 else bif vT (c %16) 10 then match dec f (c/256) with |(a,r)=>(.mul (c/16 %16) a,r)
 else bif vT (c %16) 11 then match dec f (c/256) with |(a,r)=>(.pR (c/16 %16) a,r)
 else bif vT (c %16) 12 then match dec f (c/16) with |(a,c)=>match dec f c with |(b,c)=>(.sub a b,c)
 else bif vT (c %16) 13 then match dec f (c/16) with |(a,r)=>(.neg a,r)
 else(.lit (c/4096 %16^(c/16 %256)),c/4096/16^(c/16 %256))
def side(b:Bool)(c:Nat):Iz×Nat:=bif b then dec 64 c else match Ln.dec 64 c with |(t,r)=>(.cast t,r)
noncomputable def kU{α:Type}(p:Iz×Nat)(q:Nat->Iz×Nat)(m:Nat)(i:Bool)(t:Ln.Rk)(k:Nat->Bool->Ln.Rk->Iz->Iz->Nat->α):α:=match p with |(a,r)=>match q r with |(b,r)=>k m i t a b r
def zE(u:List Nat)(v:List Int)(k:Ln.Rk)(a b:Iz):Prop:=match k with |.le=>a.den u v<=b.den u v|.lt=>a.den u v<b.den u v|.eq=>a.den u v=b.den u v|.qe=>a.den u v=b.den u v|.AZ=>¬a.den u v<=b.den u v|.A0=>¬a.den u v<b.den u v|.no=>False
def Ji(a:Iz)(f:Ln->Prop)(g:Prop):Prop:=@Iz.casesOn (λb=>Prop) a (λb=>g) f (λb=>g) (λb b=>g) (λb b=>g) (λb=>g) (λb b=>g) (λb b=>g)
def Jj(u:List Nat)(v:List Int)(i:Bool)(k:Ln.Rk)(a b:Iz):Prop:=bif i then zE u v k a b else a.Ji (λx=>b.Ji (λy=>k.den u x y) (zE u v k a b)) (zE u v k a b)
def Dn(u:List Nat)(v:List Int):Nat->Nat->Prop|0,c=>kU (side (Bi 8 (c/16 %16)) (c/256)) (side (Bi 8 (c/16 %16))) (c %16) (Bi 8 (c/16 %16)) (.dec (c/16 %8)) λd i k a b d=>Jj u v i k a b|n+1,c=>kU (side (Bi 8 (c/16 %16)) (c/256)) (side (Bi 8 (c/16 %16))) (c %16) (Bi 8 (c/16 %16)) (.dec (c/16 %8)) λd i k a b c=>Jj u v i k a b->Dn u v n c
noncomputable def step(m e:Nat)(l r P:Iz):Iz:=.add (.mul m (.add (.sub l r) (.lit e))) P
def Jk(t:Bool)(m:Nat)(k:Ln.Rk)(a b P:Iz):Iz:=match k with |.le=>step m 0 a b P|.lt=>step m 1 a b P|.eq=>bif t then step m 0 a b P else step m 0 b a P|.qe=>bif t then step m 0 b a P else step m 0 a b P|.AZ=>step m 1 b a P|.A0=>step m 0 b a P|.no=>P
noncomputable def sgn:Int->Bool|.ofNat _=>true|.negSucc _=>false
noncomputable def R3:Int->Bool|.ofNat (_+1)=>true|_=>false
noncomputable def XM:Int->Bool|.ofNat 0=>true|_=>false
noncomputable def un(u:List Nat)(i:Nat)(P:Iz):Bool:=match u with |[]=>true|_::u=>sgn (P.cn i)&&un u (i+1) P
noncomputable def vn(v:List Int)(i:Nat)(P:Iz):Bool:=match v with |[]=>true|_::v=>XM (P.ci i)&&vn v (i+1) P
def fin(u:List Nat)(v:List Int)(P:Iz):Bool:=R3 P.c0&&(un u 0 P&&vn v 0 P)
def goal(u:List Nat)(v:List Int)(m:Nat)(k:Ln.Rk)(a b P Q:Iz):Bool:=match k with |.le=>fin u v (step m 1 b a P)|.lt=>fin u v (step m 0 b a P)|.eq=>fin u v (step (m %4) 1 b a P)&&fin u v (step (m/4) 1 a b Q)|.AZ=>fin u v (step m 0 a b P)|.A0=>fin u v (step m 1 a b P)|_=>fin u v P
noncomputable def dm(u:List Nat)(v:List Int)(q:Bool):Nat->Nat->Iz->Iz->Bool|0,c,P,Q=>kU (side (Bi 8 (c/16 %16)) (c/256)) (side (Bi 8 (c/16 %16))) (c %16) (Bi 8 (c/16 %16)) (.dec (c/16 %8)) λm d k a b d=>goal u v m k a b P Q|n+1,c,P,Q=>kU (side (Bi 8 (c/16 %16)) (c/256)) (side (Bi 8 (c/16 %16))) (c %16) (Bi 8 (c/16 %16)) (.dec (c/16 %8)) λm d k a b c=>dm u v q n c (Jk true (bif q then m %4 else m) k a b P) (Jk false (m/4) k a b Q)
noncomputable def di(v:List Int)(f:Nat->Int):Int:=match v with |[]=>0|a::v=>f 0* a+di v λi=>f (i+1)
abbrev dn(u:List Nat):(Nat->Int)->Int:=di (u.map XB)
theorem MB(a b c d:Int):a+b+(c+d)=a+c+(b+d):=by omega
theorem sj(u:List Int)(f g:Nat->Int):di u (λi=>f i+g i)=di u f+di u g:=by
 induction u generalizing f g with |nil=>rfl|cons a v ih=>exact(congr (congrArg Qr (Int.add_mul ..)) (ih ..)).trans (MB ..)
theorem Bu(u:List Int)(n:Int)(f:Nat->Int):di u (λi=>n* f i)=n* di u f:=by
 induction u generalizing f with |nil=>exact(Int.mul_zero n).symm|cons a v ih=>exact(congr (congrArg Qr (Int.mul_assoc ..)) (ih ..)).trans (Int.mul_add ..).symm
theorem j6(u:List Int):di u (λb=>0)=0:=by
 induction u with |nil=>rfl|cons a v ih=>exact(congr (congrArg Qr (Int.zero_mul a)) ih).trans rfl
theorem MC(v:List Int)(j:Nat):di v (λi=>bif vT i j then 1 else 0)=I8 v j:=by
 induction v generalizing j with |nil=>rfl|cons a v ih=>induction j with |zero=>exact(congr (congrArg Qr (Int.one_mul a)) (j6 v)).trans (aaf a)|succ j=>exact(congr (congrArg Qr (Int.zero_mul a)) (ih j)).trans (aac _)
theorem MD(u:List Nat)(f:Nat->Nat):dn u (λi=>XB (f i))=(Ln.dot u f:Nat):=by
 induction u generalizing f with |nil=>rfl|cons a u ih=>exact congrArg (XB (f 0)* XB a+·) (ih ..)
theorem R4{x c n i k:Int}(h:x=c+n+i):k* x=k* c+k* n+k* i:=h▸(Int.mul_add ..).trans (congrArg (·+_) (Int.mul_add ..))
theorem sum(u:List Nat)(v:List Int)(t:Iz):t.den u v=t.c0+dn u (λi=>t.cn i)+di v λi=>t.ci i:=by
 have mul (n:Int) (a:Iz) (h:a.den u v=a.c0+dn u (λi=>a.cn i)+di v λi=>a.ci i):n* a.den u v=n* a.c0+dn u (λi=>n* a.cn i)+di v λi=>n* a.ci i:=(R4 h).trans (congr (congrArg Qr (congrArg _ (Bu ..).symm)) (Bu ..).symm)
 have add (a b:Iz) (ha:a.den u v=a.c0+dn u (λi=>a.cn i)+di v λi=>a.ci i) (hb:b.den u v=b.c0+dn u (λi=>b.cn i)+di v λi=>b.ci i):a.den u v+b.den u v=(a.c0+b.c0)+dn u (λi=>a.cn i+b.cn i)+di v λi=>a.ci i+b.ci i:=(congr (congrArg Qr ha) hb).trans ((MB ..).trans (congr (congrArg Qr ((MB ..).trans (congrArg _ (sj ..).symm))) (sj ..).symm))
 induction t with |«at»j=>exact(MC v j).symm.trans ((aac _).symm.trans (congrArg (·+_) (((j6 _).symm.trans (aac _).symm))))|cast t=>exact(congrArg XB (Ln.sum u t)).trans ((congrArg (XB t.c0+·) (MD u _).symm).trans ((aaf _).symm.trans (congrArg (_+·) (j6 v).symm)))|lit n=>exact((aaf _).symm.trans (congrArg (_+·) (j6 _).symm)).trans ((aaf _).symm.trans (congrArg (_+·) (j6 v).symm))|add a b ha hb=>exact add a b ha hb|sub a b ha hb=>exact(Int.sub_eq_add_neg.trans (congrArg (_+·) (Int.neg_eq_neg_one_mul _))).trans ((congr (congrArg Qr ha) (mul (-1) b hb)).trans ((MB ..).trans (congr (congrArg Qr ((MB ..).trans (congrArg _ (sj ..).symm))) (sj ..).symm)))|neg a h=>exact(Int.neg_eq_neg_one_mul _).trans (mul (-1) a h)|mul n a h=>exact mul n a h|pR n a h=>exact(Int.mul_comm ..).trans (mul n a h)
theorem ME{u:List Nat}{i:Nat}{P:Iz}(h:un u i P=true):0<=dn u λj=>P.cn (j+i):=by
 induction u generalizing i with
 |nil=>exact Int.le_refl _|cons a u ih=>
  obtain⟨h1,h2⟩:=a_ h;refine Int.add_nonneg (Int.mul_nonneg ?_ (Kb a)) ?_
  ·show 0<=P.cn (0+i);rw[FR];induction e:P.cn i with |ofNat n=>exact Kb n|negSucc n=>rw[e] at h1;exact bE h1
  ·have :=ih h2;simp only[Nat.add_assoc,HI 1 i];exact this
theorem MF{v:List Int}{i:Nat}{P:Iz}(h:vn v i P=true):(di v λj=>P.ci (j+i))=0:=by
 induction v generalizing i with
 |nil=>rfl|cons a u ih=>
  obtain⟨h1,h2⟩:=a_ h;have e0:P.ci (0+i)=0:=by
   rw[FR];induction e:P.ci i with
   |ofNat n=>induction n with |zero=>rfl|succ n=>rw[e] at h1;exact bE h1
   |negSucc n=>rw[e] at h1;exact bE h1
  have :=ih h2;simp only[di,e0,Int.zero_mul,Nat.add_assoc,HI 1 i,this];rfl
theorem cL{u:List Nat}{v:List Int}{P:Iz}(h:fin u v P=true)(q:P.den u v<=0):False:=by
 obtain⟨h1,h2⟩:=a_ h;obtain⟨h2,h3⟩:=a_ h2;rw[sum] at q;have a:=ME h2
 have b:=MF h3;have c:0<P.c0:=by
  induction e:P.c0 with
  |ofNat n=>induction n with |zero=>rw[e] at h1;exact bE h1|succ n=>exact Int.natCast_pos.mpr (Sr n)
  |negSucc n=>rw[e] at h1;exact bE h1
 simp only[aab] at a b;omega
theorem aU{u:List Nat}{v:List Int}{m e:Nat}{l r P:Iz}(h:l.den u v+(e:Nat)<=r.den u v)(q:P.den u v<=0):(step m e l r P).den u v<=0:=by have :=Int.mul_le_mul_of_nonneg_left (show l.den u v-r.den u v+(e:Nat)<=0 by omega) (Kb m);rw[Int.mul_zero] at this;exact Int.add_le_add this q
theorem Bv{a:Iz}{f:Ln->Prop}{g:Prop}(h:∀t,a=.cast t->(f t↔g)):a.Ji f g↔g:=by
 induction a with |cast t=>exact h t rfl|_=>exact .rfl
theorem wD{u:List Nat}{v:List Int}{i:Bool}{k:Ln.Rk}{a b:Iz}:Jj u v i k a b↔zE u v k a b:=by
 induction i with
 |true=>exact .rfl|false=>
  refine Bv λx ha=>Bv λy hb=>?_
  subst ha hb;induction k with |le=>exact Int.ofNat_le.symm|lt=>exact aae.symm|eq=>exact Int.ofNat_inj.symm|qe=>exact Int.ofNat_inj.symm|AZ=>exact not_congr Int.ofNat_le.symm|A0=>exact not_congr aae.symm|no=>exact .rfl
theorem yi{u:List Nat}{v:List Int}{t:Bool}{m:Nat}{k:Ln.Rk}{a b P:Iz}(h:zE u v k a b)(q:P.den u v<=0):(Jk t m k a b P).den u v<=0:=by
 have z (x:Int):x+(0:Nat)=x:=aaf x;induction k with
 |le=>exact aU ((z _).symm▸h) q|lt=>exact aU h q|AZ=>exact aU (Int.lt_of_not_ge h) q|A0=>exact aU ((z _).symm▸aaw.mp h) q|no=>exact q|eq=>induction t;exact aU ((z _).symm▸Int.le_of_eq h.symm) q;exact aU ((z _).symm▸Int.le_of_eq h) q
 |qe=>induction t;exact aU ((z _).symm▸Int.le_of_eq h) q;exact aU ((z _).symm▸Int.le_of_eq h.symm) q
theorem r7{u:List Nat}{v:List Int}{m:Nat}{k:Ln.Rk}{a b P Q:Iz}(h:goal u v m k a b P Q=true)(p:P.den u v<=0)(q:Q.den u v<=0):zE u v k a b:=by
 have z (x:Int):x+(0:Nat)=x:=aaf x;induction k with |le=>exact aaw.mp λx=>cL h (aU x p)|lt=>exact Int.not_le.mp λx=>cL h (aU ((z _).symm▸x) p)|eq=>exact Int.le_antisymm (aaw.mp λx=>cL (a_ h).1 (aU x p)) (aaw.mp λx=>cL (a_ h).2 (aU x q))|AZ=>exact λx=>cL h (aU ((z _).symm▸x) p)|A0=>exact λx=>cL h (aU x p)|no=>exact cL h p|qe=>exact(cL h p).elim
theorem jY{α β:Type}{R:α->β->Prop}{p:Iz×Nat}{q:Nat->Iz×Nat}{m:Nat}{i:Bool}{t:Ln.Rk}{k:Nat->Bool->Ln.Rk->Iz->Iz->Nat->α}{k':Nat->Bool->Ln.Rk->Iz->Iz->Nat->β}(h:∀m i t a b c,R (k m i t a b c) (k' m i t a b c)):R (kU p q m i t k) (kU p q m i t k'):=h ..
theorem wm{u:List Nat}{v:List Int}{g:Bool}{n c:Nat}{P Q:Iz}(h:dm u v g n c P Q=true)(p:P.den u v<=0)(q:Q.den u v<=0):Dn u v n c:=by
 induction n generalizing c P Q with |zero=>exact jY (R:=λx y=>x=true->y) (λa a a a a a h=>wD.mpr (r7 h p q)) h|succ n ih=>exact jY (R:=λx y=>x=true->y) (λa a a a a a h x=>ih h (yi (wD.mp x) p) (yi (wD.mp x) q)) h
theorem go(c:Nat)(u:List Nat)(v:List Int)(h:dm u v (vT (c/16 %16) 1) (c %16) (c/256) (.lit 0) (.lit 0)=true):Dn u v (c %16) (c/256):=wm h (Int.le_refl _) (Int.le_refl _)
end Iz
theorem nR(c:Nat){a:Nat}(h:Iz.dm [a] [] (vT (c/16 %16) 1) (c %16) (c/256) (.lit 0) (.lit 0)=true):Iz.Dn [a] [] (c %16) (c/256):=Iz.go c _ _ h
theorem uw(c:Nat){x:Int}(h:Iz.dm [] [x] (vT (c/16 %16) 1) (c %16) (c/256) (.lit 0) (.lit 0)=true):Iz.Dn [] [x] (c %16) (c/256):=Iz.go c _ _ h
theorem v9(c:Nat){a b:Nat}(h:Iz.dm [a,b] [] (vT (c/16 %16) 1) (c %16) (c/256) (.lit 0) (.lit 0)=true):Iz.Dn [a,b] [] (c %16) (c/256):=Iz.go c _ _ h
theorem MG(c:Nat){a:Nat}{x:Int}(h:Iz.dm [a] [x] (vT (c/16 %16) 1) (c %16) (c/256) (.lit 0) (.lit 0)=true):Iz.Dn [a] [x] (c %16) (c/256):=Iz.go c _ _ h
theorem izE(c:Nat){a b d e:Nat}(h:Iz.dm [a,b,d,e] [] (vT (c/16 %16) 1) (c %16) (c/256) (.lit 0) (.lit 0)=true):Iz.Dn [a,b,d,e] [] (c %16) (c/256):=Iz.go c _ _ h
theorem MH(c:Nat){x y:Int}(h:Iz.dm [] [x,y] (vT (c/16 %16) 1) (c %16) (c/256) (.lit 0) (.lit 0)=true):Iz.Dn [] [x,y] (c %16) (c/256):=Iz.go c _ _ h
end Mine
end
noncomputable section
open PySem PySem.W PySem.Builtin PySem.Builtin.Str PyProof.Rows
namespace Mine
theorem aN.cO{W:Wd}{H:AH}{s:oC}(S:aN W H s):Bq s.heap:=S.base _ S.z
def ck(sc:te)(e:Ts)(a:sx):Prop:=a=e.locals\/∃x,kindOf sc x=some .cell/\e.cells.lookup x=some a
structure aq(sc:te)(env:af)(e:Ts)(W:Wd)(s:oC):Prop where
 kind:e.scope.kind=.function
 globals:e.globals=mainGlobals
 builtins:e.builtins=builtinsNs
 code:h_ sc=false->∃c P,e.code=.ref c/\(c,P,e.qual)∈G.tabs
 kinds:∀x k,kindOf sc x=some k->k≠.globalExplicit->e.kindOf x=some k\/(k=.free/\e.kindOf x=some .cell)
 locals:∃o es ep m,s.heap.get? e.locals=some o/\¬G.fR e.locals/\o.data=.dict es ep/\s.heap.Ns e.locals m/\W.own e.locals=none/\W.Z e.locals=none/\∀x v,kindOf sc x=some .local->aY env x=some v->∃y,m x=some y/\Rel W v y
 cells:∀x,kindOf sc x=some .cell->∃c o u,e.cells.lookup x=some c/\s.heap.get? c=some o/\¬G.fR c/\o.data=.cell u/\W.own c=none/\
  (match aY env x with |some v=>(∃y,u=some y/\Rel W v y)/\(if G.C.wo x then W.Z c=some o else W.Z c=none)|none=>W.Z c=none)
 frees:∀x v,kindOf sc x=some .free->aY env x=some v->∃c o y,e.cells.lookup x=some c/\s.heap.get? c=some o/\o.data=.cell (some y)/\Rel W v y/\(x==("__classdict__":Str))=false/\(W.Z c=some o\/(G.C.wo x=false/\W.own c=none/\¬G.fR c))
 inj:∀x y c,kindOf sc x=some .cell->(kindOf sc y=some .cell\/kindOf sc y=some .free)->e.cells.lookup x=some c->e.cells.lookup y=some c->x=y
theorem aq.old{sc:te}{env:af}{e:Ts}{W W':Wd}{H H':AH}{s s':oC}{X:sx->Prop}(x:aq sc env e W s)(P:ah W H s X W' H' s')
  (hX:∀a,X a->a≠e.locals/\∀y,(kindOf sc y=some .cell\/(kindOf sc y=some .free/\(aY env y).isSome=true))->e.cells.lookup y≠some a):aq sc env e W' s':=by
 have kp:∀a o,s.heap.get? a=some o->¬G.fR a->W.own a=none->¬X a->s'.heap.get? a=some o:=λa o h1 h2 h3 h4=>P.keep a o h1 h2 (λk hk=>by rw[h3] at hk;exact nE hk) h4
 have ow:∀a,a<s.heap.objs.size->W.own a=none->W'.own a=none:=λa h1 h2=>by
  induction hh:W'.own a with
  |none=>rfl|some k=>
   rcases P.Eu a k hh with h3|h3
   ·rw[h2] at h3;exact nE h3
   ·exact absurd h1 (vi h3.1)
 have zn:∀a,a<s.heap.objs.size->W.own a=none->¬X a->W.Z a=none->W'.Z a=none:=λa h1 h2 h3 h4=>by
  induction hh:W'.Z a with
  |none=>rfl|some o=>
   rcases P.yh a o hh with h5|h5|⟨k,h5,_⟩|h5
   ·rw[h4] at h5;exact nE h5
   ·exact absurd h1 (vi h5)
   ·rw[h2] at h5;exact nE h5
   ·exact absurd h5 h3
 refine⟨x.kind,x.globals,x.builtins,x.code,x.kinds,?_,?_,?_,x.inj⟩
 ·refine x.locals.elim λo Jl=>?_;refine Jl.elim λes R6=>?_;refine R6.elim λep Ew=>?_;refine Ew.elim λm wF=>?_;obtain h1:=wF.1;obtain h2:=wF.2.1;obtain h3:=wF.2.2.1;obtain h4:=wF.2.2.2.1;obtain h5:=wF.2.2.2.2.1;obtain h6:=wF.2.2.2.2.2.1;obtain h7:=wF.2.2.2.2.2.2
  obtain nx:=λh=>(hX _ h).1 rfl
  obtain lt:=ti h1;obtain VY:=kp _ _ h1 h2 h5 nx;refine⟨o,es,ep,m,VY,h2,h3,?_,ow _ lt h5,zn _ lt h5 nx h6,λy v hk hv=>?_⟩
  ·obtain⟨o',Jm,R7,e1,r⟩:=h4;rw[h1] at e1;obtain rfl:=oy e1;exact⟨o,Jm,R7,VY,r⟩
  ·obtain⟨z,hz,hr⟩:=h7 y v hk hv;exact⟨z,hz,hr.mono P.le⟩
 ·intro y hy;refine(x.cells y hy).elim λc R8=>?_;refine R8.elim λo Jo=>?_;refine Jo.elim λu mQ=>?_;obtain h1:=mQ.1;obtain h2:=mQ.2.1;obtain h3:=mQ.2.2.1;obtain h4:=mQ.2.2.2.1;obtain h5:=mQ.2.2.2.2.1;obtain h6:=mQ.2.2.2.2.2
  have nx:=λh=>(hX _ h).2 y (.inl hy) h1
  obtain lt:=ti h2;refine⟨c,o,u,h1,kp _ _ h2 h3 h5 nx,h3,h4,ow _ lt h5,?_⟩
  revert h6
  induction aY env y with
  |none=>exact zn _ lt h5 nx|some v=>
   rintro⟨⟨z,h7,h8⟩,h9⟩;refine⟨⟨z,h7,h8.mono P.le⟩,?_⟩;by_cases hw:G.C.wo y=true
   ·rw[if_pos hw] at h9⊢;exact P.le.z _ _ h9
   ·rw[if_neg hw] at h9⊢;exact zn _ lt h5 nx h9
 ·intro y v hy hv;refine(x.frees y v hy hv).elim λc R9=>?_;refine R9.elim λo R_=>?_;refine R_.elim λz zF=>?_;obtain h1:=zF.1;obtain h2:=zF.2.1;obtain h4:=zF.2.2.1;obtain h5:=zF.2.2.2.1;obtain h8:=zF.2.2.2.2.1;obtain h6:=zF.2.2.2.2.2
  rcases h6 with h6|⟨hw,h6,h3⟩
  ·exact⟨c,o,z,h1,P.sim.z _ _ (P.le.z _ _ h6),h4,h5.mono P.le,h8,.inl (P.le.z _ _ h6)⟩
  ·obtain nx:=λh=>(hX _ h).2 y (.inr ⟨hy,by rw[hv];rfl⟩) h1
   exact⟨c,o,z,h1,kp _ _ h2 h3 h6 nx,h4,h5.mono P.le,h8,.inr ⟨hw,ow _ (ti h2) h6,h3⟩⟩
theorem aq.expr{sc:te}{env:af}{e:Ts}{W W':Wd}{H H':AH}{s s':oC}(x:aq sc env e W s)(P:ah W H s (λa=>False) W' H' s'):aq sc env e W' s':=x.old P λa h=>h.elim
structure bC(A:tj)(n:Nat):Prop where
 handled:A.handled=none
 depth:A.depth+n<recursionLimit
 units:A.units+12* n<cLine
abbrev aQ:sx->Prop:=λa=>False
abbrev bf(W:Wd)(H:AH)(s:oC)(X:sx->Prop)(H':AH)(P:Wd->oC->Prop):oC->Prop:=λs'=>∃W',ah W H s X W' H' s'/\P W' s'
def lW(W:Wd):Fl->Flow->Prop|.next,f=>f=.next|.cont,f=>f=.cont|.ret v,f=>∃x,f=.ret x/\Rel W v x
theorem bC.le{A:tj}{n m:Nat}(h:bC A n)(hm:m<=n):bC A m:=⟨h.handled,by obtain this:=h.depth;exact e9 (nat_lit 0x230811130121081102) ae this hm,by obtain this:=h.units;lia⟩
theorem aN.toks{W:Wd}{H:AH}{s:oC}(S:aN W H s)(t:Nat):aN W H {s with toks:=t}:=⟨S.z,S.jV,S.cH,S.uv,S.obj,S.tab,S.base⟩
theorem ah.toks{W:Wd}{H:AH}{s:oC}(S:aN W H s)(X:sx->Prop)(t:Nat):ah W H s X W H {s with toks:=t}:=⟨S.toks t,.refl W,λa a h=>h,λa a h=>.inl h,λa a h=>.inl h,λa a h a a a=>h,λa ps a h=>⟨#[],by exact h⟩,λa h=>h,pd _,pd _,rfl,rfl⟩
section
variable{n:Nat}{A:tj}{E:Value->oC->Prop}{W:Wd}{H:AH}{s:oC}{sc:te}{env:af}{e':Ts}
theorem cB{X:sx->Prop}{P:Wd->oC->Prop}(S:aN W H s)(h:P W s):bf W H s X H P s:=⟨W,.refl S,h⟩
theorem cU{X:sx->Prop}{P:Wd->oC->Prop}(S:aN W H s)(t:Nat)(h:P W {s with toks:=t}):bf W H s X H P {s with toks:=t}:=⟨W,.toks S X t,h⟩
theorem nS{α:Type}{o:Option α}{H H':AH}{a:α}(h:opt o H=some (a,H')):o=some a/\H'=H:=by
 induction o with |none=>exact nE h|some b=>cases h;exact⟨rfl,rfl⟩
theorem cC{α:Type}{a b:α}{H H':AH}(h:(pure a:M α) H=some (b,H')):b=a/\H'=H:=by have h':=h;cases h';exact⟨rfl,rfl⟩
theorem k6{x:Str}{v:V}(h:d9 G.C sc env x=some v)(S:aN W H s)(N:aq sc env e' W s):
  si gM A (loadName e' x) (λy=>bf W H s aQ H λW' a=>Rel W' v y) E s:=by
 unfold d9 at h;induction hk:kindOf sc x with
 |none=>obtain h:=hk▸h;exact nE h
 |some k=>
  obtain h:=hk▸h;induction k with
  |«local»=>
   refine N.locals.elim λo Sa=>?_;refine Sa.elim λes Sb=>?_;refine Sb.elim λep Sd=>?_;refine Sd.elim λm MI=>?_;obtain h4:=MI.2.2.2.1;obtain h7:=MI.2.2.2.2.2.2
   refine(h7 x v hk h).elim λy Ql=>?_;obtain hy:=Ql.1;obtain hr:=Ql.2
   obtain i_:=(N.kinds x _ hk (by decide)).resolve_right (λq=>nomatch q.1);exact wpAny_loadName_local N.kind i_ h4 hy (cB S hr)
  |cell=>
   refine(N.cells x hk).elim λc MJ=>?_;refine MJ.elim λo MK=>?_;refine MK.elim λu yj=>?_;obtain h1:=yj.1;obtain h2:=yj.2.1;obtain h4:=yj.2.2.2.1;obtain h6:=yj.2.2.2.2.2
   dsimp only at h;rw[h] at h6;obtain⟨⟨y,rfl,hr⟩,_⟩:=h6;obtain i_:=(N.kinds x _ hk (by decide)).resolve_right (λq=>nomatch q.1);exact wpAny_loadName_cell N.kind i_ h1 ⟨o,h2,h4⟩ (cB S hr)
  |free=>
   refine(N.frees x v hk h).elim λc ML=>?_;refine ML.elim λo MM=>?_;refine MM.elim λy ux=>?_;obtain h1:=ux.1;obtain h2:=ux.2.1;obtain h4:=ux.2.2.1;obtain h5:=ux.2.2.2.1;obtain h8:=ux.2.2.2.2.1
   rcases N.kinds x _ hk (by decide) with i_|⟨_,i_⟩
   ·exact wpAny_loadName_free N.kind i_ h1 ⟨o,h2,h4⟩ (cB S h5) h8
   ·exact wpAny_loadName_cell N.kind i_ h1 ⟨o,h2,h4⟩ (cB S h5)
  |globalImplicit=>
   refine S.cO.glob.elim λmg z=>z.elim λmb z=>z.elim λg1 z=>z.elim λg2 z=>z.elim λg3 a=>?_
   obtain⟨y,hr,hy⟩:=g3 x v h;obtain i_:=(N.kinds x _ hk (by decide)).resolve_right (λq=>nomatch q.1);obtain core:si gM A (loadGlobal e' x) (λy=>bf W H s aQ H λW' a=>Rel W' v y) E s:=by
    rcases hy with hy|⟨hy,MN⟩
    ·exact Calls.loadGlobal_global (N.globals▸(g1)) hy (cB S (hr W))
    ·exact Calls.loadGlobal_builtin (N.globals▸(g1)) hy (by refine N.builtins▸?_;exact g2) MN (cB S (hr W))
   exact(PyProof.Rows.loadName_read N.kind i_).symm▸core
  |_=>exact nE h
theorem zG{α:Type}{t:Sem α}{H₁ H':AH}{X Y:sx->Prop}{Q:α->Wd->oC->Prop}{ag:Wd}{s₁:oC}(S:aN W H s)(aa:ah W H s Y ag H₁ s₁)
  (h2:si gM A t (λb=>bf ag H₁ s₁ X H' (Q b)) E s₁)(hY:∀a,Y a->X a:=by intro _ h;exact h.elim):
  si gM A t (λb=>bf W H s X H' (Q b)) E s₁:=
 wb h2 (λb ar ⟨a9,ab,hQ⟩=>⟨a9,(aa.wk hY).trans S ab,hQ⟩) λc c h=>h
end
theorem Base.mono{Z Z':sx->Option Nw}(h:Base Z)(hz:∀a o,Z a=some o->Z' a=some o):Base Z':=λh' hh=>h h' λa o e=>hh a o (hz a o e)
theorem FldR.mono{W W':Wd}{m:Str->Option Value}{fs:List (Str×V)}(x:FldR W m fs)(L:W.Le W'):FldR W' m fs:=λy=>by
 obtain this:=x y
 revert this
 induction fs.lookup y with |none=>exact λh=>h|some v=>exact λ⟨z,h1,h2⟩=>⟨z,h1,h2.mono L⟩
theorem Bo.keeps{W W':Wd}{h h':xI}{d:sx}{fs:List (Str×V)}(x:Bo W h d fs)(L:W.Le W')(hk:∀o,h.get? d=some o->h'.get? d=some o):Bo W' h' d fs:=by obtain⟨m,hn,hm⟩:=x;exact⟨m,hn.at hk,hm.mono L⟩
theorem mP.keeps{W W':Wd}{h h':xI}{a:sx}{k:Nat}{o:aF}(x:mP W h a k o)(L:W.Le W')(hO:∀b,W.own b=some k->W'.own b=some k)
  (ha:∀o,h.get? a=some o->h'.get? a=some o)(hd:∀b o,W.own b=some k->h.get? b=some o->h'.get? b=some o):mP W' h' a k o:=by
 induction o with
 |gone=>trivial|lst vs=>obtain⟨n,xs,h1,h2,h3⟩:=x;exact⟨n,xs,ha _ h1,h2,h3.mono L⟩
 |aE kvs=>obtain⟨n,es,h1,h0,hn,h2,h3⟩:=x;exact⟨n,es,ha _ h1,h0,hn,h2,h3.mono L⟩
 |inst c fs=>obtain⟨o,d,h1,h2,h3,h4,h6,h7,hz,h8⟩:=x;exact⟨o,d,ha _ h1,h2,h3,h4,h6,hO _ h7,hz,h8.keeps L λo e=>hd _ _ h7 e⟩
 |qp c fs=>
  obtain⟨o,fd,h1,h2,h3,h4⟩:=x;refine⟨o,fd,ha _ h1,h2,h3,?_⟩;rcases h4 with h4|⟨d,e1,e2,e3,e4,e5⟩
  ·exact .inl h4
  ·exact .inr ⟨d,e1,e2,e3,hO _ e4,e5.keeps L λo e=>hd _ _ e4 e⟩
 |mK f stop live=>obtain⟨o,y,z,h1,h2,h3,h4⟩:=x;exact⟨o,y,z,ha _ h1,h2,h3,λhl=>⟨(h4 hl).1.mono L,(h4 hl).2.mono L⟩⟩
section
variable{W W':Wd}{H:AH}{s s':oC}
theorem aN.grow(S:aN W H s)(hk:∀a o,s.heap.get? a=some o->s'.heap.get? a=some o)(hsz:s.heap.objs.size<=s'.heap.objs.size)(hφ:W'.φ=W.φ)(hO:W'.own=W.own)
  (hz:∀a o,W.Z a=some o->W'.Z a=some o)(MO:∀a o,W'.Z a=some o->W.Z a=some o\/(s.heap.objs.size<=a/\s'.heap.get? a=some o)):aN W' H s':=by
 obtain L:W.Le W':=⟨hz,λk a h=>by exact hφ▸(h)⟩;have zn:∀a,a<s.heap.objs.size->W.Z a=none->W'.Z a=none:=λa h1 h2=>by
  induction e:W'.Z a with
  |none=>rfl|some o=>
   rcases MO a o e with h3|h3
   ·rw[h2] at h3;exact nE h3
   ·exact absurd h1 (vi h3.1)
 refine⟨λa o e=>?_,λk a h=>?_,λa k h=>?_,λa k h hl=>?_,λk o h=>?_,λc P q hm=>?_,S.base.mono hz⟩
 ·refine(MO a o e).elim (λh=>?_) λh=>?_
  ·exact hk _ _ (S.z a o h)
  ·exact h.2
 ·obtain h:=hφ▸h;rw[hO];exact S.jV k a h
 ·rw[hO] at h;exact⟨(S.cH a k h).1,xp (S.cH a k h).2 hsz⟩
 ·rw[hO] at h;exact zn a (S.cH a k h).2 (S.uv a k h hl)
 ·refine(S.obj k o h).elim λa E5=>?_;obtain h1:=E5.1;obtain h2:=E5.2
  exact⟨a,by rw[hφ];exact h1,h2.keeps L (λb hb=>by exact hO▸(hb)) (λo e=>hk _ _ e) λb o d e=>hk _ _ e⟩
 ·obtain⟨h1,⟨oc,h0⟩,h2,nT,ps,h3,h4,h5⟩:=S.tab c P q hm;refine⟨h1.keeps hk,⟨oc,hz _ _ h0⟩,zn P (ti h3) h2,by refine hO▸?_;exact nT,ps,hk _ _ h3,h4,λpos cv hc=>(h5 pos cv hc).mono hz⟩
theorem ah.grow(S:aN W H s)(X:sx->Prop)(hk:∀a o,s.heap.get? a=some o->s'.heap.get? a=some o)(hsz:s.heap.objs.size<=s'.heap.objs.size)(hφ:W'.φ=W.φ)(hO:W'.own=W.own)
  (hz:∀a o,W.Z a=some o->W'.Z a=some o)(MO:∀a o,W'.Z a=some o->W.Z a=some o\/(s.heap.objs.size<=a/\s'.heap.get? a=some o))(tY:s'.os=s.os)(hg:s'.gens=s.gens):ah W H s X W' H s':=
 ⟨S.grow hk hsz hφ hO hz MO,⟨hz,λk a h=>by exact hφ▸(h)⟩,λa k h=>by rw[hO];exact h,λa k h=>.inl (by rw[hO] at h;exact h),λa o h=>(MO a o h).imp (λx=>x) λx=>.inl x.1,λa o e b b b=>hk _ _ e,λa ps b e=>⟨#[],by exact hk _ _ e⟩,λk h=>h,pd _,hsz,tY,hg⟩
noncomputable def Wd.add(W:Wd)(a:sx)(o:Nw):Wd:={W with Z:=λb=>if b=a then some o else W.Z b}
theorem Wd.bg(W:Wd)(a:sx)(o:Nw):(W.add a o).Z a=some o:=by simp[Wd.add]
theorem aN.Se(S:aN W H s){a:sx}{o:Nw}(h:W.Z a=some o):a<s.heap.objs.size:=ti (S.z a o h)
theorem aN.iG(S:aN W H s){a:sx}(h:s.heap.objs.size<=a):W.Z a=none:=by
 induction e:W.Z a with |none=>rfl|some o=>exact absurd (S.Se e) (vi h)
set_option tactic.hygienic true in
theorem ah.push(S:aN W H s)(X:sx->Prop)(o:Nw)(ho:o.isFreed=false:=by rfl)(t:Nat:=s.toks):ah W H s X (W.add s.heap.objs.size o) H {s with heap:=s.heap.push o,toks:=t}:=
 .grow S X (λa o' e=>px _ e) (by simp only[xc];exact aS (nat_lit 6719275264) ae) rfl rfl
  (λa o' h=>by refine(?_:(if a=s.heap.objs.size then some o else W.Z a)=some o');refine(if_neg (x5 (S.Se h)))▸?_;exact h)
  (λa o' h=>by
   have h':(if a=s.heap.objs.size then some o else W.Z a)=some o':=h;split at h'
   ·rename_i he;obtain rfl:=oy h';exact .inr ⟨he▸pd _,by rw[he];exact tc _ ho⟩
   ·exact .inl h') rfl rfl
theorem ah.gw(S:aN W H s)(X:sx->Prop)(o:Nw)(t:Nat:=s.toks):ah W H s X W H {s with heap:=s.heap.push o,toks:=t}:=.grow S X (λa o' e=>px _ e) (by simp only[xc];exact aS (nat_lit 6719275264) ae) rfl rfl (λa o' h=>h) (λa o' h=>.inl h) rfl rfl
theorem aG.length:∀{vs:List V} {xs:List Value},aG W vs xs->vs.length=xs.length|[],[],aR=>rfl|v::vs,x::xs,h=>by simp only[pE,aG.length h.2]|[],aR::bV,h=>xk h|aR::bV,[],h=>xk h
theorem aG.append:∀{vs:List V} {xs:List Value} {us:List V} {ys:List Value},aG W vs xs->aG W us ys->aG W (vs++us) (xs++ys)|[],[],aR,bV,iq,h=>h|v::vs,x::xs,aR,bV,h,h'=>by exact⟨h.1,h.2.append h'⟩|[],aR::bV,iq,yb,h,H8=>xk h|aR::bV,[],iq,yb,h,H8=>xk h
theorem aG.get:∀{vs:List V} {xs:List Value} {i:Nat} {v:V},aG W vs xs->vs[i]?=some v->∃x,xs[i]?=some x/\Rel W v x|[],aR,i,v,h,hv=>by simp at hv|v::vs,x::xs,0,u,h,hv=>by simp only[List.getElem?_cons_zero,aap] at hv⊢;subst hv;exact⟨x,rfl,h.1⟩|v::vs,x::xs,i+1,u,h,hv=>by exact h.2.get hv|aR::bV,[],iq,yb,h,H8=>xk h
theorem aG.take:∀{vs:List V} {xs:List Value} (n:Nat),aG W vs xs->aG W (vs.take n) (xs.take n)|[],[],n,aR=>by simp only[List.take_nil,List.take_nil];trivial|v::vs,x::xs,0,aR=>by trivial|v::vs,x::xs,n+1,h=>by exact⟨h.1,h.2.take n⟩|[],aR::bV,iq,h=>xk h|aR::bV,[],iq,h=>xk h
theorem aG.drop:∀{vs:List V} {xs:List Value} (n:Nat),aG W vs xs->aG W (vs.drop n) (xs.drop n)|[],[],n,aR=>by simp only[List.drop_nil,List.drop_nil];trivial|v::vs,x::xs,0,h=>h|v::vs,x::xs,n+1,h=>by exact h.2.drop n|[],aR::bV,iq,h=>xk h|aR::bV,[],iq,h=>xk h
end
section
variable{A:tj}{E:Value->oC->Prop}{W:Wd}{H:AH}{s:oC}
theorem bA{n:Nat}(h:n<ai):n<=sizeLine:=by rw[aak];unfold ai at h;exact aS (nat_lit 0x10000007f0011000006f01101) ae h
theorem cQ{n:Nat}(h:Mine.sizeOk n=true):n<ai:=by simpa [Mine.sizeOk,ai] using h
theorem gf{i:Int}(h:small i=true):aaB i<=128:=by
 obtain hn:=of_decide_eq_true h;unfold aaB;split
 ·exact zr _
 ·refine(Nat.eq_zero_or_pos i.natAbs).elim (λh0=>?_) λhp=>?_
  ·refine h0▸?_;decide
  ·obtain this:=(Nat.log2_lt (Nat.ne_of_gt hp)).mpr hn;assumption
theorem uy{i j:Int}(h:small i=true)(h':small j=true):IntMulOk i j:=IntMulOk.of_le (gf h) (gf h') (by decide)
theorem noPylong{i j:Int}(h:small j=true):Builtin.divisionGoesByPylong i j=false:=by
 refine PyProof.noPylong_of_log2 ?_;have hn:=of_decide_eq_true h
 refine(Nat.eq_zero_or_pos j.natAbs).elim (λh0=>?_) λhp=>?_
 ·refine h0▸?_;decide+kernel
 ·obtain this:=(Nat.log2_lt (Nat.ne_of_gt hp)).mpr hn;exact aS (nat_lit 0x23284f01180e01101) ae this
end
section
variable{W:Wd}{α:Type}{a:V}{x:Value}{c:α}{P:Value->Prop}
theorem iH{a b:Option α}{P:Prop}(h:alt a b=some c)(k:a=some c->P)(l:b=some c->P):P:=by
 induction a with |none=>exact l h|some _=>exact k h
@[elab_as_elim] theorem aJ.el{f:Int->Option α}(h:aJ a f=some c)(hx:Rel W a x)(k:∀i t,f i=some c->P (.int i t)):P x:=by
 induction a using V.casesOn with
 |int i=>obtain⟨t,rfl⟩:=hx;exact k i t h
 |_=>exact nE h
@[elab_as_elim] theorem onStr.el{f:Str->Option α}(h:onStr a f=some c)(hx:Rel W a x)(k:∀i t,i.length<ai->f i=some c->P (.str i t)):P x:=by
 induction a using V.casesOn with
 |str i=>obtain⟨hl,t,rfl⟩:=hx;exact k i t hl h
 |_=>exact nE h
@[elab_as_elim] theorem eJ.el{f:Bool->Option α}(h:eJ a f=some c)(hx:Rel W a x)(k:∀i,f i=some c->P (.bool i)):P x:=by
 induction a using V.casesOn with |bool i=>subst hx;exact k i h|_=>exact nE h
@[elab_as_elim] theorem kW.el{f:Option α}(h:kW a f=some c)(hx:Rel W a x)(k:f=some c->P .none):P x:=by
 induction a using V.casesOn with |none=>subst hx;exact k h|_=>exact nE h
theorem onSet.el{f:List Int->Option α}{P:Prop}(h:onSet a f=some c)(k:∀i,a=.zv i->f i=some c->P):P:=by
 induction a using V.casesOn with |zv i=>exact k i rfl h|_=>exact nE h
@[elab_as_elim] theorem xX.el{f:Nat->Option α}(h:xX a f=some c)(hx:Rel W a x)(k:∀i b,W.φ i=some b->f i=some c->P (.ref b)):P x:=by
 induction a using V.casesOn with
 |ref i=>obtain⟨b,rfl,hb⟩:=hx;exact k i b hb h
 |_=>exact nE h
@[elab_as_elim] theorem EN.el{f:Int->Option α}{g:Str->Option α}(h:EN a f g=some c)(hx:Rel W a x)(k:∀i t,f i=some c->P (.int i t))(l:∀i t,i.length<ai->g i=some c->P (.str i t)):P x:=by
 induction a using V.casesOn with
 |int i=>obtain⟨t,rfl⟩:=hx;exact k i t h
 |str i=>obtain⟨hl,t,rfl⟩:=hx;exact l i t hl h
 |_=>exact nE h
@[elab_as_elim] theorem lR.el{as:List V}{xs:List Value}{P:List Value->Prop}{f:V->Option α}(h:lR as f=some c)(r:aG W as xs)(k:∀v y,Rel W v y->f v=some c->P [y]):P xs:=by
 induction as using List.casesOn with |nil=>exact nE h|cons v as=>induction as using List.casesOn with |cons _ _=>exact nE h|nil=>induction xs using List.casesOn with |nil=>exact r.elim|cons y xs=>induction xs using List.casesOn with |cons _ _=>exact r.2.elim|nil=>exact k v y r.1 h
@[elab_as_elim] theorem v8.el{as:List V}{xs:List Value}{P:List Value->Prop}{f:V->V->Option α}(h:v8 as f=some c)(r:aG W as xs)(k:∀v y u z,Rel W v y->Rel W u z->f v u=some c->P [y,z]):P xs:=by
 induction as using List.casesOn with |nil=>exact nE h|cons v as=>induction as using List.casesOn with |nil=>exact nE h|cons u as=>induction as using List.casesOn with |cons _ _=>exact nE h|nil=>induction xs using List.casesOn with |nil=>exact r.elim|cons y xs=>induction xs using List.casesOn with |nil=>exact r.2.elim|cons z xs=>induction xs using List.casesOn with |cons _ _=>exact r.2.2.elim|nil=>exact k v y u z r.1 r.2.1 h
@[elab_as_elim] theorem xY.el{f:String->Option α}(h:xY a f=some c)(hx:Rel W a x)(k:∀i,f i=some c->P (.type i)):P x:=by
 induction a using V.casesOn with |typ i=>subst hx;exact k i h|_=>exact nE h
theorem lR.inv{as:List V}{P:Prop}{f:V->Option α}(h:lR as f=some c)(k:∀v,as=[v]->f v=some c->P):P:=by
 induction as with |nil=>exact nE h|cons v as=>induction as with |cons _ _=>exact nE h|nil=>exact k v rfl h
theorem v8.inv{as:List V}{P:Prop}{f:V->V->Option α}(h:v8 as f=some c)(k:∀v u,as=[v,u]->f v u=some c->P):P:=by
 induction as using List.casesOn with |nil=>exact nE h|cons v as=>induction as using List.casesOn with |nil=>exact nE h|cons u as=>induction as using List.casesOn with |cons _ _=>exact nE h|nil=>exact k v u rfl h
theorem aJ.inv{f:Int->Option α}{P:Prop}(h:aJ a f=some c)(k:∀i,a=.int i->f i=some c->P):P:=by
 induction a using V.casesOn with |int i=>exact k i rfl h|_=>exact nE h
theorem onStr.inv{f:Str->Option α}{P:Prop}(h:onStr a f=some c)(k:∀i,a=.str i->f i=some c->P):P:=by
 induction a using V.casesOn with |str i=>exact k i rfl h|_=>exact nE h
theorem uz{u v:V}{zs:List Value}(h:aG W [u,v] zs):∃y z,zs=[y,z]/\Rel W u y/\Rel W v z:=by
 induction zs using List.casesOn with |nil=>exact h.elim|cons y zs=>induction zs using List.casesOn with |nil=>exact h.2.elim|cons z zs=>induction zs using List.casesOn with |nil=>exact⟨y,z,rfl,h.1,h.2.1⟩|cons _ _=>exact h.2.2.elim
theorem ET.el{f:Option α}{P:Prop}(h:ET a f=some c)(k:∀i j,a=.bm i j->f=some c->P):P:=by
 induction a using V.casesOn with |bm i j=>exact k i j rfl h|_=>exact nE h
theorem sy{c:Bool}{a r:α}{P:Prop}(h:(bif c then some a else none)=some r)(k:c=true->a=r->P):P:=by
 induction c with |true=>exact k rfl (oy h)|false=>exact nE h
theorem dP.el{f:List V->Option α}{P:Prop}(h:dP a f=some c)(k:∀i,a=.lst i->f i=some c->P):P:=by
 induction a using V.casesOn with |lst i=>exact k i rfl h|_=>exact nE h
theorem jr.el{f:List V->Option α}{P:Prop}(h:jr a f=some c)(k:∀i,a=.tup i->f i=some c->P):P:=by
 induction a using V.casesOn with |tup i=>exact k i rfl h|_=>exact nE h
theorem iB.el{f:List (Str×V)->Option α}{P:Prop}(h:iB a f=some c)(k:∀i,a=.aE i->f i=some c->P):P:=by
 induction a using V.casesOn with |aE i=>exact k i rfl h|_=>exact nE h
end
section
variable{A:tj}{E:Value->oC->Prop}{W:Wd}{H:AH}{s:oC}
theorem cy{i:Int}{X:sx->Prop}(S:aN W H s):bf W H s X H (λW' a=>Rel W' (.int i) (.int i s.toks)) {s with toks:=s.toks+1}:=cU S _ ⟨_,rfl⟩
theorem gx{x:Str}{t u:Nat}{X:sx->Prop}(S:aN W H s)(hx:x.length<ai):bf W H s X H (λW' a=>Rel W' (.str x) (.str x t)) {s with toks:=u}:=cU S _ (⟨hx,_,rfl⟩)
theorem Jp{i j:Int}{t u:Tok}{Q:Value->oC->Prop}(hi:small i=true)(h0:0<=j)(h1:j<100)(h:∀t k,Q (.int (i^j.toNat) t) {s with toks:=k}):
  si gM A (binaryOp .Pow (.int i t) (.int j u)) Q E s:=by
 by_cases c1:(j==0)=true
 ·refine AutoIntOps.pow_0 h0 c1 ?_;have :j=0:=by simpa using c1
  subst this;have :=h s.toks (s.toks+1)
  exact(by simpa [Made.post] using this)
 ·by_cases c2:(i==0||i==1)=true
  ·refine AutoIntOps.pow_1 h0 c1 c2 ?_;have hj:j.toNat≠0:=by intro hh;apply c1;simp;exact MG (nat_lit 0x90a50098409021007b113) ae (aao (uw (nat_lit 653104087297) ae h0)) hh h0
   have e:i^j.toNat=i:=by
    simp at c2;rcases c2 with rfl|rfl
    ·exact Int.zero_pow hj
    ·exact Int.one_pow ..
   have :=h s.toks (s.toks+1);rw[e] at this;exact this
  ·by_cases c3:(i==-1)=true
   ·refine AutoIntOps.pow_2 h0 c1 c2 c3 ?_;have :i=-1:=by simpa using c3
    subst this;have e:(if(j %2==0)=true then(1:Int) else -1)=(-1)^j.toNat:=by
     have hj:j=(j.toNat:Int):=by exact MG (nat_lit 7740873749777) ae (aao (uw (nat_lit 653104087297) ae h0))
     generalize hm:j.toNat=m at hj;subst hj;have key:∀m:Nat,(if((m:Int) %2==0)=true then(1:Int) else -1)=(-1)^m:=by
      intro m;induction m with
      |zero=>rfl|succ m ih=>
       rw[Int.pow_succ,<-ih];by_cases hm:((m:Int) %2==0)=true
       ·have h2:¬(((m+1:Nat):Int) %2==0)=true:=by simp at hm⊢;omega
        rw[if_pos hm,if_neg h2];rfl
       ·have h2:(((m+1:Nat):Int) %2==0)=true:=by simp at hm⊢;omega
        rw[if_neg hm,if_pos h2];rfl
     exact key m
    rw[e];exact h _ _
   ·refine AutoIntOps.pow_4 h0 c1 c2 c3 ?_ (h _ _)
    have hb:=gf hi;unfold Builtin.Int.intTooBig;simp only[decide_eq_true_eq];have hb2:((aaB i:Nat):Int)* j<=128* 100:=by
     have h3:((aaB i:Nat):Int)<=128:=by exact nR (nat_lit 0x8002e078180e00101) ae hb
     calc ((aaB i:Nat):Int)* j<=128* j:=Int.mul_le_mul_of_nonneg_right h3 h0
      _<=128* 100:=by omega
    have :((12800:Nat):Int)<=(PySem.bitsLine:Nat):=by decide
    omega
set_option tactic.hygienic true in
theorem wG{x y:Str}{t u:Tok}{Q:Value->oC->Prop}(hz:(x++y).length<=sizeLine)(h:∀t k,Q (.str (x++y) t) {s with toks:=k}):
  si gM A (binaryOp .Add (.str x t) (.str y u)) Q E s:=by
 refine P.add_str ?_;obtain ex:x.length=0->x=Str.empty:=λh=>by induction x with |mk c=>simp only[Str.length] at h;rw[Array.size_eq_zero_iff.mp h];rfl
 obtain ey:y.length=0->y=Str.empty:=λh=>by induction y with |mk c=>simp only[Str.length] at h;rw[Array.size_eq_zero_iff.mp h];rfl
 split
 ·rename_i hx;obtain E6:x.length=0:=by simpa using hx
  rw[ex E6] at h;rw[Str.empty_append] at h;exact h u s.toks
 ·split
  ·rename_i hy;obtain MN:y.length=0:=by simpa using hy
   obtain h:=(ey MN)▸h;exact h t s.toks
  ·exact⟨hz,h _ _⟩
theorem yk{W':Wd}{v:V}{x:Value}(h:Rel W' v x):∀k:Nat,aG W' (t4 k v) (t4 k x)|0=>trivial|k+1=>⟨h,yk h k⟩
theorem uA(x:Value):∀(k:Nat) (acc:Array Value),(List.foldl (λx1 x2=>x1++x2) acc (t4 k #[x])).toList=acc.toList++t4 k x|0,acc=>(rn _).symm|k+1,acc=>by simp only[List.replicate_succ,Jn,uA x k,aaH,ta];rfl
theorem k7{α:Type}{c:Bool}{a r:α}{P:Prop}(h:(if c=true then some a else none)=some r)(k:c=true->a=r->P):P:=by
 cases c with |true=>exact k rfl (oy h)|false=>exact nE h
theorem zH{a b c:V}{x y:Value}(h:A8 a b=some c)(S:aN W H s)(hx:Rel W a x)(hy:Rel W b y):si gM A (binaryOp .Add x y) (λz=>bf W H s aQ H λW' d=>Rel W' c z) E s:=by
 induction a using V.casesOn with
 |int i=>obtain⟨t,rfl⟩:=hx;exact aJ.el h hy λj u h=>oy h▸P.add_int (cy S)
 |str p=>obtain⟨_,t,rfl⟩:=hx;exact onStr.el h hy λq u d h=>k7 h λhs h=>have hz:=strLen_append ..▸cQ hs;h▸wG (bA hz) λt k=>gx S hz
 |lst p=>
   refine dP.el h λq e h=>?_
   cases e;obtain⟨a1,n1,E7,rfl,z1,l1,r1⟩:=hx;obtain⟨a2,n2,Jq,rfl,z2,l2,r2⟩:=hy;refine k7 h λhs h=>h▸?_
   have hz:=cQ hs;have e1:p.length=E7.size:=r1.length;have e2:q.length=Jq.size:=r2.length
   exact P.add_list (S.z _ _ z1) (S.z _ _ z2) ⟨_,.push S aQ _,_,_,_,rfl,Wd.bg ..,pj ..▸hz,(show(E7++Jq).toList=E7.toList++Jq.toList from aaH ..)▸(r1.append r2).mono (ah.push S aQ _).le⟩ (bA (e1▸e2▸hz))
 |tup p=>
   refine jr.el h λq e h=>?_
   cases e;obtain⟨a1,n1,E7,rfl,z1,l1,r1⟩:=hx;obtain⟨a2,n2,Jq,rfl,z2,l2,r2⟩:=hy;refine k7 h λhs h=>h▸?_
   obtain h1:=a_ hs;obtain h2:=a_ h1.1;obtain hz:=cQ h1.2;have e1:p.length=E7.size:=r1.length;have e2:q.length=Jq.size:=r2.length
   have ne:∀{l:List V} {xs:Array Value},l.length=xs.size->(l.length !=0)=true->¬xs.isEmpty=true:=λe h q=>bne_iff_ne.mp h (e.trans (Array.isEmpty_iff_size_eq_zero.mp q))
   exact P.add_tuple (S.z _ _ z1) (S.z _ _ z2) (ne e1 h2.1) (ne e2 h2.2) ⟨_,.push S aQ _,_,_,_,rfl,Wd.bg ..,pj ..▸hz,(show(E7++Jq).toList=E7.toList++Jq.toList from aaH ..)▸(r1.append r2).mono (ah.push S aQ _).le⟩ (bA (e1▸e2▸hz))
 |_=>exact nE h
theorem E8{a1:sx}{n1:Nat}{v:V}{x:Value}{j:Int}{u:Tok}(S:aN W H s)(z1:W.Z a1=some (ja #[x] n1))(r1:Rel W v x)(h0:0<=j)(hj:j<1000):si gM A (binaryOp .Mult (.ref a1) (.int j u)) (λz=>bf W H s aQ H λW' a=>Rel W' (.lst (t4 j.toNat v)) z) E s:=by
 obtain g:=S.z _ _ z1;obtain hn:=Int.toNat_le.mpr (Int.le_of_lt hj);obtain hm:=vb (Fu (Nat.one_mul _)) hn
 refine wpAny_binaryOp_repeat_ref rfl ⟨_,g,rfl⟩ (λs'=>typeIs_int s' j u) noFill_list_mul F.fills_int_mul F.slot_int_rmul repeat_list F.slot_int_index.lookup
  (call_meets F.slot_int_rmul (typeIs_int s j u) F.entry_int_rmul (F.args_int_rmul_2 _ _) (int___rmul___int_list j u a1 #[x] n1)
   ⟨g,rfl,⟨_,g,rfl⟩,call_meets F.slot_list_mul ⟨_,g,rfl⟩ F.entry_list_mul (F.args_list_mul_2 _ _)
    (lm_list_mul_any a1 #[x] n1 none #[] j u ?_ (vi (vb hm (by decide))) (λq=>absurd (of_decide_eq_true q) (vi (vb hm (by decide))))) ⟨g,?_⟩⟩)
 ·refine(show Builtin.List.listFitsIndex j=true from bX ⟨decide_eq_true (Int.le_trans (by decide) h0),decide_eq_true (Int.lt_trans hj (by decide))⟩).symm▸?_;exact wy
 ·exact⟨_,.push S aQ _,_,_,_,rfl,Wd.bg ..,(List.length_replicate ..)▸vw hn (show 1000<ai by decide),(uA x j.toNat #[]).symm▸yk (r1.mono (ah.push S aQ _).le) _⟩
theorem Bw{op:Operator}{a b c:V}{x y:Value}(h:binop op a b=some c)(S:aN W H s)(hx:Rel W a x)(hy:Rel W b y):
  si gM A (binaryOp op x y) (λz=>bf W H s aQ H λW' d=>Rel W' c z) E s:=by
 induction op with
 |Add=>exact zH h S hx hy|Mult=>induction a using V.casesOn with
  |int i=>obtain⟨t,rfl⟩:=hx;exact aJ.el h hy λj u h=>k7 h λhs h=>have q:=a_ hs;h▸P.mul_int (cy S) (uy q.1 q.2)
  |lst p=>
   obtain⟨a1,n1,⟨E7⟩,rfl,z1,l1,r1⟩:=hx;refine aJ.el h hy λj u h=>?_
   induction p using List.casesOn with |nil=>exact nE h|cons v p=>induction p using List.casesOn with |cons _ _=>exact nE h|nil=>induction E7 using List.casesOn with |nil=>exact r1.elim|cons x r=>induction r using List.casesOn with |cons _ _=>exact r1.2.elim|nil=>exact k7 h λhs h=>have q:=a_ hs;h▸E8 S z1 r1.1 (of_decide_eq_true q.1) (of_decide_eq_true q.2)
  |_=>exact nE h
 |Sub=>exact aJ.el h hx λi t h=>aJ.el h hy λj u h=>oy h▸P.sub_int (cy S)|FloorDiv=>
   refine aJ.el h hx λi t h=>aJ.el h hy λj u h=>k7 h λhs h=>?_
   obtain q:=a_ hs;exact h▸AutoIntOps.floordiv_1 (λe=>bne_iff_ne.mp q.1 (eq_of_beq e)) ((noPylong q.2)▸(wy)) (cy S)
 |Mod=>exact aJ.el h hx λi t h=>aJ.el h hy λj u h=>k7 h λhs h=>h▸AutoIntOps.mod_1 (λe=>bne_iff_ne.mp hs (eq_of_beq e)) (cy S)|Pow=>
   refine aJ.el h hx λi t h=>aJ.el h hy λj u h=>k7 h λhs h=>?_
   have q:=a_ hs;have q1:=a_ q.1
   exact h▸Jp q1.1 (of_decide_eq_true q1.2) (of_decide_eq_true q.2) λt k=>cU S _ ⟨_,rfl⟩
 |_=>exact nE h
end
section
variable{n:Nat}{A:tj}{E:Value->oC->Prop}{W:Wd}{H H':AH}{s:oC}{sc:te}{env:af}{e':Ts}
theorem lX(xs:Array Value):(!xs.isEmpty)=(xs.size !=0):=by rfl
set_option tactic.hygienic true in
theorem dR{k:Nat}{o:aF}(h:hget k H=some (o,H')):H[k]?=some o/\pT H k/\H'=H:=by
 unfold hget at h;split at h
 ·exact nE h
 ·rename_i o' hn ho;cases h;refine⟨ho,⟨o,ho,?_⟩,rfl⟩;induction o<;>first|trivial|exact hn ho
 ·exact nE h
theorem aN.at(S:aN W H s){k:Nat}{o:aF}{a:sx}(h:H[k]?=some o)(ha:W.φ k=some a):mP W s.heap a k o:=by obtain⟨a',h1,h2⟩:=S.obj k o h;rw[ha] at h1;obtain rfl:=oy h1;exact h2
theorem wH{v:V}{b:Bool}{x:Value}(h:Qi v H=some (b,H'))(S:aN W H s)(r:Rel W v x){Q:Bool->oC->Prop}
  (k:∀t,Q b {s with toks:=t})(hH:H'=H:=by rfl):si gM A (truthy x) Q E s:=by
 induction v using V.casesOn with
 |none=>obtain Qm:=(cC h).1;subst Qm;subst r;exact truthy_none (k s.toks)
 |bool c=>obtain MP:=(cC h).1;subst MP;subst r;exact wpAny_truthy_bool (k s.toks)
 |int i=>obtain⟨rfl,_⟩:=cC h;obtain⟨t,rfl⟩:=r;exact P.truthy_int (k s.toks)
 |str y=>
  obtain⟨rfl,_⟩:=cC h;obtain⟨hz,t,rfl⟩:=r;refine P.truthy_str (by unfold ai at hz;exact nR (nat_lit 0x9096107800000000000000010e811000006f01102) ae hz) ?_;obtain e:((y.length:Int)!=0)=(y.length !=0):=by rw[Bool.eq_iff_iff];simp
  rw[e];exact k _
 |lst vs=>obtain⟨rfl,_⟩:=cC h;obtain⟨a,n,xs,rfl,z,hz,rs⟩:=r;obtain el:=rs.length;simp only[D2] at el;obtain il:s.heap.IsList a xs:=⟨_,S.z _ _ z,rfl,n,rfl⟩;refine wpAny_truthy_list il (by unfold ai at hz;exact v9 (nat_lit 0x800000000000000010e17911000006f011103102) ae el hz) ?_;rw[lX,<-el];exact k _
 |ref j=>
  refine cY h λo H₁ h1 h2=>?_
  obtain⟨ho,hn,rfl⟩:=dR h1;obtain⟨a,rfl,ha⟩:=r;obtain O:=S.at ho ha;induction o with
  |lst vs=>obtain⟨rfl,_⟩:=cC h2;obtain⟨n,xs,g1,hz,rs⟩:=O;obtain el:=rs.length;simp only[D2] at el;obtain il:s.heap.IsList a xs:=⟨_,g1,rfl,n,rfl⟩;refine wpAny_truthy_list il (by unfold ai at hz;exact v9 (nat_lit 0x800000000000000010e17911000006f011103102) ae el hz) ?_;rw[lX,<-el];exact k _
  |_=>exact nE h2
 |_=>exact nE h
theorem wI{M:Model}{E:Value->oC->Prop}{l r:Expr}{op:CmpOp}{p:aaK}{Q:Bool->oC->Prop}{s:oC}(h:si M A (eval (.Compare l [op] [r] p) e') (λv s₁=>si M A (truthy v) Q E s₁) E s):
  si M A (isTrue (.Compare l [op] [r] p) e' (eval (.Compare l [op] [r] p) e')) Q E s:=λΓ q hΓ=>by
 obtain h':=h Γ q hΓ;simp only[isTrue_Compare1];simp only[eval_Compare1] at h';simp only[Sem.wp_bind',Sem.wp_holding,Sem.wp_cmd_standAt,Sem.wp_operate] at h'⊢;refine Sem.wp_mono M Γ _ (λa mM s₁ bo=>Sem.wp_mono M Γ _ (λb nr ar gN=>Sem.wp_mono M Γ _ (λc nz da eP=>eP Γ _ hΓ) (λd d d h'=>h') _ _ gN) (λd d d h'=>h') _ _ bo) (λd d d h'=>h') _ _ h'
end
noncomputable def Wd.ref(W:Wd)(k:Nat)(a:sx):Wd:={W with φ:=λj=>if j=k then some a else W.φ j,own:=λb=>if b=a then some k else W.own b}
section
variable{n:Nat}{A:tj}{E:Value->oC->Prop}{W:Wd}{H H':AH}{s:oC}{sc:te}{env:af}{e':Ts}
theorem Wd.iI(S:aN W H s){k:Nat}{a:sx}(hk:H.length<=k):W.Le (W.ref k a):=
 ⟨λc c h=>h,λj b h=>by
  refine(?_:(if j=k then some a else W.φ j)=some b);have :=(S.cH b j (S.jV j b h)).1
  refine(if_neg (aW (nat_lit 0x9096120312101101103) ae this hk)).trans ?_;exact h⟩
set_option tactic.hygienic true in
theorem ah.new(S:aN W H s)(X:sx->Prop)(o:aF)(ob:Nw)(hf:ob.isFreed=false)(t:Nat)
  (hr:mP (W.ref H.length s.heap.objs.size) (s.heap.push ob) s.heap.objs.size H.length o):
  ah W H s X (W.ref H.length s.heap.objs.size) (H++[o]) {s with heap:=s.heap.push ob,toks:=t}:=by
 have L:W.Le (W.ref H.length s.heap.objs.size):=Wd.iI S (pd _);have kp:∀a o,s.heap.get? a=some o->(s.heap.push ob).get? a=some o:=λa o e=>px _ e
 have ow:∀a k,(W.ref H.length s.heap.objs.size).own a=some k->(a=s.heap.objs.size/\k=H.length)\/(a≠s.heap.objs.size/\W.own a=some k):=by
  intro a k h;have h':(if a=s.heap.objs.size then some H.length else W.own a)=some k:=h
  split at h'
  ·rename_i e;obtain rfl:=oy h';exact .inl ⟨e,rfl⟩
  ·rename_i e;exact .inr ⟨e,h'⟩
 have yg:∀a k,W.own a=some k->(W.ref H.length s.heap.objs.size).own a=some k:=by intro a k h;refine(if_neg (x5 (S.cH a k h).2)).trans ?_;exact h
 refine⟨⟨?_,?_,?_,?_,?_,?_,S.base⟩,L,yg,?_,λd d h=>.inl h,λa o e d d d=>kp _ _ e,λa ps d e=>⟨#[],by exact kp _ _ e⟩,?_,by simp,by rw[xc];exact aS (nat_lit 6719275264) ae,rfl,rfl⟩
 ·exact λa o h=>kp _ _ (S.z a o h)
 ·intro k a h;have h':(if k=H.length then some s.heap.objs.size else W.φ k)=some a:=h;show(if a=s.heap.objs.size then some H.length else W.own a)=some k;split at h'
  ·rename_i e;obtain rfl:=oy h';rw[if_pos rfl,e]
  ·obtain this:=S.jV k a h';refine(if_neg (x5 (S.cH a k this).2)).trans ?_;exact this
 ·intro a k h;rcases ow a k h with ⟨rfl,rfl⟩|⟨cG,h'⟩
  ·exact⟨by simp,by rw[xc];exact BM _⟩
  ·obtain this:=S.cH a k h';exact⟨by simp;exact aL (nat_lit 441454204817665) ae this.1,by rw[xc];exact Mo this.2⟩
 ·intro a k h hl;rcases ow a k h with ⟨rfl,rfl⟩|⟨cG,h'⟩
  ·exact S.iG (pd _)
  ·refine S.uv a k h' ?_;obtain⟨o',MQ,hn⟩:=hl;rw[vl (S.cH a k h').1] at MQ;exact⟨o',MQ,hn⟩
 ·intro k o' h;by_cases hk:k<H.length
  ·rw[vl hk] at h;obtain⟨a,h1,h2⟩:=S.obj k o' h;exact⟨a,L.φ _ _ h1,h2.keeps L (λb hb=>yg b k hb) (λo e=>kp _ _ e) λb o d e=>kp _ _ e⟩
  ·obtain i_:k=H.length:=by
    have :=(eI h).1;simp at this;exact aL (nat_lit 0x10251054191801112) ae this hk
   subst i_;rw[zt (pd _),X1] at h;obtain rfl:=oy h;exact⟨_,by simp[Wd.ref],hr⟩
 ·intro c P q hm;obtain⟨h1,h0,h2,nT,ps,h3,h4,h5⟩:=S.tab c P q hm;obtain hP:(if P=s.heap.objs.size then some H.length else W.own P)=none:=by refine(if_neg (x5 (ti h3)))▸?_;exact nT
  exact⟨h1.keeps kp,h0,h2,hP,ps,kp _ _ h3,h4,h5⟩
 ·intro a k h;rcases ow a k h with ⟨rfl,rfl⟩|⟨cG,h'⟩
  ·exact .inr ⟨pd _,by rw[aaA (pd _)];intro e;exact nE e⟩
  ·exact .inl h'
 ·intro k h;obtain this:=(eI h).1;rw[vl this];exact h
theorem dS{o:aF}{v:V}(h:iA o H=some (v,H')):v=.ref H.length/\H'=H++[o]:=by cases h;exact⟨rfl,rfl⟩
theorem Wd.e_(W:Wd)(k:Nat)(a:sx):(W.ref k a).φ k=some a:=by simp[Wd.ref]
theorem wJ{c:Bool}{vs:List V}{xs:List Value}{v:V}(h:(if c then iA (.lst vs) else pure (.lst vs)) H=some (v,H'))(S:aN W H s)(r:aG W vs xs)(hz:vs.length<ai):
  si gM A (newList xs) (λx=>bf W H s aQ H' λW' a=>Rel W' v x) E s:=by
 obtain el:=r.length;refine B1 (hd:=by show xs.toArray.size<=sizeLine;simp only[H0,<-el];exact bA hz) ?_;induction c with
 |false=>refine iD h ?_;obtain PP:=ah.push S aQ (ja xs.toArray 0);refine⟨_,PP,?_⟩;exact⟨_,_,_,rfl,Wd.bg ..,hz,by exact r.mono PP.le⟩
 |true=>obtain⟨rfl,rfl⟩:=dS h;obtain PP:=ah.new S aQ (.lst vs) (ja xs.toArray 0) rfl s.toks ⟨0,xs.toArray,tc _ rfl,hz,by exact r.mono (Wd.iI S (pd _))⟩;refine⟨_,PP,?_⟩;exact⟨_,rfl,Wd.e_ ..⟩
theorem uC{vs:List V}{xs:List Value}(S:aN W H s)(r:aG W vs xs)(hz:vs.length<ai):
  si gM A (newTuple xs) (λx=>bf W H s aQ H λW' a=>Rel W' (.tup vs) x) E s:=by
 obtain el:=r.length;refine B1 (hd:=by show xs.toArray.size<=sizeLine;simp only[H0,<-el];exact bA hz) ?_;obtain PP:=ah.push S aQ (qB xs.toArray 0);refine⟨_,PP,?_⟩;exact⟨_,_,_,rfl,Wd.bg ..,hz,by exact r.mono PP.le⟩
end
section
variable{A:tj}{W:Wd}{H:AH}{s:oC}
theorem Reld.length:∀{kvs:List (Str×V)} {es:List th},Reld W kvs es->kvs.length=es.length|[],[],aR=>rfl|(k,v)::r,e::es,h=>by simp only[pE,Reld.length h.2.2]|[],aR::bV,h=>xk h|aR::bV,[],h=>xk h
theorem Reld.strs:∀{kvs:List (Str×V)} {es:List th},Reld W kvs es->(es.all λe=>isExactStrKey e.key)=true
|[],[],aR=>rfl|(k,v)::r,e::es,h=>by obtain⟨⟨_,_,t,hk⟩,_,hr⟩:=h;simp only[List.all_cons,Reld.strs hr,hk];rfl
|[],aR::bV,h=>xk h|aR::bV,[],h=>xk h
theorem Reld.find:∀{kvs:List (Str×V)} {es:List th} (x:Str),Reld W kvs es->
  match es.findIdx? (λe=>e.key.isStr x) with |none=>kvs.lookup x=none|some j=>∃e u,es[j]?=some e/\kvs.lookup x=some u/\Rel W u e.val
 |[],[],x,aR=>by rfl|(k,v)::r,e::es,x,h=>by
  obtain⟨⟨hl,_,t,hk⟩,hv,hr⟩:=h;rw[List.findIdx?_cons,hk];by_cases hx:k=x
  ·subst hx;simp only[Value.isStr,beq_self_eq_true,if_true,sT];exact⟨e,v,rfl,rfl,hv⟩
  ·obtain h1:Value.isStr (.str k t) x=false:=by simp[Value.isStr,hx]
   obtain h2:(x==k)=false:=by simp;exact λh=>hx h.symm
   rw[h1];simp only[aat,if_false,sT,h2];obtain ih:=Reld.find x hr;induction hf:es.findIdx? (λe=>e.key.isStr x) with
   |none=>obtain ih:=hf▸ih;exact ih
   |some j=>
    rw[hf] at ih;refine ih.elim λe' XN=>?_;refine XN.elim λu Sf=>?_;obtain h3:=Sf.1;obtain h4:=Sf.2.1;obtain h5:=Sf.2.2
    exact⟨e',u,by exact h3,h4,h5⟩
 |[],aR::bV,iq,h=>xk h|aR::bV,[],iq,h=>xk h
theorem E9{es:Array th}(h:(es.toList.all λe=>isExactStrKey e.key)=true):(es.all λe=>isExactStrKey e.key)=true:=by refine Array.all_toList▸?_;exact h
theorem uD(es:Array th)(p:th->Bool):es.findIdx? p=es.toList.findIdx? p:=by induction es with |mk l=>simp
theorem uE{prog:Program}{w:Pm}{E:Value->oC->Prop}{kvs:List (Str×V)}{d:sx}{n:Nat}{es:Array th}{x:Str}{t:Tok}{Qn:Int}{Q:Option Nat->oC->Prop}
  (ho:s.heap.get? d=some (dO es n))(r:Reld W kvs es.toList)
  (k:match kvs.lookup x with |none=>Q none s|some u=>∀j e,es[j]?=some e->Rel W u e.val->Q (some j) s):si (model prog w) A (dictFind d (.str x t) Qn) Q E s:=by
 refine KTD.kt_dictFind_strs ho rfl (E9 r.strs) ?_;obtain hf:=r.find x;rw[uD];induction hi:es.toList.findIdx? (λe=>e.key.isStr x) with
 |none=>obtain hf:=hi▸hf;obtain k:=hf▸k;exact k
 |some j=>
  simp only[hi] at hf;refine hf.elim λe z=>z.elim λu z=>z.elim λh1 z=>z.elim λh2 h3=>?_
  obtain k:=h2▸k;exact k j e (by refine(xv)▸?_;exact h1) h3
structure MR(A:tj)(s:oC)(x y:Value)(r:Bool):Prop where
 self:x=y->r=true
 eq:SeqAt.EqAt A s x y r
 rc:SeqAt.RcAt A s x y r
 ne:SeqAt.RcNeAt A s x y (!r)
inductive XO(T:Value->Value->Bool->Prop)(xs ys:List Value)(r:Bool):Prop|mk(e:Nat->Bool)(h1:xs.length=ys.length)(h2:(w8 xs.length).all e=r)(h3:∀j (h:j<xs.length) (h':j<ys.length),T xs[j] ys[j] (e j))
theorem VZ{T:Value->Value->Bool->Prop}{f:V->V->Option Bool}(he:∀{v u x y p},f v u=some p->Rel W v x->Rel W u y->T x y p){vs us:List V}{xs ys:List Value}{q:Bool}(h1:aG W vs xs)(h2:aG W us ys)(h:veqs f vs us=some q):XO T xs ys q:=by
 induction vs generalizing us xs ys q with
 |nil=>induction xs with
  |cons _ _=>exact h1.elim|nil=>induction us with
   |nil=>induction ys with |nil=>exact⟨λa=>true,rfl,oy h,λj h=>absurd h (Nat.not_lt_zero j)⟩|cons _ _=>exact h2.elim
   |cons _ _=>exact nE h
 |cons v vs ih=>induction xs with
  |nil=>exact h1.elim|cons x xs=>induction us with
   |nil=>exact nE h|cons u us=>induction ys with
    |nil=>exact h2.elim|cons y ys=>
     obtain h:(match f v u,veqs f vs us with |some p,some q=>some (p&&q)|_,_=>none)=some q:=h;induction hp:f v u with
     |none=>obtain h:=hp▸h;exact nE h
     |some p=>induction hq:veqs f vs us with
      |none=>rw[hp,hq] at h;exact nE h|some q'=>
       rw[hp,hq] at h;induction ih h1.2 h2.2 hq with |mk e g1 g2 g3=>refine⟨λj=>j.casesOn p e,congrArg (·+1) g1,?_,λj=>j.casesOn (λa a=>he hp h1.1 h2.1) λj h h'=>g3 j (Nat.lt_of_succ_lt_succ h) (Nat.lt_of_succ_lt_succ h')⟩;simp only[pE,List.range_succ_eq_map,List.all_cons,List.all_map];exact(congrArg (p&&·) g2).trans (oy h)
def HR(W:Wd)(h:xI):V->Value->Prop|.lst vs,x=>E4 h.get? ja vs.length (aG W vs) x|.tup vs,x=>E4 h.get? qB vs.length (aG W vs) x|.aE kvs,x=>Mw h.get? kvs (Reld W kvs) x|v,x=>Rel W v x
noncomputable def Jr(o:Option aF)(k:Nat):V:=match o with |some (.lst xs)=>.lst xs|some (.aE kvs)=>.aE kvs|_=>.ref k
theorem j7{k:Nat}{o:Option aF}(ho:H[k]?=o):deref H (.ref k)=Jr o k:=ho▸rfl
theorem nU{a:V}{x:Value}(S:aN W H s)(r:Rel W a x):HR W s.heap (deref H a) x:=by
 induction a using V.casesOn with
 |lst vs=>obtain⟨a,n,xs,h1,h2,h3,h4⟩:=r;exact⟨a,n,xs,h1,S.z _ _ h2,h3,h4⟩
 |tup vs=>obtain⟨a,n,xs,h1,h2,h3,h4⟩:=r;exact⟨a,n,xs,h1,S.z _ _ h2,h3,h4⟩
 |aE vs=>obtain⟨a,n,xs,h1,h2,h3,h4,h5,h6⟩:=r;exact⟨a,n,xs,h1,S.z _ _ h2,h3,h4,h5,h6⟩
 |ref k=>
  have r':=r;obtain⟨a,rfl,ha⟩:=r';induction ho:H[k]? with
  |none=>rw[j7 ho];exact r|some o=>
   obtain O:=S.at ho ha;induction o with
   |lst vs=>rw[j7 ho];obtain⟨n,xs,h1,h2,h3⟩:=O;exact⟨a,n,xs,rfl,h1,h2,h3⟩
   |aE vs=>rw[j7 ho];obtain⟨n,xs,h1,h2,h3,h4,h5⟩:=O;exact⟨a,n,xs,rfl,h1,h2,h3,h4,h5⟩
   |_=>rw[j7 ho];exact r
 |_=>exact r
theorem b8{α:Type}{l:List (Str×α)}{x:Str}{k:α}(nd:(l.map (·.1)).Nodup)(h:(x,k)∈l):l.lookup x=some k:=by
 induction l with
 |nil=>exact nomatch h|cons p r ih=>
  obtain nd:=nA nd;refine sT.trans ?_;refine(bx h).elim (λe=>?_) λe=>?_
  ·subst e;rw[beq_self_eq_true]
  ·obtain cG:=zu λhe=>nd.1 (he.subst (I6 ⟨_,e,rfl⟩))
   refine cG▸?_;exact ih nd.2 e
theorem ja.E_{h:Option Nw}{xs ys:Array Value}{n m:Nat}(a:h=some (ja xs n))(b:h=some (ja ys m)):xs=ys:=(Data.seq.inj (Nw.mk.inj (oy (a.symm.trans b))).2.2.1).1
theorem qB.E_{h:Option Nw}{xs ys:Array Value}{n m:Nat}(a:h=some (qB xs n))(b:h=some (qB ys m)):xs=ys:=(Data.seq.inj (Nw.mk.inj (oy (a.symm.trans b))).2.2.1).1
theorem dO.E_{h:Option Nw}{xs ys:Array th}{n m:Nat}(a:h=some (dO xs n))(b:h=some (dO ys m)):xs=ys:=(Data.dict.inj (Nw.mk.inj (oy (a.symm.trans b))).2.2.1).1
theorem v_{l:sx}{xs:Array Value}{n:Nat}(h:s.heap.get? l=some (ja xs n)):s.heap.IsList l xs:=⟨_,h,rfl,n,rfl⟩
theorem Fb{l:sx}{xs:Array Value}{n:Nat}(h:s.heap.get? l=some (qB xs n)):s.heap.IsTuple l xs:=⟨_,h,rfl,n,rfl⟩
inductive MS(W:Wd)(es:Array th):List Nat->List (Str×V)->Prop|nil:MS W es [] []|cons{i:Nat}{rest:List Nat}{k:Str}{v:V}{kx:List (Str×V)}{e:th}(he:es[i]?=some e)(hk:My k e)(hv:Rel W v e.val)(t:MS W es rest kx):MS W es (i::rest) ((k,v)::kx)
theorem V0{es:Array th}:∀{kx:List (Str×V)} {l:List th} {i:Nat},(∀j,l[j]?=es[i+j]?)->Reld W kx l->MS W es (Ki i l.length) kx|[],[],aR,bV,iq=>.nil|(k,v)::kx,e::l,i,h,r=>.cons (h 0).symm r.1 r.2.1 (V0 (λj=>(h (j+1)).trans (by simp only[Nat.add_assoc,HI j 1])) r.2.2)|[],aR::bV,iq,yb,r=>r.elim
theorem j8{prog:Program}{w:Pm}{E:Value->oC->Prop}{nm:String}{a b:sx}{kx ky:List (Str×V)}{n m:Nat}{es fs:Array th}{f:V->V->Option Bool}{Q:Bool->oC->Prop}
  (ha:a≠sysModules)(hb:b≠sysModules)(ga:s.heap.get? a=some (dO es n))(gb:s.heap.get? b=some (dO fs m))(ra:Reld W kx es.toList)(rb:Reld W ky fs.toList)
  (hl:kx.length=ky.length)(hv:∀p∈kx,∃u,ky.lookup p.1=some u/\f p.2 u=some true)(he:∀{v u x y},f v u=some true->Rel W v x->Rel W u y->SeqAt.EqAt A s x y true)(h:Q true s):
  si (model prog w) A (Builtin.Dict.samePairs nm a b) Q E s:=by
 obtain Js:kx.length=es.size:=ra.length;obtain XQ:ky.length=fs.size:=rb.length;unfold Builtin.Dict.samePairs Builtin.Dict.showsAll;rw[if_neg (λh=>ha (eq_of_beq h)),if_neg (λh=>hb (eq_of_beq h))];refine ox (pk (ox (pk (ox (wpAny_dictEntries ga rfl (ox (wpAny_dictEntries gb rfl ?_)))))));have hsz:(es.size==fs.size)=true:=beq_iff_eq.mpr (Js.symm.trans (hl.trans XQ))
 rw[if_neg (show ¬(es.size !=fs.size)=true from λq=>bE ((congrArg Bool.not hsz).symm.trans q))];refine ox (wpAny_dictEpoch ga rfl (ox ?_));rw[Std.Legacy.Range.forIn_eq_forIn_range',show [:es.size].size=es.toList.length from Nat.div_one _];refine wpAny_forIn_list _ (λrest q s'=>s'=s/\q=(none,())/\∃k1,MS W es rest k1/\∀p∈k1,∃u,ky.lookup p.1=some u/\f p.2 u=some true) _ ?_ ?_ _ _ ⟨rfl,rfl,kx,V0 (λj=>by rw[FR];exact xv) ra,hv⟩
 ·rintro x rest q s' ⟨rfl,rfl,k1,hS,hv⟩;cases hS with
  |cons ge hk gv t=>
   refine ox (wpAny_dictEntries ga rfl ?_);refine ge▸?_;induction hk with |mk _ _ tk hk=>dsimp only;refine hk▸?_;obtain⟨u,MT,hp⟩:=hv _ (.head _);refine ox (ub (ox (uE gb rb ?_)));refine MT▸?_;intro j e hj ru;refine ox (wpAny_dictEntries gb rfl ?_);refine hj▸?_;refine ub (he hp gv ru prog w _ _ ?_);refine ox (wpAny_dictEpoch ga rfl ?_);refine(if_neg (show ¬(n !=n)=true from λq=>bne_iff_ne.mp q rfl))▸?_;exact pk ⟨rfl,rfl,_,t,λp XR=>hv p (.tail _ XR)⟩
 ·rintro q s' ⟨rfl,rfl,k1,hS,hv⟩;exact pk h
theorem Fc{a b:sx}{kx ky:List (Str×V)}{n m:Nat}{es fs:Array th}{f:V->V->Option Bool}
  (ha:a≠sysModules)(hb:b≠sysModules)(ga:s.heap.get? a=some (dO es n))(gb:s.heap.get? b=some (dO fs m))(ra:Reld W kx es.toList)(rb:Reld W ky fs.toList)
  (hl:kx.length=ky.length)(hv:∀p∈kx,∃u,ky.lookup p.1=some u/\f p.2 u=some true)(he:∀{v u x y},f v u=some true->Rel W v x->Rel W u y->SeqAt.EqAt A.in1 s x y true)(hu:A.units<cLine):
  SeqAt.RcAt A s (.ref a) (.ref b) true/\SeqAt.RcNeAt A s (.ref a) (.ref b) (!true):=by
 obtain Ta:s.TypeIs (.ref a) "dict":=⟨_,ga,rfl⟩;obtain Tb:s.TypeIs (.ref b) "dict":=⟨_,gb,rfl⟩;constructor
 ·intro prog w E Q h;refine wpAny_richCompare_same_room Ta Tb PySem.F.slot_dict_eq (PQ PySem.F.slot_dict_eq Ta PySem.F.entry_dict_eq ?_ (PySem.F.args_dict_eq_2 _ _)) hu;refine ox ?_;refine ox (wpAny_notOrdered_dict Ta ?_);refine pk ?_;refine ox (wpAny_isInstance Tb PySem.F.sub_dict_dict ?_);refine ox (pk (ox (pk ?_)));refine ox (j8 ha hb ga gb ra rb hl hv he ?_);refine pk ⟨_,rfl,?_,?_⟩
  ·exact λx=>nomatch x
  ·simpa using h
 ·intro prog w E Q h;refine wpAny_richCompare_same_room Ta Tb PySem.F.slot_dict_ne (PQ PySem.F.slot_dict_ne Ta PySem.F.entry_dict_ne ?_ (PySem.F.args_dict_ne_2 _ _)) hu;refine ox ?_;refine ox (wpAny_notOrdered_dict Ta ?_);refine pk ?_;refine ox (wpAny_isInstance Tb PySem.F.sub_dict_dict ?_);refine ox (pk (ox (pk ?_)));refine ox (j8 ha hb ga gb ra rb hl hv he ?_);refine pk ⟨_,rfl,?_,?_⟩
  ·exact λx=>nomatch x
  ·simpa using h
theorem sA{A:tj}{l b:sx}{r:Bool}(hs:l=b->r=true)(h1:SeqAt.RcAt A s (.ref l) (.ref b) r)(h2:SeqAt.RcNeAt A s (.ref l) (.ref b) (!r)):MR A s (.ref l) (.ref b) r:=⟨λe=>hs (Value.ref.inj e),(Decidable.em (l=b)).elim (λe=>e▸hs e▸SeqAt.EqAt.same _) λhl=>SeqAt.EqAt.of_refs hl h1,h1,h2⟩
theorem Bx{A:tj}{e:Nat->Bool}{xs ys:Array Value}(q:xs=ys)(g:∀j (h:j<xs.toList.length) (h':j<ys.toList.length),MR A s xs.toList[j] ys.toList[j] (e j)):(w8 xs.toList.length).all e=true:=by subst q;exact SU.mpr λj hj=>(g j (EK hj) (EK hj)).self rfl
theorem Jt{α:Type}{c:Bool}{a b:Option α}{r:α}{P:Prop}(h:(bif c then a else b)=some r)(k:c=true->a=some r->P)(l:c=false->b=some r->P):P:=by
 induction c with |true=>exact k rfl h|false=>exact l rfl h
theorem Fd{A:tj}{a b:V}{x y:Value}{r:Bool}{f:V->V->Option Bool}(h:VN f H a b=some r)(S:aN W H s)(ra:Rel W a x)(rb:Rel W b y)(MU:A.units<cLine)(he:∀{v u x y p},f v u=some p->Rel W v x->Rel W u y->MR A.in1 s x y p):MR A s x y r:=by
 obtain ha:=nU S ra;obtain hb:=nU S rb;refine iH h (λh=>aJ.el h ra λi t h=>aJ.el h rb λj u h=>oy h▸⟨λe=>beq_iff_eq.mpr (Value.int.inj e).1,SeqAt.EqAt.int_int _ _ _ _,SeqAt.RcAt.int_int _ _ _ _,SeqAt.RcNeAt.int_int _ _ _ _⟩) λh=>?_
 refine iH h (λh=>onStr.el h ra λi t c h=>onStr.el h rb λj u c h=>oy h▸⟨λe=>beq_iff_eq.mpr (Value.str.inj e).1,SeqAt.EqAt.str_str _ _ _ _,SeqAt.RcAt.str_str _ _ _ _,SeqAt.RcNeAt.str_str _ _ _ _⟩) λh=>?_
 refine iH h (λh=>eJ.el h ra λi h=>eJ.el h rb λj h=>oy h▸⟨λe=>beq_iff_eq.mpr (Value.bool.inj e),SeqAt.EqAt.bool_bool _ _,SeqAt.RcAt.bool_bool _ _,SeqAt.RcNeAt.bool_bool _ _⟩) λh=>?_
 refine iH h (λh=>jr.el h λvs e1 h=>jr.el h λus e2 h=>Jt h (λhz hq=>?_) λc h=>nE h) λh=>iH h (λh=>dP.el h λvs e1 h=>dP.el h λus e2 h=>Jt h (λhz hq=>?_) λc h=>nE h) λh=>iB.el h λkx e1 h=>iB.el h λky e2 hq=>?_
 ·cases e1;cases e2;obtain⟨l,m,xs,rfl,g1,_,r1⟩:=ra;obtain⟨l',m',ys,rfl,g2,_,r2⟩:=rb;induction VZ he r1 r2 hq with
  |mk e q1 q2 q3=>
   obtain q1:xs.size=ys.size:=q1;obtain q4:r=((w8 (min xs.size ys.size)).all e&&xs.size==ys.size):=by rw[<-q1,Nat.min_self,beq_self_eq_true,aaL];exact q2.symm
   refine sA (λe=>q2▸Bx (qB.E_ (S.z _ _ g1) (e▸S.z _ _ g2)) q3) ?_ ?_
   ·rw[q4];exact SeqAt.RcAt.tuples (Fb (S.z _ _ g1)) (Fb (S.z _ _ g2)) MU λj h1 h2=>(q3 j h1 h2).eq
   ·rw[q4];exact SeqAt.RcNeAt.tuples (Fb (S.z _ _ g1)) (Fb (S.z _ _ g2)) MU λj h1 h2=>(q3 j h1 h2).eq
 ·rw[e1] at ha;rw[e2] at hb;obtain⟨l,m,xs,rfl,g1,_,r1⟩:=ha;obtain⟨l',m',ys,rfl,g2,_,r2⟩:=hb;induction VZ he r1 r2 hq with |mk e q1 q2 q3=>exact sA (λe=>q2▸Bx (ja.E_ g1 (e▸g2)) q3) (q2▸SeqAt.RcAt.lists (v_ g1) (v_ g2) q1 MU λj h1 h2=>(q3 j h1 h2).eq) (q2▸SeqAt.RcNeAt.lists (v_ g1) (v_ g2) q1 MU λj h1 h2=>(q3 j h1 h2).eq)
 ·rw[e1] at ha;rw[e2] at hb;obtain⟨l,m,es,rfl,g1,n1,nd,_,r1⟩:=ha;obtain⟨l',m',fs,rfl,g2,n2,_,_,r2⟩:=hb;refine sy hq λhc e=>e▸?_
  obtain q:=a_ hc;obtain hd:=Fc n1 n2 g1 g2 r1 r2 (eq_of_beq q.1) (λp hp=>t7 (eq_of_beq (cj q.2 p hp))) (λh r1 r2=>(he h r1 r2).eq) MU;exact sA (λc=>rfl) hd.1 hd.2
theorem nV:∀(n:Nat) {A:tj} {a b:V} {x y:Value} {r:Bool},gH n H a b=some r->aN W H s->Rel W a x->Rel W b y->A.units+n<cLine->MR A s x y r|0,aR,bV,iq,yb,H8,V1,h,zq7,zq8,zq9,XS=>nE h|n+1,A,aR,bV,iq,yb,H8,h,S,ra,rb,hu=>Fd h S ra rb (vw (Kk ..) hu) λh r1 r2=>nV n h S r1 r2 (vw (Fu (Nat.add_right_comm A.units 1 n)) hu)
end
section
variable{A:tj}{E:Value->oC->Prop}{W:Wd}{H H':AH}{s:oC}
def eW(W:Wd):List (Str×V)->List (Str×Value)->Prop|[],[]=>True|(k,v)::r,(k',y)::r'=>k'=k/\k.length<ai/\Rel W v y/\eW W r r'|aR,bV=>False
abbrev sk:=strKind G.prog G.w
theorem eW.keys:∀{kvs:List (Str×V)} {ps:List (Str×Value)},eW W kvs ps->kvs.map (·.1)=ps.map (·.1)|[],[],aR=>rfl|(k,v)::r,(k',y)::r',h=>by simp only[xb,h.1,eW.keys h.2.2.2]|[],aR::bV,h=>xk h|aR::bV,[],h=>xk h
theorem eW.length{kvs:List (Str×V)}{ps:List (Str×Value)}(h:eW W kvs ps):kvs.length=ps.length:=by obtain this:=congrArg PH h.keys;simpa using this
theorem jb:∀{kvs:List (Str×V)} {es:List th},Reld W kvs es->∃ps,Pairs (sk) es ps/\eW W kvs ps/\∀e∈es,∃k,(sk).is k e.key=true/\e.hash=(sk).hash k
|[],[],aR=>⟨[],.nil,trivial,λe he=>nomatch he⟩|(k,v)::r,e::es,h=>by
 obtain⟨⟨hl,hh,t,hk⟩,hv,hr⟩:=h;refine(jb hr).elim λps Jl=>?_;obtain h1:=Jl.1;obtain h2:=Jl.2.1;obtain h3:=Jl.2.2
 obtain V2:(sk).is k e.key=true:=by refine hk▸?_;exact strKind_is ..
 refine⟨(k,e.val)::ps,.cons V2 rfl h1,⟨rfl,hl,hv,h2⟩,λe' he=>?_⟩;rcases bx he with rfl|he
 ·exact⟨k,V2,hh⟩
 ·exact h3 e' he
|[],aR::bV,h=>xk h|aR::bV,[],h=>xk h
theorem zI{es:List th}{ps:List (Str×Value)}(h:Pairs (sk) es ps):∀{kvs:List (Str×V)},eW W kvs ps->(∀e∈es,∃k,(sk).is k e.key=true/\e.hash=(sk).hash k)->Reld W kvs es:=by
 induction h with
 |nil=>
  intro kvs h2 _;induction kvs with |nil=>trivial|cons _ _=>exact(h2:False).elim
 |cons a1 a2 a3 ih=>
  intro kvs h2 h3;induction kvs with |nil=>exact(h2:False).elim|cons p r=>obtain MV:=h2.1;obtain hl:=h2.2.1;obtain hv:=h2.2.2.1;obtain hr:=h2.2.2.2;obtain⟨t,ht⟩:=Value.isStrOf_shape a1;obtain⟨k',i_,hh⟩:=h3 _ (.head _);exact⟨⟨hl,MV▸(sk).inj _ _ _ i_ a1▸hh,t,MV▸ht⟩,a2▸hv,ih hr λe he=>h3 e (.tail _ he)⟩
theorem e7{h:xI}{a:sx}{es:Array th}{n:Nat}{kvs:List (Str×V)}(g:h.get? a=some (dO es n))(nd:(kvs.map (·.1)).Nodup)(r:Reld W kvs es.toList):
  ∃ps,h.DictOf (sk) a ps/\eW W kvs ps:=by
 refine(jb r).elim λps Ju=>?_;obtain h1:=Ju.1;obtain h2:=Ju.2.1;obtain h3:=Ju.2.2
 refine⟨ps,⟨_,es,n,g,⟨rfl,rfl,rfl⟩,rfl,λe he=>?_,h1,by refine h2.keys▸?_;exact nd⟩,h2⟩;exact h3 e (by simp_all)
theorem k8{h:xI}{a:sx}{ps:List (Str×Value)}{kvs:List (Str×V)}(d:h.DictOf (sk) a ps)(r:eW W kvs ps):
  ∃es n,h.get? a=some (dO es n)/\(kvs.map (·.1)).Nodup/\Reld W kvs es.toList:=by
 obtain⟨⟨cls,dd,data,sl⟩,es,ep,ho,⟨h1,h2,h3⟩,h4,h5,h6,h7⟩:=d;simp only at h1 h2 h3 h4;subst h1 h2 h3 h4;exact⟨es,ep,ho,by rw[r.keys];exact h7,zI h6 r λe he=>h5 e (by simp_all)⟩
theorem eW.lookup:∀{kvs:List (Str×V)} {ps:List (Str×Value)} (k:Str),eW W kvs ps->match kvs.lookup k with |none=>valueAt ps k=none|some v=>∃y,valueAt ps k=some y/\Rel W v y
|[],[],k,aR=>rfl|(k',v)::r,(k2,y)::r',k,h=>by
 obtain Sg:=h.1;obtain hv:=h.2.2.1;obtain hr:=h.2.2.2;subst Sg;dsimp only[sT,valueAt,List.find?_cons];by_cases hk:k=k2
 ·subst hk;simp;exact hv
 ·obtain h1:(k==k2)=false:=by simpa using hk
  obtain h2:decide (k2=k)=false:=by simp;exact λh=>hk h.symm
  rw[h1,h2];obtain this:=hr.lookup k;exact this
|[],aR::bV,iq,h=>xk h|aR::bV,[],iq,h=>xk h
theorem eW.Fe{k:Str}{v:V}{y:Value}(hk:k.length<ai)(hv:Rel W v y){kvs:List (Str×V)}{ps:List (Str×Value)}(nd:(ps.map (·.1)).Nodup)(h:eW W kvs ps):eW W (aH kvs k v) (stored ps k y):=by
 induction kvs generalizing ps with
 |nil=>induction ps with |nil=>exact⟨rfl,hk,hv,trivial⟩|cons=>exact h.elim
 |cons p r ih=>induction ps with
  |nil=>exact h.elim|cons q r'=>
   obtain⟨e,hl,hu,hr⟩:=(h:q.1=p.1/\p.1.length<ai/\Rel W p.2 q.2/\eW W r r');obtain⟨n1,n2⟩:=nA nd;show eW W (bif k==p.1 then(p.1,v)::r else p::aH r k v) _;unfold stored;rw[List.any_cons,xb];by_cases hx:q.1=k
   ·rw[decide_eq_true hx,if_pos hx,show(k==p.1)=true from beq_iff_eq.mpr (hx.symm.trans e)];exact⟨e,hl,hv,(map_store_of_not_mem r' k y (hx▸n1)).symm▸hr⟩
   ·rw[decide_eq_false hx,if_neg hx,show(k==p.1)=false from beq_false_of_ne λz=>hx (e.trans z.symm)];have :=ih n2 hr;unfold stored at this;refine(?_:eW W (p::aH r k v) (if r'.any (λp=>decide (p.1=k)) then q::r'.map _ else q::(r'++[(k,y)])));induction hh:r'.any λp=>decide (p.1=k)<;>rw[hh] at this<;>exact⟨e,hl,hu,this⟩
end
noncomputable def Qo(v:Value):Str:=match v with |.str a _=>a|_=>Str.empty
noncomputable def pv(h:xI)(y:Value):List Str:=match y with |.ref t=>(match h.get? t with |some o=>(match o.data with |.seq xs _=>xs.toList.map Qo|_=>[])|none=>[])|_=>[Qo y]
noncomputable def yl(h:xI)(x y:Value):Bool:=match x with
|.int i _=>match y with |.int j _=>i==j|_=>false
|_=>pv h x==pv h y
section
variable{A:tj}{E:Value->oC->Prop}{W:Wd}{H H':AH}{s:oC}
theorem j9{v:V}{y:Value}{p:Str×Str}(h:iC v=some p)(ry:Rel W v y):v=.tup [.str p.1,.str p.2]/\∃t ys n t1 t2,y=.ref t/\W.Z t=some (qB ys n)/\ys.toList=[.str p.1 t1,.str p.2 t2]:=by
 refine jr.el h λxs e h=>v8.inv h λu w e2 h=>onStr.inv h λi e3 h=>onStr.inv h λj e4 h=>?_
 subst e;subst e2;subst e3;subst e4;obtain⟨t,m,ys,rfl,g,_,r⟩:=ry;obtain⟨y,z,e,r1,r2⟩:=uz r;obtain⟨_,t1,rfl⟩:=r1;obtain⟨_,t2,rfl⟩:=r2;obtain rfl:=oy h;exact⟨rfl,t,ys,_,t1,t2,rfl,g,e⟩
theorem uF{v:V}{y:Value}{p:Str×Str}(h:iC v=some p)(S:aN W H s)(ry:Rel W v y):v=.tup [.str p.1,.str p.2]/\pv s.heap y=[p.1,p.2]/\∃t,y=.ref t:=by obtain⟨e,t,ys,n,t1,t2,rfl,g,h2⟩:=j9 h ry;refine⟨e,?_,t,rfl⟩;show(match s.heap.get? t with |some o=>(match o.data with |.seq xs _=>xs.toList.map Qo|_=>[])|none=>[])=_;rw[S.z _ _ g];show ys.toList.map Qo=_;rw[h2];rfl
theorem Ff{i j:Str}{t u:Tok}{r:Bool}(h:some (i==j)=some r):yl s.heap (.str i t) (.str j u)=r/\SeqAt.EqAt A s (.str i t) (.str j u) (yl s.heap (.str i t) (.str j u)):=by
 obtain e:yl s.heap (.str i t) (.str j u)=(i==j):=by refine(?_:([i]==[j])=_);simp
 rw[e];exact⟨oy h,SeqAt.EqAt.str_str _ _ _ _⟩
theorem Fg{a b:V}{x y:Value}{r:Bool}(h:((iC a).bind λp=>(iC b).map λq=>p==q)=some r)(S:aN W H s)(hu:A.units+2<cLine)(ra:Rel W a x)(rb:Rel W b y):yl s.heap x y=r/\SeqAt.EqAt A s x y (yl s.heap x y):=by
 refine(t7 h).elim λp z=>z.elim λhp h=>?_
 refine(gF h).elim λq z=>z.elim λhq h=>?_
 obtain⟨e1,e2,t,rfl⟩:=uF hp S ra;obtain⟨f1,f2,u,rfl⟩:=uF hq S rb;obtain e:yl s.heap (.ref t) (.ref u)=(p==q):=by show(pv s.heap (.ref t)==pv s.heap (.ref u))=_;rw[e2,f2];show([p.1,p.2]==[q.1,q.2])=(p.1==q.1&&p.2==q.2);simp
 rw[e];obtain hv:gH 2 H a b=some (p==q):=by rw[e1,f1];show some (p.1==q.1&&(p.2==q.2&&true))=some (p.1==q.1&&p.2==q.2);rw[aaL]
 exact⟨h,(nV 2 hv S ra rb hu).eq⟩
theorem Jv{a b:V}{x y:Value}{r:Bool}(h:Lv a b=some r)(S:aN W H s)(hu:A.units+2<cLine)(ra:Rel W a x)(rb:Rel W b y):yl s.heap x y=r/\SeqAt.EqAt A s x y (yl s.heap x y):=iH h (λh=>aJ.el h ra λi t h=>aJ.el h rb λj u h=>⟨oy h,SeqAt.EqAt.int_int _ _ _ _⟩) λh=>iH h (λh=>onStr.el h ra λi t c h=>onStr.el h rb λj u c h=>Ff h) λh=>Fg h S hu ra rb
theorem wL{x:V}{x':Value}(S:aN W H s)(hu:A.units+2<cLine)(rx:Rel W x x'){vs:List V}{xs:List Value}{r:List Bool}(h:eqRow x vs=some r)(rs:aG W vs xs):xs.map (yl s.heap · x')=r/\∀y∈xs,SeqAt.EqAt A s y x' (yl s.heap y x'):=by
 induction vs generalizing xs r with
 |nil=>induction xs with |nil=>exact⟨oy h,λa h=>nomatch h⟩|cons _ _=>exact rs.elim
 |cons v vs ih=>induction xs with
  |nil=>exact rs.elim|cons y ys=>
   obtain h:(match Lv v x,eqRow x vs with |some p,some q=>some (p::q)|_,_=>none)=some r:=h;induction h1:Lv v x with
   |none=>obtain h:=h1▸h;exact nE h
   |some p=>induction h2:eqRow x vs with |none=>rw[h1,h2] at h;exact nE h|some q=>rw[h1,h2] at h;obtain g:=ih h2 rs.2;obtain e:=Jv h1 S hu rs.1 rx;exact⟨(congr (congrArg List.cons e.1) g.1).trans (oy h),λz hz=>(bx hz).elim (λq=>q▸e.2) (g.2 z)⟩
theorem bB{b:Bool}{X:sx->Prop}(S:aN W H s):bf W H s X H (λW' a=>Rel W' (.bool b) (.bool b)) s:=cB S rfl
theorem gQ{b:Bool}{X:sx->Prop}(S:aN W H s)(k:Nat):bf W H s X H (λW' a=>Rel W' (.bool b) (.bool b)) {s with toks:=k}:=cU S k rfl
theorem wM{x:Str}{t:Tok}{d:sx}{es:Array th}{n:Nat}{kvs:List (Str×V)}(S:aN W H s)(g:s.heap.get? d=some (dO es n))(hd:d≠sysModules)(nd:(kvs.map (·.1)).Nodup)(r:Reld W kvs es.toList):
  si gM A (compareOp .In (.str x t) (.ref d)) (λz=>bf W H s aQ H λW' a=>Rel W' (.bool (kvs.lookup x).isSome) z) E s/\
  si gM A (compareOp .NotIn (.str x t) (.ref d)) (λz=>bf W H s aQ H λW' a=>Rel W' (.bool !(kvs.lookup x).isSome) z) E s:=by
 refine(e7 g nd r).elim λps z=>z.elim λD rp=>?_
 obtain hl:=rp.lookup x;obtain e:(valueAt ps x).isSome=(kvs.lookup x).isSome:=by
  induction hk:kvs.lookup x with
  |none=>obtain hl:=hk▸hl;refine hl▸?_;rfl
  |some v=>obtain hl:=hk▸hl;refine hl.elim λy z=>z.elim λhy a=>?_;refine hy▸?_;rfl
 refine e▸?_;exact⟨wpAny_in_of (strKind_is _ _ _ _) (by simpa using hd) D.mapOf (gQ S _),wpAny_notIn_of (strKind_is _ _ _ _) (by simpa using hd) D.mapOf (gQ S _)⟩
theorem qD{a b:V}{r:Bool}{x y:Value}(h:inside H a b=some r)(S:aN W H s)(hx:Rel W a x)(hy:Rel W b y)(hu:A.units+12<cLine):
  si gM A (compareOp .In x y) (λz=>bf W H s aQ H λW' c=>Rel W' (.bool r) z) E s/\
  si gM A (compareOp .NotIn x y) (λz=>bf W H s aQ H λW' c=>Rel W' (.bool !r) z) E s:=by
 refine iH h (λh=>onStr.el h hx λp t c h=>iH h (λh=>onStr.el h hy λq u c h=>oy h▸⟨P.in_str (bB S),P.notIn_str (bB S)⟩) λh=>iB.el h λkvs e h=>?dict) λh=>dP.el h λys e h=>?lst
 case lst=>
  cases e;obtain⟨l,n,xs,rfl,z,_,rs⟩:=hy;obtain⟨q,hq,hr⟩:=gF h;obtain g:=wL (A:=A.in1) S (by exact aL (nat_lit 0x12919088111c9081101) ae hu) hx hq rs;obtain e:xs.any (yl s.heap · x)=r:=by rw[<-hr,<-g.1,List.any_map];exact Array.any_toList.symm
  obtain m:=λy (hy:y∈xs)=>g.2 y (Array.mem_def.mp hy)
  exact⟨SeqAt.in_listAt _ (v_ (S.z _ _ z)) m (e▸bB S),SeqAt.notIn_listAt _ (v_ (S.z _ _ z)) m (e▸bB S)⟩
 case dict=>obtain hh:=nU S hy;rw[e] at hh;obtain⟨d,n,es,rfl,z,h0,nd,_,rd⟩:=hh;exact oy h▸wM S z h0 nd rd
end
section
variable{n:Nat}{A:tj}{E:Value->oC->Prop}{W:Wd}{H H':AH}{s:oC}{sc:te}{env:af}{e':Ts}
theorem Jw{op:CmpOp}{a b c:V}{x y:Value}(h:bG H op a b=some c)(S:aN W H s)(hx:Rel W a x)(hy:Rel W b y)(hu:A.units+12<cLine):
  si gM A (compareOp op x y) (λz=>bf W H s aQ H λW' d=>Rel W' c z) E s:=by
 induction op with
 |Eq=>obtain⟨r,hr,rfl⟩:=gF h;exact(nV bj hr S hx hy (FV (FV hu))).rc _ _ _ _ (bB S)
 |NotEq=>obtain⟨r,hr,rfl⟩:=gF h;exact(nV bj hr S hx hy (FV (FV hu))).ne _ _ _ _ (bB S)
 |Lt=>exact iH h (λh=>aJ.el h hx λi t h=>aJ.el h hy λj u h=>oy h▸P.lt_int (bB S)) λh=>onStr.el h hx λi t d h=>onStr.el h hy λj u d h=>oy h▸P.lt_str (bB S)|Gt=>exact iH h (λh=>aJ.el h hx λi t h=>aJ.el h hy λj u h=>oy h▸P.gt_int (bB S)) λh=>onStr.el h hx λi t d h=>onStr.el h hy λj u d h=>oy h▸compareOp_gives (typeIs_str _ _ t) (typeIs_str _ _ u) F.slot_str_gt F.entry_str_gt (F.args_str_gt_2 _ _) (gives_str_gt _ _ t u) (λe=>nomatch e) (bB S)|GtE=>exact aJ.el h hx λi t h=>aJ.el h hy λj u h=>oy h▸P.ge_int (bB S)|IsNot=>exact iH h (λh=>eJ.el h hy λq h=>eJ.el h hx λp h=>oy h▸isnot_bool (bB S)) λh=>kW.el h hy λh=>iH h (λh=>kW.el h hx λh=>oy h▸isnot_none_none (bB S)) λh=>onStr.el h hx λp t d h=>oy h▸isnot_str_none (bB S)|In=>
  refine iH h (λh=>onSet.el h λxs e h=>aJ.el h hx λi t hq=>?_) λh=>?_
  ·obtain⟨r,hr,rfl⟩:=gF h;exact(qD hr S hx hy hu).1
  ·cases e;obtain⟨rfl,rfl⟩:=hy;exact oy hq▸S.cO.setIn rfl λk=>gQ S k
 |NotIn=>obtain⟨r,hr,rfl⟩:=gF h;exact(qD hr S hx hy hu).2
 |_=>exact nE h
end
section
variable{n:Nat}{A:tj}{E:Value->oC->Prop}{W:Wd}{H H':AH}{s:oC}{sc:te}{env:af}{e':Ts}
theorem zJ{P:Sem Value->Prop}{o i:Value}(h1:P (operate [i,o] (getItem o i)))(h2:P (operate [o,i] (getItem o i)))(sl:Expr):P (subscripted sl false o i):=by
 induction sl using Expr.casesOn with
 |Slice lo hi st p=>induction st with |none=>exact h1|some _=>exact h2
 |_=>exact h2
theorem ym{value slice:Expr}{pos:aaK}{Q:Value->oC->Prop}
  (h:si gM A (eval value e') (λo s₁=>si gM A (eval slice e') (λi ar=>∃T id,typeLookup (.type T) "__getitem__"=pure (some (.builtin id))/\ar.TypeIs o T/\si gM A (getItem o i) Q E ar) E s₁) E s):
  si gM A (eval (.Subscript value slice pos) e') Q E s:=by
 refine ox (wb h (λo s₁ bo=>ox (ub (wb bo (λi ar gN=>ox (uk ?_)) λa a x=>x)))
  λa a x=>x)
 refine gN.elim λT z4=>?_;refine z4.elim λid z5=>?_;obtain hl:=z5.1;obtain hT:=z5.2.1;obtain hg:=z5.2.2
 obtain fin:∀l,si gM A (operate l (getItem o i)) (λr da=>si gM A (letTemporaryGo value o r>>=λa=>pure r) Q E da) E ar:=λl=>wpAny_operating (wb hg (λr da eP=>ox (wpAny_letTemporaryGo (pk eP))) λa a x=>x)
 refine ox ?_;refine ox (wpAny_specialOf hT hl ?_);exact pk (zJ (P:=λm=>si gM A (m>>=λr=>letTemporaryGo value o r>>=λa=>pure r) Q E ar) (ox (fin _)) (ox (fin _)) slice)
theorem gR{m:Nat}{i:Int}{k:Nat}(h:dF m i=some k):-2^63<=i/\i<2^63/\seqIndex? i m=some k:=by
 unfold dF at h;induction hc:decide (-2^63<=i)&&decide (i<2^63) with |false=>rw[hc] at h;exact nE h|true=>rw[hc] at h;obtain q:=a_ hc;exact⟨of_decide_eq_true q.1,of_decide_eq_true q.2,h⟩
theorem sC{l:sx}{xs:Array Value}{m:Nat}{vs:List V}{i:Int}{u:Tok}{c:V}(S:aN W H s)(g:s.heap.get? l=some (ja xs m))(r:aG W vs xs.toList)
  (h:(dF vs.length i).bind (λk=>vs[k]?)=some c):
  si gM A (getItem (.ref l) (.int i u)) (λz=>bf W H s aQ H λW' a=>Rel W' c z) E s:=by
 refine(t7 h).elim λk z=>z.elim λhk hv=>?_
 obtain hb:=gR hk;refine(r.get hv).elim λx z=>z.elim λhx rx=>?_
 obtain hx:=xv.symm.trans hx;obtain h3:(if(decide (0<=(if i<0 then i+(vs.length:Int) else i))&&decide ((if i<0 then i+(vs.length:Int) else i)<vs.length))=true then some (if i<0 then i+(vs.length:Int) else i).toNat else none)=some k:=hb.2.2;obtain h3:=r.length▸h3;by_cases hi:i<0
 ·rw[if_pos hi] at h3;exact k7 h3 λhc e=>wpAny_getItem_list_neg (v_ g) hi (by obtain this:=of_decide_eq_true (a_ hc).1;exact MG (nat_lit 0x7d810708098101) ae this) hb.1 (e▸hx) (cB S rx)
 ·rw[if_neg hi] at h3;exact k7 h3 λhc e=>wpAny_getItem_list (v_ g) (of_decide_eq_true (a_ hc).1) hb.2.1 (e▸hx) (cB S rx)
theorem sD{d:sx}{es:Array th}{m:Nat}{kvs:List (Str×V)}{x:Str}{t:Tok}{c:V}(S:aN W H s)(g:s.heap.get? d=some (dO es m))(nd:(kvs.map (·.1)).Nodup)(r:Reld W kvs es.toList)
  (h:kvs.lookup x=some c):si gM A (getItem (.ref d) (.str x t)) (λz=>bf W H s aQ H λW' a=>Rel W' c z) E s:=by
 refine(e7 g nd r).elim λps z=>z.elim λD rp=>?_
 obtain hl:=rp.lookup x;obtain hl:=h▸hl;refine hl.elim λy V3=>?_;obtain hy:=V3.1;obtain ry:=V3.2
 exact wpAny_getItem_of (strKind_is _ _ _ _) D.mapOf hy (cU S _ ry)
def zK(s:oC)(x:Value):Prop:=∃T id,typeLookup (.type T) "__getitem__"=pure (some (.builtin id))/\s.TypeIs x T
theorem qE{l:sx}{xs:Array Value}{m:Nat}(g:s.heap.get? l=some (ja xs m)):zK s (.ref l):=⟨_,_,slot_list_getitem.lookup,_,g,rfl⟩
theorem nW{l:sx}{xs:Array Value}{m:Nat}(g:s.heap.get? l=some (qB xs m)):zK s (.ref l):=⟨_,_,F.slot_tuple_getitem.lookup,_,g,rfl⟩
theorem zL{l:sx}{xs:Array th}{m:Nat}(g:s.heap.get? l=some (dO xs m)):zK s (.ref l):=⟨_,_,slot_dict_getitem.lookup,_,g,rfl⟩
theorem MW{x:Str}{t:Tok}:zK s (.str x t):=⟨_,_,F.slot_str_getitem.lookup,typeIs_str s x t⟩
theorem yn{a i c:V}{x y:Value}(h:item H a i=some c)(S:aN W H s)(hx:Rel W a x)(hy:Rel W i y):
  zK s x/\si gM A (getItem x y) (λz=>bf W H s aQ H λW' b=>Rel W' c z) E s:=by
 have hh:=nU S hx;have h:t_ (deref H a) i=some c:=h
 revert hh h
 generalize deref H a=a';intro hh h;induction a' using V.casesOn with
 |lst vs=>obtain⟨l,m,xs,rfl,g,_,r⟩:=hh;exact⟨qE g,aJ.el h hy λi u h=>sC S g r h⟩
 |tup vs=>
  obtain⟨l,m,xs,rfl,g,_,r⟩:=hh;refine⟨nW g,aJ.el h hy λi u h=>?_⟩;obtain⟨k,hk,hv⟩:=t7 h;have hb:=gR hk
  obtain⟨q,hq,rq⟩:=r.get hv;exact P.getItem_tuple g hb.1 hb.2.1 ((show vs.length=xs.size from r.length)▸hb.2.2) (xv.symm.trans hq) (cB S rq)
 |aE kvs=>obtain⟨d,m,es,rfl,g,_,nd,_,r⟩:=hh;exact⟨zL g,onStr.el h hy λx u b h=>sD S g nd r h⟩
 |_=>exact nE h
theorem By{vs:List V}{xs:Array Value}(r:aG W vs xs.toList)(lo hi:Option Int):aG W (cut vs lo hi) (cut xs.toList lo hi):=by obtain el:=r.length;unfold cut;refine el▸?_;exact(r.drop _).take _
theorem Jx{α:Type}(xs:List α)(lo hi:Option Int):(cut xs lo hi).length<=xs.length:=((List.take_sublist ..).trans (List.drop_sublist ..)).length_le
def nX(x:Value)(o:Option Int):Prop:=(o=none/\x=.none)\/∃i t,o=some i/\x=.int i t
theorem nX.part{x:Value}{o:Option Int}(h:nX x o):IsPart x o:=by
 rcases h with ⟨rfl,rfl⟩|⟨i,t,rfl,rfl⟩
 ·exact .none
 ·exact .int i t
theorem nX.at{x:Value}{o:Option Int}{i:Int}(h:nX x o)(e:o=some i):∃t,x=.int i t:=by
 rcases h with ⟨rfl,rfl⟩|⟨j,t,rfl,rfl⟩
 ·exact nE e
 ·exact⟨t,oy e▸rfl⟩
theorem nX.pair{x:Value}{o:Option Int}(h:nX x o):∃p:Option (Int×Tok),p.map (·.1)=o/\x=partValue p:=by
 rcases h with ⟨rfl,rfl⟩|⟨i,t,rfl,rfl⟩
 ·exact⟨none,rfl,rfl⟩
 ·exact⟨some (i,t),rfl,rfl⟩
theorem wN(b n:Nat)(k:b<=n):Builtin.Slice.sliceAdjust none (some (b:Int)) 1 (n:Int)=(0,(b:Int)):=
 have e:(if(b:Int)<0 then max ((b:Int)+n) 0 else min (b:Int) n)=(b:Int):=(if_neg (aaw.mpr (Kb b))).trans (Int.min_eq_left (Int.ofNat_le.mpr k))
 aaC rfl e
theorem wO(a b:Nat)(h:a<=b):Builtin.Slice.slicePlaces (a:Int) (b:Int) 1=b-a:=by
 refine(?_:(if(a:Int)<(b:Int) then((b:Int)-a-1)/1+1 else 0).toNat=b-a);rw[Int.ediv_one,Int.sub_add_cancel];by_cases hl:(a:Int)<(b:Int)
 ·rw[if_pos hl];exact Int.toNat_sub b a
 ·rw[if_neg hl];exact(Nat.sub_eq_zero_of_le (Int.ofNat_le.mp (aaw.mp hl))).symm
theorem Fi(xs:Array Value)(a k:Nat):((w8 k).filterMap λ(j:Nat)=>xs[((a:Int)+(j:Int)* 1).toNat]?)=(xs.toList.drop a).take k:=by
 obtain e:(λ(k:Nat)=>xs[((a:Int)+(k:Int)* 1).toNat]?)=λk=>xs[a+k]?:=funext λk=>by rw[Int.mul_one];rfl
 simp only[e,<-pick_run xs a k,List.filterMap_map];rfl
theorem nY{t sl:sx}{xs:Array Value}{m:Nat}{vs:List V}{u':Tok}{b:Nat}(S:aN W H s)(z:s.heap.get? t=some (qB xs m))(hz:vs.length<ai)(r:aG W vs xs.toList)
  (hs:s.heap.IsSliceOf sl .none (.int b u') .none)(hb:b<vs.length):
  si gM A (getItem (.ref t) (.ref sl)) (λz=>bf W H s aQ H λW' a=>Rel W' (.tup (vs.take b)) z) E s:=by
 obtain el:=r.length;rw[el] at hb;obtain Fj:=r.take b;obtain nZ:=vw (List.take_sublist ..).length_le hz;obtain ht:=Fb z;refine(id hs).elim λos Jy=>?_;obtain tY:=Jy.1;obtain dh:=Jy.2.1;obtain Sh:=Jy.2.2
 unfold getItem
 try with_reducible refine ub ?_
 first|refine ox (pk ?_)|skip
 refine ox (wpAny_sequenceKey ht.typeIs rfl ?_)
 refine ox (aau ht.typeIs F.slot_tuple_getitem
  (PQ F.slot_tuple_getitem ht.typeIs F.entry_tuple_getitem ?_ (F.args_tuple_getitem_2 _ _)))
 refine(?_:si _ _ (Builtin.Tuple.tupleItemsOf (.ref t)>>=_) _ _ s);refine ox (ox (wpAny_seqItems z rfl (pk (ox (wpAny_typeOf (⟨os,tY,dh⟩) ?_)))));refine ox ?_;refine ox (ox (aaj tY Sh (x:=.none) rfl (ox (aaj tY Sh (x:=.int b u') rfl (ox (aaj tY Sh (x:=.none) rfl (pk ?_)))))));refine ox (slicePart_none ?_);refine ox (slicePart_none (ox (slicePart_int (ox (pk ?_)))));refine(?_:si _ _ (match Builtin.Slice.sliceAdjust none (some (b:Int)) 1 (xs.size:Int) with |(lo,hi)=>pure (lo,(1:Int),Builtin.Slice.slicePlaces lo hi 1)) _ _ s);refine(wN b xs.size (y7 hb))▸?_;show si _ _ (pure (((0:Nat):Int),(1:Int),Builtin.Slice.slicePlaces ((0:Nat):Int) (b:Int) 1)) _ _ s;refine(wO 0 b (zr b)).symm▸?_;refine pk ?_;simp only[show(b-0==xs.size)=false from zu (aW (nat_lit 0x9096112310201101103) ae hb (Md (b) (0))),Fi,List.drop_zero];rw[Nat.sub_zero,if_neg (by simp)];exact ox (B1 (pk ⟨_,rfl,pk ⟨_,ah.push S aQ (qB (xs.toList.take b).toArray 0),_,_,_,rfl,Wd.bg ..,nZ,Fj.mono (ah.push S aQ _).le⟩⟩) (bA (n:=(xs.toList.take b).length) (Fj.length▸nZ)))
theorem pU{t sl:sx}{xs:Array Value}{m:Nat}{vs:List V}{lv hv:Value}{lo hi:Option Int}(S:aN W H s)(g:s.heap.get? t=some (ja xs m))(hz:vs.length<ai)(r:aG W vs xs.toList)
  (hs:s.heap.IsSliceOf sl lv hv .none)(hl:nX lv lo)(hh:nX hv hi):
  si gM A (getItem (.ref t) (.ref sl)) (λz=>bf W H s aQ H λW' a=>Rel W' (.lst (cut vs lo hi)) z) E s:=by
 obtain el:=r.length;obtain Fj:=By r lo hi;obtain nZ:=vw (Jx ..) hz;obtain e:slicePick xs lo hi none=(cut xs.toList lo hi).toArray:=by rw[slicePick_plain];rfl
 refine wpAny_getItem_list_slice (v_ g) hs hl.part hh.part .none (by decide) ?_ (bA (aW (nat_lit 9307503654351106) ae el hz));refine e▸?_;obtain PP:=ah.push S aQ (ja (cut xs.toList lo hi).toArray 0);refine⟨_,PP,?_⟩;exact⟨_,_,_,rfl,Wd.bg ..,nZ,by exact Fj.mono PP.le⟩
theorem picked_eq(x:Str)(l u:Option (Int×Tok)):slicePicked x l u none=(w8 ((u.map (·.1)).elim x.length (clipAt x.length)-(l.map (·.1)).elim 0 (clipAt x.length))).map ((l.map (·.1)).elim 0 (clipAt x.length)+·):=by
 obtain e:∀i:Int,max 0 (min (if i<0 then i+(x.length:Int) else i) (x.length:Int))=((clipAt x.length i:Nat):Int):=λi=>(clipAt_cast _ _).symm
 obtain key:∀(lo hi:Option Int),sliceRange (match lo with |none=>(0:Int)|some i=>max 0 (min (if i<0 then i+(x.length:Int) else i) (x.length:Int))) (match hi with |none=>(x.length:Int)|some i=>max 0 (min (if i<0 then i+(x.length:Int) else i) (x.length:Int))) 1=(w8 (hi.elim x.length (clipAt x.length)-lo.elim 0 (clipAt x.length))).map (lo.elim 0 (clipAt x.length)+·):=by intro lo hi;rw[<-sliceRange_one];induction lo<;>induction hi<;>simp[e]
 exact key _ _
theorem BA{a c:V}{x:Value}{sl:sx}{lv hv:Value}{lo hi:Option Int}(h:slice H a lo hi=some c)(S:aN W H s)(hx:Rel W a x)
  (hs:s.heap.IsSliceOf sl lv hv .none)(hl:nX lv lo)(V4:nX hv hi):
  zK s x/\si gM A (getItem x (.ref sl)) (λz=>bf W H s aQ H λW' d=>Rel W' c z) E s:=by
 obtain hh:=nU S hx;have h:(match deref H a with |.tup xs=>lo.elim (hi.bind λj=>bif HZ j xs.length then some (.tup (xs.take j.toNat)) else none) λd=>none|.lst xs=>some (.lst (cut xs lo hi))|_=>none)=some c:=h
 revert hh h
 generalize deref H a=a';intro hh h;induction a' using V.casesOn with
 |tup vs=>
  obtain⟨l,m,xs,rfl,g,hz,r⟩:=hh;induction lo with
  |some _=>exact nE h|none=>
   obtain⟨j,ej,h⟩:=t7 h;refine sy h λhc e=>e▸⟨nW g,?_⟩
   have q:=a_ hc;have h1:=of_decide_eq_true q.1
   have h2:=of_decide_eq_true q.2;obtain⟨b,rfl⟩:=Int.eq_ofNat_of_zero_le h1;obtain⟨u',rfl⟩:=V4.at ej;obtain⟨_,rfl⟩|⟨_,_,e,_⟩:=hl
   ·exact nY S g hz r hs (aae.mp h2)
   ·exact nE e
 |lst vs=>obtain⟨l,m,xs,rfl,g,hz,r⟩:=hh;exact oy h▸⟨qE g,pU S g hz r hs hl V4⟩
 |_=>exact nE h
end
theorem jt{p:Arguments}{ps:List Str}(h:c7 p=some ps):∃as,p=⟨[],as,none,[],[],none,[]⟩/\ps=as.map (·.arg):=by
 obtain⟨a,as,b,c,d,e,f⟩:=p;induction a with |cons _ _=>exact nE h|nil=>
 induction b with |some _=>exact nE h|none=>
 induction c with |cons _ _=>exact nE h|nil=>
 induction d with |cons _ _=>exact nE h|nil=>
 induction e with |some _=>exact nE h|none=>
 induction f with |cons _ _=>exact nE h|nil=>exact⟨as,rfl,(oy h).symm⟩
theorem fT:∀(ps:List Str) (xs:List Value),ps.length=xs.length->∀n∈ps,((ps.zip xs).lookup n).isNone=false
|[],aR,bV,n,h=>by exact nomatch h|p::ps,[],h,aR,bV=>by simp at h|p::ps,x::xs,h,n,hn=>by
 dsimp only[List.zip_cons_cons,sT];refine aaN (p:=n=p) (λhp=>?_) λhp=>?_
 ·subst hp;simp
 ·obtain h1:(n==p)=false:=by simpa using hp
  refine h1.symm▸?_;exact fT ps xs (by simpa using h) n ((bx hn).resolve_left hp)
theorem ju:∀(ps:List Str) (xs:List Value) (pre:List (Str×Value)),ps.length=xs.length->ps.Nodup->(∀q∈pre,q.1∉ps)->ps.filterMap (λn=>((pre++ps.zip xs).lookup n).map (n,·))=ps.zip xs
|[],aR,bV,iq,yb,H8=>rfl|p::ps,[],aR,h,bV,iq=>by simp at h|p::ps,x::xs,pre,h,nd,Fo=>by
 obtain hl:(pre++(p::ps).zip (x::xs)).lookup p=some x:=by
  refine List.lookup_append.trans ?_;have :pre.lookup p=none:=by rw[aan];intro q hq;obtain this:=Fo q hq;simp only[y3,not_or] at this;simpa using λe=>this.1 e.symm
  rw[this];simp
 rw[List.filterMap_cons,hl];simp only[Option.map_some,List.zip_cons_cons];congr 1;obtain e:pre++(p,x)::ps.zip xs=(pre++[(p,x)])++ps.zip xs:=by simp
 refine e▸?_;rw[Hk] at nd;refine ju ps xs (pre++[(p,x)]) (by simpa using h) nd.2 λq hq=>?_
 rcases Fm.mp hq with hq|hq
 ·obtain this:=Fo q hq;simp only[y3,not_or] at this;exact this.2
 ·rw[vu] at hq;subst hq;exact nd.1
theorem lY{fd:FuncData}{ps:List Str}{xs:List Value}(hp:c7 fd.params=some ps)(hd:fd.defaults=.none)(hk:fd.kwdefaults=.none)(hl:ps.length=xs.length)(nd:ps.Nodup):
  bindArgs fd ⟨xs,[]⟩=pure (ps.zip xs):=by
 obtain⟨as,Qk,rfl⟩:=jt hp;unfold bindArgs;rw[Qk,hd];obtain h1:seqItems? Value.none=pure none:=rfl;obtain hlen:as.length=xs.length:=by simpa using hl
 obtain MX:List.filter (λn=>(List.lookup n ((as.map (·.arg)).zip xs)).isNone) (as.map (·.arg))=[]:=by rw[List.filter_eq_nil_iff];intro n hn;rw[fT _ _ hl n hn];simp
 obtain hb:=ju (as.map (·.arg)) xs [] hl nd (λq hq=>by exact nomatch hq);simp only[Hm] at hb;rw[List.filterMap_map] at hb;simp[h1,hlen,MX,hb,Q1]
theorem qF(K:Str->Option aav):∀(r:List (Str×Value)) (m:Str->Option Value) (x:Str),x∉r.map (·.1)->bindL K r m x=m x
|[],aR,bV,iq=>rfl|(n,v)::r,m,x,h=>by
 simp only[xb,y3,not_or] at h;refine(qF K r _ x h.2).trans ?_;split
 ·skip
  exact if_neg h.1
 ·rfl
theorem qG(K:Str->Option aav):∀(r:List (Str×Value)) (m:Str->Option Value) (x:Str),x∉r.map (·.1)->bindC K r m x=m x
|[],aR,bV,iq=>rfl|(n,v)::r,m,x,h=>by
 simp only[xb,y3,not_or] at h;refine(qG K r _ x h.2).trans ?_;split
 ·rfl
 ·skip
  exact if_neg h.1
section
variable{W:Wd}
theorem j_:∀(ps:List Str) (xs:List Value),ps.length=xs.length->(ps.zip xs).map (·.1)=ps|[],aR,bV=>rfl|p::ps,[],h=>by simp at h|p::ps,x::xs,h=>by exact congrArg _ (j_ ps xs (by simpa using h))
theorem qH(K:Str->Option aav){ps:List Str}{vs:List V}{xs:List Value}(m:Str->Option Value)(nd:ps.Nodup)(hl:ps.length=vs.length)(hr:aG W vs xs)(x:Str)(u:V)(hk:K x=some .local)(h:(ps.zip vs).lookup x=some u):
  ∃y,bindL K (ps.zip xs) m x=some y/\Rel W u y:=by
 induction ps generalizing vs xs m with
 |nil=>exact nE h|cons p ps ih=>induction vs using List.casesOn with
  |nil=>exact nE h|cons v vs=>induction xs using List.casesOn with
   |nil=>exact hr.elim|cons y ys=>
    rw[Hk] at nd;dsimp only[List.zip_cons_cons,sT] at h⊢;unfold bindL;refine aaN (p:=x=p) (λhx=>?_) λhx=>?_
    ·subst hx;simp only[beq_self_eq_true,aap] at h;subst h;have MT:ps.length=ys.length:=by obtain this:=hr.2.length;exact aW (nat_lit 0x12251025190819282512) ae hl this
     rw[qF _ _ _ _ (by refine(j_ ps ys MT).symm▸?_;exact nd.1),if_pos hk];exact⟨y,by simp,hr.1⟩
    ·obtain h1:(x==p)=false:=by simpa using hx
     obtain h:=h1▸h;exact ih _ nd.2 (Nat.succ.inj hl) hr.2 h
theorem zM(K:Str->Option aav){ps:List Str}{vs:List V}{xs:List Value}(m:Str->Option Value)(nd:ps.Nodup)(hl:ps.length=vs.length)(hr:aG W vs xs)(x:Str)(u:V)(hk:K x≠some .local)(h:(ps.zip vs).lookup x=some u):
  ∃y,bindC K (ps.zip xs) m x=some y/\Rel W u y:=by
 induction ps generalizing vs xs m with
 |nil=>exact nE h|cons p ps ih=>induction vs using List.casesOn with
  |nil=>exact nE h|cons v vs=>induction xs using List.casesOn with
   |nil=>exact hr.elim|cons y ys=>
    rw[Hk] at nd;dsimp only[List.zip_cons_cons,sT] at h⊢;unfold bindC;refine aaN (p:=x=p) (λhx=>?_) λhx=>?_
    ·subst hx;simp only[beq_self_eq_true,aap] at h;subst h;have MT:ps.length=ys.length:=by obtain this:=hr.2.length;exact aW (nat_lit 0x12251025190819282512) ae hl this
     rw[qG _ _ _ _ (by refine(j_ ps ys MT).symm▸?_;exact nd.1),if_neg hk];exact⟨y,by simp,hr.1⟩
    ·obtain h1:(x==p)=false:=by simpa using hx
     obtain h:=h1▸h;exact ih _ nd.2 (Nat.succ.inj hl) hr.2 h
end
theorem ff:∀(names:List (Str×aav)) (n:Nat) (acc:List (Str×sx)) (x:Str),(acc.lookup x).isSome=true->((cellsFrom n names acc).lookup x).isSome=true
|[],aR,bV,iq,h=>h|(y,k)::r,n,acc,x,h=>by
 unfold cellsFrom;split
 ·refine ff r _ _ x ?_;simp only[sT];split<;>trivial
 ·exact ff r _ _ x h
theorem dW:∀(names:List (Str×aav)) (n:Nat) (acc:List (Str×sx)) (x:Str),names.lookup x=some .cell->((cellsFrom n names acc).lookup x).isSome=true
|[],aR,bV,iq,h=>by simp at h|(y,k)::r,n,acc,x,h=>by
 simp only[sT] at h;unfold cellsFrom;refine aaN (p:=x=y) (λhx=>?_) λhx=>?_
 ·subst hx;rw[beq_self_eq_true,aap] at h;subst h;exact ff r _ _ x (by simp_all)
 ·have h1:(x==y)=false:=by simpa using hx
  obtain h:=h1▸h;split
  ·exact dW r _ _ x h
  ·exact dW r _ _ x h
def Fp(sc:te)(env:af)(e:Ts)(a:sx):Prop:=∃x,kindOf sc x=some .cell/\G.C.wo x=true/\(aY env x).isSome=true/\e.cells.lookup x=some a
open Classical in
def gy(sc:te)(env:af)(e:Ts)(W:Wd)(h:xI):Wd:={W with Z:=λa=>if Fp sc env e a then h.get? a else W.Z a}
theorem yo{sc:te}{env:af}{e:Ts}{W:Wd}{h:xI}{a:sx}(x:Fp sc env e a):(gy sc env e W h).Z a=h.get? a:=if_pos x
theorem kc{sc:te}{env:af}{e:Ts}{W:Wd}{h:xI}{a:sx}(x:¬Fp sc env e a):(gy sc env e W h).Z a=W.Z a:=if_neg x
section
variable{n:Nat}{A:tj}{E:Value->oC->Prop}{W:Wd}{H H':AH}{s:oC}{sc:te}{env:af}{e':Ts}
theorem aN.gh(S:aN W H s){a:sx}(h:s.heap.objs.size<=a):¬G.fR a:=λ⟨c,q,hm⟩=>by obtain⟨_,_,_,_,ps,h1,_⟩:=S.tab c a q hm;exact absurd (ti h1) (vi h)
theorem aN.dc(S:aN W H s){a:sx}(h:s.heap.objs.size<=a):W.own a=none:=by
 induction e:W.own a with |none=>rfl|some k=>exact absurd (S.cH a k e).2 (vi h)
theorem BB{d:A7}{ps:List Str}{vs:List V}{xs:List Value}{s₁:oC}{fd:FuncData}{f:sx}(S:aN W H s)(hd:d.ok=true)(Ex:d.params=ps)(hl:ps.length=vs.length)(rs:aG W vs xs)
  (uG:fd.scope=d.sc)(hg:fd.globals=mainGlobals)(hb:fd.builtins=builtinsNs)(hc:∃c P,fd.code=.ref c/\(c,P,fd.qualname++".<locals>.")∈G.tabs)
  (I:InCallC s (callEnvC fd s.heap.objs.size f).locals (bindL (callEnvC fd s.heap.objs.size f).kindOf (ps.zip xs) λb=>none) (callEnvC fd s.heap.objs.size f).cells
    (bindC (callEnvC fd s.heap.objs.size f).kindOf (ps.zip xs) λb=>none) s₁):
  ah W H s aQ (gy d.sc (ps.zip vs) (callEnvC fd s.heap.objs.size f) W s₁.heap) H s₁/\
  aq d.sc (ps.zip vs) (callEnvC fd s.heap.objs.size f) (gy d.sc (ps.zip vs) (callEnvC fd s.heap.objs.size f) W s₁.heap) s₁/\
  ∀a,ck d.sc (callEnvC fd s.heap.objs.size f) a->s.heap.objs.size<=a:=by
 generalize he:callEnvC fd s.heap.objs.size f=e at I;have yp:e.locals=s.heap.objs.size:=by refine he▸?_;rfl
 have MY:e.scope=d.sc:=by simp only[<-he,<-uG];rfl
 obtain Si:e.cells=cellsFrom (s.heap.objs.size+1) d.sc.names []:=by rw[<-he,<-uG];rfl
 have hK:∀x,e.kindOf x=kindOf d.sc x:=λx=>by unfold Ts.kindOf kindOf;rw[MY]
 unfold A7.ok at hd;simp only[vr,decide_eq_true_eq,beq_iff_eq,L9] at hd;obtain Sj:=hd.1;refine Sj.elim λSk MZ=>?_;refine Sk.elim λSl XT=>?_;refine Sl.elim λSm Lw=>?_;refine Sm.elim λSn Qp=>?_;refine Sn.elim λIe hd2=>?_
 rw[Ex] at MZ;obtain⟨h',tk,yq⟩:=I.toInCall.same;have big:=λx c hx=>by have :=I.above x c (mem_of_lookup hx);rw[yp] at this;exact this
 obtain hsz:s.heap.objs.size<=s₁.heap.objs.size:=by have :=I.toInCall.ns.lt;rw[yp] at this;exact y7 this
 obtain hz:∀a o,W.Z a=some o->(gy d.sc (ps.zip vs) e W s₁.heap).Z a=some o:=by
  intro a o h;rw[kc]
  ·exact h
  ·rintro⟨x,_,_,_,hx⟩;exact absurd (S.Se h) (vi (y7 (big x a hx)))
 have PP:ah W H s aQ (gy d.sc (ps.zip vs) e W s₁.heap) H s₁:=by
  refine ah.grow S aQ I.toInCall.keep hsz rfl rfl hz ?_ (by rw[yq]) (by rw[yq]);intro a o h;by_cases hx:Fp d.sc (ps.zip vs) e a
  ·rw[yo hx] at h;refine hx.elim λx So=>?_;obtain hx:=So.2.2.2
   exact .inr ⟨y7 (big x a hx),h⟩
  ·rw[kc hx] at h;exact .inl h
 refine⟨PP,⟨?_,?_,?_,?_,?_,?_,?_,?_,?_⟩,?_⟩
 ·exact MY▸(Ie)
 ·refine he▸?_;exact hg
 ·refine he▸?_;exact hb
 ·intro _;obtain⟨c,P,h1,h2⟩:=hc;exact⟨c,P,by rw[<-he];exact h1,by exact he▸(h2)⟩
 ·intro x k hk _;left;rw[hK];exact hk
 ·obtain⟨o,es,ep,h1,h2,h3⟩:=I.toInCall.ns;refine⟨o,es,ep,_,h1,S.gh (by rw[yp];exact pd _),h2,I.toInCall.ns,S.dc (by rw[yp];exact pd _),?_,?_⟩
  ·rw[kc]
   ·exact S.iG (by rw[yp];exact pd _)
   ·rintro⟨x,_,_,_,hx⟩;have :=big x _ hx;rw[yp] at this;exact absurd this (aah _)
  ·intro x v hk hv;obtain⟨y,hy,ry⟩:=qH e.kindOf (λb=>none) MZ hl rs x v (by rw[hK];exact hk) hv;exact⟨y,hy,ry.mono PP.le⟩
 ·intro x hx;obtain⟨c,hc⟩:=nB (by rw[Si];exact dW d.sc.names (s.heap.objs.size+1) [] x hx:(e.cells.lookup x).isSome=true);obtain⟨o,ho,gi⟩:=I.cell x c hc;obtain hb:=big x c hc;refine⟨c,o,_,hc,ho,S.gh (y7 hb),gi,S.dc (y7 hb),?_⟩;cases hv:aY (ps.zip vs) x with
  |none=>
   rw[kc]
   ·exact S.iG (y7 hb)
   ·rintro⟨y,_,_,hy,Sp⟩;have :y=x:=name_of_addr I.apart (mem_of_lookup Sp) (mem_of_lookup hc);subst this;rw[hv] at hy;exact bE hy
  |some v=>
   obtain⟨y,hy,ry⟩:=zM e.kindOf (λb=>none) MZ hl rs x v (by rw[hK,hx];decide) hv;refine⟨⟨y,hy,ry.mono PP.le⟩,?_⟩;by_cases hw:G.C.wo x=true
   ·rw[if_pos hw];rw[yo ⟨x,hx,hw,by rw[hv];rfl,hc⟩];exact ho
   ·rw[if_neg hw];rw[kc]
    ·exact S.iG (y7 hb)
    ·rintro⟨y,_,XU,_,Sp⟩;have :y=x:=name_of_addr I.apart (mem_of_lookup Sp) (mem_of_lookup hc);cases this;exact hw XU
 ·intro x v hk hv;exfalso;obtain hx:=(aaM (mem_of_lookup hv)).1;rw[Ex] at Lw;have :=cj Lw x hx
  unfold Bp at this;rw[hk] at this;exact bE this
 ·intro x y c hx hy h1 h2;exact name_of_addr I.apart (mem_of_lookup h1) (mem_of_lookup h2)
 ·intro a ha;rcases ha with rfl|⟨x,_,hx⟩
  ·rw[yp];exact pd _
  ·exact y7 (big x a hx)
end
section
variable{n:Nat}{A:tj}{E:Value->oC->Prop}{sc:te}{e':Ts}
end
section
variable{H H':AH}{W:Wd}{s:oC}
theorem dw{k:Nat}{o:aF}{u:Unit}(h:ik k o H=some (u,H')):H'=H.set k o:=by cases h;rfl
theorem dG{k j:Nat}{o:aF}(h:(H.set k .gone)[j]?=some o):(j=k/\o=.gone)\/(j≠k/\H[j]?=some o):=by
 by_cases hj:j=k
 ·subst hj;obtain cF:j<H.length:=by obtain this:=(eI h).1;simpa using this
  rw[tA cF] at h;exact .inl ⟨rfl,(oy h).symm⟩
 ·rw[v3 (aaJ hj)] at h;exact .inr ⟨hj,h⟩
theorem aN.M0(S:aN W H s)(k:Nat):aN W (H.set k .gone) s:=by
 refine⟨S.z,S.jV,λa j h=>⟨by simp only[vx];exact(S.cH a j h).1,(S.cH a j h).2⟩,λa j h hl=>?_,λj o h=>?_,S.tab,S.base⟩
 ·refine S.uv a j h ?_;obtain⟨o,ho,hn⟩:=hl;rcases dG ho with ⟨_,rfl⟩|⟨_,ho⟩
  ·exact hn.elim
  ·exact⟨o,ho,hn⟩
 ·rcases dG h with ⟨rfl,rfl⟩|⟨_,ho⟩
  ·have cF:j<H.length:=by
    obtain this:=(eI h).1;simpa using this
   refine(S.obj j _ (sg cF)).elim λa A1=>?_;obtain h1:=A1.1
   exact⟨a,h1,trivial⟩
  ·exact S.obj j o ho
theorem ah.M0(S:aN W H s)(X:sx->Prop)(k:Nat):ah W H s X W (H.set k .gone) s:=
 ⟨S.M0 k,.refl W,λa a h=>h,λa a h=>.inl h,λa a h=>.inl h,λa a h a a a=>h,λa ps a h=>⟨#[],by exact h⟩,λj h=>by
  by_cases hj:j=k
  ·subst hj;obtain cF:=(eI h).1;exact tA cF
  ·refine(v3 (aaJ hj)).trans ?_;exact h,by simp only[vx];exact pd _,pd _,rfl,rfl⟩
set_option tactic.hygienic true in
theorem ah.freeze(S:aN W H s)(X:sx->Prop){k:Nat}{a:sx}{o:Nw}(hk:H[k]?=some .gone)(ha:W.φ k=some a)(ho:s.heap.get? a=some o)(hn:¬G.fR a)(hz:W.Z a=none\/W.Z a=some o)(hX:X a):
  ah W H s X (W.add a o) H s:=by
 have own:=S.jV k a ha;have wc:∀b o',W.Z b=some o'->(W.add a o).Z b=some o':=by
  intro b o' h;show(if b=a then some o else W.Z b)=some o';split
  ·rename_i e;subst e;rcases hz with hz|hz
   ·rw[hz] at h;exact nE h
   ·rw[hz] at h;exact h
  ·exact h
 have zc:∀b o',(W.add a o).Z b=some o'->(b=a/\o'=o)\/W.Z b=some o':=by
  intro b o' h;have h':(if b=a then some o else W.Z b)=some o':=h
  split at h'
  ·rename_i e;obtain rfl:=oy h';exact .inl ⟨e,rfl⟩
  ·exact .inr h'
 have L:W.Le (W.add a o):=⟨wc,λd d h=>h⟩;refine⟨⟨λb o' h=>?_,S.jV,S.cH,λb j h hl=>?_,λj o' h=>?_,λc P q hm=>?_,S.base.mono wc⟩,L,λd d h=>h,λd d h=>.inl h,λb o' h=>?_,λd d h d d d=>h,λd ps d h=>⟨#[],by exact h⟩,λd h=>h,pd _,pd _,rfl,rfl⟩
 ·rcases zc b o' h with ⟨rfl,rfl⟩|h
  ·exact ho
  ·exact S.z b o' h
 ·induction hh:(W.add a o).Z b with
  |none=>rfl|some o'=>
   rcases zc b o' hh with ⟨rfl,rfl⟩|h'
   ·have h2:W.own b=some j:=h;rw[own] at h2;obtain rfl:=oy h2;obtain⟨q,hq,hn⟩:=hl;rw[hk] at hq;obtain rfl:=oy hq;exact hn.elim
   ·rw[S.uv b j h hl] at h';exact nE h'
 ·refine(S.obj j o' h).elim λb Ew=>?_;obtain h1:=Ew.1;obtain h2:=Ew.2
  exact⟨b,h1,h2.keeps L (λd h=>h) (λd e=>e) λd d d e=>e⟩
 ·obtain⟨h1,⟨oc,h0⟩,h2,nT,ps,h3,h4,h5⟩:=S.tab c P q hm;refine⟨h1,⟨oc,wc _ _ h0⟩,?_,nT,ps,h3,h4,λpos cv hc=>(h5 pos cv hc).mono wc⟩
  ·induction hh:(W.add a o).Z P with
   |none=>rfl|some o'=>
    rcases zc P o' hh with ⟨rfl,rfl⟩|h'
    ·exact absurd ⟨c,q,hm⟩ hn
    ·rw[h2] at h';exact nE h'
 ·rcases zc b o' h with ⟨rfl,rfl⟩|h
  ·exact .inr (.inr (.inr hX))
  ·exact .inl h
theorem aN.qI(S:aN W H s){a:sx}{o:Nw}(h:s.heap.get? a=some o)(hc:o.cls≠.none):¬G.fR a:=λ⟨c,q,hm⟩=>by obtain⟨_,_,_,_,ps,h1,_⟩:=S.tab c a q hm;rw[h] at h1;obtain rfl:=oy h1;exact hc rfl
theorem n5{f:V->M V}{n:Nat}
  (hf:∀{v v':V} {H H':AH} {W:Wd} {x:Value},f v H=some (v',H')->aN W H s->Rel W v x->∃W',ah W H s aQ W' H' s/\Rel W' v' x)
  {vs sG:List V}{H H':AH}{W:Wd}{xs:List Value}(h:eU f vs H=some (sG,H'))(S:aN W H s)(r:aG W vs xs):∃W',ah W H s aQ W' H' s/\aG W' sG xs:=by
 induction vs generalizing sG H H' W xs with
 |nil=>induction xs with |cons _ _=>exact r.elim|nil=>refine iD h ?_;exact⟨W,.refl S,r⟩
 |cons v vs ih=>induction xs with
  |nil=>exact r.elim|cons x xs=>
   refine cY h λy H₁ h1 h=>?_
   refine cY h λys H2 h2 h=>?_
   refine iD h ?_;refine(hf h1 S r.1).elim λag z=>z.elim λaa aw=>?_
   refine(ih h2 aa.sim (r.2.mono aa.le)).elim λa9 M1=>?_;obtain ab:=M1.1;obtain bc:=M1.2
   exact⟨a9,aa.trans S ab,⟨aw.mono ab.le,bc⟩⟩
theorem iJ{f:V->M V}:∀{vs sG:List V} {H H':AH},eU f vs H=some (sG,H')->sG.length=vs.length
|[],sG,H,H',h=>by refine iD h ?_;rfl|v::vs,sG,H,H',h=>by
 refine cY h λy H₁ h1 h=>?_
 refine cY h λys H2 h2 h=>?_
 refine iD h ?_;simp[iJ h2]
theorem kg{f:V->M V}:∀{vs sG:List (Str×V)} {H H':AH},eV f vs H=some (sG,H')->sG.map (·.1)=vs.map (·.1)
|[],sG,H,H',h=>by refine iD h ?_;rfl|(k,v)::vs,sG,H,H',h=>by
 refine cY h λy H₁ h1 h=>?_
 refine cY h λys H2 h2 h=>?_
 refine iD h ?_;simp[kg h2]
theorem wQ{f:V->M V}{n:Nat}
  (hf:∀{v v':V} {H H':AH} {W:Wd} {x:Value},f v H=some (v',H')->aN W H s->Rel W v x->∃W',ah W H s aQ W' H' s/\Rel W' v' x)
  {vs sG:List (Str×V)}{H H':AH}{W:Wd}{es:List th}(h:eV f vs H=some (sG,H'))(S:aN W H s)(r:Reld W vs es):∃W',ah W H s aQ W' H' s/\Reld W' sG es:=by
 induction vs generalizing sG H H' W es with
 |nil=>induction es with |cons _ _=>exact r.elim|nil=>refine iD h ?_;exact⟨W,.refl S,r⟩
 |cons v vs ih=>induction es with
  |nil=>exact r.elim|cons x xs=>
   refine cY h λy H₁ h1 h=>?_
   refine cY h λys H2 h2 h=>?_
   refine iD h ?_;refine(hf h1 S r.2.1).elim λag z=>z.elim λaa aw=>?_
   refine(ih h2 aa.sim (r.2.2.mono aa.le)).elim λa9 z=>z.elim λab bc=>?_
   exact⟨a9,aa.trans S ab,⟨r.1,aw.mono ab.le,bc⟩⟩
theorem jc:∀(n:Nat) {v v':V} {H H':AH} {W:Wd} {x:Value},freeze n v H=some (v',H')->aN W H s->Rel W v x->∃W',ah W H s aQ W' H' s/\Rel W' v' x
|0,v,v',H,H',W,x,h,aR,bV=>by exact nE h|n+1,v,v',H,H',W,x,h,S,r=>by
 induction v using V.casesOn with
 |ref k=>
  refine cY h λo H₁ h1 h=>?_
  obtain⟨ho,hn,rfl⟩:=dR h1;obtain⟨a,rfl,ha⟩:=r;have O:=S.at ho ha
  obtain cF:=(eI ho).1;obtain zn:=S.uv a k (S.jV k a ha) hn;have hg:∀(o:aF),(H₁.set k o)[k]?=some o:=λo=>tA cF
  induction o with
  |lst xs=>
   refine cY h λu H2 h2 h=>?_
   have :=dw h2;subst this;refine cY h λys H3 h3 h=>?_
   refine iD h ?_;obtain⟨m',zs,g,hz,rs⟩:=O;obtain aa:=ah.M0 S (λb=>b=a) k;have ab:=ah.freeze aa.sim (λb=>b=a) (hg .gone) ha g (S.qI g (by simp_all)) (.inl zn) rfl
   have P':ah _ _ _ aQ _ _ _:=(aa.trans S ab).Ic λb hb=>.inr ⟨k,by refine hb▸?_;exact S.jV k a ha,hn⟩
   obtain⟨cx,a8,dt⟩:=n5 (n:=n) (jc n) h3 P'.sim (rs.mono P'.le);refine⟨cx,P'.trans S a8,?_⟩;exact⟨a,m',zs,rfl,a8.le.z _ _ (Wd.bg ..),by rw[iJ h3];exact hz,dt⟩
  |aE xs=>
   refine cY h λu H2 h2 h=>?_
   have :=dw h2;subst this;refine cY h λys H3 h3 h=>?_
   refine iD h ?_;obtain⟨m',zs,g,h0,nd,hz,rs⟩:=O;have aa:=ah.M0 S (λb=>b=a) k
   obtain ab:=ah.freeze aa.sim (λb=>b=a) (hg .gone) ha g (S.qI g (by simp_all)) (.inl zn) rfl;have P':ah _ _ _ aQ _ _ _:=(aa.trans S ab).Ic λb hb=>.inr ⟨k,by rw[hb];exact S.jV k a ha,hn⟩
   refine(wQ (n:=n) (jc n) h3 P'.sim (rs.mono P'.le)).elim λcx M4=>?_;obtain a8:=M4.1;obtain dt:=M4.2
   refine⟨cx,P'.trans S a8,?_⟩;obtain hk:=kg h3;exact⟨a,m',zs,rfl,a8.le.z _ _ (Wd.bg ..),h0,by rw[hk];exact nd,by obtain this:=congrArg PH hk;simp only[ph] at this;rw[this];exact hz,dt⟩
  |_=>exact nE h
 |tup xs=>
  refine cY h λys H3 h3 h=>?_
  refine iD h ?_;obtain⟨a,m',zs,rfl,z,hz,rs⟩:=r;obtain⟨cx,a8,dt⟩:=n5 (n:=n) (jc n) h3 S rs;refine⟨cx,a8,?_⟩;exact⟨a,m',zs,rfl,a8.le.z _ _ z,by rw[iJ h3];exact hz,dt⟩
 |_=>refine iD h ?_;exact⟨W,.refl S,r⟩
end
section
variable{n:Nat}{A:tj}{E:Value->oC->Prop}{W:Wd}{H H':AH}{s:oC}
theorem bC.deeper{A:tj}{n:Nat}(h:bC A (n+1))(e:Ts):bC (A.deeper e) n:=⟨h.handled,by obtain this:=h.depth;simp only[tj.deeper];exact aW (nat_lit 0x21190881121918081101) ae this,by obtain this:=h.units;simp only[tj.deeper];exact aW (nat_lit 0x21ca390881121918ca081101) ae this⟩
theorem bC.in1{A:tj}{n:Nat}(h:bC A (n+1)):bC A.in1 n:=⟨h.handled,by obtain this:=h.depth;exact aW (nat_lit 0x21081121918081101) ae this,by obtain this:=h.units;lia⟩
theorem bC.lim{A:tj}{n:Nat}(h:bC A n):A.depth<recursionLimit:=by obtain this:=h.depth;exact aW (nat_lit 35257940709633) ae this
theorem lW.val{fl:Fl}{g:Flow}:lW W fl g->Rel W (Rq fl) (match g with |.ret v=>v|_=>.none):=by
 intro F;induction fl with |next=>subst F;rfl|cont=>subst F;rfl|ret u=>obtain⟨x,rfl,rx⟩:=F;exact rx
theorem jd{sc:te}{x:Str}{k:aav}(h:kindOf (f9 sc) x=some k)(hk:k≠.globalExplicit):kindOf sc x=some k:=by
 unfold kindOf f9 at h;unfold kindOf;rw[List.lookup_append] at h;induction hx:sc.names.lookup x with
 |some k'=>rw[hx] at h;exact h|none=>
  rw[hx] at h;simp only[Option.none_or,sT] at h;split at h
  ·obtain rfl:=oy h;exact absurd rfl hk
  ·simp at h
theorem wR(sc:te):h_ (f9 sc)=true:=by unfold h_ f9;simp
theorem mO.get:∀{dD:List (Str×V)} {cl:List (Str×sx)} {x:Str} {v:V},mO W dD cl->dD.lookup x=some v->Ia W.Z x cl (Rel W v)
|[],aR,bV,iq,yb,h=>by simp at h|(k,u)::r,cl,x,v,hr,h=>by
 simp only[sT] at h;by_cases hx:x=k
 ·subst hx;rw[beq_self_eq_true,aap] at h;subst h;exact hr.1
 ·obtain h1:(x==k)=false:=by simpa using hx
  obtain h:=h1▸h;exact hr.2.get h
theorem zN{ps:List Str}{vs:List V}{xs:List Value}{sc:te}{dD:List (Str×V)}{cl:List (Str×sx)}{bo:xI}{e:Ts}(S:aN W H s)(hc:x7 ps sc dD=true)(hl:ps.length=vs.length)(rs:aG W vs xs)
  (rc:mO W dD cl)(yp:e.locals=s.heap.objs.size)(MY:e.scope=sc)(Si:e.cells=cl)(XW:e.globals=mainGlobals)(XX:e.builtins=builtinsNs)
  (wU:bo.Ns s.heap.objs.size λx=>(ps.zip xs).reverse.lookup x)(o:Nw)(A2:xI.SameBut s.heap.objs.size (s.heap.push o) bo):
  ah W H s aQ W H {s with heap:=bo,toks:=s.toks+(ps.zip xs).length}/\aq (f9 sc) (ps.zip vs++dD) e W {s with heap:=bo,toks:=s.toks+(ps.zip xs).length}/\
  ∀a,ck (f9 sc) e a->s.heap.objs.size<=a:=by
 unfold x7 at hc;simp only[vr,decide_eq_true_eq,beq_iff_eq,L9] at hc;obtain⟨⟨⟨⟨⟨⟨⟨⟨mR,M5⟩,Qq⟩,Qs⟩,M6⟩,XY⟩,hc6⟩,V5⟩,hc8⟩:=hc;obtain hk:=λa o' e=>A2.extBut a o' (x5 (ti e)) (px _ e)
 have hsz:=y7 wU.lt;have PP:ah W H s aQ W H {s with heap:=bo,toks:=s.toks+(ps.zip xs).length}:=ah.grow S aQ hk hsz rfl rfl (λb b h=>h) (λb b h=>.inl h) rfl rfl
 have wV:∀x,kindOf (f9 sc) x≠some .cell:=λx hx=>by have :=jd hx (by decide);obtain this:=cj M6 _ (mem_of_lookup this);simp at this
 have M7:=λp hp=>by obtain this:=cj XY p hp;simpa using this
 refine⟨PP,⟨?_,XW,XX,?_,?_,?_,?_,?_,?_⟩,?_⟩
 ·exact MY▸(M5)
 ·intro h;rw[wR] at h;exact nomatch h
 ·intro x k hx hk;left;unfold Ts.kindOf;refine MY▸?_;exact jd hx hk
 ·refine(id wU).elim λob Fq=>?_;refine Fq.elim λes XZ=>?_;refine XZ.elim λep Sq=>?_;obtain h1:=Sq.1;obtain h2:=Sq.2.1;obtain h3:=Sq.2.2
  refine⟨ob,es,ep,_,by rw[yp];exact h1,S.gh (by rw[yp];exact pd _),h2,by rw[yp];exact wU,S.dc (by rw[yp];exact pd _),S.iG (by rw[yp];exact pd _),?_⟩;intro x v hx hv;obtain E6:=jd hx (by decide);have BC:(ps.zip vs++dD).lookup x=some v:=hv
  rw[List.lookup_append] at BC;have :dD.lookup x=none:=by rw[aan];intro q hq;obtain this:=cj mR q hq;simp only[vr,beq_iff_eq] at this;simp only[bne_iff_ne,ne_eq];rintro rfl;rw[E6] at this;exact absurd this.1 (by decide)
  rw[this,Option.or_none] at BC;obtain⟨y,hy,ry⟩:=qH (λb=>some .local) (λb=>none) V5 hl rs x v rfl BC;refine⟨y,?_,ry⟩;obtain M8:ps.length=xs.length:=by rw[hl];exact rs.length
  obtain key:∀(l:List (Str×Value)) (m:Str->Option Value),(l.map (·.1)).Nodup->bindL (λb=>some .local) l m x=(l.reverse.lookup x).or (m x):=by
   intro l;induction l with
   |nil=>intro m _;rfl|cons p l ih=>
    intro m nd;obtain⟨k,u⟩:=p;simp only[xb,Hk] at nd;unfold bindL;rw[if_pos rfl,ih _ nd.2,List.reverse_cons,List.lookup_append];by_cases hx:x=k
    ·subst hx;simp
    ·obtain h1:(x==k)=false:=by simpa using hx
     simp[sT,h1,hx]
  rw[key _ _ (by rw[j_ _ _ M8];exact V5)] at hy;simpa using hy
 ·intro x hx;exact absurd hx (wV x)
 ·intro x v hx hv;obtain E6:=jd hx (by decide);have BC:(ps.zip vs++dD).lookup x=some v:=hv
  rw[List.lookup_append] at BC;have hn:(ps.zip vs).lookup x=none:=by
   rw[aan];intro q hq;simp only[bne_iff_ne,ne_eq];rintro rfl;have :=M7 q.1 (aaM hq).1
   rw[E6] at this;exact nomatch this
  rw[hn,Option.none_or] at BC;obtain⟨c,o',y,h1,h2,h3,h4⟩:=rc.get BC;obtain M9:=cj mR _ (mem_of_lookup BC);simp only[vr,bne_iff_ne,ne_eq] at M9;exact⟨c,o',y,by rw[Si];exact h1,hk _ _ (S.z _ _ h2),h3,h4,by simpa using M9.2,.inl h2⟩
 ·intro x y c hx;exact absurd hx (wV x)
 ·intro a ha;rcases ha with rfl|⟨x,hx,_⟩
  ·rw[yp];exact pd _
  ·exact absurd hx (wV x)
end
end Mine
end
noncomputable section
open PySem PySem.W PySem.Builtin PySem.Builtin.Str
namespace Mine
theorem k9{M:Model}{Γ:Ctx}{p:aaK}{t:Sem Fin}{fs:List Frame}{s s':oC}{e:End}(h:Runs M Γ p t fs s e s'):s.heap.objs.size<=s'.heap.objs.size:=by induction h<;>(try simp only[oC.setGen,xc,xI.size_after_update] at *)<;>(first|exact aS (nat_lit 256) ae|exact aL (nat_lit 68737302785) ae ‹_›|exact aL (nat_lit 281548411109633) ae ‹_›|exact aW (nat_lit 5067717828804866) ae ‹_› ‹_›)
theorem wW{M:Model}{Γ:Ctx}{p:aaK}{g:Nat}{r:Resume}{s s':oC}{res:GenResult}(h:Wakes M Γ p g r s res s'):s.heap.objs.size<=s'.heap.objs.size:=by
 unfold Wakes at h;split at h
 ·exact h.elim
 ·split at h
  ·obtain⟨ma,s₁,hr,_,_,rfl⟩:=h;exact(k9 hr:(s.setGen g .running).heap.objs.size<=s₁.heap.objs.size)
  ·exact h.2▸(pd _)
  ·exact h.2▸(pd _)
 ·obtain⟨ma,s₁,hr,_,_,rfl⟩:=h;exact(k9 hr:(s.setGen g .running).heap.objs.size<=s₁.heap.objs.size)
 ·rw[h.2];exact pd _
 ·rw[h.2];exact pd _
theorem Ft{α:Type}(M:Model)(Γ:Ctx)(n:Nat)(t:Sem α):∀(Q:α->aaK->oC->Prop) (E:Value->aaK->oC->Prop) (p:aaK) (s:oC),n<=s.heap.objs.size->Sem.wp M Γ t Q E p s->
  Sem.wp M Γ t (λa p' s'=>n<=s'.heap.objs.size/\Q a p' s') (λe p' s'=>n<=s'.heap.objs.size/\E e p' s') p s:=by
 induction t with
 |pure a=>intro Q E p s hn h;exact⟨hn,h⟩|raise e=>intro Q E p s hn h;exact⟨hn,h⟩|unsupported _=>intro Q E p s _ h;exact h|finish _=>intro Q E p s _ h;exact h|rule _ k ih=>intro Q E p s hn h;exact ih () Q E p s hn h|«at»p' k ih=>intro Q E p s hn h;exact ih () Q E p' s hn h|load a _ k ih=>intro Q E p s hn h;refine h.elim λo z=>z.elim λho h=>?_;exact⟨o,ho,ih o Q E p s hn h⟩|update a _ f k ih=>intro Q E p s hn h;exact⟨h.1,ih () Q E p _ (by rw[xI.size_after_update];exact hn) h.2⟩|loadIfAlive a k ih=>intro Q E p s hn h;exact ih _ Q E p s hn h|point _ k ih=>intro Q E p s hn h;exact ih () Q E p s hn h|register _ _=>intro Q E p s _ h;exact h|alloc o k ih=>intro Q E p s hn h;exact ih _ Q E p _ (by rw[xc];exact w3 hn) h|fresh k ih=>intro Q E p s hn h;exact ih _ Q E p _ hn h|ask k ih=>intro Q E p s hn h;exact ih _ Q E p s hn h|choose src m k ih=>intro Q E p s hn h;exact⟨h.1,ih _ Q E p _ hn h.2⟩|os q _ k ih=>intro Q E p s hn h;exact ih _ Q E p _ hn h|call c hd _ _ k ih=>intro Q E p s hn h;refine h.elim λr Jz=>?_;refine Jz.elim λs' sI=>?_;obtain hr:=sI.1;obtain h:=sI.2;exact⟨r,s',hr,ih r Q E p s' (vb hn (k9 hr)) h⟩
 |handled own k ih=>intro Q E p s hn h;exact ih _ Q E p s hn h|genState g k ih=>intro Q E p s hn h;refine h.elim λst M_=>?_;obtain hs:=M_.1;obtain h:=M_.2;exact⟨st,hs,ih _ Q E p s hn h⟩
 |newGen c k ih=>intro Q E p s hn h;exact ih _ Q E p _ hn h|resume g r _ k ih=>intro Q E p s hn h;obtain⟨res,s',hw,h⟩:=h;exact⟨res,s',hw,ih res Q E p s' (vb hn (wW hw)) h⟩
 |yield _ _ _ _=>intro Q E p s _ h;exact h|stack k ih=>intro Q E p s hn h;exact ih _ Q E p s hn h|fork _ _=>intro Q E p s _ h;exact h|thread k ih=>intro Q E p s hn h;exact ih _ Q E p s hn h|await _ _ _ _ _=>intro Q E p s _ h;exact h
theorem bN{α:Type}{M:Model}{A:tj}{s:oC}{t:Sem α}{Q:α->oC->Prop}{E:Value->oC->Prop}
  (h:si M A t (λa s'=>s.heap.objs.size<=s'.heap.objs.size->Q a s') E s):si M A t Q E s:=
 wb (λΓ p hΓ=>Ft M Γ s.heap.objs.size t _ _ p s (pd _) (h Γ p hΓ):si M A t (λa s'=>s.heap.objs.size<=s'.heap.objs.size/\(s.heap.objs.size<=s'.heap.objs.size->Q a s')) (λe s'=>s.heap.objs.size<=s'.heap.objs.size/\E e s') s)
  (λb b x=>x.2 x.1) (λb b x=>x.2)
end Mine
end
noncomputable section
open PySem PySem.W PySem.Builtin PySem.Builtin.Str PySem.Builtin.ObjectAttr
namespace Mine
theorem bk:StoreFacts "function" [.type "function",.type "object"] "object.__setattr__" "object" where
 mro:=by kernel_rfl
 slot:=.of (owner:="object") (n:="__setattr__") (by rw[typeLookup_type,U2];kernel_rfl) (by decide+kernel) (by decide+kernel) (by decide+kernel)
  (by first|exact .inl (by decide+kernel)|exact .inr (by decide+kernel)) (by rw[isSubtype_type];kernel_rfl)
 entry:=F.entry_object_sa
 kind:=by decide+kernel
 split:=by decide+kernel
 hasOwner:=by decide+kernel
 args:=λa b c=>by unfold argsOk;kernel_rfl
 passes:=λself=>by kernel_rfl
theorem jv:typeLookup (.type "function") (t5 "read")=pure none:=am_miss_of_fast (by kernel_rfl)
theorem k_:typeLookup (.type "function") "__getattr__"=pure none:=am_miss_of_fast (by kernel_rfl)
theorem cV:Slot "function" (t5 "__getattribute__") "object.__getattribute__":=
 .of (owner:="object") (n:="__getattribute__") (by rw[typeLookup_type,U2];kernel_rfl) (by decide+kernel) (by decide+kernel) (by decide+kernel)
  (by first|exact .inl (by decide+kernel)|exact .inr (by decide+kernel)) (by rw[isSubtype_type];kernel_rfl)
section
variable{A:tj}{E:Value->oC->Prop}{h:xI}{g:Array GenState}{d:Drawn}{t:Nat}{os:Dx}{x:sx}{o:Nw}{fd:FuncData}{name:Str}{v:Value}
theorem uH{M:Model}{n6:Value}{Q:Unit->oC->Prop}(hx:h.get? x=some o)(hc:o.cls=.type "function")(hq:Q () ⟨h,g,d,t,os⟩):
  si M A (checkBuiltinCall "object.__setattr__" ⟨[.ref x,n6,v],[]⟩) Q E ⟨h,g,d,t,os⟩:=by
 have ha:=bk.args (.ref x) n6 v;have hT:(⟨h,g,d,t,os⟩:oC).TypeIs (.ref x) "function":=⟨_,hx,hc⟩
 simp only[checkBuiltinCall,bk.kind,bk.split];refine ox ?_
 ·unfold isInstance;refine ox (wpAny_typeOf hT ?_);have :isSubtype (.type "function") (.type "object")=pure true:=by rw[isSubtype_type];kernel_rfl
  rw[this];refine pk ?_;induction JA:Manifest.signature? "object.__setattr__" with
  |none=>exact pk hq|some sig=>
   simp only[argsOk,JA] at ha;have h2:=ha
   show si M A (Bind.checkArgs "object.__setattr__" sig ⟨[.ref x,n6,v],[]⟩) Q E _;rw[h2];exact pk hq
theorem uI{M:Model}{n6:Value}{Q:Unit->oC->Prop}(hx:h.get? x=some o)(hc:o.cls=.type "function")(hq:Q () ⟨h,g,d,t,os⟩):
  si M A (checkBuiltinCall "object.__getattribute__" ⟨[.ref x,n6],[]⟩) Q E ⟨h,g,d,t,os⟩:=by
 have hT:(⟨h,g,d,t,os⟩:oC).TypeIs (.ref x) "function":=⟨_,hx,hc⟩;have hk:builtinKind "object.__getattribute__"=some .slot:=by decide+kernel
 have X0:splitId "object.__getattribute__"=some ("object","__getattribute__"):=by decide+kernel
 simp only[checkBuiltinCall,hk,X0];refine ox ?_
 ·unfold isInstance;refine ox (wpAny_typeOf hT ?_);have :isSubtype (.type "function") (.type "object")=pure true:=by rw[isSubtype_type];kernel_rfl
  rw[this];refine pk ?_;have ha:=F.args_object_getattribute_2 (.ref x) n6
  induction JA:Manifest.signature? "object.__getattribute__" with
  |none=>exact pk hq|some sig=>
   simp only[argsOk,JA] at ha;have h2:=ha
   show si M A (Bind.checkArgs "object.__getattribute__" sig ⟨[.ref x,n6],[]⟩) Q E _;rw[h2];exact pk hq
theorem n7{tk:Tok}{Q:Fin->oC->Prop}(hx:h.get? x=some o)(hc:o.cls=.type "function")(gi:o.data=.func fd)(Na:o.dict=none)(hB:typeLookup (.type "function") name=pure none)
  (hq:∀h' Ey,h'.get? x=some {cls:=o.cls,dict:=some h.objs.size,data:=o.data,slots:=o.slots}->h'.Ns1 h.objs.size (λy=>if y=name then some v else none)->(∀b ob,b≠x->h.get? b=some ob->h'.get? b=some ob)->Q (.done (.ret .none)) ⟨h',g,d,Ey,os⟩):
  si gM A (Builtin.«object.__setattr__» ⟨[.ref x,.str name tk,v],[]⟩) Q E ⟨h,g,d,t,os⟩:=by
 have Nb:=bk.passes (.ref x);have JB:=bk.mro
 have hT:(⟨h,g,d,t,os⟩:oC).TypeIs (.ref x) "function":=⟨_,hx,hc⟩;unfold Builtin.«object.__setattr__»
 repeat (first|rw[refuse_eq]|rw[Nb]|rw[JB]|rw[hB]|(with_reducible refine aai hx ?_;rw[hc])|wp_step)
 have X3:typeHasDict (.type "function")=true:=by kernel_rfl
 have X4:∀a b,dictMade (.type "function") a b=pure (some b):=λa b=>by
  unfold dictMade;have :finalisedInACycleAlone "function"=false:=by decide+kernel
  simp only[this];rfl
 rw[Na,gi,X3]
 skip
 have Ig:(h.push {cls:=.type "dict",data:=.dict #[]}).get? x=some o:=px _ hx;have V6:=x5 (ti hx)
 refine ox (wpAny_alloc' ?_);refine ox (wpAny_update' Ig ?_);rw[X4];refine pk ?_
 have Ss:((h.push {cls:=.type "dict",data:=.dict #[]}).update x λo=>{cls:=o.cls,dict:=some h.objs.size,data:=o.data,slots:=o.slots}).get? h.objs.size
   =some {cls:=.type "dict",data:=.dict #[]}:=
  (xI.get?_update_ne _ _ _ _ V6.symm).trans (xI.get?_push_at rfl rfl)
 have jj:((h.push {cls:=.type "dict",data:=.dict #[]}).update x λo=>{cls:=o.cls,dict:=some h.objs.size,data:=o.data,slots:=o.slots}).Ns h.objs.size (λc=>none):=⟨_,#[],_,Ss,rfl,λe he=>absurd he (by simp),λc=>rfl⟩;show si _ _ (storeInDict h.objs.size (.str name tk) name v) _ _ _;unfold storeInDict newKeyGuard;refine ox (pk (ox (wpAny_nsSet1 (xI.Ns1.of_empty jj) λh' V7 hs=>?_)));obtain⟨oD,esD,epD,X5,X6,X7⟩:=V7.count (Within.cons name v Within.nil);refine ox (wpAny_lookBehind X5 (by rw[X6];exact pastItsLine_dict (vb X7 (by rw[pE,tm,aak];exact Ln.go (nat_lit 0x1910000007f8190980100) [] ae))) ?_)
 wp_walk
 refine hq h' _ ?_ V7 (λb ob X8 hb=>?_)
 ·refine(hs.2 x V6).trans (TC _ Ig ?_);have Su:=(xI.get?_some_iff.mp hx).2;obtain⟨oc,od,Qt,Sv⟩:=o;induction Qt<;>first|rfl|exact Su
 ·exact(hs.2 b (x5 (ti hb))).trans ((xI.get?_update_ne _ _ _ _ X8).trans (px _ hb))
theorem wX{Q:Unit->oC->Prop}(hx:h.get? x=some o)(hc:o.cls=.type "function")(gi:o.data=.func fd)(Na:o.dict=none)(hB:typeLookup (.type "function") name=pure none)
  (hq:∀h' Ey,h'.get? x=some {cls:=o.cls,dict:=some h.objs.size,data:=o.data,slots:=o.slots}->h'.Ns1 h.objs.size (λy=>if y=name then some v else none)->(∀b ob,b≠x->h.get? b=some ob->h'.get? b=some ob)->Q () ⟨h',g,d,Ey,os⟩):
  si gM A (setAttr (.ref x) name v) Q E ⟨h,g,d,t,os⟩:=by
 have f3:=bk.slot.bind (.ref x);have f4:=bk.slot.lookup
 unfold setAttr callSpecial? specialOf
 repeat (any_goals (first|assumption|(with_reducible refine aai hx ?_;rw[hc])|wp_step))
 refine codeAny_call_builtin bk.slot.plain bk.entry (uH hx hc (n7 hx hc gi Na hB λh' Ey g1 g2 g3=>?_))
 repeat (any_goals (first|assumption|wp_step))
 exact hq h' Ey g1 g2 g3
theorem mS{m:Str->Option Value}{dx:sx}{tk:Tok}{Q:Fin->oC->Prop}(hx:h.get? x=some o)(hc:o.cls=.type "function")(gi:o.data=.func fd)(zO:o.dict=some dx)(hn:h.Ns dx m)(hm:m name=some v)(hB:typeLookup (.type "function") name=pure none)
  (hq:Q (.done (.ret v)) ⟨h,g,d,t,os⟩):si gM A (Builtin.«object.__getattribute__» ⟨[.ref x,.str name tk],[]⟩) Q E ⟨h,g,d,t,os⟩:=by
 have hT:(⟨h,g,d,t,os⟩:oC).TypeIs (.ref x) "function":=⟨_,hx,hc⟩;unfold Builtin.«object.__getattribute__»
 repeat (any_goals (first|assumption|rw[hB]|(with_reducible refine aai hx ?_;rw[hc])|wp_step))
 rw[gi];unfold instanceDict;refine ox (aai hx ?_);rw[hc,zO];refine pk ?_;unfold inDict
 repeat (any_goals (first|(with_reducible refine wpAny_nsGet hn ?_;rw[hm])|assumption|wp_step))
theorem wY{m:Str->Option Value}{dx:sx}{Q:Value->oC->Prop}(hx:h.get? x=some o)(hc:o.cls=.type "function")(gi:o.data=.func fd)(zO:o.dict=some dx)(hn:h.Ns dx m)(hm:m name=some v)(hB:typeLookup (.type "function") name=pure none)
  (hh:handedOut v=pure v)(hq:∀k,Q v ⟨h,g,d,k,os⟩):si gM A (getAttr (.ref x) name) Q E ⟨h,g,d,t,os⟩:=by
 have hT:(⟨h,g,d,t+1,os⟩:oC).TypeIs (.ref x) "function":=⟨_,hx,hc⟩;have f1:=cV.lookup
 unfold getAttr getAttrBy;refine ox (wpAny_mkText ?_);refine ub (ox (wpAny_typeOf hT ?_));rw[f1];refine ox (pk ?_);have ho:onTheHeap (.type "function")=false:=rfl
 rw[ho];dsimp only
 skip
 unfold getAttrByItsOwn hookBefore callGetattribute boundAndCalled;rw[ho];refine ox ?_
 skip
 refine pk ?_;have f3:=cV.bind (.ref x)
 refine ox (wpAny_attempt (ub ?_));rw[Bool.false_and,if_neg (by decide),f3];refine ox (pk (wpAny_call ?_));refine codeAny_call_builtin cV.plain F.entry_object_getattribute (uI hx hc (mS hx hc gi zO hn hm hB ?_));show si _ _ (handedOut v) _ _ _;rw[hh];exact pk (hq _)
theorem sJ{m:Str->Option Value}{dx:sx}{pl:Sem Bool}{Q:Value×List Value->oC->Prop}(hx:h.get? x=some o)(hc:o.cls=.type "function")(gi:o.data=.func fd)(zO:o.dict=some dx)(hn:h.Ns dx m)(hm:m name=some v)(hB:typeLookup (.type "function") name=pure none)
  (hh:handedOut v=pure v)(hq:∀k,Q (v,[]) ⟨h,g,d,k,os⟩):si gM A (getMethod (.ref x) name pl) Q E ⟨h,g,d,t,os⟩:=by
 have hT:(⟨h,g,d,t,os⟩:oC).TypeIs (.ref x) "function":=⟨_,hx,hc⟩;have Sw:=F.canon_object_ga
 have f1:=cV.lookup;have f2:=k_
 unfold getMethod;refine ox (wpAny_specialOf hT f1 ?_);dsimp only;rw[if_neg (by rw[Sw];simp)];refine ox (wpAny_specialOf hT f2 ?_)
 skip
 refine ox (wpAny_specialOf hT hB ?_);exact ox (wY hx hc gi zO hn hm hB hh λk=>pk (hq k))
end
end Mine
end
noncomputable section
open PySem PySem.W PySem.Builtin PySem.Builtin.Str PyProof.Rows
namespace Mine
section
variable{A:tj}{E:Value->oC->Prop}{W W':Wd}{H H':AH}{s s':oC}
theorem fg{k j:Nat}{o o':aF}(h:(H.set k o)[j]?=some o'):(j=k/\o'=o/\k<H.length)\/(j≠k/\H[j]?=some o'):=by
 by_cases hj:j=k
 ·subst hj;obtain cF:j<H.length:=by obtain this:=(eI h).1;simpa using this
  rw[tA cF] at h;exact .inl ⟨rfl,(oy h).symm,cF⟩
 ·rw[v3 (aaJ hj)] at h;exact .inr ⟨hj,h⟩
theorem ah.upd(S:aN W H s)(X:sx->Prop){k:Nat}{a:sx}{o':aF}(hl:pT H k)(ha:W.φ k=some a)(hφ:W'.φ=W.φ)(hZ:W'.Z=W.Z)(JC:∀b j,W.own b=some j->W'.own b=some j)
  (Fv:∀b j,W'.own b=some j->W.own b=some j\/(j=k/\s.heap.objs.size<=b/\b<s'.heap.objs.size))(hsz:s.heap.objs.size<=s'.heap.objs.size)
  (hk:∀b ob,s.heap.get? b=some ob->W.own b≠some k->s'.heap.get? b=some ob)(hr:mP W' s'.heap a k o')(tY:s'.os=s.os)(hg:s'.gens=s.gens):
  ah W H s X W' (H.set k o') s':=by
 have L:W.Le W':=⟨λd d h=>by rw[hZ];exact h,λd d h=>by rw[hφ];exact h⟩;have zk:=λb ob h=>hk b ob (S.z b ob h) λe=>by rw[S.uv b k e hl] at h;exact nE h
 refine⟨⟨λb ob h=>?_,λj b h=>?_,λb j h=>?_,λb j h Nc=>?_,λj o h=>?_,λc P q hm=>?_,by rw[hZ];exact S.base⟩,L,JC,λb j h=>?_,λb ob h=>by rw[hZ] at h;exact .inl h,λb ob h hn hd hx=>?_,λb ps ht h=>?_,λj h=>?_,by rw[vx];exact pd _,hsz,tY,hg⟩
 ·rw[hZ] at h;exact zk b ob h
 ·rw[hφ] at h;exact JC _ _ (S.jV j b h)
 ·rw[vx];rcases Fv b j h with h|⟨rfl,_,h⟩
  ·exact⟨(S.cH b j h).1,xp (S.cH b j h).2 hsz⟩
  ·exact⟨(S.cH a j (S.jV j a ha)).1,h⟩
 ·rw[hZ];rcases Fv b j h with h|⟨rfl,h1,h2⟩
  ·refine S.uv b j h ?_;by_cases hj:j=k
   ·subst hj;exact hl
   ·refine Nc.elim λo z=>z.elim λho hn=>?_
    rw[v3 (aaJ hj)] at ho;exact⟨o,ho,hn⟩
  ·exact S.iG h1
 ·rcases fg h with ⟨rfl,rfl,_⟩|⟨cG,hh⟩
  ·exact⟨a,by rw[hφ];exact ha,hr⟩
  ·obtain⟨b,h1,h2⟩:=S.obj j _ hh;refine⟨b,by rw[hφ];exact h1,h2.keeps L (λb hb=>JC _ _ hb) (λob e=>hk _ _ e ?_) λb' ob hb e=>hk _ _ e ?_⟩
   ·rw[S.jV j b h1];intro e;exact cG (oy e)
   ·rw[hb];intro e;exact cG (oy e)
 ·obtain⟨h1,⟨oc,h0⟩,h2,nT,ps,h3,h4,h5⟩:=S.tab c P q hm;refine⟨?_,⟨oc,by rw[hZ];exact h0⟩,by rw[hZ];exact h2,?_,ps,hk _ _ h3 (by rw[nT];intro e;exact nE e),h4,λpos cv hc=>by rw[hZ];exact h5 pos cv hc⟩
  ·obtain⟨o,vs,file,tf,flags,tg,JD,text,tt,e,r⟩:=h1;obtain this:=S.z _ _ h0;rw[e] at this;obtain rfl:=oy this;exact⟨_,vs,file,tf,flags,tg,JD,text,tt,zk _ _ h0,r⟩
  ·induction ho:W'.own P with
   |none=>rfl|some j=>
    rcases Fv P j ho with h|⟨_,h,_⟩
    ·rw[nT] at h;exact nE h
    ·exact absurd (ti h3) (vi h)
 ·rcases Fv b j h with h|⟨hj,h,_⟩
  ·exact .inl h
  ·refine .inr ⟨h,λe=>?_⟩;obtain⟨o,ho,hn⟩:=hl;rw[hj,ho] at e;obtain rfl:=oy e;exact hn
 ·exact hk b ob h λe=>hd k e hl
 ·obtain⟨c,q,hm⟩:=ht;obtain⟨_,_,_,nT,ps',h3,_⟩:=S.tab c b q hm;exact⟨#[],by exact hk _ _ h (by rw[nT];intro e;exact nE e)⟩
 ·by_cases hj:j=k
  ·subst hj;obtain⟨o,ho,hn⟩:=hl;rw[h] at ho;obtain rfl:=oy ho;exact hn.elim
  ·rw[v3 (aaJ hj)];exact h
theorem ah.JE(S:aN W H s)(X:sx->Prop){k:Nat}{a:sx}{o':aF}(hl:pT H k)(ha:W.φ k=some a)(hsz:s.heap.objs.size<=s'.heap.objs.size)
  (hk:∀b ob,s.heap.get? b=some ob->W.own b≠some k->s'.heap.get? b=some ob)(hr:mP W s'.heap a k o')(tY:s'.os=s.os)(hg:s'.gens=s.gens):ah W H s X W (H.set k o') s':=
 .upd S X hl ha rfl rfl (λc c h=>h) (λc c h=>.inl h) hsz hk hr tY hg
theorem lZ(l:List (Str×V))(k x:Str)(v:V):(aH l k v).lookup x=if x=k then some v else l.lookup x:=(cN ..).trans (ite_congr (propext beq_iff_eq) (λa=>rfl) λa=>rfl)
theorem FldR.Fe{m:Str->Option Value}{fs:List (Str×V)}(x:FldR W m fs){a:Str}{v:V}{y:Value}(r:Rel W v y):FldR W (λz=>if z=a then some y else m z) (aH fs a v):=λz=>by
 rw[lZ];by_cases h:z=a
 ·subst h;simp;exact r
 ·simp only[h,if_false];exact x z
theorem handed{v:V}{y:Value}(h:nG v=true)(r:Rel W v y):handedOut y=pure y:=by
 induction v using V.casesOn<;>skip<;>first
  |(subst r;rfl)|(obtain⟨_,rfl⟩:=r;rfl)|(obtain⟨_,_,rfl⟩:=r;rfl)|(rfl)|(rfl)|(obtain⟨_,_,_,rfl,_⟩:=r;rfl)|(obtain⟨_,_,_,_,rfl,_⟩:=r;rfl)|(obtain⟨rfl,_⟩:=r;rfl)|(exact bE h)
theorem mY{k c:Nat}{fs:List (Str×V)}{a:sx}(S:aN W H s)(hk:H[k]?=some (.inst c fs))(ha:W.φ k=some a){d:Ja}(hd:G.C.gG.lookup c=some d):
  ∃m o dx,s.heap.Inst a (G.ca c) m/\FldR W m fs/\s.heap.get? a=some o/\o.cls=.ref (G.ca c)/\o.dict=some dx/\(∀c,o.data≠.cls c)/\dx≠a/\W.own dx=some k/\fs.length<ai/\a≠G.ca c/\s.heap.Ns1 dx m:=by
 obtain⟨o,dx,h1,h2,h3,h4,h6,h7,h8,m,h9,Mx⟩:=S.at hk ha;refine⟨m,o,dx,⟨o,h1,h2,h4,.inr ⟨dx,h3,h6,h9⟩⟩,Mx,h1,h2,h3,h4,h6,h7,h8,?_,h9⟩;intro e;obtain⟨nm,q,N,bs,sn,sub,col,dd,k0,k1,k2,k3,k5,mN,hC,_⟩:=S.cO.cls c d hd;rw[e,hC] at h1;obtain rfl:=oy h1;cases h2
theorem n8{C:Cx}{c:Nat}{a:Str}(h:qu C c a=true):∃d,C.gG.lookup c=some d/\a∈d.EM:=by
 unfold qu at h;induction hd:C.gG.lookup c with
 |none=>obtain h:=hd▸h;exact bE h
 |some d=>obtain h:=hd▸h;exact⟨d,rfl,by simpa using h⟩
set_option tactic.hygienic true in
theorem n9{o v:V}{a:Str}{x y:Value}{u:Unit}(h:setAttrA G.C o a v H=some (u,H'))(S:aN W H s)(hx:Rel W o x)(hy:Rel W v y){Q:Unit->oC->Prop}
  (kq:∀W' s',ah W H s aQ W' H' s'->Q () s'):si gM A (setAttr x a y) Q E s:=by
 unfold setAttrA at h;split at h
 ·rename_i k;refine cY h λob H₁ h1 h=>?_
  refine(dR h1).elim λho z=>z.elim λhn Nd=>?_;subst Nd
  obtain⟨ad,rfl,ha⟩:=hx;induction ob with
  |inst c fs=>
   dsimp only at h;split at h
   ·rename_i hc
    simp only[vr] at hc;obtain⟨d,hd,JF⟩:=n8 hc.1;obtain this:=dw h;subst this;obtain⟨m,ob,dx,I,F,g1,g2,g3,g4,g6,g7,g8,g9,Sx⟩:=mY S ho ha hd;obtain⟨nm,q,N,bs,sn,sub,col,dd,k0,k1,k2,k3,k5,mN,hC,hN,_,_,wU,_,Ez⟩:=S.cO.cls c d hd;obtain⟨Sy,hB⟩:=Ez a JF;obtain hw:Within m (fs.map (·.1)):=λz hz=>by
     obtain this:=F z;induction hl:fs.lookup z with |none=>rw[hl] at this;exact absurd this hz|some w=>exact I6 ⟨_,mem_of_lookup hl,rfl⟩
    refine bN ?_;obtain⟨hp,gg,dr,tt,os⟩:=s;refine store_attr PySem.F.store_object hC hN wU Sy hB g9 I (λh' Ey I' hk yq yt=>?_) hw (by rw[ph];exact bA g8);obtain⟨me,q1,q2,q3,q4,q5⟩:=yq ob g1;have Sz:=q5 dx g3
    have zO:h'.Ns1 dx (λz=>if z=a then some y else m z):=by
     obtain⟨og,r1,r2,r3,r4⟩:=I';have X9:=q1
     rw[X9] at r1;obtain rfl:=oy r1;rcases r4 with ⟨r5,_⟩|⟨X_,r5,_,r6⟩
     ·rw[Sz] at r5;cases r5
     ·rw[Sz] at r5;obtain rfl:=oy r5;exact r6
    obtain SA:∀b Qu,hp.get? b=some Qu->W.own b≠some k->h'.get? b=some Qu:=λb Qu e cG=>hk b Qu (by rintro rfl;exact cG (S.jV k b ha)) (λot X_ e1 e2=>by
     have V8:=e1;have Yb:=g1
     rw[Yb] at V8;obtain rfl:=oy V8;rw[g3] at e2;obtain rfl:=oy e2;rintro rfl;exact cG g7) e
    refine kq W ⟨h',gg,dr,Ey,os⟩ (ah.JE S aQ hn ha yt SA ⟨me,dx,q1,by rw[q2,g2],Sz,by rw[q3];exact g4,g6,g7,?_,_,zO,F.Fe hy⟩ rfl rfl);obtain this:=bP fs a v;obtain this:=cQ hc.2;omega
   ·exact nE h
  |qp c fs=>
   dsimp only at h;split at h
   ·split at h
    ·rename_i hc;simp only[vr] at hc;obtain this:=dw h;subst this;obtain⟨ob,fd,g1,g2,g3,g4⟩:=S.at ho ha;obtain Ly:fs=[]:=by simpa using hc.2
     obtain Yc:a=t5 "read":=by simpa using hc.1
     subst Ly Yc;obtain Na:ob.dict=none:=by
      rcases g4 with g4|⟨d,e1,_⟩
      ·exact g4.2
      ·exact absurd rfl e1
     refine bN ?_;obtain⟨hp,gg,dr,tt,os⟩:=s;refine wX g1 g2 g3 Na jv λh' Ey q1 q2 q3 hsz=>?_
     obtain cG:=(x5 (ti g1)).symm;obtain iA:W.own hp.objs.size=none:=by
      induction e:W.own hp.objs.size with |none=>rfl|some j=>exact absurd (S.cH _ _ e).2 (aah _)
     obtain cF:hp.objs.size<h'.objs.size:=by obtain⟨od,_,_,e,_⟩:=q2;exact ti e
     let W':Wd:={W with own:=λb=>if b=hp.objs.size then some k else W.own b};obtain L:W.Le W':=⟨λf f e=>e,λf f e=>e⟩;refine kq W' ⟨h',gg,dr,Ey,os⟩ (ah.upd S aQ hn ha rfl rfl (λb j e=>?_) (λb j e=>?_) hsz (λb ob e Yd=>q3 b ob (λhb=>Yd (by rw[hb];exact S.jV k ad ha)) e) ⟨_,fd,q1,g2,g3,.inr ⟨_,by simp,rfl,cG,?_,_,q2,λz=>?_⟩⟩ rfl rfl)
     ·show(if b=hp.objs.size then some k else W.own b)=some j;rw[if_neg]
      ·exact e
      ·rintro rfl;rw[iA] at e;exact nE e
     ·have e':(if b=hp.objs.size then some k else W.own b)=some j:=e;split at e'
      ·rename_i hb;obtain rfl:=oy e';subst hb;exact .inr ⟨rfl,pd _,cF⟩
      ·exact .inl e'
     ·show(if hp.objs.size=hp.objs.size then some k else _)=some k;rw[if_pos rfl]
     ·rw[sT];by_cases hz:z=t5 "read"
      ·subst hz;exact⟨_,rfl,hy.mono L⟩
      ·have :(z==t5 "read")=false:=by simpa using hz
       rw[this];simp only[List.lookup_nil,if_neg hz]
    ·exact nE h
   ·exact nE h
  |_=>exact nE h
 ·exact nE h
end
section
variable{n:Nat}{A:tj}{E:Value->oC->Prop}{W:Wd}{H H':AH}{s:oC}{sc:te}{env:af}{e':Ts}
theorem gz{o:Expr}{attr:Str}{env:Ts}{whole:Sem Value}(h:dU o=false):attributeBase o attr env whole=whole:=by induction o using Expr.casesOn<;>first|rfl|exact nomatch h
set_option tactic.hygienic true in
theorem n_{o v:V}{a:Str}{x:Value}(h:getAttrA G.C o a H=some (v,H'))(S:aN W H s)(hx:Rel W o x):
  si gM A (getAttr x a true) (λz=>bf W H s aQ H' λW' b=>Rel W' v z) E s:=by
 unfold getAttrA at h;split at h
 ·rename_i k;refine cY h λob H₁ h1 h=>?_
  refine(dR h1).elim λho z=>z.elim λhn z1=>?_;subst z1
  obtain⟨ad,rfl,ha⟩:=hx;cases ob with
  |inst c fs=>
   dsimp only at h;cases hl:fs.lookup a with
   |some u=>
    rw[hl] at h;dsimp only at h;split at h
    ·rename_i hc;simp only[vr] at hc;refine iD h ?_;obtain⟨d,hd,JF⟩:=n8 hc.1;obtain⟨m,ob,dx,I,F,g1,g2,g3,g4,g6,g7,g8,g9,Sx⟩:=mY S ho ha hd;obtain⟨nm,q,N,bs,sn,sub,col,dd,k0,k1,k2,k3,k5,mN,hC,hN,Nf,_,_,_,Ez⟩:=S.cO.cls c d hd;obtain⟨Sy,hB⟩:=Ez a JF;obtain hf:=F a;rw[hl] at hf;obtain⟨y,hy,ry⟩:=hf;exact load_attr hC hN Nf Sy hB I hy (handed hc.2 ry) (cU S _ ry)
    ·exact nE h
   |none=>
    rw[hl] at h;cases hd:G.C.gG.lookup c with
    |none=>rw[hd] at h;exact nE h|some d=>
     rw[hd] at h;simp only[Option.bind_some] at h;cases hm:d.meths.lookup a with |none=>rw[hm] at h;exact nE h|some f=>rw[hm] at h;refine iD h ?_;obtain⟨m,ob,dx,I,F,g1,g2,g3,g4,g6,g7,g8,g9,Sx⟩:=mY S ho ha hd;obtain⟨nm,q,N,bs,sn,sub,col,dd,k0,k1,k2,k3,k5,mN,hC,hN,Nf,_,_,Ng,Ez⟩:=S.cO.cls c d hd;obtain⟨od,es,ep,q1,q2,q3,q4,q5⟩:=Sx;obtain hf:=F a;rw[hl] at hf;refine S.cO.bound c d a f hd hm rfl g1 g2 g3 g4 q1 q2 q3 (by rw[q5];exact hf) ?_;obtain PP:=ah.push S aQ {cls:=.type "method",data:=.fields #[.ref (G.fa f),.ref ad]} rfl (s.toks+1);refine⟨_,PP,?_⟩;exact⟨_,ad,rfl,PP.le.φ _ _ ha,Wd.bg ..,(Ng a f hm).h2⟩
  |_=>exact nE h
 ·exact nE h
def JG(fv:V)(f':Value)(h:xI):Prop:=Bq h/\∃W,Rel W fv f'/\∀a o,W.Z a=some o->h.get? a=some o
noncomputable def callable(v:V):Bool:=Bi 9 v.ctorIdx&&Bi v.ctorIdx 14
theorem sM{fv:V}{f':Value}(hc:callable fv=true)(h:xI)(X:JG fv f' h)(nZ:∀c,fv=.cls c->(G.C.gG.lookup c).isSome=true):
  ∃k,(k=Keeper.frame\/k=Keeper.machine\/k=Keeper.boundFrame)/\Looks gM h (keeperOf f') k:=by
 obtain⟨B,W,r,z⟩:=X;induction fv using V.casesOn with
 |fn f=>obtain⟨rfl,hs⟩:=r;obtain⟨d,hd⟩:=nB hs;obtain⟨_,o,fd,ho,_,gi,_⟩:=B.fns f d hd;obtain⟨oc,od,Qt,Sv⟩:=o;subst gi;exact⟨.frame,.inl rfl,(Looks.ld ho).andThen .now⟩
 |r8 ps body sc dD=>obtain⟨a,o,fd,rfl,hz,_,gi,_⟩:=r;obtain⟨oc,od,Qt,Sv⟩:=o;subst gi;exact⟨.frame,.inl rfl,(Looks.ld (z _ _ hz)).andThen .now⟩
 |bm k f=>obtain⟨a,b,rfl,_,hz,hs⟩:=r;obtain⟨d,hd⟩:=nB hs;obtain⟨_,o,fd,ho,_,gi,_⟩:=B.fns f d hd;obtain⟨oc,od,Qt,Sv⟩:=o;subst gi;exact⟨.boundFrame,.inr (.inr rfl),(Looks.ld (z _ _ hz)).andThen ((Looks.ld ho).andThen .now)⟩
 |cls c=>
  subst r;obtain⟨d,hd⟩:=nB (nZ c rfl);obtain⟨nm,q,N,bs,sn,sub,col,dd,k0,k1,k2,k3,k5,mN,hC,_⟩:=B.cls c d hd;obtain L:Looks gM h (specialOf (.ref (G.ca c)) "__call__") (some (.builtin "type.__call__")):=by intro A Q E s k q;exact wpAny_specialOf ⟨_,k _ _ hC,rfl⟩ PySem.F.lookup_type_call q
  exact⟨.machine,.inr (.inl rfl),(Looks.ld hC).andThen (L.andThen .now)⟩
 |blt i=>subst r;exact⟨.machine,.inr (.inl rfl),.now⟩|typ i=>subst r;exact⟨.machine,.inr (.inl rfl),.now⟩|_=>exact nomatch (show false=true from hc)
theorem lg{o:Expr}{m:Str}{ap p:aaK}{as:List Expr}{Q:Value->oC->Prop}(hs:dU o=false)(Lz:as.any isStarred=false)(hl:(ap.endLine==p.line)=true)(hn:as.length<29)
  (h:si gM A (eval o e') (λov s₁=>si gM A (getMethod ov m (do return (<-importBound o e').getD true)) (λr ar=>si gM A (callWith p r.1 r.2 (backTo p (starEach as e')) []) Q E ar) E s₁) E s):
  si gM A (eval (.Call (.Attribute o m ap) as [] p) e') Q E s:=by
 simp only[arm_eval_Call,gz hs];obtain yu:∀{l:List Expr},l.any isStarred=false->(backTo p (starEach l e')).all (λx=>!x.1)=true:=by
  intro l;induction l with
  |nil=>intro _;rfl|cons e r ih=>
   intro hh;simp only[List.any_cons,Bool.or_eq_false_iff] at hh;obtain hs:starEach (e::r) e'=(false,eval e e')::starEach r e':=by induction e using Expr.casesOn<;>first|rfl|(exact nomatch hh)
   rw[hs];refine(ih hh.2).trans ?_;rfl
 obtain SD:methodCallForm (as.length+([]:List Keyword).length) (backTo p (starEach as e')) (backToKw p (keywordEach [] e'))=true:=by
  unfold methodCallForm;rw[yu Lz];have :as.length+([]:List Keyword).length+(if(backToKw p (keywordEach [] e')).isEmpty then 0 else 1)<30:=by show as.length+0+(if true then 0 else 1)<30;lia
  simp only[this,decide_true,aaL];rfl
 refine ox (wb h (λov s₁ bo=>ox (uk ?_)) λa a e=>e);unfold methodCall;refine SD▸?_;refine ox (ub ?_);refine wb bo (λr ar gN=>?_) λa a e=>e
 unfold methodCallPos;refine(if_pos (hl))▸?_;exact ox (pk gN)
end
section
variable{A:tj}{E:Value->oC->Prop}{h:xI}{g:Array GenState}{d:Drawn}{t:Nat}{os:Dx}
variable{nm q:Str}{C N:sx}{bs:List Value}{sn:List Str}{sub:List Value}{col:Option Bool}{dd:Option sx}{k0 k1 k2 k3 k5:Option Value}
noncomputable abbrev dH(h:xI)(C:sx):xI:=(h.push {cls:=.type "dict",data:=.dict #[]}).push {cls:=.ref C,dict:=some h.objs.size,data:=.plain}
theorem zQ{mN:Str->Option Value}{rest:List Value}{fI:sx}{oI:Nw}{Q:Fin->oC->Prop}
  (hC:h.get? C=some (excClassObj nm q C N bs [.type "object"] true sn sub false col dd k0 k1 k2 k3 k5 "object.__new__"))(hn:h.Ns N mN)(hi:mN "__init__"=some (.ref fI))
  (SE:h.get? fI=some oI)(Nh:oI.cls=.type "function")
  (hq:si gM A (call (.ref fI) (.ref (h.objs.size+1)::rest)) (λr s'=>r=.none/\Q (.done (.ret (.ref (h.objs.size+1)))) s') E ⟨dH h C,g,d,t,os⟩):
  si gM A (Builtin.«type.__call__» ⟨.ref C::rest,[]⟩) Q E ⟨h,g,d,t,os⟩:=by
 obtain F:=PySem.F.objNew;obtain JB:mroOf (.type "object")=pure [.type "object"]:=by kernel_rfl
 obtain Ye:typeLookup (.type "object") "__init__"=pure (some (.builtin "object.__init__")):=by kernel_rfl
 repeat (first|with_reducible refine aai hC ?_|with_reducible refine wpAny_madeBy_exc hC ?_|wp_step)
 refine codeAny_call_builtin_code (Code.quiet_builtin _ F.quiet) (wpAny_check_obj_new F hC ?_);refine codeAny_obj_new F hC hn hi ?_;obtain up:∀{b o},h.get? b=some o->(dH h C).get? b=some o:=λe=>px _ (px _ e)
 obtain Ni:(dH h C).Ns N mN:=let ⟨o,es,ep,e,r⟩:=hn;⟨o,es,ep,up e,r⟩
 obtain Yg:(Value.ref C::[Value.type "object"]).contains (.ref C)=true:=by simp
 repeat (first|with_reducible refine aai hget ?_|(with_reducible refine wpAny_isSubtype_exc (up hC) ?_;rw[Yg])|wp_step)
 show si _ _ (typeLookup (.ref C) _) _ _ _;refine wpAny_typeLookup_exc (up hC) Ni JB Ye ?_;rw[hi];refine ub (ox ?_);unfold bindSpecial;refine ox (wpAny_typeOf ⟨_,up SE,Nh⟩ ?_);rw[if_pos (by decide)];refine pk (ox (wb hq (λr s' hr=>?_) λa a x=>x));obtain⟨rfl,hQ⟩:=hr
 wp_walk
 exact hQ
theorem zR{mN:Str->Option Value}{rest:List Value}{fI:sx}{oI:Nw}{Q E:Value->oC->Prop}
  (hC:h.get? C=some (excClassObj nm q C N bs [.type "object"] true sn sub false col dd k0 k1 k2 k3 k5 "object.__new__"))(hn:h.Ns N mN)(hi:mN "__init__"=some (.ref fI))
  (SE:h.get? fI=some oI)(Nh:oI.cls=.type "function")
  (hq:si gM (A.under (.builtin "type.__call__" ⟨.ref C::rest,[]⟩)) (call (.ref fI) (.ref (h.objs.size+1)::rest)) (λr s'=>r=.none/\Q (.ref (h.objs.size+1)) s') E ⟨dH h C,g,d,t,os⟩):
  codeAny gM A (.call (.ref C) ⟨rest,[]⟩) (wants Q E) ⟨h,g,d,t,os⟩:=by
 obtain f1:=tc_lookup;obtain f2:=tc_bind (.ref C);obtain hT:(⟨h,g,d,t,os⟩:oC).TypeIs (.ref C) "type":=⟨_,hC,rfl⟩;refine codeAny_of_tree ?_
 repeat (any_goals (first|assumption|with_reducible refine aai hC ?_|wp_step))
 refine⟨rfl,?_⟩;refine codeAny_call_builtin_at (Code.quiet_builtin _ (by decide+kernel)) entry_typeCall (wpAny_check_type_call_sub hC (zQ hC hn hi SE Nh ?_));exact hq
end
section
variable{n:Nat}{A:tj}{E:Value->oC->Prop}{W W':Wd}{H H':AH}{s s':oC}
set_option tactic.hygienic true in
theorem ah.Nj(S:aN W H s)(X:sx->Prop)(o:aF){a:sx}(hφ:W'.φ=λj=>if j=H.length then some a else W.φ j)(hZ:W'.Z=W.Z)(ha:W'.own a=some H.length)
  (JC:∀b j,W.own b=some j->W'.own b=some j)(Fv:∀b j,W'.own b=some j->W.own b=some j\/(j=H.length/\s.heap.objs.size<=b/\b<s'.heap.objs.size))(hsz:s.heap.objs.size<=s'.heap.objs.size)
  (hk:∀b ob,s.heap.get? b=some ob->s'.heap.get? b=some ob)(hr:mP W' s'.heap a H.length o)(tY:s'.os=s.os)(hg:s'.gens=s.gens):
  ah W H s X W' (H++[o]) s':=by
 have L:W.Le W':=⟨λd d h=>by rw[hZ];exact h,λj b h=>by
  rw[hφ];show(if j=H.length then some a else W.φ j)=some b;have :=(S.cH b j (S.jV j b h)).1
  refine(if_neg (aL (nat_lit 0x909611031101102) ae this)).trans ?_;exact h⟩
 refine⟨⟨?_,?_,?_,?_,?_,?_,by exact hZ▸(S.base)⟩,L,JC,?_,λd d h=>by rw[hZ] at h;exact .inl h,λb o e d d d=>hk _ _ e,λb ps d e=>⟨#[],by exact hk _ _ e⟩,?_,by simp,hsz,tY,hg⟩
 ·intro b ob h;rw[hZ] at h;exact hk _ _ (S.z b ob h)
 ·intro k b h;rw[hφ] at h;have h':(if k=H.length then some a else W.φ k)=some b:=h
  split at h'
  ·rename_i e;obtain rfl:=oy h';rw[e];exact ha
  ·exact JC _ _ (S.jV k b h')
 ·intro b k h;rcases Fv b k h with h'|⟨rfl,_,h'⟩
  ·have :=S.cH b k h';exact⟨by simp;exact aL (nat_lit 441454204817665) ae this.1,xp this.2 hsz⟩
  ·exact⟨by simp,h'⟩
 ·intro b k h hl;rw[hZ];rcases Fv b k h with h'|⟨rfl,h',_⟩
  ·refine S.uv b k h' ?_;obtain⟨o',MQ,hn⟩:=hl;rw[vl (S.cH b k h').1] at MQ;exact⟨o',MQ,hn⟩
  ·exact S.iG h'
 ·intro k o' h;by_cases Qv:k<H.length
  ·rw[vl Qv] at h;obtain⟨b,h1,h2⟩:=S.obj k o' h;exact⟨b,L.φ _ _ h1,h2.keeps L (λb hb=>JC _ _ hb) (λo e=>hk _ _ e) λb o d e=>hk _ _ e⟩
  ·obtain i_:k=H.length:=by
    obtain this:=(eI h).1;simp at this;exact aL (nat_lit 0x10251054191801112) ae this Qv
   subst i_;rw[zt (pd _),X1] at h;obtain rfl:=oy h;exact⟨a,by rw[hφ];simp,hr⟩
 ·intro c P q hm;obtain⟨h1,⟨oc,h0⟩,h2,nT,ps,h3,h4,h5⟩:=S.tab c P q hm;refine⟨h1.keeps hk,⟨oc,by rw[hZ];exact h0⟩,by rw[hZ];exact h2,?_,ps,hk _ _ h3,h4,λpos cv hc=>by rw[hZ];exact h5 pos cv hc⟩;induction ho:W'.own P with
  |none=>rfl|some j=>
   rcases Fv P j ho with h|⟨_,h,_⟩
   ·rw[nT] at h;exact nE h
   ·exact absurd (ti h3) (vi h)
 ·intro b k h;rcases Fv b k h with h'|⟨hj,h',_⟩
  ·exact .inl h'
  ·exact .inr ⟨h',by rw[hj,aaA (pd _)];intro e;cases e⟩
 ·intro k h;obtain this:=(eI h).1;rw[vl this];exact h
theorem bC.create{A:tj}{n:Nat}(h:bC A (n+1))(C:sx)(rest:List Value):bC (A.under (.builtin "type.__call__" ⟨.ref C::rest,[]⟩)) n:=by
 refine⟨h.handled,?_,?_⟩
 ·obtain hw:(Code.builtin "type.__call__" ⟨.ref C::rest,[]⟩).weight=1:=by
   rfl
  have :=h.depth;refine(?_:A.depth+_+n<recursionLimit);refine hw▸?_;exact aW (nat_lit 0x21190881121918081101) ae this
 ·obtain hu:(Code.builtin "type.__call__" ⟨.ref C::rest,[]⟩).cUnits=1:=by
   rfl
  obtain this:=h.units;refine(?_:A.units+_+12* n<cLine);refine hu▸?_;exact aW (nat_lit 0x21ca190881121918ca081101) ae this
end
section
variable{n:Nat}{A:tj}{E:Value->oC->Prop}{W W':Wd}{H H':AH}{s s':oC}{sc:te}{env:af}{e':Ts}
theorem ah.Ih(S:aN W H s){X:sx->Prop}{b:sx}(hX:X b)(hs:xI.SameBut b s.heap s'.heap)(ho:W.own b=none)(hz:W.Z b=none)(ht:¬G.fR b)
  (hφ:W'.φ=W.φ)(hO:W'.own=W.own)(hZ:∀a o,W.Z a=some o->W'.Z a=some o)(Ii:∀a o,W'.Z a=some o->W.Z a=some o\/(a=b/\s'.heap.get? b=some o))(tY:s'.os=s.os)(hg:s'.gens=s.gens):
  ah W H s X W' H s':=by
 obtain L:W.Le W':=⟨hZ,λd d h=>by rw[hφ];exact h⟩;have kp:=λa h=>hs.2 a h
 have zb:∀a o,W.Z a=some o->a≠b:=λa o h e=>by subst e;rw[hz] at h;exact nE h
 refine⟨⟨λa o h=>?_,λk a h=>by rw[hφ] at h;rw[hO];exact S.jV k a h,λa k h=>?_,λa k h hl=>?_,λk o h=>?_,λc P q hm=>?_,S.base.mono hZ⟩,L,λa k h=>by rw[hO];exact h,λa k h=>.inl (by rw[hO] at h;exact h),λa o h=>?_,λa o h hn hd hx=>?_,λa ps Yh h=>⟨#[],?_⟩,λk h=>h,pd _,by rw[hs.1];exact pd _,tY,hg⟩
 ·rcases Ii a o h with h|⟨rfl,h⟩
  ·rw[kp a (zb a o h)];exact S.z a o h
  ·exact h
 ·rw[hO] at h;exact⟨(S.cH a k h).1,by rw[hs.1];exact(S.cH a k h).2⟩
 ·rw[hO] at h;induction e:W'.Z a with
  |none=>rfl|some o=>
   rcases Ii a o e with h1|⟨rfl,h1⟩
   ·rw[S.uv a k h hl] at h1;exact nE h1
   ·rw[ho] at h;exact nE h
 ·obtain⟨a,h1,h2⟩:=S.obj k o h;have cG:∀c,W.own c=some k->c≠b:=λc hc e=>by subst e;rw[ho] at hc;exact nE hc
  exact⟨a,by rw[hφ];exact h1,h2.keeps L (λc hc=>by rw[hO];exact hc) (λo e=>by rw[kp a (cG a (S.jV k a h1))];exact e) λc o hc e=>by rw[kp c (cG c hc)];exact e⟩
 ·obtain⟨h1,⟨oc,h0⟩,h2,nT,ps,h3,h4,h5⟩:=S.tab c P q hm;obtain hP:P≠b:=λe=>ht ⟨c,q,e▸hm⟩
  refine⟨?_,⟨oc,hZ _ _ h0⟩,?_,by rw[hO];exact nT,ps,by rw[kp P hP];exact h3,h4,λpos cv hc=>(h5 pos cv hc).mono hZ⟩
  ·obtain⟨o,vs,file,tf,flags,tg,JD,text,tt,e,r⟩:=h1;exact⟨o,vs,file,tf,flags,tg,JD,text,tt,by rw[kp c (zb c oc h0)];exact e,r⟩
  ·induction e:W'.Z P with
   |none=>rfl|some o=>
    rcases Ii P o e with h1|⟨h1,_⟩
    ·rw[h2] at h1;exact nE h1
    ·exact absurd h1 hP
 ·rcases Ii a o h with h|⟨rfl,_⟩
  ·exact .inl h
  ·exact .inr (.inr (.inr hX))
 ·rw[kp a (λe=>hx (e▸hX))];exact h
 ·rw[Array.append_empty,kp a (λe=>ht (e▸Yh))];exact h
theorem bR(l:af)(k x:Str)(v:V):aY (aH l k v) x=if x=k then some v else aY l x:=lZ l k x v
theorem aq.iK(N:aq sc env e' W s){c:sx}{o:Nw}{u:Option Value}(h:s.heap.get? c=some o)(hd:o.data=.cell u):e'.locals≠c:=by rintro rfl;obtain⟨o',es,ep,m,h1,h2,h3,_⟩:=N.locals;rw[h] at h1;obtain rfl:=oy h1;obtain h3:=hd▸h3;exact nomatch h3
theorem fU{x:Str}{v:V}{y:Value}(S:aN W H s)(N:aq sc env e' W s)(hk:kindOf sc x=some .local)(r:Rel W v y):
  si gM A (storeName e' x y) (λa=>bf W H s (ck sc e') H λW' s'=>aq sc (aH env x v) e' W' s') E s:=by
 refine N.locals.elim λo SH=>?_;refine SH.elim λes SI=>?_;refine SI.elim λep E5=>?_;refine E5.elim λm BD=>?_;obtain h2:=BD.2.1;obtain h4:=BD.2.2.2.1;obtain h5:=BD.2.2.2.2.1;obtain h6:=BD.2.2.2.2.2.1;obtain h7:=BD.2.2.2.2.2.2
 obtain i_:=(N.kinds x _ hk (by decide)).resolve_right (λq=>nomatch q.1);refine wpAny_storeName_local i_ h4 (λh' hn hs=>?_) (by refine N.kind▸?_;rfl);obtain PP:ah W H s (ck sc e') W H {s with heap:=h',toks:=s.toks+1}:=ah.Ih S (.inl rfl) hs h5 h6 h2 rfl rfl (λa a h=>h) (λa a h=>.inl h) rfl rfl;refine⟨W,PP,N.kind,N.globals,N.builtins,N.code,N.kinds,?_,?_,?_,N.inj⟩
 ·refine(id hn).elim λo' SJ=>?_;refine SJ.elim λJm SK=>?_;refine SK.elim λR7 wZ=>?_;obtain q1:=wZ.1;obtain q2:=wZ.2.1;obtain q3:=wZ.2.2
  refine⟨o',Jm,R7,_,q1,h2,q2,hn,h5,h6,λz w hz hw=>?_⟩;rw[bR] at hw;by_cases yv:z=x
  ·subst yv;simp only[if_true,aap] at hw;subst hw;exact⟨y,by simp,r⟩
  ·rw[if_neg yv] at hw;refine(h7 z w hz hw).elim λq Nk=>?_;obtain hq:=Nk.1;obtain rq:=Nk.2
   exact⟨q,by rw[if_neg yv];exact hq,rq⟩
 ·intro z hz;refine(N.cells z hz).elim λc SM=>?_;refine SM.elim λoc SN=>?_;refine SN.elim λu zS=>?_;obtain g1:=zS.1;obtain g2:=zS.2.1;obtain g3:=zS.2.2.1;obtain g4:=zS.2.2.2.1;obtain g5:=zS.2.2.2.2.1;obtain g6:=zS.2.2.2.2.2
  obtain cG:z≠x:=by rintro rfl;rw[hk] at hz;exact nomatch hz
  rw[bR,if_neg cG];exact⟨c,oc,u,g1,(hs.2 c (N.iK g2 g4).symm).trans g2,g3,g4,g5,g6⟩
 ·intro z w hz hw;obtain cG:z≠x:=by rintro rfl;rw[hk] at hz;exact nomatch hz
  rw[bR,if_neg cG] at hw;refine(N.frees z w hz hw).elim λc SO=>?_;refine SO.elim λoc SP=>?_;refine SP.elim λq zT=>?_;obtain g1:=zT.1;obtain g2:=zT.2.1;obtain g4:=zT.2.2.1;obtain g5:=zT.2.2.2.1;obtain g8:=zT.2.2.2.2.1;obtain g6:=zT.2.2.2.2.2
  exact⟨c,oc,q,g1,(hs.2 c (N.iK g2 g4).symm).trans g2,g4,g5,g8,g6⟩
set_option tactic.hygienic true in
theorem w4{x:Str}{v:V}{y:Value}(S:aN W H s)(N:aq sc env e' W s)(hk:kindOf sc x=some .cell)(hw:G.C.wo x=true->aY env x=none)(r:Rel W v y):
  si gM A (storeName e' x y) (λb=>bf W H s (ck sc e') H λW' s'=>aq sc (aH env x v) e' W' s') E s:=by
 obtain⟨c,o,u,h1,h2,h3,h4,h5,h6⟩:=N.cells x hk;have i_:=(N.kinds x _ hk (by decide)).resolve_right (λq=>nomatch q.1)
 have SQ:W.Z c=none:=by
  induction ha:aY env x with
  |none=>obtain h6:=ha▸h6;exact h6
  |some w=>
   rw[ha] at h6;by_cases A3:G.C.wo x=true
   ·rw[hw A3] at ha;exact nE ha
   ·have :=h6.2;rw[if_neg A3] at this;exact this
 refine wpAny_storeName_cell N.kind i_ h1 ⟨o,h2,h4⟩ (λh' hc hs=>?_);obtain⟨o',g1,g2⟩:=hc;let W':Wd:=if G.C.wo x=true then W.add c o' else W
 have hφ:W'.φ=W.φ:=by show(if _ then _ else _:Wd).φ=_;split<;>rfl
 have hO:W'.own=W.own:=by show(if _ then _ else _:Wd).own=_;split<;>rfl
 have hZ:∀a oa,W.Z a=some oa->W'.Z a=some oa:=by
  intro a oa h;show(if _ then _ else _:Wd).Z a=_;split
  ·show(if a=c then some o' else W.Z a)=some oa;rw[if_neg]
   ·exact h
   ·rintro rfl;rw[SQ] at h;exact nE h
  ·exact h
 have Ii:∀a oa,W'.Z a=some oa->W.Z a=some oa\/(a=c/\h'.get? c=some oa):=by
  intro a oa h;have h':(if G.C.wo x=true then W.add c o' else W:Wd).Z a=some oa:=h
  split at h'
  ·have h2:(if a=c then some o' else W.Z a)=some oa:=h';split at h2
   ·rename_i e;obtain rfl:=oy h2;exact .inr ⟨e,g1⟩
   ·exact .inl h2
  ·exact .inl h'
 have PP:ah W H s (ck sc e') W' H {s with heap:=h'}:=ah.Ih S (.inr ⟨x,hk,h1⟩) hs h5 SQ h3 hφ hO hZ Ii rfl rfl;have cG:∀z d,(kindOf sc z=some .cell\/kindOf sc z=some .free)->z≠x->e'.cells.lookup z=some d->d≠c:=λz d Yi yv hd e=>by subst e;exact yv (N.inj x z d hk Yi h1 hd).symm
 refine⟨W',PP,N.kind,N.globals,N.builtins,N.code,N.kinds,?_,?_,?_,N.inj⟩
 ·refine N.locals.elim λob Nl=>?_;refine Nl.elim λes Nm=>?_;refine Nm.elim λep Nn=>?_;refine Nn.elim λm oh=>?_;obtain q1:=oh.1;obtain q2:=oh.2.1;obtain q3:=oh.2.2.1;obtain q4:=oh.2.2.2.1;obtain q5:=oh.2.2.2.2.1;obtain q6:=oh.2.2.2.2.2.1;obtain q7:=oh.2.2.2.2.2.2
  have SR:=N.iK h2 h4;refine⟨ob,es,ep,m,(hs.2 _ SR).trans q1,q2,q3,q4.sameBut hs SR,by rw[hO];exact q5,?_,λz w hz hw=>?_⟩
  ·induction e:W'.Z e'.locals with
   |none=>rfl|some oa=>
    rcases Ii _ _ e with h|⟨h,_⟩
    ·rw[q6] at h;exact nE h
    ·exact absurd h SR
  ·have yv:z≠x:=by rintro rfl;rw[hk] at hz;exact nomatch hz
   rw[bR,if_neg yv] at hw;obtain⟨t,ht,rt⟩:=q7 z w hz hw;exact⟨t,ht,rt.mono PP.le⟩
 ·intro z hz;by_cases yv:z=x
  ·subst yv;rw[bR,if_pos rfl];refine⟨c,o',_,h1,g1,h3,g2,by rw[hO];exact h5,⟨y,rfl,r.mono PP.le⟩,?_⟩;by_cases A3:G.C.wo z=true
   ·rw[if_pos A3];show(if G.C.wo z=true then W.add c o' else W:Wd).Z c=_;rw[if_pos A3];exact Wd.bg ..
   ·rw[if_neg A3];show(if G.C.wo z=true then W.add c o' else W:Wd).Z c=_;rw[if_neg A3];exact SQ
  ·refine(N.cells z hz).elim λd Np=>?_;refine Np.elim λod Nq=>?_;refine Nq.elim λw qJ=>?_;obtain q1:=qJ.1;obtain q2:=qJ.2.1;obtain q3:=qJ.2.2.1;obtain q4:=qJ.2.2.2.1;obtain q5:=qJ.2.2.2.2.1;obtain q6:=qJ.2.2.2.2.2
   have Qw:=cG z d (.inl hz) yv q1;rw[bR,if_neg yv];have zn:W.Z d=none->W'.Z d=none:=λhn=>by
    induction e:W'.Z d with
    |none=>rfl|some oa=>
     rcases Ii _ _ e with h|⟨h,_⟩
     ·rw[hn] at h;exact nE h
     ·exact absurd h Qw
   refine⟨d,od,w,q1,(hs.2 d Qw).trans q2,q3,q4,by rw[hO];exact q5,?_⟩
   revert q6
   induction aY env z with
   |none=>exact zn|some t=>
    rintro⟨⟨a,e1,e2⟩,e3⟩;refine⟨⟨a,e1,e2.mono PP.le⟩,?_⟩;by_cases A3:G.C.wo z=true
    ·rw[if_pos A3] at e3⊢;exact hZ _ _ e3
    ·rw[if_neg A3] at e3⊢;exact zn e3
 ·intro z w hz Nr;have yv:z≠x:=by rintro rfl;rw[hk] at hz;exact nomatch hz
  rw[bR,if_neg yv] at Nr;refine(N.frees z w hz Nr).elim λd Nt=>?_;refine Nt.elim λod Nu=>?_;refine Nu.elim λt qK=>?_;obtain q1:=qK.1;obtain q2:=qK.2.1;obtain q4:=qK.2.2.1;obtain q5:=qK.2.2.2.1;obtain q8:=qK.2.2.2.2.1;obtain q6:=qK.2.2.2.2.2
  obtain Qw:=cG z d (.inr hz) yv q1;refine⟨d,od,t,q1,(hs.2 d Qw).trans q2,q4,q5.mono PP.le,q8,?_⟩;rcases q6 with q6|⟨q6,q7,q9⟩
  ·exact .inl (hZ _ _ q6)
  ·exact .inr ⟨q6,by rw[hO];exact q7,q9⟩
end
section
variable{n:Nat}{A:tj}{E:Value->oC->Prop}{W W':Wd}{H H':AH}{s s':oC}{sc:te}{env:af}{e':Ts}
theorem jH(xs:Array Value)(n:Nat)(f:Array Value->Array Value):∃m,(ja xs n).mapSeq f=ja (f xs) m:=by exact⟨_,rfl⟩
theorem lj{l:sx}{items:Array Value}{m:Nat}{k:Int}{t:Tok}{v:Value}{Q:Unit->oC->Prop}(g:s.heap.get? l=some (ja items m))
  (h0:0<=k)(Nv:k<2^63)(hn:k<items.size)
  (hQ:∀h' m',h'.get? l=some (ja (items.setIfInBounds k.toNat v) m')->xI.SameBut l s.heap h'->Q () {s with heap:=h'}):
  si gM A (setItem (.ref l) (.int k t) v) Q E s:=by
 obtain hl:=v_ g;unfold setItem
 try with_reducible refine ub ?_
 first|refine ox (pk ?_)|skip
 refine ox (wpAny_sequenceKey hl.typeIs rfl ?_)
 refine ox (aau hl.typeIs slot_list_setitem
  (PQ slot_list_setitem hl.typeIs entry_list_setitem ?_ (args_list_setitem _ _ _)))
 refine(?_:si _ _ (Builtin.List.listSubscript? (.int k t)>>=_) _ _ s);refine ox (wpAny_listSubscript_int (fitsIndex_of h0 Nv) ?_);clear Nv;obtain⟨j,rfl⟩:=Int.eq_ofNat_of_zero_le h0;obtain hj:j<items.size:=by exact v9 (nat_lit 17665586860289) ae hn
 obtain E6:=Array.getElem?_eq_getElem hj;refine ox (ox (wpAny_seqItemAt g rfl (pk ?_)));refine E6▸?_;refine(jH items m (·.setIfInBounds j v)).elim λm' hm=>?_
 obtain Nx:(s.heap.update l (y6 (·.setIfInBounds j v))).get? l=some (ja (items.setIfInBounds j v) m'):=by exact hm▸(TC _ g rfl)
 refine ox (wpAny_setSeqItemAt g rfl ?_)
 first
  |exact ox (pk (pk ⟨.none,rfl,pk (hQ _ _ Nx (Pl ..))⟩))|exact pk ⟨.none,rfl,pk (hQ _ _ Nx (Pl ..))⟩
theorem aG.set:∀{vs:List V} {xs:List Value} {v:V} {y:Value} (i:Nat),aG W vs xs->Rel W v y->aG W (vs.set i v) (xs.set i y)|[],[],aR,bV,iq,h,yb=>by trivial|v::vs,x::xs,aR,bV,0,h,r=>by exact⟨r,h.2⟩|v::vs,x::xs,aR,bV,i+1,h,r=>by exact⟨h.1,h.2.set i r⟩|[],aR::bV,iq,yb,H8,h,V1=>xk h|aR::bV,[],iq,yb,H8,h,V1=>xk h
theorem ah.one(S:aN W H s){k:Nat}{a:sx}{o':aF}{h':xI}{tk:Nat}(hl:pT H k)(ha:W.φ k=some a)(hs:xI.SameBut a s.heap h')(r:mP W h' a k o'):ah W H s aQ W (H.set k o') {s with heap:=h',toks:=tk}:=.JE S aQ hl ha (Fu hs.1.symm) (λb c e cG=>(hs.2 b λq=>cG (q▸S.jV k a ha)).trans e) r rfl rfl
theorem oj{o i v:V}{x j y:Value}{u:Unit}(h:j0 o i v H=some (u,H'))(S:aN W H s)(ro:Rel W o x)(ri:Rel W i j)(rv:Rel W v y){Q:Unit->oC->Prop}
  (kq:∀W' s',ah W H s aQ W' H' s'->Q () s'):si gM A (setItem x j y) Q E s:=by
 refine xX.el h ro λk a ha h=>EN.el h ri (λi t h=>cY h λob H₁ h1 h=>?_) λz t hz h=>cY h λob H₁ h1 h=>?_
 ·obtain⟨Ny,hn,rfl⟩:=dR h1;induction ob with
  |lst vs=>
   obtain h:(match jF vs i v with |some ys=>ik k (.lst ys)|none=>M.fail:M Unit) H₁=some (u,H'):=h;induction hs:jF vs i v with
   |none=>obtain h:=hs▸h;exact nE h
   |some ys=>
    simp only[hs] at h;cases dw h;obtain hs:(if decide (0<=i)=true then(dF vs.length i).map λk=>vs.set k v else none)=some ys:=hs;by_cases h0:0<=i
    ·rw[if_pos (decide_eq_true h0)] at hs;obtain⟨q,hq,rfl⟩:=gF hs;obtain hb:=gR hq;obtain⟨m,xs,g,hl,r⟩:=S.at Ny ha;obtain h3:(if(decide (0<=(if i<0 then i+(vs.length:Int) else i))&&decide ((if i<0 then i+(vs.length:Int) else i)<vs.length))=true then some (if i<0 then i+(vs.length:Int) else i).toNat else none)=some q:=hb.2.2;rw[if_neg (aaw.mpr h0)] at h3;refine k7 h3 λhc e=>lj g h0 hb.2.1 ((show vs.length=xs.size from r.length)▸of_decide_eq_true (a_ hc).2) λh' m' g' A2=>?_
     subst e;exact kq W _ (.one S hn ha A2 ⟨m',_,g',by rw[vx];exact hl,by simp only[Array.toList_setIfInBounds];exact r.set i.toNat rv⟩)
    ·rw[if_neg λq=>h0 (of_decide_eq_true q)] at hs;exact nE hs
  |_=>exact nE h
 ·obtain⟨Ny,hn,rfl⟩:=dR h1;induction ob with
  |aE kvs=>
   refine Be h λhc h=>?_
   cases dw h;obtain⟨m,es,g,hm,nd,hl,r⟩:=S.at Ny ha;obtain⟨ps,D,rp⟩:=e7 g nd r;refine wpAny_setItem_pairs (hsz:=rp.length▸bA hl) (strKind_is _ _ _ _) D λh' D' hs=>?_
   refine(k8 D' (rp.Fe hz rv (rp.keys▸nd))).elim λJm SS=>?_;refine SS.elim λm' JH=>?_;obtain g':=JH.1;obtain Nz:=JH.2.1;obtain r':=JH.2.2
   exact kq W _ (.one S hn ha hs ⟨m',Jm,g',hm,Nz,vw (bP kvs z v) (cQ hc),r'⟩)
  |_=>exact nE h
end
section
variable{n:Nat}{A:tj}{E:Value->oC->Prop}{W W':Wd}{H H':AH}{s s':oC}{sc:te}{env:af}{e':Ts}
theorem om{a b v:V}{x y:Value}(h:jZ a b=some v)(S:aN W H s)(ra:Rel W a x)(rb:Rel W b y):
  si gM A (inplaceOp .Add x y) (λz=>bf W H s aQ H λW' c=>Rel W' v z) E s:=by
 cases a with
 |int i=>obtain⟨t,rfl⟩:=ra;exact aJ.el h rb λj u h=>oy h▸AutoIntOps.iadd_0 (cy S)
 |str p=>obtain⟨_,t,rfl⟩:=ra;exact onStr.el h rb λq u c h=>k7 h λhs h=>have hz:=cQ hs;h▸PyProof.Rows.iadd_str (λt' tk=>gx S (strLen_append ..▸hz)) (bA hz)
 |_=>exact nE h
theorem aq.congr{aj:af}(N:aq sc env e' W s)(h:∀x,aY env x=aY aj x):aq sc aj e' W s:=by
 refine⟨N.kind,N.globals,N.builtins,N.code,N.kinds,?_,?_,?_,N.inj⟩
 ·refine N.locals.elim λo NB=>?_;refine NB.elim λes Yj=>?_;refine Yj.elim λep Yk=>?_;refine Yk.elim λm Fq=>?_;obtain h1:=Fq.1;obtain h2:=Fq.2.1;obtain h3:=Fq.2.2.1;obtain h4:=Fq.2.2.2.1;obtain h5:=Fq.2.2.2.2.1;obtain h6:=Fq.2.2.2.2.2.1;obtain h7:=Fq.2.2.2.2.2.2
  exact⟨o,es,ep,m,h1,h2,h3,h4,h5,h6,λx v hk hv=>h7 x v hk (by rw[h];exact hv)⟩
 ·intro x hx;refine(N.cells x hx).elim λc SV=>?_;refine SV.elim λo Jz=>?_;refine Jz.elim λu sI=>?_;obtain h1:=sI.1;obtain h2:=sI.2.1;obtain h3:=sI.2.2.1;obtain h4:=sI.2.2.2.1;obtain h5:=sI.2.2.2.2.1;obtain h6:=sI.2.2.2.2.2
  rw[h] at h6;exact⟨c,o,u,h1,h2,h3,h4,h5,h6⟩
 ·intro x v hx hv;exact N.frees x v hx (by rw[h];exact hv)
theorem qL(N:aq sc env e' W s){x:Str}(h:e'.kindOf x=some .local)(h':kindOf sc x=some .local\/kindOf sc x=some .cell):kindOf sc x=some .local:=by
 rcases h' with h'|h'
 ·exact h'
 ·rcases N.kinds x _ h' (by decide) with h1|⟨h1,_⟩
  ·rw[h] at h1;exact nomatch h1
  ·exact nomatch h1
theorem zU{L:List (Str×V)}{env:af}{W:Wd}{s:oC}{xs:List Value}(S:aN W H s)(N:aq sc env e' W s)(r:aG W (L.map (·.2)) xs)(hl:∀p∈L,kindOf sc p.1=some .local):
  si gM A (assignInOrder (L.map λp=>bindName e' p.1) xs) (λa=>bf W H s (ck sc e') H λW' s'=>aq sc (L.foldl (λenv p=>aH env p.1 p.2) env) e' W' s') E s:=by
 induction L generalizing env W s xs with |nil=>exact pk ⟨W,.refl S,N⟩|cons p L ih=>induction xs with |nil=>exact r.elim|cons x xs=>refine ox (ub (wpAny_bindName (wb (fU S N (hl _ (.head _)) r.1) (λa s₁ z=>z.elim λag z=>?_) λa a e=>e)));exact zG S z.1 (ih z.1.sim z.2 (r.2.mono z.1.le) λp hp=>hl p (.tail _ hp)) (λa h=>h)
theorem foldl_look:∀{L:List (Str×V)} {env:af} (z:Str),(L.map (·.1)).Nodup->aY (L.foldl (λenv p=>aH env p.1 p.2) env) z=match L.lookup z with |some v=>some v|none=>aY env z
|[],env,z,aR=>rfl|(y,v)::L,env,z,nd=>by
 simp only[xb,Hk] at nd;simp only[Jn,foldl_look z nd.2,sT];by_cases h:z=y
 ·subst h
  have :L.lookup z=none:=by
   rw[aan];intro p hp;have :p.1≠z:=λe=>nd.1 (e▸List.mem_map_of_mem hp)
   simpa using λe=>this e.symm
  refine this▸?_;simp[bR]
 ·obtain h':(z==y)=false:=by simpa using h
  simp only[h',bR,if_neg h]
theorem oq{L:List (Str×V)}(nd:(L.map (·.1)).Nodup)(z:Str):L.reverse.lookup z=L.lookup z:=by
 obtain Nz:(L.reverse.map (·.1)).Nodup:=by rw[List.map_reverse];exact List.pairwise_reverse.mpr (List.Pairwise.imp (λh=>aaJ h) nd)
 induction h:L.lookup z with |none=>rw[aan] at h⊢;intro p hp;exact h p (List.mem_reverse.mp hp)|some v=>exact b8 Nz (List.mem_reverse.mpr (mem_of_lookup h))
set_option tactic.hygienic true in
theorem uJ{t v:Expr}{l:Nat}:∃b,swapsWith v (some t) l e'=pure b/\(b=true->gJ v=true/\∃y p,t=.Name y p/\e'.kindOf y=some .local):=by
 unfold swapsWith;split
 ·rename_i scope uG;obtain hc:gJ v=true:=by induction v using Expr.casesOn<;>first|rfl|exact nE uG
  induction t using Expr.casesOn with |Name y p=>refine⟨_,rfl,λhb=>⟨hc,y,p,rfl,?_⟩⟩;simp only[vr] at hb;simpa using hb.1.1.2|_=>exact⟨false,rfl,λh=>bE h⟩
 ·exact⟨false,rfl,λh=>bE h⟩
theorem aG.reverse{vs:List V}{xs:List Value}(h:aG W vs xs):aG W vs.reverse xs.reverse:=by
 induction vs generalizing xs with
 |nil=>induction xs with |nil=>exact h|cons _ _=>exact xk h
 |cons v vs ih=>induction xs with |nil=>exact xk h|cons x xs=>simp only[List.reverse_cons,List.reverse_cons];exact(ih h.2).append (⟨h.1,trivial⟩)
noncomputable def dX(e':Ts)(line:Nat):Expr->Option Str
|.Name x pos=>if e'.kindOf x==some .local&&pos.line==line then some x else none
|_=>none
set_option tactic.hygienic true in
theorem sN{t v:Expr}(hc:nI t v=false):swappedStores [t] v e'=pure none\/∃ts k p line,t=.Tuple ts k p/\swappedStores [t] v e'=pure (some (ts.filterMap (dX e' line)))/\(ts.filterMap (dX e' line)).length=ts.length/\(ts.filterMap (dX e' line)).eraseDups.length=(ts.filterMap (dX e' line)).length:=by
 induction t using Expr.casesOn with
 |Tuple ts k p=>
  induction v using Expr.casesOn with
  |Tuple vs k' p'=>
   have hc:(vs.all (constantsAlone 8)&&!vs.all (foldedForSure 8))=false:=hc
   obtain e:swappedStores [.Tuple ts k p] (.Tuple vs k' p') e'=(do
    if !(ts.length==2||ts.length==3)||vs.length !=ts.length||e'.blockKind !=.function then return none
    if vs.any λ|.Starred ..=>true|_=>false then return none
    let names:=ts.filterMap (dX e' ((ts.head?.map (·.pos.line)).getD 0))
    if names.length !=ts.length||names.eraseDups.length !=names.length then return none
    if vs.all (foldedForSure 8) then return none
    if vs.all (constantsAlone 8) then unsupported "assign.tuple-of-constant-expressions:order-of-the-stores"
    return some names):=rfl
   refine e▸?_;split
   ·exact .inl rfl
   ·split
    ·exact .inl rfl
    ·dsimp only;split
     ·exact .inl rfl
     ·rename_i h3;split
      ·exact .inl rfl
      ·rename_i h4;split
       ·rename_i h5;rw[h5] at hc;rw[Bool.not_eq_true] at h4;rw[h4] at hc;exact nomatch hc
       ·refine .inr ⟨ts,k,p,_,rfl,rfl,?_⟩;simp only[Bool.or_eq_true,bne_iff_ne,ne_eq,not_or,Decidable.not_not] at h3;exact h3
  |_=>exact .inl rfl
 |List ts p=>exact nomatch (show true=false from hc)|_=>exact .inl rfl
end
section
variable{n:Nat}{A:tj}{E:Value->oC->Prop}{W W':Wd}{H H':AH}{s s':oC}{sc:te}{env:af}{e':Ts}
theorem sO{line:Nat}{t:Expr}{x:Str}(h:dX e' line t=some x):(∃p,t=.Name x p)/\e'.kindOf x=some .local:=by
 induction t using Expr.casesOn with
 |Name y p=>
  have h:(if(e'.kindOf y==some .local&&p.line==line)=true then some y else none)=some x:=h;by_cases hc:(e'.kindOf y==some .local&&p.line==line)=true
  ·rw[if_pos hc] at h;obtain rfl:=oy h;exact⟨⟨p,rfl⟩,eq_of_beq (a_ hc).1⟩
  ·rw[if_neg hc] at h;exact nE h
 |_=>exact nE h
theorem jI:∀{l:List Str},l.eraseDups.length=l.length->l.Nodup:=by
 intro l;induction hn:l.length using Nat.strongRecOn generalizing l with
 |_ m ih=>
  intro h;induction l with
  |nil=>exact Iy|cons x l=>
   rw[List.eraseDups_cons] at h;simp only[pE] at h hn;have h1:(l.filter λb=>!b==x).eraseDups.length<=(l.filter λb=>!b==x).length:=by
    have :∀(k:Nat) (l:List Str),l.length<=k->l.eraseDups.length<=l.length:=by
     intro k;induction k with
     |zero=>intro l hl;have :l=[]:=List.length_eq_zero_iff.mp (aS (nat_lit 9905546199313) ae hl);subst this;simp |succ k ih=>
      intro l hl;induction l with
      |nil=>simp |cons y l=>
       rw[List.eraseDups_cons];simp only[pE] at hl⊢;have h2:=D1 (λb=>!b==y) l
       have h3:=ih (l.filter λb=>!b==y) (aW (nat_lit 0x20011928191801100102) ae h2 hl);exact aW (nat_lit 0x19281908012101100102) ae h3 h2
    exact this _ _ (pd _)
   have h2:=D1 (λb=>!b==x) l;have h3:(l.filter λb=>!b==x).length=l.length:=by exact e9 (nat_lit 0x1025020431928243191834100114) ae h2 hn h h1
   have h4:=List.length_filter_eq_length_iff.mp h3;have h5:=QR.mpr h4
   rw[h5] at h;refine Hk.mpr ⟨λhm=>?_,ih l.length (aL (nat_lit 282647922745601) ae hn) rfl (aW (nat_lit 0x20251192835119082512) ae h hn)⟩;have :=h4 x hm
   simp at this
end
section
variable{A:tj}{E:Value->oC->Prop}{W W':Wd}{H H':AH}{s s':oC}{X:sx->Prop}
theorem ah.back{k:Nat}{o:aF}{a:sx}(S:aN W H s)(P:ah W (H.set k .gone) s X W' H' s')(ho:H[k]?=some o)(hl:pT H k)(ha:W.φ k=some a)(O':mP W' s'.heap a k o)
  (hx:∀b,X b->W.own b≠some k):ah W H s X W' (H'.set k o) s':=by
 have cF:=(eI ho).1;have hg:(H.set k .gone)[k]?=some aF.gone:=tA cF
 have hlen:H.length<=H'.length:=by obtain this:=P.len;rwa [vx] at this
 have NC:=λb h=>(P.Eu b k h).resolve_right λq=>q.2 hg
 have hz:∀b,W'.own b=some k->W'.Z b=none:=λb h=>by
  induction e:W'.Z b with
  |none=>rfl|some ob=>
   obtain hb:=NC b h;rcases P.yh b ob e with h1|h1|⟨j,h1,h2⟩|h1
   ·rw[S.uv b k hb hl] at h1;exact nE h1
   ·exact absurd (S.cH b k hb).2 (vi h1)
   ·rw[hb] at h1;obtain rfl:=oy h1;obtain⟨q,hq,hn⟩:=h2;rw[hg] at hq;obtain rfl:=oy hq;exact hn.elim
   ·exact absurd hb (hx b h1)
 have lv:∀j,pT (H.set k .gone) j->pT H j:=λj ⟨q,hq,hn⟩=>by
  rcases dG hq with ⟨_,rfl⟩|⟨_,hq⟩
  ·exact hn.elim
  ·exact⟨q,hq,hn⟩
 refine⟨⟨P.sim.z,P.sim.jV,λb j h=>⟨by rw[vx];exact(P.sim.cH b j h).1,(P.sim.cH b j h).2⟩,λb j h Nc=>?_,λj q hq=>?_,P.sim.tab,P.sim.base⟩,P.le,P.yg,λb j h=>?_,λb ob h=>?_,λb ob h hn hd hX=>P.keep b ob h hn (λj hj Nc=>hd j hj (lv j Nc)) hX,P.cl,λj hj=>?_,by rw[vx];exact hlen,P.size,P.os,P.gens⟩
 ·by_cases hj:j=k
  ·cases hj;exact hz b h
  ·obtain⟨q,hq,hn⟩:=Nc;rw[v3 (aaJ hj)] at hq;exact P.sim.uv b j h ⟨q,hq,hn⟩
 ·rcases fg hq with ⟨rfl,rfl,_⟩|⟨_,hq⟩
  ·exact⟨a,P.le.φ _ _ ha,O'⟩
  ·exact P.sim.obj j q hq
 ·rcases P.Eu b j h with h1|⟨h1,h2⟩
  ·exact .inl h1
  ·refine .inr ⟨h1,λe=>h2 ?_⟩;by_cases hj:k=j
   ·subst hj;exact hg
   ·refine(v3 hj).trans ?_;exact e
 ·exact(P.yh b ob h).imp id (Or.imp id (Or.imp (λ⟨j,h1,h2⟩=>⟨j,h1,lv j h2⟩) id))
 ·obtain cG:k≠j:=λe=>by
   subst e;obtain⟨q,hq,hn⟩:=hl;rw[hj] at hq;obtain rfl:=oy hq;exact hn
  refine(v3 cG).trans ?_;exact P.gone j (by refine(v3 cG).trans ?_;exact hj)
end
section
variable{n:Nat}{A:tj}{E:Value->oC->Prop}{W W':Wd}{H H':AH}{s s':oC}{sc:te}{env:af}{e':Ts}
def c8(W:Wd)(a:sx):Prop:=W.own a=none/\W.Z a=none/\¬G.fR a
def bJ(W:Wd)(s:oC)(a:sx):Prop:=c8 W a/\∃o vs,s.heap.get? a=some o/\o.data=.fields vs
def dY(D:sx->Prop)(P:xI->Prop):Prop:=∀h h':xI,P h->(∀a o,D a->h.get? a=some o->h'.get? a=some o)->P h'
def iL(t:Expr)(it:Value)(IA D:sx->Prop)(ax:Wd):List V->(xI->Prop)->Prop|[],P=>∀{A:tj} {E:Value->oC->Prop} {Q:Option Value->oC->Prop} {s:oC},A.handled=none->P s.heap->(∀h' tk,s.heap.objs.size<=h'.objs.size->(∀b o,¬IA b->s.heap.get? b=some o->h'.get? b=some o)->Q none {s with heap:=h',toks:=tk})->si gM A (pyNext it) Q E s|x::xs,P=>∃P':xI->Prop,dY (λa=>IA a\/D a) P'/\iL t it IA D ax xs P'/\∀{A:tj} {E:Value->oC->Prop} {H:AH} {W:Wd} {s:oC},ax.Le W->aN W H s->(∀a,IA a->bJ W s a)->A.handled=none->P s.heap->si gM A (pyNext it) (λr s₁=>∃y,r=some y/\∀{E':Value->oC->Prop},si gM A (letOwnedTupleGo t it y) (λc s'=>∃W',ah W H s IA W' H s'/\(∀a,IA a->bJ W' s' a)/\Rel W' x y/\P' s'.heap) E' s₁) E s
theorem c8.post{X:sx->Prop}(P:ah W H s X W' H' s'){a:sx}(f:c8 W a)(cF:a<s.heap.objs.size)(hx:¬X a):c8 W' a:=by
 obtain h1:=f.1;obtain h2:=f.2.1;obtain h3:=f.2.2;refine⟨?_,?_,h3⟩
 ·induction e:W'.own a with
  |none=>rfl|some k=>
   rcases P.Eu a k e with h|⟨h,_⟩
   ·rw[h1] at h;exact nE h
   ·exact absurd cF (vi h)
 ·induction e:W'.Z a with
  |none=>rfl|some o=>
   rcases P.yh a o e with h|h|⟨k,h,_⟩|h
   ·rw[h2] at h;exact nE h
   ·exact absurd cF (vi h)
   ·rw[h1] at h;exact nE h
   ·exact absurd h hx
def Still(W:Wd)(H:AH)(s:oC)(X:sx->Prop)(a:sx):Prop:=(∃o,s.heap.get? a=some o)/\¬G.fR a/\(∀k,W.own a=some k->¬pT H k)/\¬X a
theorem Still.post{X:sx->Prop}{a:sx}(S:aN W H s)(P:ah W H s X W' H' s')(f:Still W H s X a):Still W' H' s' X a/\∀o,s.heap.get? a=some o->s'.heap.get? a=some o:=by
 obtain A1:=f.1;obtain h1:=f.2.1;obtain h2:=f.2.2.1;obtain h3:=f.2.2.2;refine A1.elim λo ho=>?_
 exact⟨⟨⟨o,P.keep a o ho h1 h2 h3⟩,h1,P.dead S (ti ho) h2,h3⟩,λo ho=>P.keep a o ho h1 h2 h3⟩
theorem ah.free(S:aN W H s){IA:sx->Prop}(hf:∀a,IA a->c8 W a)(hk:∀b o,¬IA b->s.heap.get? b=some o->s'.heap.get? b=some o)(hsz:s.heap.objs.size<=s'.heap.objs.size)(tY:s'.os=s.os)(hg:s'.gens=s.gens):
  ah W H s IA W H s':=by
 have zi:∀a o,W.Z a=some o->¬IA a:=λa o h hi=>by rw[(hf a hi).2.1] at h;exact nE h
 have oi:∀a k,W.own a=some k->¬IA a:=λa k h hi=>by rw[(hf a hi).1] at h;exact nE h
 refine⟨⟨λa o h=>hk a o (zi a o h) (S.z a o h),S.jV,λa k h=>⟨(S.cH a k h).1,xp (S.cH a k h).2 hsz⟩,S.uv,λk o h=>?_,λc P q hm=>?_,S.base⟩,.refl W,λd d h=>h,λd d h=>.inl h,λd d h=>.inl h,λa o h hn hd hx=>hk a o hx h,λa ps ht h=>⟨#[],by exact hk a _ (λhi=>(hf a hi).2.2 ht) h⟩,λd h=>h,pd _,hsz,tY,hg⟩
 ·obtain⟨a,h1,h2⟩:=S.obj k o h;exact⟨a,h1,h2.keeps (.refl W) (λd h=>h) (λo e=>hk a o (oi a k (S.jV k a h1)) e) λb o hb e=>hk b o (oi b k hb) e⟩
 ·obtain⟨h1,⟨oc,h0⟩,h2,nT,ps,h3,h4,h5⟩:=S.tab c P q hm;refine⟨?_,⟨oc,h0⟩,h2,nT,ps,hk P _ (λhi=>(hf P hi).2.2 ⟨c,q,hm⟩) h3,h4,h5⟩;obtain⟨o,vs,file,tf,flags,tg,JD,text,tt,e,r⟩:=h1;exact⟨o,vs,file,tf,flags,tg,JD,text,tt,hk c o (zi c oc h0) e,r⟩
theorem bJ.post{X:sx->Prop}(P:ah W H s X W' H' s'){a:sx}(f:bJ W s a)(hx:¬X a):bJ W' s' a:=by obtain⟨f,o,vs,ho,hd⟩:=f;exact⟨f.post P (ti ho) hx,o,vs,P.keep a o ho f.2.2 (λk h=>by rw[f.1] at h;exact nE h) hx,hd⟩
theorem bJ.keep{X:sx->Prop}(P:ah W H s X W' H' s'){a:sx}(f:bJ W s a)(hx:¬X a){o:Nw}(ho:s.heap.get? a=some o):s'.heap.get? a=some o:=P.keep a o ho f.1.2.2 (λk h=>by rw[f.1.1] at h;exact nE h) hx
theorem bJ.apart(N:aq sc env e' W s){a:sx}(f:bJ W s a):a≠e'.locals/\∀y,(kindOf sc y=some .cell\/(kindOf sc y=some .free/\(aY env y).isSome=true))->e'.cells.lookup y≠some a:=by
 obtain⟨f,o,vs,ho,hd⟩:=f;refine⟨?_,λy hy hl=>?_⟩
 ·rintro rfl;obtain⟨o',es,ep,m,h1,h2,h3,_⟩:=N.locals;rw[ho] at h1;obtain rfl:=oy h1;rw[hd] at h3;cases h3
 ·rcases hy with hy|⟨hy,hb⟩
  ·obtain⟨c,oc,u,h1,h2,h3,h4,_⟩:=N.cells y hy;rw[hl] at h1;obtain rfl:=oy h1;rw[ho] at h2;obtain rfl:=oy h2;rw[hd] at h4;exact nomatch h4
  ·obtain⟨v,hv⟩:=nB hb;obtain⟨c,oc,z,h1,h2,h4,_⟩:=N.frees y v hy hv;rw[hl] at h1;obtain rfl:=oy h1;rw[ho] at h2;obtain rfl:=oy h2;rw[hd] at h4;exact nomatch h4
theorem bJ.gj(N:aq sc env e' W s){a:sx}(f:bJ W s a):¬ck sc e' a:=λho=>by
 rcases ho with ho|⟨x,h1,h2⟩
 ·exact(f.apart N).1 ho
 ·exact(f.apart N).2 x (.inl h1) h2
end
section
variable{n:Nat}{A:tj}{E:Value->oC->Prop}{W W':Wd}{H H':AH}{s s':oC}{sc:te}{env:af}{e':Ts}
noncomputable def yw(T:String):Bool:=["enumerate","zip","dict_itemiterator","dict_reverseitemiterator","odict_iterator","itertools.zip_longest","itertools.pairwise"].contains T
theorem l5{M:Model}{t:Expr}{I:sx}{o:Nw}{T:String}{y:Value}{Q:Unit->oC->Prop}(ho:s.heap.get? I=some o)(hc:o.cls=.type T)(hT:yw T=false)(h:Q () s):
  si M A (letOwnedTupleGo t (.ref I) y) Q E s:=by
 have main:∀(a:sx),si M A (do
   let o<-load I
   match o.cls,o.data with
   |.type n,.fields vs=>
    if ["enumerate","zip","dict_itemiterator","dict_reverseitemiterator","odict_iterator","itertools.zip_longest","itertools.pairwise"].contains n&&vs[0]?==some (rawInt a) then
     rule "for.unpacks-the-owned-tuple"
     updateField I 0 .none
   |aR,bV=>pure ():Sem Unit) Q E s:=by
  intro a;refine ox (wpAny_load ho ?_);refine hc▸?_;unfold yw at hT
  induction hd:o.data<;>first
   |exact pk h|(dsimp only;refine hT▸?_;exact pk h)
 induction t using Expr.casesOn<;>first
  |exact pk h|(induction y<;>first
    |exact pk h|exact main _)
structure Iter(t:Expr)(it:Value)(IA D:sx->Prop)(ax:Wd)(xs:List V)(P:xI->Prop):Prop where
 BE:iL t it IA D ax xs P
 pV:dY (λa=>IA a\/D a) P
 self:∀{A:tj} {E:Value->oC->Prop} {Q:Value->oC->Prop} {s:oC},A.handled=none->P s.heap->Q it s->si gM A (pyIter it) Q E s
theorem uK{t:Expr}{ax:Wd}{I:sx}{fp:List sx}{m:Nat}{Pv:Nat->Value->Prop}{St:Nat->xI->Prop}(Wk:∀A:tj,A.handled=none->Walks G.prog G.w A I fp [I] m Pv St)
  (hI:∀i h,St i h->∃o T vs,h.get? I=some o/\o.cls=.type T/\yw T=false/\o.data=.fields vs){vs:List V}(hm:vs.length=m)(mT:∀i x v,vs[i]?=some x->Pv i v->∀W,ax.Le W->Rel W x v):
  ∀(k i:Nat),m-i=k->i<=m->iL t (.ref I) (λa=>a=I) (λa=>a∈fp/\a≠I) ax (vs.drop i) (St i):=by
 obtain pV:∀i,dY (λa=>a=I\/a∈fp/\a≠I) (St i):=λi h h' st hk=>(Wk {} rfl).frame i h h' st λb hb o e=>hk b o (by
  by_cases BF:b=I
  ·exact .inl BF
  ·exact .inr ⟨hb,BF⟩) e
 intro k;induction k with
 |zero=>
  intro i hk hi;obtain ND:i=m:=by exact aW (nat_lit 0x102509234028104100113) ae hi (Ln.bI (m) (i)) hk
  subst ND;rw[aas (by exact aL (nat_lit 68737310977) ae hm)];intro A E Q s hA st hQ;exact bN ((Wk A hA).done s _ E st λh' tk Ij hsz=>hQ h' tk hsz λb o hb e=>Ij b o (by simpa using hb) e)
 |succ k ih=>
  intro i hk hi;have cF:i<vs.length:=by exact v7 (nat_lit 0x24111918031323134082103) ae (rl (aL (nat_lit 68737302785) ae hi:i<=m)) hm hk
  rw[aaG cF];refine⟨St (i+1),pV _,ih (i+1) (by grind) (aW (nat_lit 0x21908012121101102) ae cF hm),λ{A E H W s} hL S Fw hA st=>?_⟩;refine bN ((Wk A hA).item i s _ E (by simp_all) st λv h' tk hP JI Ij hsz=>⟨v,rfl,λ{E'}=>?_⟩);refine(hI _ _ JI).elim λo A1=>?_;refine A1.elim λT NF=>?_;refine NF.elim λsG Qx=>?_;obtain ho:=Qx.1;obtain hc:=Qx.2.1;obtain hT:=Qx.2.2.1;obtain hd:=Qx.2.2.2
  refine l5 ho hc hT ?_;obtain PP:=ah.free S (λa ha=>(Fw a ha).1) (λb o hb e=>Ij b o (by simpa using hb) e) hsz rfl rfl;exact⟨W,PP,λa ha=>⟨(Fw a ha).1,o,sG,by rw[ha];exact ho,hd⟩,mT i _ v (sg cF) hP W hL,JI⟩
theorem dj{t:Expr}{ax:Wd}{I:sx}{fp:List sx}{m:Nat}{Pv:Nat->Value->Prop}{St:Nat->xI->Prop}(Wk:∀A:tj,A.handled=none->Walks G.prog G.w A I fp [I] m Pv St)
  (hI:∀i h,St i h->∃o T vs,h.get? I=some o/\o.cls=.type T/\yw T=false/\o.data=.fields vs){vs:List V}(hm:vs.length=m)(mT:∀i x v,vs[i]?=some x->Pv i v->∀W,ax.Le W->Rel W x v):
  Iter t (.ref I) (λa=>a=I) (λa=>a∈fp/\a≠I) ax vs (St 0):=
 ⟨uK Wk hI hm mT m 0 rfl (aS (nat_lit 590080) ae),λh h' st hk=>(Wk {} rfl).frame 0 h h' st λb hb o e=>hk b o (by
  by_cases BF:b=I
  ·exact .inl BF
  ·exact .inr ⟨hb,BF⟩) e,λhA st hQ=>(Wk _ hA).self 0 _ _ _ st hQ⟩
def SrcAt(W:Wd)(H:AH)(s:oC)(a:sx):Prop:=(∃o,s.heap.get? a=some o/\∀y,o.data≠.cell y)/\((∃k,W.own a=some k/\H[k]?=some aF.gone)\/∃o,W.Z a=some o)
theorem SrcAt.BG{a:sx}(S:aN W H s)(x:SrcAt W H s a){X:sx->Prop}(hX:¬X a):Still W H s X a:=by
 refine x.elim λz1 h=>?_;refine z1.elim λo z=>z.elim λho b=>?_
 refine⟨⟨o,ho⟩,λ⟨c,q,hm⟩=>?_,λk hk hl=>?_,hX⟩
 ·obtain⟨_,_,hz,hw,_⟩:=S.tab c a q hm;rcases h with ⟨k,h,_⟩|⟨o,h⟩
  ·rw[hw] at h;exact nE h
  ·rw[hz] at h;exact nE h
 ·rcases h with ⟨j,h,hg⟩|⟨o',h⟩
  ·rw[h] at hk;obtain rfl:=oy hk;obtain⟨q,hq,hn⟩:=hl;rw[hg] at hq;obtain rfl:=oy hq;exact hn
  ·rw[S.uv a k hk hl] at h;exact nE h
theorem SrcAt.gj{a:sx}(N:aq sc env e' W s)(x:SrcAt W H s a):¬ck sc e' a:=by
 obtain⟨⟨o,ho,hd⟩,h⟩:=x;rintro(rfl|⟨y,hy,hl⟩)
 ·refine N.locals.elim λYl SW=>?_;refine SW.elim λYm SX=>?_;refine SX.elim λYn SY=>?_;refine SY.elim λMP NG=>?_;obtain hw:=NG.2.2.2.2.1;obtain hz:=NG.2.2.2.2.2.1
  rcases h with ⟨j,h,hg⟩|⟨o',h⟩
  ·rw[hw] at h;exact nE h
  ·rw[hz] at h;exact nE h
 ·obtain⟨c,oc,u,h1,h2,h3,h4,_⟩:=N.cells y hy;rw[hl] at h1;obtain rfl:=oy h1;rw[ho] at h2;obtain rfl:=oy h2;exact hd u h4
def Lock(W:Wd)(H:AH)(s:oC)(back:Option (Nat×aF))(H₁:AH):Prop:=(back=none/\H₁=H)\/∃k o a,back=some (k,o)/\H[k]?=some o/\pT H k/\W.φ k=some a/\H₁=H.set k .gone
theorem Lock.post{back:Option (Nat×aF)}{H₁:AH}(S:aN W H s)(L:Lock W H s back H₁)(X:sx->Prop):ah W H s X W H₁ s:=by
 rcases L with ⟨_,rfl⟩|⟨k,o,a,_,_,_,_,rfl⟩
 ·exact .refl S
 ·exact ah.M0 S X k
theorem Lock.back{back:Option (Nat×aF)}{H₁ Hf:AH}{X:sx->Prop}(S:aN W H s)(L:Lock W H s back H₁)(P:ah W H₁ s X W' H' s')(hX:∀b k,W.own b=some k->¬X b)
  (h:i8 back H'=some ((),Hf)):ah W H s X W' Hf s':=by
 rcases L with ⟨rfl,rfl⟩|⟨k,o,a,rfl,ho,hl,ha,rfl⟩
 ·obtain S0:=(cC h).2;subst S0;exact P
 ·obtain this:=dw h;subst this;obtain own:=S.jV k a ha;have cF:=(eI ho).1
  have dead:¬pT (H.set k .gone) k:=λ⟨q,hq,hn⟩=>by rw[tA cF] at hq;obtain rfl:=oy hq;exact hn
  obtain nt:∀b,W.own b=some k->¬G.fR b:=λb hb ⟨c,q,hm⟩=>by obtain⟨_,_,_,hw,_⟩:=S.tab c b q hm;rw[hw] at hb;exact nE hb
  have kp:=λb o hb e=>P.keep b o e (nt b hb) (λj hj=>by rw[hb] at hj;obtain rfl:=oy hj;exact dead) (hX b k hb)
  exact ah.back S P ho hl ha ((S.at ho ha).keeps P.le (λb hb=>P.yg b k hb) (λo e=>kp a o own e) kp) λb hb hk=>hX b k hk hb
end
section
variable{n:Nat}{A:tj}{E:Value->oC->Prop}{W W':Wd}{H H':AH}{s s':oC}{sc:te}{env:af}{e':Ts}
inductive uL(W:Wd)(H:AH)(s:oC):Value->List V->Prop|lst(l:sx)(ys:Array Value)(m:Nat)(xs:List V):s.heap.get? l=some (ja ys m)->xs.length<ai->aG W xs ys.toList->SrcAt W H s l->uL W H s (.ref l) xs|tup(l:sx)(ys:Array Value)(m:Nat)(xs:List V):s.heap.get? l=some (qB ys m)->xs.length<ai->aG W xs ys.toList->SrcAt W H s l->uL W H s (.ref l) xs|str(x:Str)(t:Tok):x.length<ai->uL W H s (.str x t) (x.cps.toList.map λc=>.str ⟨#[c]⟩)|t9(r:sx)(a b:Int)(t u v:Tok):IsRange s.heap r a b 1 t u v->Builtin.Range.small a b 1=true->uL W H s (.ref r) ((w8 (b-a).toNat).map λ(i:Nat)=>.int (a+(i:Int)))|aE(d:sx)(es:Array th)(m:Nat)(kvs:List (Str×V)):s.heap.get? d=some (dO es m)->d≠sysModules->(kvs.map (·.1)).Nodup->kvs.length<ai->Reld W kvs es.toList->SrcAt W H s d->uL W H s (.ref d) (kvs.map λkv=>.str kv.1)
theorem SrcAt.z{a:sx}{o:Nw}(S:aN W H s)(h:W.Z a=some o)(hd:∀y,o.data≠.cell y):SrcAt W H s a:=⟨⟨o,S.z _ _ h,hd⟩,.inr ⟨o,h⟩⟩
theorem SrcAt.lock{a:sx}{o:Nw}{k:Nat}(S:aN W H s)(hk:k<H.length)(ha:W.φ k=some a)(h:s.heap.get? a=some o)(hd:∀y,o.data≠.cell y):SrcAt W (H.set k .gone) s a:=⟨⟨o,h,hd⟩,.inl ⟨k,S.jV k a ha,tA hk⟩⟩
theorem uM{v:V}{x:Value}{xs:List V}{back:Option (Nat×aF)}(h:srcOf v H=some ((xs,back),H'))(S:aN W H s)(r:Rel W v x):Lock W H s back H'/\uL W H' s x xs:=by
 induction v using V.casesOn with
 |lst vs=>refine nJ h ?_;obtain⟨a,m,ys,rfl,hz,hl,rs⟩:=r;exact⟨.inl ⟨rfl,rfl⟩,.lst a ys m _ (S.z _ _ hz) hl rs (.z S hz (by intro y e;cases e))⟩
 |tup vs=>refine nJ h ?_;obtain⟨a,m,ys,rfl,hz,hl,rs⟩:=r;exact⟨.inl ⟨rfl,rfl⟩,.tup a ys m _ (S.z _ _ hz) hl rs (.z S hz (by intro y e;cases e))⟩
 |str y=>refine nJ h ?_;obtain⟨hl,t,rfl⟩:=r;exact⟨.inl ⟨rfl,rfl⟩,.str _ _ hl⟩
 |t9 a b=>refine nJ h ?_;obtain⟨q,t,u,v,rfl,hz,hs⟩:=r;exact⟨.inl ⟨rfl,rfl⟩,.t9 q a b t u v (S.z _ _ hz) hs⟩
 |aE kvs=>refine nJ h ?_;obtain⟨a,m,es,rfl,hz,h0,nd,hl,rs⟩:=r;exact⟨.inl ⟨rfl,rfl⟩,.aE a es m _ (S.z _ _ hz) h0 nd hl rs (.z S hz (by intro y e;cases e))⟩
 |ref k=>
  refine cY h λo H₁ h1 k1=>?_
  obtain⟨ho,hn,rfl⟩:=dR h1;obtain⟨a,rfl,ha⟩:=r;have O:=S.at ho ha
  have cF:=(eI ho).1;induction o with
  |lst vs=>
   refine cY k1 λu H2 h2 k2=>?_
   have :=dw h2;subst this;refine nJ k2 ?_;obtain⟨m,ys,g,hl,rs⟩:=O;exact⟨.inr ⟨k,_,a,rfl,ho,hn,ha,rfl⟩,.lst a ys m _ g hl rs (.lock S cF ha g (by intro y e;cases e))⟩
  |_=>exact nE k1
 |_=>exact nE h
inductive l6(t:Expr)(it:Value)(W:Wd)(H:AH)(s₁:oC)(n0:Nat)(xs:List V):Prop|mk(IA D:sx->Prop)(P:xI->Prop)(I:Iter t it IA D W xs P)(p:P s₁.heap)(h:∀a,IA a->bJ W s₁ a/\n0<=a)(hD:∀a,D a->SrcAt W H s₁ a)
theorem SrcAt.push{a:sx}(x:SrcAt W H s a)(o:Nw)(t:Nat):SrcAt W H {s with heap:=s.heap.push o,toks:=t} a:=by
 refine x.elim λS1 h=>?_;refine S1.elim λq z=>z.elim λhq hd=>?_
 exact⟨⟨q,px _ hq,hd⟩,h⟩
theorem bJ.push(S:aN W H s){o:Nw}{vs:Array Value}(hd:o.data=.fields vs)(t:Nat):bJ W {s with heap:=s.heap.push o,toks:=t} s.heap.objs.size:=⟨⟨S.dc (pd _),S.iG (pd _),S.gh (pd _)⟩,o,vs,tc _ (Nw.isFreed_of_fields hd),hd⟩
theorem eW.get{kvs:List (Str×V)}{ps:List (Str×Value)}{i:Nat}{k:Str}{y:Value}(h:eW W kvs ps)(hx:ps[i]?=some (k,y)):∃v,kvs[i]?=some (k,v)/\k.length<ai/\Rel W v y:=by
 induction kvs generalizing ps i with
 |nil=>induction ps with |nil=>exact nE hx|cons _ _=>exact h.elim
 |cons a r ih=>induction ps with
  |nil=>exact h.elim|cons b r'=>induction i with
   |zero=>obtain hb:=oy hx;subst hb;exact⟨a.2,congrArg some (aaC h.1.symm rfl),h.1.symm▸h.2.1,h.2.2.1⟩
   |succ i=>exact ih h.2.2.2 hx
theorem rangeSize_one(a b:Int):((b-a).toNat:Int)=aaD a b 1:=by
 unfold aaD;obtain h1:(1:Int)>0:=by exact Iz.go (nat_lit 420057344) [] [] ae
 split<;>lia
theorem Fx{t:Expr}{x:Value}{xs:List V}(V:uL W H s x xs)(S:aN W H s):
  si gM A (pyIter x) (λit s₁=>ah W H s aQ W H s₁/\l6 t it W H s₁ s.heap.objs.size xs) E s:=by
 obtain LA:∀{a:sx} {o:Nw},s.heap.get? a=some o->a≠s.heap.objs.size:=λh=>x5 (ti h)
 induction V with
 |lst l ys m xs g hl rs sa=>
  have cG:=LA g;refine wpAny_pyIter_list (v_ g) ⟨ah.gw S aQ _,_,_,_,dj (λA hA=>Walks.list hA s.heap.objs.size l cG ys) (λi h st=>?_) ?_ ?_,⟨⟨_,tc _ rfl,rfl,rfl⟩,_,px _ g,rfl,m,rfl⟩,λa ha=>?_,λa ha=>?_⟩
  ·obtain⟨⟨o,ho,hc,hd⟩,_⟩:=st;exact⟨o,_,_,ho,hc,by decide,hd⟩
  ·have :=rs.length;simpa using this
  ·intro i x v hx hv W' L;obtain⟨y,hy,r⟩:=rs.get hx;rw[xv] at hy;rw[hy] at hv;cases hv;exact r.mono L
  ·cases ha;exact⟨bJ.push S rfl s.toks,pd _⟩
  ·have :a=l:=by
    rcases bx ha.1 with h|h
    ·exact absurd h ha.2
    ·simpa using h
   subst this;exact sa.push _ s.toks
 |tup l ys m xs g hl rs sa=>
  have cG:=LA g;refine wpAny_pyIter_tuple (Fb g) ⟨ah.gw S aQ _,_,_,_,dj (λA hA=>Walks.tuple hA s.heap.objs.size l cG ys) (λi h st=>?_) ?_ ?_,⟨⟨_,tc _ rfl,rfl,rfl⟩,_,px _ g,rfl,m,rfl⟩,λa ha=>?_,λa ha=>?_⟩
  ·obtain⟨⟨o,ho,hc,hd⟩,_⟩:=st;exact⟨o,_,_,ho,hc,by decide,hd⟩
  ·have :=rs.length;simpa using this
  ·intro i x v hx hv W' L;obtain⟨y,hy,r⟩:=rs.get hx;rw[xv] at hy;rw[hy] at hv;cases hv;exact r.mono L
  ·cases ha;exact⟨bJ.push S rfl s.toks,pd _⟩
  ·have :a=l:=by
    rcases bx ha.1 with h|h
    ·exact absurd h ha.2
    ·simpa using h
   subst this;exact sa.push _ s.toks
 |str y tk hl=>
  have mT:∀(i:Nat) (x:V) (v:Value),(y.cps.toList.map λc=>V.str ⟨#[c]⟩)[i]?=some x->SignAt y i v->∀W',W.Le W'->Rel W' x v:=by rintro i x v hx ⟨c,u,hc,rfl⟩ W' L;rw[x3,xv,hc] at hx;cases hx;exact⟨by show 1<ai;decide,u,rfl⟩
  induction ha:y.cps.all (·<128)
  ·refine wpAny_pyIter_wide ha ⟨ah.gw S aQ _,_,_,_,dj (λA hA=>Walks.strWide hA s.heap.objs.size y tk) (λi h st=>?_) (by simp) mT,⟨_,tc _ rfl,rfl,rfl⟩,λa ha=>?_,λa ha=>?_⟩
   ·obtain⟨o,ho,hc,hd⟩:=st;exact⟨o,_,_,ho,hc,by decide,hd⟩
   ·cases ha;exact⟨bJ.push S rfl s.toks,pd _⟩
   ·exact absurd (by simpa using ha.1) ha.2
  ·refine wpAny_pyIter_ascii ha ⟨ah.gw S aQ _,_,_,_,dj (λA hA=>Walks.strAscii hA s.heap.objs.size y tk) (λi h st=>?_) (by simp) mT,⟨_,tc _ rfl,rfl,rfl⟩,λa ha=>?_,λa ha=>?_⟩
   ·obtain⟨o,ho,hc,hd⟩:=st;exact⟨o,_,_,ho,hc,by decide,hd⟩
   ·cases ha;exact⟨bJ.push S rfl s.toks,pd _⟩
   ·exact absurd (by simpa using ha.1) ha.2
 |t9 r a b tk u v g hs=>
  refine wpAny_pyIter_range g hs ⟨ah.gw S aQ _,_,_,_,dj (λA hA=>Walks.range hA s.heap.objs.size a 1 (b-a).toNat) (λi h st=>?_) (by simp) ?_,?_,λa ha=>?_,λa ha=>?_⟩
  ·exact⟨_,_,_,st,rfl,by decide,rfl⟩
  ·rintro i x v hx ⟨t,rfl⟩ W' L;rw[x3] at hx;induction hr:(w8 (b-a).toNat)[i]? with
   |none=>rw[hr] at hx;exact nE hx|some j=>
    rw[hr] at hx;cases hx;have :j=i:=by have :=eI hr;obtain⟨h1,h2⟩:=this;simp at h2;exact h2.symm
    subst this;exact⟨t,congrArg (λj=>Value.int (a+j) t) (Int.mul_one _)⟩
  ·skip
   rw[rangeSize_one];have :a+((0:Nat):Int)* 1=a:=by simp
   rw[this];have :aaD a b 1-((0:Nat):Int)=aaD a b 1:=by simp
   rw[this];exact tc _ rfl
  ·cases ha;exact⟨bJ.push S rfl s.toks,pd _⟩
  ·exact absurd (by simpa using ha.1) ha.2
 |aE d es m kvs g h0 nd hl rs sa=>
  have cG:=LA g;obtain⟨ps,h1,h2,h3⟩:=jb rs;have D:∀h:xI,h.get? d=some (dO es m)->h.DictAt (sk) d ps m:=λh g=>⟨_,es,g,⟨rfl,rfl,rfl⟩,rfl,λe he=>h3 e (by simpa using he),h1,by rw[<-h2.keys];exact nd⟩
  refine wpAny_pyIter_dict (by simpa using h0) (D _ g) ⟨ah.gw S aQ _,_,_,_,dj (λA hA=>Walks.dictKeys hA s.heap.objs.size d cG ps m) (λi h st=>?_) ?_ ?_,⟨⟨_,tc _ rfl,rfl,rfl⟩,D _ (px _ g)⟩,λa ha=>?_,λa ha=>?_⟩
  ·obtain⟨⟨o,ho,hc,hd⟩,_⟩:=st;exact⟨o,_,_,ho,hc,by decide,hd⟩
  ·simp[h2.length]
  ·rintro i x v hx ⟨k,y,hk,hv⟩ W' L;obtain⟨u,hu,hlen,_⟩:=h2.get hk;rw[x3,hu] at hx;cases hx;obtain⟨tk,S2⟩:=Value.isStrOf_shape hv;exact⟨hlen,tk,S2⟩
  ·cases ha;exact⟨bJ.push S rfl s.toks,pd _⟩
  ·have :a=d:=by
    rcases bx ha.1 with h|h
    ·exact absurd h ha.2
    ·simpa using h
   subst this;exact sa.push _ s.toks
end
section
variable{n:Nat}{A:tj}{E:Value->oC->Prop}{W W':Wd}{H H':AH}{s s':oC}{sc:te}{env:af}{e':Ts}
def w5(W:Wd)(H:AH)(s:oC)(back:Option (Nat×aF))(ag:Wd)(H₁:AH)(s₁:oC):Prop:=ah W H s aQ ag H₁ s₁/\∀{X:sx->Prop} {W':Wd} {H' Hf:AH} {s':oC},ah ag H₁ s₁ X W' H' s'->(∀b k,ag.own b=some k->¬X b)->i8 back H'=some ((),Hf)->ah W H s X W' Hf s'
theorem w5.mk'{back:Option (Nat×aF)}{ax ag:Wd}{H₀ H₁:AH}{a7 s₁:oC}(S:aN W H s)(dq:ah W H s aQ ax H₀ a7)(L:Lock ax H₀ a7 back H₁)(aa:ah ax H₁ a7 aQ ag H₁ s₁):w5 W H s back ag H₁ s₁:=by obtain PL:=L.post dq.sim aQ;refine⟨dq.trans S (PL.trans dq.sim aa),λ{X W' H' Hf s'} Q hX hb=>?_⟩;obtain Q':=(aa.wk λa h=>h.elim).trans PL.sim Q;obtain Yo:=L.back dq.sim Q' (λb k hb=>hX b k (aa.yg b k hb)) hb;exact(dq.wk λa h=>h.elim).trans S Yo
theorem mZ{v:V}{x:Value}{kvs:List (Str×V)}{back:Option (Nat×aF)}(h:ES v H=some ((kvs,back),H'))(S:aN W H s)(r:Rel W v x):
  Lock W H s back H'/\∃d es m,x=.ref d/\s.heap.get? d=some (dO es m)/\d≠sysModules/\(kvs.map (·.1)).Nodup/\kvs.length<ai/\Reld W kvs es.toList/\SrcAt W H' s d:=by
 induction v using V.casesOn with
 |aE kvs=>refine nJ h ?_;obtain⟨a,m,es,rfl,hz,h0,nd,hl,rs⟩:=r;exact⟨.inl ⟨rfl,rfl⟩,a,es,m,rfl,S.z _ _ hz,h0,nd,hl,rs,.z S hz (by intro y e;cases e)⟩
 |_=>exact nE h
theorem ou{IA:sx->Prop}{v1 v2:V}{a b:Value}{BH:xI}{tk:Nat}(S:aN W H s)(Fw:∀a,IA a->bJ W s a)(ht:BH.get? s.heap.objs.size=some (qB #[a,b] 0))(hsz:BH.objs.size=s.heap.objs.size+1)
  (hk:∀c o,¬IA c->s.heap.get? c=some o->BH.get? c=some o)(ex:∀a,IA a->∃o vs,BH.get? a=some o/\o.data=.fields vs)(r1:Rel W v1 a)(r2:Rel W v2 b):
  ∃W',ah W H s IA W' H {s with heap:=BH,toks:=tk}/\(∀a,IA a->bJ W' {s with heap:=BH,toks:=tk} a)/\Rel W' (.tup [v1,v2]) (.ref s.heap.objs.size):=by
 obtain aa:=ah.push S aQ (qB #[a,b] 0) rfl tk;obtain lt:∀c,IA c->c<s.heap.objs.size:=λc hc=>by obtain⟨_,o,_,ho,_⟩:=Fw c hc;exact ti ho
 obtain hF:=λc hc=>((Fw c hc).post aa (λh=>h)).1
 obtain ab:ah (W.add s.heap.objs.size (qB #[a,b] 0)) H {s with heap:=s.heap.push (qB #[a,b] 0),toks:=tk} IA (W.add s.heap.objs.size (qB #[a,b] 0)) H {s with heap:=BH,toks:=tk}:=by
  refine ah.free aa.sim hF (λc o hc ho=>?_) (by simp only[hsz];exact Fu (xc ..)) rfl rfl;by_cases dh:c=s.heap.objs.size
  ·subst dh;rw[tc _ rfl] at ho;obtain rfl:=oy ho;exact ht
  ·refine hk c o hc ?_
   rwa [xI.get?_push_ne _ _ _ dh] at ho
 refine⟨_,(aa.wk λd h=>h.elim).trans S ab,λc hc=>⟨hF c hc,ex c hc⟩,?_⟩;exact⟨_,_,_,rfl,Wd.bg ..,by show 2<ai;decide,by exact⟨r1.mono aa.le,r2.mono aa.le,trivial⟩⟩
end
section
variable{n:Nat}{A:tj}{E:Value->oC->Prop}{W W':Wd}{H H':AH}{s s':oC}{sc:te}{env:af}{e':Ts}
theorem w6{elts:List Expr}{x1}{pos:aaK}{ax:Wd}{e it:sx}{fp:List sx}{m:Nat}{Pv:Nat->Value->Prop}{St:Nat->xI->Prop}(D:∀A:tj,A.handled=none->Draws G.prog G.w A it fp m Pv St)
  (S3:e≠it)(Qy:e∉fp)(V9:it∈fp)(Ez:∀i h,St i h->∃o vs,h.get? it=some o/\o.data=.fields vs){vs:List V}(hm:vs.length=m)(mT:∀i x v,vs[i]?=some x->Pv i v->∀W,ax.Le W->Rel W x v):
  ∀(k i:Nat),m-i=k->i<=m->iL (.Tuple elts x1 pos) (.ref e) (λa=>a=e\/a=it) (λa=>a∈fp/\a≠it) ax (aX i (vs.drop i)) (λh=>(∃old,IsEnum h e it i old)/\St i h):=by
 have pV:∀i:Nat,dY (λa=>(a=e\/a=it)\/a∈fp/\a≠it) (λh=>(∃old,IsEnum h e it i old)/\St i h):=λi h h' ⟨⟨old,he⟩,st⟩ hk=>⟨⟨old,hk e _ (.inl (.inl rfl)) he⟩,(D {} rfl).frame i h h' st λb hb o e=>hk b o (by
  by_cases BF:b=it
  ·exact .inl (.inr BF)
  ·exact .inr ⟨hb,BF⟩) e⟩
 intro k;induction k with
 |zero=>
  intro i hk hi;have ND:i=m:=by exact aW (nat_lit 0x102509234028104100113) ae hi (Ln.bI (m) (i)) hk
  subst ND;rw[aas (by exact aL (nat_lit 68737310977) ae hm)];intro A E Q s hA ⟨⟨old,he⟩,st⟩ hQ;exact bN (wpAny_pyNext_enum_endD (D A.in1 hA) he st λh' hx hsz=>hQ h' s.toks hsz λb o hb e=>hx b o (λh=>hb (.inr h)) e)
 |succ k ih=>
  intro i hk hi;have cF:i<vs.length:=by exact v7 (nat_lit 0x24111918031323134082103) ae (rl (aL (nat_lit 68737302785) ae hi:i<=m)) hm hk
  refine(aaG cF)▸?_;refine⟨_,pV (i+1),by obtain this:=ih (i+1) (v7 (nat_lit 0x1225194828304340834191802540830131948282115) ae (rl (aW (nat_lit 0x21908012121101102) ae cF hm:i+1<=m)) (Ln.bI (m) (i)) hk (rl (aL (nat_lit 68737302785) ae hi:i<=m)) (Ln.bI (m) (i+1))) (aW (nat_lit 0x21908012121101102) ae cF hm);exact this,λ{A E H W s} hL S Fw hA ⟨⟨old,he⟩,st⟩=>?_⟩;refine wpAny_pyNext_enum_itemD (D A.in1 hA) he st (by simp_all) S3 Qy λx h' tk hP ho JI hT hsz Ij=>⟨_,rfl,λ{E'}=>?_⟩
  refine wpAny_letOwnedTupleGo_enum ho λBH BI sP=>?_
  have JJ:=ti he;have NH:St (i+1) BH:=(D {} rfl).frame _ _ _ JI λb hb o y=>sP.extBut b o (λq=>Qy (q▸hb)) y
  obtain⟨W',P,S4,r⟩:=ou (v1:=.int (i:Int)) S Fw (sP.extBut _ _ (Nat.ne_of_gt JJ) hT) (by simp only[sP.1,hsz])
   (λc o hc Fy=>sP.extBut _ _ (λh=>hc (.inl h)) (Ij c o (λh=>hc (.inl h)) (λh=>hc (.inr h)) Fy))
   (λa ha=>by
    rcases ha with rfl|rfl
    ·exact⟨_,_,BI,rfl⟩
    ·exact Ez _ _ NH) ⟨_,rfl⟩ (mT i _ x (sg cF) hP W hL)
  exact⟨W',P,S4,r,⟨x,by exact BI⟩,NH⟩
theorem lu{elts:List Expr}{x1}{pos:aaK}{ax:Wd}{e it:sx}{fp:List sx}{m:Nat}{Pv:Nat->Value->Prop}{St:Nat->xI->Prop}(D:∀A:tj,A.handled=none->Draws G.prog G.w A it fp m Pv St)
  (S3:e≠it)(Qy:e∉fp)(V9:it∈fp)(Ez:∀i h,St i h->∃o vs,h.get? it=some o/\o.data=.fields vs){vs:List V}(hm:vs.length=m)(mT:∀i x v,vs[i]?=some x->Pv i v->∀W,ax.Le W->Rel W x v):
  Iter (.Tuple elts x1 pos) (.ref e) (λa=>a=e\/a=it) (λa=>a∈fp/\a≠it) ax (aX 0 vs) (λh=>(∃old,IsEnum h e it 0 old)/\St 0 h):=
 ⟨by obtain this:=w6 D S3 Qy V9 Ez hm mT m 0 rfl (by simp_all);exact this,
 λh h' ⟨⟨old,he⟩,st⟩ hk=>⟨⟨old,hk e _ (.inl (.inl rfl)) he⟩,(D {} rfl).frame 0 h h' st λb hb o e=>hk b o (by
  by_cases BF:b=it
  ·exact .inl (.inr BF)
  ·exact .inr ⟨hb,BF⟩) e⟩,λhA ⟨⟨old,he⟩,st⟩ hQ=>wpAny_pyIter_enum he hQ⟩
theorem uN{elts:List Expr}{x1}{pos:aaK}{ax:Wd}{it d:sx}{ps:List (Str×Value)}{kvs:List (Str×V)}{ep:Nat}(cG:d≠it)(rp:eW ax kvs ps):
  ∀(k i:Nat),ps.length-i=k->i<=ps.length->iL (.Tuple elts x1 pos) (.ref it) (λa=>a=it) (λa=>a=d) ax ((kvs.map λkv=>.tup [.str kv.1,kv.2]).drop i)
   (λh=>(∃ok ov,IsItemIter h it d i ps.length ep ok ov)/\h.DictAt (sk) d ps ep):=by
 obtain pV:∀i:Nat,dY (λa=>a=it\/a=d) (λh=>(∃ok ov,IsItemIter h it d i ps.length ep ok ov)/\h.DictAt (sk) d ps ep):=λi h h' ⟨⟨ok,ov,he⟩,st⟩ hk=>⟨⟨ok,ov,hk it _ (.inl rfl) he⟩,st.at' λo e=>hk d o (.inr rfl) e⟩
 have hlen:=rp.length;intro k;induction k with
 |zero=>
  intro i hk hi;have ND:i=ps.length:=by exact aW (nat_lit 0x102509234028104100113) ae hi (Ln.bI (ps.length) (i)) hk
  subst ND;rw[aas (by simp;exact aL (nat_lit 68737310977) ae hlen)];intro A E Q s hA ⟨⟨ok,ov,he⟩,st⟩ hQ;exact bN (wpAny_pyNext_items_end hA he st (by simp) λh' hx hsz=>hQ h' s.toks hsz λb o hb e=>hx b o hb e)
 |succ k ih=>
  intro i hk hi;have cF:i<(kvs.map λkv=>V.tup [.str kv.1,kv.2]).length:=by simp;exact v7 (nat_lit 0x24111918031323134082103) ae (rl (aL (nat_lit 68737302785) ae hi:i<=ps.length)) hlen hk
  simp only[aaG cF];refine⟨_,pV (i+1),ih (i+1) (by omega) (e9 (nat_lit 0x3192801191803132082102) ae (rl (aL (nat_lit 68737302785) ae hi:i<=ps.length)) hk),λ{A E H W s} hL S Fw hA ⟨⟨ok,ov,he⟩,st⟩=>?_⟩;obtain⟨⟨k0,y⟩,hx⟩:∃p,ps[i]?=some p:=⟨ps[i]'(by exact e9 (nat_lit 0x3211191803132082102) ae (rl (aL (nat_lit 68737302785) ae hi:i<=ps.length)) hk),sg (by exact e9 (nat_lit 0x3211191803132082102) ae (rl (aL (nat_lit 68737302785) ae hi:i<=ps.length)) hk)⟩;refine(rp.get hx).elim λu Ew=>?_;obtain hu:=Ew.1;obtain hl:=Ew.2.1;obtain ru:=Ew.2.2
  refine wpAny_pyNext_items_item he st hx λkey h' S5 ho hT hsz Ij=>⟨_,rfl,λ{E'}=>?_⟩
  refine wpAny_letOwnedTupleGo_items ho λBH BI sP=>?_
  obtain JJ:=ti he;refine(Value.isStrOf_shape S5).elim λtk S2=>?_
  obtain ev:(kvs.map λkv=>V.tup [.str kv.1,kv.2])[i]=.tup [.str k0,u]:=by
   obtain h1:(kvs.map λkv=>V.tup [.str kv.1,kv.2])[i]?=some (.tup [.str k0,u]):=by rw[x3,hu];rfl
   rw[sg cF] at h1;exact oy h1
  rw[ev]
  obtain⟨W',P,S4,r⟩:=ou (v1:=.str k0) S Fw (sP.extBut _ _ (Nat.ne_of_gt JJ) hT) (by rw[sP.1,hsz])
   (λc o hc Fy=>sP.extBut _ _ hc (Ij c o hc Fy)) (λa ha=>by cases ha;exact⟨_,_,BI,rfl⟩) (⟨hl,tk,S2⟩) (ru.mono hL)
  refine⟨W',P,S4,r,⟨_,_,BI⟩,st.at' λo e=>sP.extBut _ _ cG (Ij d o cG e)⟩
end
section
variable{A:tj}{E:Value->oC->Prop}{s:oC}
theorem kh{it t:sx}{i:Nat}{items:Array Value}{Q:Value->oC->Prop}(hh:A.handled=none)(hit:s.heap.IsTupleIter it t i)(ht:s.heap.IsTuple t items)
  (hQ:∀x h',items[i]?=some x->h'.IsTupleIter it t (i+1)->xI.SameBut it s.heap h'->Q x {s with heap:=h'})
  (hE:∀h' e,items[i]?=none->xI.ExtBut it s.heap h'->(∃o,h'.get? e=some o/\o.cls=.type "StopIteration")->E (.ref e) {s with heap:=h'}):
  si gM A (Builtin.SmallTypes.nextOf (.ref it)) Q E s:=by
 refine(id hit).elim λo z=>z.elim λho z=>z.elim λhc hd=>?_
 refine ht.elim λol z=>z.elim λYp z=>z.elim λb z=>z.elim λnl Yq=>?_
 refine ox (aau hit.typeIs F.slot_tuple_iterator_next
  (PQ F.slot_tuple_iterator_next hit.typeIs F.entry_tuple_iterator_next ?_ (F.args_tuple_iterator_next_1 _)))
 show si _ _ (field (.ref it) 0>>=_) _ _ s;refine ox (aaj ho hd (x:=.ref t) rfl ?_);refine ox (aaj ho hd rfl ?_);refine ox (wpAny_seqItems Yp Yq ?_);induction hx:items[i]? with
 |some x=>simp only[aad,hx];refine ox (wpAny_setField ho hd (pd _) (pk ⟨x,rfl,pk (hQ _ _ hx ?_ (Pl ..))⟩));exact⟨_,TC _ ho (Nw.isFreed_of_fields (Nw.data_mapFields hd _)),(Nw.cls_mapFields ..).trans hc,by rw[Nw.data_mapFields hd];rfl⟩|none=>
  simp only[aad,hx];refine ox (wpAny_rule (ox (wpAny_setField ho hd (by simp) ?_)));refine ox ?_;refine ox (B1 ?_ (Ln.go (nat_lit 72057596169224448) [] ae));refine ox (wpAny_of_eq (a:=Value.none) (by first|rfl|(rfl)) ?_);refine B1 ?_ (by size_fits);refine ox (wpAny_handled ?_)
  first|rw[show A.in1.handled=none from hh]|rw[hh]
  refine ox (pk (wpAny_throw ?_));exact hE _ _ hx (((Pl ..).extBut.push _).push _) ⟨_,tc _ rfl,rfl⟩
theorem uO(hh:A.handled=none)(it l:sx)(cG:l≠it)(items:Array Value):
  Draws G.prog G.w A it [it,l] items.size (λi v=>items[i]?=some v) (λi h=>h.IsTupleIter it l i/\h.IsTuple l items) where
 live:=λc c st=>let ⟨o,ho,_⟩:=st.1;⟨o,ho⟩
 frame:=λc c c st hk=>⟨st.1.at λo e=>hk it (by simp) o e,st.2.at λo e=>hk l (by simp) o e⟩
 item:=λi s Q E hi st hQ=>kh hh st.1 st.2 (λx h' hx S6 V_=>hQ _ h' s.toks hx ⟨S6,let ⟨o,ho,r⟩:=st.2;⟨o,V_.extBut l o cG ho,r⟩⟩ V_) λh' e hx=>by rw[Array.getElem?_eq_getElem hi] at hx;exact nomatch hx
 done:=λs Q E st hE=>kh hh st.1 st.2 (λx h' hx=>by simp at hx) λh' e c a b=>hE h' e a b
theorem pW{M:Model}{g:List (Code×aaK)->Bool}{Q:Bool->oC->Prop}(h:∀b,Q b s):si M A stack (λst s'=>si M A (TK (g st)) Q E s') E s:=wpAny_stack_any λa=>pk (h _)
open AutoSeq1 (wpAny_loadPart') in
theorem iM(l:sx)(items:Array Value)(n:Nat):
  Meets (Builtin.«enumerate.__new__» ⟨[.type "enumerate",.ref l],[]⟩) (λa R s=>s.heap.get? l=some (qB items n)/\
   R (.ok (.ret (.ref (s.heap.push {cls:=.type "tuple_iterator",data:=.fields #[.ref l,.int 0 0]}).objs.size)))
    {s with heap:=(s.heap.push {cls:=.type "tuple_iterator",data:=.fields #[.ref l,.int 0 0]}).push {cls:=.type "enumerate",data:=.fields #[.none,.bool false,.ref s.heap.objs.size,rawInt 0,.none,.none]}}):=
 .of_wp λprog w A R s h=>by
  obtain⟨hp,g,d,tk,os⟩:=s;obtain⟨hl,h⟩:=h;have L8:=sub_enumerate
  have hL:xI.IsTuple (oC.heap ⟨hp,g,d,tk,os⟩) l items:=⟨_,hl,rfl,n,rfl⟩
  wp_walk using wpAny_loadPart' hl
  refine pW λb=>?_
  cases b<;>(wp_walk using wpAny_loadPart' hl,wpAny_pyIter_tuple hL)<;>exact⟨_,rfl,h⟩
theorem iN{l:sx}{items:Array Value}{n:Nat}{Q:Value->oC->Prop}(hl:s.heap.get? l=some (qB items n))
  (h:∀h',IsEnum h' (s.heap.objs.size+1) s.heap.objs.size 0 .none->h'.IsTupleIter s.heap.objs.size l 0->h'.objs.size=s.heap.objs.size+2->(∀b o,s.heap.get? b=some o->h'.get? b=some o)->Q (.ref (s.heap.objs.size+1)) {s with heap:=h'}):
  si gM A (call (.type "enumerate") [.ref l]) Q E s:=by
 refine callType_new F.called_enumerate rfl (F.typeCall_enumerate_1 _) (F.newCall_enumerate_1 _) (λobj=>F.args_object_init_2 obj _) F.entry_enumerate_new
  (iM l items n) ⟨hl,?_⟩
 obtain hz:=xc ..;rw[hz]
 obtain he:IsEnum ((s.heap.push {cls:=.type "tuple_iterator",data:=.fields #[.ref l,.int 0 0]}).push
   {cls:=.type "enumerate",data:=.fields #[.none,.bool false,.ref s.heap.objs.size,rawInt 0,.none,.none]}) (s.heap.objs.size+1) s.heap.objs.size 0 .none:=by
  obtain this:=tc (s.heap.push {cls:=.type "tuple_iterator",data:=.fields #[.ref l,.int 0 0]})
   (o:={cls:=.type "enumerate",data:=.fields #[.none,.bool false,.ref s.heap.objs.size,rawInt 0,.none,.none]}) rfl
  rw[hz] at this;exact this
 exact⟨⟨_,he,rfl⟩,h _ he ⟨_,px _ (tc _ rfl),rfl,rfl⟩ (by rw[xc,hz]) λb o x=>px _ (px _ x)⟩
end
section
variable{n:Nat}{A:tj}{E:Value->oC->Prop}{W W':Wd}{H H':AH}{s s':oC}{sc:te}{env:af}{e':Ts}
theorem w7(S:aN W H s){h':xI}(hsz:h'.objs.size=s.heap.objs.size+2)(hk:∀b o,s.heap.get? b=some o->h'.get? b=some o):ah W H s aQ W H {s with heap:=h'}:=ah.grow S aQ hk (aL (nat_lit 17671936553217) ae hsz) rfl rfl (λa a h=>h) (λa a h=>.inl h) rfl rfl
theorem gA(S:aN W H s){h':xI}{a:sx}{o:Nw}{vs:Array Value}(ha:s.heap.objs.size<=a)(ho:h'.get? a=some o)(hd:o.data=.fields vs):bJ W {s with heap:=h'} a:=⟨⟨S.dc ha,S.iG ha,S.gh ha⟩,o,vs,ho,hd⟩
theorem SrcAt.old{a:sx}(x:SrcAt W H s a){h':xI}(hk:∀b o,s.heap.get? b=some o->h'.get? b=some o):SrcAt W H {s with heap:=h'} a:=by
 refine x.elim λQz h=>?_;refine Qz.elim λq z=>z.elim λhq hd=>?_
 exact⟨⟨q,hk _ _ hq,hd⟩,h⟩
theorem FA{elts:List Expr}{x1}{pos:aaK}{x:Value}{xs:List V}(V:uL W H s x xs)(S:aN W H s)(hr:∀r a b t u v,x=.ref r->¬IsRange s.heap r a b 1 t u v)(hd:∀d es m,x=.ref d->s.heap.get? d≠some (dO es m)){Q:Value->oC->Prop}
  (k:∀y s₁,ah W H s aQ W H s₁->l6 (.Tuple elts x1 pos) y W H s₁ s.heap.objs.size (aX 0 xs)->(∀{A:tj} {E:Value->oC->Prop} {Q:Value->oC->Prop},Q y s₁->si gM A (pyIter y) Q E s₁)->Q y s₁):
  si gM A (xi (.type "enumerate") [x]) Q E s:=by
 obtain BJ:s.heap.objs.size+1≠s.heap.objs.size:=by exact aS (nat_lit 0x90961019082101) ae
 obtain LA:∀{a:sx} {o:Nw},s.heap.get? a=some o->a<s.heap.objs.size:=λh=>ti h
 induction V with
 |lst l ys m xs g hl rs sa=>
  have cF:=LA g;refine call_enumerate_list (v_ g) λh' he hit hsz hk=>?_
  obtain⟨oi,NI,_,BK⟩:=id hit;refine k _ _ (w7 S hsz hk) ⟨_,_,_,lu (λA hA=>Draws.list hA s.heap.objs.size l (x5 cF) ys) BJ ?_ ?_ (λi h st=>let ⟨⟨o,ho,_,hd⟩,_⟩:=st;⟨o,_,ho,hd⟩) ?_ ?_,⟨⟨_,he⟩,hit,(v_ g).at λo e=>hk _ _ e⟩,λa ha=>?_,λa ha=>?_⟩ λhQ=>wpAny_pyIter_enum he hQ
  ·intro hm;rcases bx hm with h|h
   ·exact BJ h
   ·have h:=vu.mp h;exact vi (Ee _) (h▸cF)
  ·simp
  ·have :=rs.length;exact this
  ·intro i x v hx hv W' L;obtain⟨y,hy,r⟩:=rs.get hx;rw[xv] at hy;rw[hy] at hv;cases hv;exact r.mono L
  ·rcases ha with rfl|rfl
   ·exact⟨gA S (Ee _) he rfl,Ee _⟩
   ·exact⟨gA S (pd _) NI BK,pd _⟩
  ·have :a=l:=by
    rcases bx ha.1 with h|h
    ·exact absurd h ha.2
    ·simpa using h
   subst this;exact sa.old hk
 |tup l ys m xs g hl rs sa=>
  have cF:=LA g;refine iN g λh' he hit hsz hk=>?_
  obtain⟨oi,NI,_,BK⟩:=id hit;refine k _ _ (w7 S hsz hk) ⟨_,_,_,lu (λA hA=>uO hA s.heap.objs.size l (x5 cF) ys) BJ ?_ ?_ (λi h st=>let ⟨⟨o,ho,_,hd⟩,_⟩:=st;⟨o,_,ho,hd⟩) ?_ ?_,⟨⟨_,he⟩,hit,(Fb g).at λo e=>hk _ _ e⟩,λa ha=>?_,λa ha=>?_⟩ λhQ=>wpAny_pyIter_enum he hQ
  ·intro hm;rcases bx hm with h|h
   ·exact BJ h
   ·have h:=vu.mp h;exact vi (Ee _) (h▸cF)
  ·simp
  ·have :=rs.length;exact this
  ·intro i x v hx hv W' L;obtain⟨y,hy,r⟩:=rs.get hx;rw[xv] at hy;rw[hy] at hv;cases hv;exact r.mono L
  ·rcases ha with rfl|rfl
   ·exact⟨gA S (Ee _) he rfl,Ee _⟩
   ·exact⟨gA S (pd _) NI BK,pd _⟩
  ·have :a=l:=by
    rcases bx ha.1 with h|h
    ·exact absurd h ha.2
    ·simpa using h
   subst this;exact sa.old hk
 |str y tk hl=>
  have mT:∀(i:Nat) (x:V) (v:Value),(y.cps.toList.map λc=>V.str ⟨#[c]⟩)[i]?=some x->(∃c u,y.cps[i]?=some c/\v=.str ⟨#[c]⟩ u)->∀W',W.Le W'->Rel W' x v:=by rintro i x v hx ⟨c,u,hc,rfl⟩ W' L;rw[x3,xv,hc] at hx;obtain rfl:=oy hx;exact⟨by show 1<ai;decide,u,rfl⟩
  refine call_enumerate_str λh' he hit hsz hk=>?_
  obtain⟨oi,NI,_,BK⟩:=id hit
  obtain main:∀(ty:String),(∀A:tj,A.handled=none->Draws G.prog G.w A s.heap.objs.size [s.heap.objs.size] y.cps.size (λi v=>∃c u,y.cps[i]?=some c/\v=.str ⟨#[c]⟩ u) (λi h=>h.IsStrIter s.heap.objs.size ty y tk i))->
    h'.IsStrIter s.heap.objs.size ty y tk 0->Q (.ref (s.heap.objs.size+1)) {s with heap:=h'}:=by
   intro ty D hit;refine k _ _ (w7 S hsz hk) ⟨_,_,_,lu D BJ (by simp) (by simp) (λi h st=>let ⟨o,ho,_,hd⟩:=st;⟨o,_,ho,hd⟩) (by simp) mT,⟨⟨_,he⟩,hit⟩,λa ha=>?_,λa ha=>?_⟩ λhQ=>wpAny_pyIter_enum he hQ
   ·rcases ha with rfl|rfl
    ·exact⟨gA S (Ee _) he rfl,Ee _⟩
    ·exact⟨gA S (pd _) NI BK,pd _⟩
   ·exact absurd (by simpa using ha.1) ha.2
  unfold strIterType at hit;cases ha:y.cps.all (·<128)
  ·rw[ha] at hit;exact main _ (λA hA=>Draws.strWide hA _ y tk) hit
  ·rw[ha] at hit;exact main _ (λA hA=>Draws.strAscii hA _ y tk) hit
 |t9 r a b tk u v g hs=>exact absurd g (hr _ _ _ _ _ _ rfl)|aE d es m kvs g h0 nd hl rs sa=>exact absurd g (hd _ _ _ rfl)
end
section
variable{n:Nat}{A:tj}{E:Value->oC->Prop}{W W':Wd}{H H':AH}{s s':oC}{sc:te}{env:af}{e':Ts}
theorem l6.le{t:Expr}{it:Value}{n0 n1:Nat}{xs:List V}(g:l6 t it W H s n0 xs)(h:n1<=n0):l6 t it W H s n1 xs:=by obtain⟨IA,D,P,h1,h2,h3,h4⟩:=g;exact⟨IA,D,P,h1,h2,λa ha=>⟨(h3 a ha).1,vb h (h3 a ha).2⟩,h4⟩
abbrev NJ(A:tj)(W:Wd)(H:AH)(s:oC)(t:Expr)(xs:List V)(back:Option (Nat×aF))(H':AH)(x:Value)(s₁:oC):Prop:=∀{eQ:Value->oC->Prop},si gM A (pyIter x) (λi ar=>∃a9,w5 W H s back a9 H' ar/\l6 t i a9 H' ar s.heap.objs.size xs) eQ s₁
theorem gB{d:sx}{es:Array th}{m:Nat}(g:s.heap.get? d=some (dO es m)):∀a,Value.ref d=.ref a->∃ob,s.heap.get? a=some ob/\ob.dict=none:=λa e=>by obtain rfl:=IH e;exact⟨_,g,rfl⟩
theorem dI{v:V}{zs:List Value}(h:aG W [v] zs):∃z,zs=[z]/\Rel W v z:=by
 match zs,h with |[],h=>exact xk h|[z],h=>exact⟨z,rfl,h.1⟩|aR::bV::iq,h=>exact h.2.elim
theorem oz{zs:List Value}(h:aG W [] zs):zs=[]:=by
 induction zs with |nil=>rfl|cons _ _=>exact xk h
theorem qN{h:xI}{d:sx}{es:Array th}{m:Nat}{kvs:List (Str×V)}(g:h.get? d=some (dO es m))(nd:(kvs.map (·.1)).Nodup)(rs:Reld W kvs es.toList):
  ∃ps,eW W kvs ps/\∀h':xI,h'.get? d=some (dO es m)->h'.DictAt (sk) d ps m:=by
 refine(jb rs).elim λps Yr=>?_;refine Yr.elim λh1 Wa=>?_;obtain h2:=Wa.1;obtain h3:=Wa.2
 exact⟨ps,h2,λh' g=>⟨_,es,g,⟨rfl,rfl,rfl⟩,rfl,λe he=>h3 e (by simpa using he),h1,by refine h2.keys▸?_;exact nd⟩⟩
theorem BL{elts:List Expr}{x1}{pos:aaK}{d:sx}{es:Array th}{m:Nat}{kvs:List (Str×V)}(S:aN W H s)(g:s.heap.get? d=some (dO es m))(h0:d≠sysModules)(nd:(kvs.map (·.1)).Nodup)(rs:Reld W kvs es.toList)(sa:SrcAt W H s d):
  si gM A (xi (.builtin "dict.items") [.ref d]) (λx s₁=>∀{eQ:Value->oC->Prop},si gM A (pyIter x) (λi ar=>ah W H s aQ W H ar/\l6 (.Tuple elts x1 pos) i W H ar s.heap.objs.size (kvs.map λkv=>.tup [.str kv.1,kv.2])) eQ s₁) E s:=by
 refine(qN g nd rs).elim λps z=>z.elim λrp D=>?_
 obtain S7:(d==sysModules)=false:=by simpa using h0
 refine call_meetsIn F.slot_dict_items (⟨_,g,rfl⟩) F.entry_dict_items (F.args_dict_items_1 _) (meets_dict_items (sk) d S7) ⟨⟨ps,(D _ g).dictOf⟩,?_⟩;intro eQ;obtain aa:=ah.gw S aQ {cls:=.type "dict_items",data:=.fields #[.ref d]};obtain g1:=px {cls:=.type "dict_items",data:=.fields #[.ref d]} g;obtain ab:=ah.gw aa.sim aQ {cls:=.type "dict_itemiterator",data:=.fields #[.none,.bool false,.ref d,.int 0 0,.int ps.length 0,.int m 0,.none,.none]};obtain NK:=aa.size;obtain cG:=x5 (xp (ti g) NK);refine wpAny_pyIter_items ⟨_,tc _ rfl,rfl,rfl⟩ (D _ g1) ⟨aa.trans S ab,_,_,_,⟨uN cG rp ps.length 0 rfl (aS (nat_lit 590080) ae),λh h' ⟨⟨ok,ov,he⟩,st⟩ hk=>⟨⟨ok,ov,hk _ _ (.inl rfl) he⟩,st.at' λo e=>hk d o (.inr rfl) e⟩,λhA ⟨⟨ok,ov,he⟩,st⟩ hQ=>kcp_self he hQ⟩,⟨⟨.none,.none,tc _ rfl⟩,D _ (px _ g1)⟩,λa ha=>?_,λa ha=>?_⟩
 ·subst ha;exact⟨bJ.push aa.sim rfl _,NK⟩
 ·cases ha;exact(sa.push _ _).push _ _
theorem zV{t:Expr}{d:sx}{es:Array th}{m:Nat}{kvs:List (Str×V)}(S:aN W H s)(g:s.heap.get? d=some (dO es m))(h0:d≠sysModules)(nd:(kvs.map (·.1)).Nodup)(rs:Reld W kvs es.toList)(sa:SrcAt W H s d):
  si gM A (xi (.builtin "dict.values") [.ref d]) (λx s₁=>∀{eQ:Value->oC->Prop},si gM A (pyIter x) (λi ar=>ah W H s aQ W H ar/\l6 t i W H ar s.heap.objs.size (kvs.map (·.2))) eQ s₁) E s:=by
 refine(qN g nd rs).elim λps z=>z.elim λrp D=>?_
 obtain S7:(d==sysModules)=false:=by simpa using h0
 refine call_meetsIn F.slot_dict_values (⟨_,g,rfl⟩) F.entry_dict_values (F.args_dict_values_1 _) (meets_dict_values (sk) d S7) ⟨⟨ps,(D _ g).dictOf⟩,?_⟩;intro eQ;obtain aa:=ah.gw S aQ {cls:=.type "dict_values",data:=.fields #[.ref d]};obtain g1:=px {cls:=.type "dict_values",data:=.fields #[.ref d]} g;obtain ab:=ah.gw aa.sim aQ {cls:=.type "dict_valueiterator",data:=.fields #[.ref d,.int 0 0,.int ps.length 0,.int m 0]};obtain NK:=aa.size;obtain cG:=x5 (xp (ti g) NK);refine wpAny_pyIter_values ⟨_,tc _ rfl,rfl,rfl⟩ (D _ g1) ⟨aa.trans S ab,_,_,_,dj (λA hA=>Walks.dictValues hA _ d cG ps m) (λi h st=>?_) ?_ ?_,⟨⟨_,tc _ rfl,rfl,rfl⟩,D _ (px _ g1)⟩,λa ha=>?_,λa ha=>?_⟩
 ·obtain Ys:=st.1;refine Ys.elim λo z=>z.elim λho z=>z.elim λhc hd=>?_
  exact⟨o,_,_,ho,hc,by decide,hd⟩
 ·simp[rp.length]
 ·rintro i x v hx ⟨k,hk⟩ W' L;refine(rp.get hk).elim λu z=>z.elim λhu z=>z.elim λhlen ru=>?_
  rw[x3,hu] at hx;obtain rfl:=oy hx;exact ru.mono L
 ·subst ha;exact⟨bJ.push aa.sim rfl _,NK⟩
 ·have :a=d:=by
   refine(bx ha.1).elim (λh=>?_) λh=>?_
   ·exact absurd h ha.2
   ·simpa using h
  cases this;exact(sa.push _ _).push _ _
theorem uP{l:sx}{o:Nw}{ys:Array Value}{m:Nat}(g:s.heap.get? l=some o)(hd:o.data=.seq ys m):(∀r a b t u v',Value.ref l=.ref r->¬IsRange s.heap r a b 1 t u v')/\(∀d es m,Value.ref l=.ref d->s.heap.get? d≠some (dO es m)):=by
 refine⟨λr a b t u v' e hr=>?_,λd es m e hr=>?_⟩
 ·obtain rfl:=IH e;unfold IsRange at hr;rw[g] at hr;rw[oy hr] at hd;exact nomatch hd
 ·obtain rfl:=IH e;rw[g] at hr;rw[oy hr] at hd;exact nomatch hd
theorem sQ{v:V}{x:Value}(hc:enumSrc v=true)(S:aN W H s)(r:Rel W v x):
  (∀r a b t u v',x=.ref r->¬IsRange s.heap r a b 1 t u v')/\(∀d es m,x=.ref d->s.heap.get? d≠some (dO es m)):=by
 induction v using V.casesOn with
 |lst vs=>obtain⟨l,m,ys,rfl,z,_⟩:=r;exact uP (S.z _ _ z) rfl
 |tup vs=>obtain⟨l,m,ys,rfl,z,_⟩:=r;exact uP (S.z _ _ z) rfl
 |str y=>obtain⟨_,t,rfl⟩:=r;exact⟨λr a b t u v' e=>(nomatch e),λd es m e=>(nomatch e)⟩
 |_=>exact bE hc
end
end Mine
end
noncomputable section
open PySem PySem.W PySem.Builtin PySem.Builtin.Str
namespace Mine
theorem kj:Slot "callable_iterator" "__iter__" "callable_iterator.__iter__":=
 .of (owner:="callable_iterator") (n:="__iter__") (by rw[typeLookup_type,U2];kernel_rfl) (by decide+kernel) (by decide+kernel) (by decide+kernel)
  (by first|exact .inl (by decide+kernel)|exact .inr (by decide+kernel)) (by rw[isSubtype_type];kernel_rfl)
theorem dJ:Slot "callable_iterator" "__next__" "callable_iterator.__next__":=
 .of (owner:="callable_iterator") (n:="__next__") (by rw[typeLookup_type,U2];kernel_rfl) (by decide+kernel) (by decide+kernel) (by decide+kernel)
  (by first|exact .inl (by decide+kernel)|exact .inr (by decide+kernel)) (by rw[isSubtype_type];kernel_rfl)
theorem jw:entryFor table "callable_iterator.__next__"=some Builtin.«callable_iterator.__next__»:=entryFor_of_tree (by kernel_rfl)
theorem pX:entryFor table "callable_iterator.__iter__"=some Builtin.«dict_keyiterator.__iter__»:=entryFor_alias (id':="dict_keyiterator.__iter__") (by kernel_rfl) (by first|rfl|decide+kernel|(unfold String.splitOn;simp +decide [String.splitOnAux])) (by decide+kernel) (by kernel_rfl)
theorem ko(a:Value):argsOk "callable_iterator.__next__" ⟨[a],[]⟩:=by unfold argsOk;kernel_rfl
theorem sR(a:Value):argsOk "callable_iterator.__iter__" ⟨[a],[]⟩:=by unfold argsOk;kernel_rfl
theorem mU(f:Value)(pos:List Value):callBorrowed f pos=(call f pos).keep [borrowed]:=by
 show Sem.call _ _ _ _ _=Sem.call _ _ _ _ _;congr 1;funext r;induction r with
 |ok f=>induction f<;>rfl
 |error e=>rfl
theorem jJ{M:Model}{A:tj}{E:Value->oC->Prop}{s:oC}{f:Value}{pos:List Value}{Q:Value->oC->Prop}(h:si M A (call f pos) Q E s):si M A (callBorrowed f pos) Q E s:=by rw[mU];exact Calls.wpAny_keep h
end Mine
end
noncomputable section
open PySem PySem.W PySem.Builtin PySem.Builtin.Str PyProof.Rows
namespace Mine
section
variable{n:Nat}{A:tj}{E:Value->oC->Prop}{W W':Wd}{H H':AH}{s s':oC}{sc:te}{env:af}{e':Ts}
theorem oE{M:Model}{b f c:sx}{oc:Nw}{fd:FuncData}{Q:Bool->oC->Prop}(hb:s.heap.get? b=some {cls:=.type "method",data:=.fields #[.ref f,.ref c]})(hf:s.heap.get? f=some oc)(hd:oc.data=.func fd)(h:Q true s):
  si M A (borrowsExactly (.ref b)) Q E s:=by
 unfold borrowsExactly;refine ox (wpAny_load hb ?_);refine ox (wpAny_load hf ?_);rw[hd];exact pk h
theorem dK{a:sx}{o:Nw}{vs:Array Value}{k:Nat}{x:Value}{Q:Unit->oC->Prop}(ho:s.heap.get? a=some o)(hd:o.data=.fields vs)(hk:k<vs.size)
  (h:∀h' o',h'.get? a=some o'->o'.cls=o.cls->o'.data=.fields (vs.setIfInBounds k x)->xI.SameBut a s.heap h'->Q () {s with heap:=h'}):si gM A (setField (.ref a) k x) Q E s:=
 wpAny_setField ho hd hk (h _ _ (TC _ ho (Nw.isFreed_of_fields (Nw.data_mapFields hd _))) (Nw.cls_mapFields ..) (Nw.data_mapFields hd _) (Pl ..))
end
section
variable{n:Nat}{A:tj}{E:Value->oC->Prop}{W W':Wd}{H H':AH}{s s':oC}{sc:te}{env:af}{e':Ts}
theorem BN(hh:A.handled=none){a:sx}{o:Nw}(ho:s.heap.get? a=some o)(hc:o.cls=.type "callable_iterator")(hd:o.data=.fields #[.none,.none,.bool true]){Q:Option Value->oC->Prop}
  (q:∀h',s.heap.objs.size<=h'.objs.size->(∀b ob,s.heap.get? b=some ob->h'.get? b=some ob)->Q none {s with heap:=h'}):si gM A (pyNext (.ref a)) Q E s:=by
 have hT:s.TypeIs (.ref a) "callable_iterator":=⟨o,ho,hc⟩;refine ox (wpAny_attempt (aau hT dJ (PQ dJ hT jw ?_ (ko _))));refine(?_:si _ _ (field (.ref a) 2>>=_) _ _ s);refine ox (aaj ho hd rfl ?_);refine ox (wpAny_rule ?_);refine ox ?_;refine ox ?_;refine ox (B1 ?_ (Ln.go (nat_lit 72057596169224448) [] ae));refine ox (wpAny_of_eq (a:=Value.none) (by first|rfl|(rfl)) ?_);refine B1 ?_ (by size_fits);refine ox (wpAny_handled ?_);refine hh.symm▸?_;refine ox (pk (wpAny_throw ?_));refine ox (wpAny_isInstance ⟨_,tc _ rfl,rfl⟩ isSubtype_stop ?_);exact pk (q _ (by rw[xc,xc];exact aS (nat_lit 27595307483392) ae) λb ob e=>px _ (px _ e))
theorem BO{a:sx}{o:Nw}(ho:s.heap.get? a=some o)(hc:o.cls=.type "callable_iterator"){Q:Value->oC->Prop}(h:Q (.ref a) s):si gM A (pyIter (.ref a)) Q E s:=by obtain hT:s.TypeIs (.ref a) "callable_iterator":=⟨o,ho,hc⟩;refine wpAny_pyIter_slot hT kj (PQ kj hT pX ?_ (sR _));exact pk ⟨_,rfl,"callable_iterator",_,hT,dJ.lookup,h⟩
end
section
variable{n:Nat}{A:tj}{E:Value->oC->Prop}{W W':Wd}{H H':AH}{s s':oC}{sc:te}{env:af}{e':Ts}
theorem ck.free(N:aq sc env e' W s){a:sx}(h:ck sc e' a):W.own a=none:=by
 rcases h with rfl|⟨y,hy,hl⟩
 ·refine N.locals.elim λWb NL=>?_;refine NL.elim λz30 NN=>?_;refine NN.elim λQA FD=>?_;refine FD.elim λz34 Ql=>?_;obtain hw:=Ql.2.2.2.2.1
  exact hw
 ·refine(N.cells y hy).elim λc Jo=>?_;refine Jo.elim λoc mQ=>?_;refine mQ.elim λu w9=>?_;obtain h1:=w9.1;obtain h2:=w9.2.1;obtain h3:=w9.2.2.1;obtain h4:=w9.2.2.2.1;obtain h5:=w9.2.2.2.2.1
  rw[hl] at h1;obtain rfl:=oy h1;exact h5
end
end Mine
end
noncomputable section
end
noncomputable section
open PySem PySem.W PySem.Builtin PySem.Builtin.Str PySem.StrLaws
namespace Mine
theorem gS(x:Str)(c lim:Nat):∀(k a:Nat) (acc:Array Nat) (free:Nat),free<=a->acc.size<=lim->
  (forIn (Ki a k) (acc,free) (occBody x ⟨#[c]⟩ x.length lim)).run.fst.toList=acc.toList++((Ki a k).filter λi=>decide (x.cps.toList[i]?=some c)).take (lim-acc.size)
 |0,a,acc,free,aR,bV=>by simp[Ki]|k+1,a,acc,free,hf,hl=>by
  rw[List.range'_succ,NA];obtain hs:=subAt_one x c a;unfold occBody;by_cases hc:x.cps.toList[a]?=some c
  ·refine(hs.mpr hc).elim λh1 h2=>?_
   by_cases cF:acc.size<lim
   ·rw[if_pos ⟨⟨⟨cF,hf⟩,h1⟩,h2⟩];show(forIn (Ki (a+1) k) (acc.push a,a+1) (occBody x ⟨#[c]⟩ x.length lim)).run.fst.toList=_;refine(gS x c lim k (a+1) _ _ (pd _) (by rw[Array.size_push];assumption)).trans ?_;rw[Kj (by simpa using hc)];obtain⟨d,hd⟩:∃d,lim-acc.size=d+1:=⟨lim-acc.size-1,Ln.go (nat_lit 0x19180250191834191800112) [_,_,0,0] ae (Ln.bI (lim-acc.size) (1)) (rl (aW (nat_lit 0x21901028101101102) ae cF (Ln.bI (lim) (acc.size)):1<=lim-acc.size))⟩;simp only[Array.size_push,hd,List.take_succ_cons,show lim-(acc.size+1)=d by exact v7 (nat_lit 0x1225194828304340834191802540830131948282115) ae (rl (aL (nat_lit 308997144973569) ae cF:acc.size+1<=lim)) (Ln.bI (lim) (acc.size)) hd (rl (aL (nat_lit 68737306881) ae cF:acc.size<=lim)) (Ln.bI (lim) (acc.size+1))];simp
   ·rw[if_neg (λh=>cF h.1.1.1)];show(forIn (Ki (a+1) k) (acc,free) (occBody x ⟨#[c]⟩ x.length lim)).run.fst.toList=_;refine(gS x c lim k (a+1) _ _ (by exact aL (nat_lit 441453936378113) ae hf) hl).trans ?_;have :lim-acc.size=0:=by exact aW (nat_lit 0x9225105110282112) ae (rl (aL (nat_lit 68737302785) ae hl:acc.size<=lim)) cF
    rw[this];rfl
  ·rw[if_neg (λh=>hc (hs.mp ⟨h.1.2,h.2⟩))];show(forIn (Ki (a+1) k) (acc,free) (occBody x ⟨#[c]⟩ x.length lim)).run.fst.toList=_;refine(gS x c lim k (a+1) _ _ (by exact aL (nat_lit 441453936378113) ae hf) hl).trans ?_;rw[He (by simpa using hc)]
theorem l7(x:Str)(c lim:Nat):occurrences x ⟨#[c]⟩ 0 x.length lim=((Ki 0 (x.length+1)).filter λi=>decide (x.cps.toList[i]?=some c)).take lim:=by simp only[occ_eq,gS x c lim _ 0 #[] 0 (pd _) (zr _)];rfl
theorem oF(c:Nat):∀(l pre:List Nat),((Ki pre.length l.length).filter λi=>decide ((pre++l)[i]?=some c)).length=(l.filter (·==c)).length
|[],pre=>by rfl|d::l,pre=>by
 simp only[pE,List.range'_succ];obtain ih:=oF c l (pre++[d]);simp only[pj,aaz,ta,List.singleton_append] at ih;obtain h0:(pre++d::l)[pre.length]?=some d:=by simp
 by_cases hd:d=c
 ·rw[Kj (by rw[h0];simpa using hd),Kj (by simpa using hd),pE,pE,ih]
 ·rw[He (by rw[h0];simpa using hd),He (by simpa using hd),ih]
theorem w_(x:Str)(c:Nat):((Ki 0 (x.length+1)).filter λi=>decide (x.cps.toList[i]?=some c))=((Ki 0 x.length).filter λi=>decide (x.cps.toList[i]?=some c)):=by
 simp only[List.range'_concat,aar];have :x.cps.toList[0+1* x.length]?=none:=by rw[aaA];show x.length<=_;exact aS (nat_lit 111828533504) ae
 rw[He (by refine this▸?_;simp)];simp
theorem sS(x:Str)(c:Nat):Txt.count x ⟨#[c]⟩=(nC c x:Nat):=by unfold Txt.count;rw[l7,Q1 (by refine vb (D1 _ _) ?_;exact List.length_range'▸(pd _)),w_];obtain this:=oF c x.cps.toList [];unfold nC;rw[<-this];rfl
end Mine
end
noncomputable section
open PySem PySem.W PySem.Builtin PySem.Builtin.Str PyProof.Rows
namespace Mine
section
variable{n:Nat}{A:tj}{E:Value->oC->Prop}{W W':Wd}{H H':AH}{s s':oC}{sc:te}{env:af}{e':Ts}
theorem oG{α:Type}{c:Bool}{m n:M α}{r:α×AH}{P:Prop}(h:(if c=true then m else n) H=some r)(k:c=true->m H=some r->P)(l:n H=some r->P):P:=by
 induction c with |true=>exact k rfl h|false=>exact l h
theorem uQ:∀{vs:List V} {ys:List Str} {xs:List Value},ua vs=some ys->aG W vs xs->StrsAre xs ys
|[],aR,[],h,bV=>oy h▸.nil|v::vs,ys,x::xs,h,r=>onStr.el h r.1 λi t a h=>by obtain⟨zs,h1,h2⟩:=gF h;exact h2▸.cons i t (uQ h1 r.2)
|[],aR,bV::iq,yb,r=>r.elim|aR::bV,iq,[],yb,r=>r.elim
theorem BP{x:Str}{t:Tok}{v r:V}{z:Value}(h:qw x v H=some (r,H'))(hx:x.length=0)(S:aN W H s)(rv:Rel W v z):
  si gM A (xi (.builtin "str.join") [.str x t,z]) (λz=>bf W H s aQ H' λW' a=>Rel W' r z) E s:=by
 obtain hh:=nU S rv;refine dP.el h λvs e h=>?_
 rw[e] at hh;obtain⟨l,m,ys,rfl,g,hl,rs⟩:=hh;obtain⟨zs,h1,h2⟩:=t7 h;refine sy h2 λhc e=>?_
 obtain q:=a_ hc;obtain⟨rfl,rfl⟩:=yA e;exact join_list (v_ g) (uQ h1 rs) (by simp only[hx,Nat.mul_zero];exact vb (y7 (cQ q.1)) (by decide)) λt' k=>gx S (cQ q.2)
theorem oH{y:Str}{c:Nat}(h:uc y=some c):y=⟨#[c]⟩:=by
 unfold uc at h;induction y with
 |mk cps=>
  induction hl:cps.toList with
  |nil=>simp[hl] at h|cons a r=>
   induction r with |nil=>simp[hl] at h;subst h;congr 1;exact Array.toList_inj.mp hl|cons b q=>simp[hl] at h
theorem FE{x:Str}{t:Tok}{v r:V}{z:Value}(h:Jd x v H=some (r,H'))(S:aN W H s)(rv:Rel W v z):
  si gM A (xi (.builtin "str.count") [.str x t,z]) (λz=>bf W H s aQ H' λW' a=>Rel W' r z) E s:=by
 obtain⟨hq,rfl⟩:=nS h;refine onStr.el hq rv λy u a h=>?_
 obtain⟨c,hc,e⟩:=gF h;cases oH hc;exact e▸SC.count (sS x c▸cy S)
theorem BQ{x:Str}{t:Tok}(hl:x.length=1)(S:aN W H s):
  si gM A (xi (.builtin "str.lower") [.str x t]) (λz=>bf W H s aQ H λW' a=>Rel W' (.str (Txt.lower x)) z) E s:=
 SCL.lower (hl▸by decide) λhlen=>gx S (vw hlen (hl▸show 3* 1<ai by decide))
end
section
variable{n:Nat}{A:tj}{E:Value->oC->Prop}{W W':Wd}{H H':AH}{s s':oC}{sc:te}{env:af}{e':Ts}
theorem oJ{k:Nat}{l:sx}{vs us:List V}{xs ys:Array Value}{m:Nat}{f:Array Value->Array Value}(S:aN W H s)(hk:H[k]?=some (.lst vs))(ha:W.φ k=some l)(g:s.heap.get? l=some (ja xs m))(hf:f xs=ys)(hl:us.length<ai)(rs:aG W us ys.toList):
  ah W H s aQ W (H.set k (.lst us)) {s with heap:=s.heap.update l (y6 f)}:=by
 refine(jH xs m f).elim λm' hm=>?_
 exact .one S ⟨_,hk,trivial⟩ ha (Pl ..) ⟨m',ys,hf▸hm▸TC _ g rfl,hl,rs⟩
theorem FF{k:Nat}{l:sx}{xs:List V}{v r:V}{q:Value}(h:L4 k xs v H=some (r,H'))(S:aN W H s)(ho:H[k]?=some (.lst xs))(ha:W.φ k=some l)(rq:Rel W v q):
  si gM A (xi (.builtin "list.append") [.ref l,q]) (λz=>bf W H s aQ H' λW' a=>Rel W' r z) E s:=by
 obtain⟨m,ys,g,hl,ry⟩:=S.at ho ha;refine Be h λhs h=>?_
 cases h;exact call_meets F.slot_list_append ⟨_,g,rfl⟩ F.entry_list_append (F.args_list_append_2 _ _) (PySem.list_append l ys m q (bA ((show xs.length=ys.size from ry.length)▸hl))) ⟨g,W,oJ S ho ha g rfl (pj▸cQ hs) (by rw[Array.toList_push];exact ry.append ⟨rq,trivial⟩),rfl⟩
theorem FG{k:Nat}{l:sx}{xs:List V}{v r:V}{q:Value}(h:L5 k xs v H=some (r,H'))(S:aN W H s)(ho:H[k]?=some (.lst xs))(ha:W.φ k=some l)(rq:Rel W v q):
  si gM A (xi (.builtin "list.pop") [.ref l,q]) (λz=>bf W H s aQ H' λW' a=>Rel W' r z) E s:=by
 obtain⟨m,⟨ys⟩,g,hl,ry⟩:=S.at ho ha;refine aJ.el h rq λi t h=>?_
 induction xs using List.casesOn with
 |nil=>exact nE h|cons x xs=>induction ys using List.casesOn with
  |nil=>exact ry.elim|cons y ys=>
   refine sy h λhi h=>?_
   cases eq_of_beq hi;cases h;exact call_meets F.slot_list_pop ⟨_,g,rfl⟩ F.entry_list_pop (F.args_list_pop_2 _ _) (PySem.MeetsSeq.list_pop_at l ⟨y::ys⟩ m 0 t 0 y rfl (if_pos (bX ⟨rfl,decide_eq_true (Int.natCast_pos.mpr (Sr _))⟩)) rfl (bA (n:=(y::ys).length) (ry.length▸hl))) ⟨g,W,oJ S ho ha g rfl (FV hl) (by simpa using ry.2),ry.1⟩
theorem FH{k:Nat}{l:sx}{xs:List V}{i v r:V}{p q:Value}(h:L6 k xs i v H=some (r,H'))(S:aN W H s)(ho:H[k]?=some (.lst xs))(ha:W.φ k=some l)(rp:Rel W i p)(rq:Rel W v q):
  si gM A (xi (.builtin "list.insert") [.ref l,p,q]) (λz=>bf W H s aQ H' λW' a=>Rel W' r z) E s:=by
 obtain⟨m,ys,g,hl,ry⟩:=S.at ho ha;refine aJ.el h rp λi t h=>sy h λhs h=>?_
 obtain⟨rfl,rfl⟩:=yA h;obtain c:=a_ hs;obtain c1:=a_ c.1;obtain h0:=of_decide_eq_true c1.1;obtain hf:Builtin.List.listFitsIndex i=true:=bX ⟨decide_eq_true (Int.le_trans (by decide) h0),c1.2⟩;refine call_meets F.slot_list_insert ⟨_,g,rfl⟩ F.entry_list_insert (F.args_list_insert_3 _ _ _) (AutoSeq1.list_insert_list_int_val_1 l ys m i t q (by rw[hf];exact wy) (bA ((show xs.length=ys.size from ry.length)▸hl))) ⟨g,W,oJ S ho ha g rfl ?_ ?_,rfl⟩
 ·simp only[pj,pE,List.length_take,SF];obtain this:=cQ c.2;omega
 ·obtain hm:ys.toList.take (min i.toNat ys.size)=ys.toList.take i.toNat/\ys.toList.drop (min i.toNat ys.size)=ys.toList.drop i.toNat:=by
   induction Nat.le_total i.toNat ys.size with |inl h=>rw[Nat.min_eq_left h];exact⟨rfl,rfl⟩|inr h=>rw[Nat.min_eq_right h,Q1 h,aas h];exact⟨Q1 (pd _),aas (pd _)⟩
  rw[if_neg (aaw.mpr h0)];refine(congrArg Array.toList (kl_ins_eq ys.toList (min i.toNat ys.size) q)).symm▸?_;simp only[hm.1,hm.2];exact(ry.take _).append ⟨rq,ry.drop _⟩
theorem FI{r:List Bool}{f:Value->Bool}:∀{ys:List Value} {j:Nat},ys.map f=r->r.findIdx? id=some j->∃hj:j<ys.length,f ys[j]=true/\∀m (hm:m<ys.length),m<j->f ys[m]=false:=λ{ys j} e h=>by subst e;rw[List.findIdx?_map] at h;obtain q:=List.findIdx?_eq_some_iff_getElem.mp h;exact q.elim λhj q=>⟨hj,q.1,λm hm cF=>H5.mpr (q.2 m cF)⟩
theorem zW{l:sx}{m:Nat}{xs:List V}{ys:Array Value}{v:V}{n:Nat}{q:Value}(h:eS v xs=some n)(S:aN W H s)(hu:A.units+12<cLine)(z:W.Z l=some (ja ys m))(ry:aG W xs ys.toList)(rq:Rel W v q):
  si gM A (xi (.builtin "list.count") [.ref l,q]) (λz=>bf W H s aQ H λW' a=>Rel W' (.int n) z) E s:=by
 refine(gF h).elim λr NO=>?_;obtain hr:=NO.1;obtain e:=NO.2
 obtain w:=wL (A:=A.in1) S (by simp only[tj.in1_units];exact aL (nat_lit 0x12919088111c9081101) ae hu) rq hr ry;refine call_meets F.slot_list_count ⟨_,S.z _ _ z,rfl⟩ F.entry_list_count (F.args_list_count_2 _ _) (SeqAt.list_countAt l ys m none #[] q (yl s.heap · q)) ⟨S.z _ _ z,λy hy=>w.2 y (Array.mem_def.mp hy),?_⟩;exact(show ys.toList.countP (yl s.heap · q)=n by simp only[<-e,<-w.1,TO];rfl)▸(cy S)
theorem zX{l:sx}{m:Nat}{xs:List V}{ys:Array Value}{v:V}{n:Nat}{q:Value}(h:i7 v xs=some n)(S:aN W H s)(hu:A.units+12<cLine)(z:W.Z l=some (ja ys m))(hl:xs.length<ai)(ry:aG W xs ys.toList)(rq:Rel W v q):
  si gM A (xi (.builtin "list.index") [.ref l,q]) (λz=>bf W H s aQ H λW' a=>Rel W' (.int n) z) E s:=by
 obtain⟨r,hr,e⟩:=t7 h;obtain w:=wL (A:=A.in1) S (by simp only[tj.in1_units];exact aL (nat_lit 0x12919088111c9081101) ae hu) rq hr ry;obtain⟨hj,g3,g4⟩:=FI w.1 e;exact call_meets F.slot_list_index ⟨_,S.z _ _ z,rfl⟩ F.entry_list_index (F.args_list_index_2 _ _) (SeqAt.list_indexAt l ys m none #[] q (yl s.heap · q) n hj (Int.lt_trans (aae.mpr (X2 hj (ry.length▸hl))) (show((ai:Nat):Int)<2^63-1 by decide)) g3 λk hk cF=>g4 k hk cF) ⟨S.z _ _ z,λy hy=>w.2 y (Array.mem_def.mp hy),cy S⟩
end
section
variable{n:Nat}{A:tj}{E:Value->oC->Prop}{W W':Wd}{H H':AH}{s s':oC}{sc:te}{env:af}{e':Ts}
theorem FJ{d:sx}{es:Array th}{m:Nat}{kvs:List (Str×V)}{x:Str}{t:Tok}{dv:V}{y:Value}(S:aN W H s)(g:s.heap.get? d=some (dO es m))(h0:d≠sysModules)(nd:(kvs.map (·.1)).Nodup)(rs:Reld W kvs es.toList)(rd:Rel W dv y):
  si gM A (xi (.builtin "dict.get") [.ref d,.str x t,y]) (λz=>bf W H s aQ H λW' a=>Rel W' ((kvs.lookup x).getD dv) z) E s:=by
 refine(e7 g nd rs).elim λps z=>z.elim λhD rp=>?_
 refine call_meetsIn F.slot_dict_get (⟨_,g,rfl⟩) F.entry_dict_get (F.args_dict_get_3 _ _ _) (meets_dict_get_default (sk) d (strKind_is _ _ x t) (by simpa using h0) y) ⟨_,hD.mapOf,?_⟩;obtain hl:=rp.lookup x;show bf W H s aQ H (λW' a=>Rel W' ((kvs.lookup x).getD dv) ((valueAt ps x).getD y)) {s with toks:=s.toks+1};refine cU S _ ?_;induction hk:kvs.lookup x with
 |none=>obtain hl:=hk▸hl;refine hl▸?_;exact rd
 |some v=>rw[hk] at hl;obtain⟨z,hz,rz⟩:=hl;refine hz▸?_;exact rz
theorem uR{kvs:List (Str×V)}{v:V}{vs:List V}{d:sx}{es:Array th}{m:Nat}{xs:List Value}(h:qx kvs "get" vs H=some (v,H'))(S:aN W H s)(g:s.heap.get? d=some (dO es m))(h0:d≠sysModules)(nd:(kvs.map (·.1)).Nodup)(rs:Reld W kvs es.toList)(rx:aG W vs xs):
  si gM A (xi (.builtin "dict.get") (.ref d::xs)) (λz=>bf W H s aQ H' λW' a=>Rel W' v z) E s:=by
 refine v8.el h rx λu y dv z ry rz h=>onStr.el h ry λx t a h=>?_
 cases h;exact FJ S g h0 nd rs rz
theorem BR{v:V}{vs:List V}{xs:List Value}(h:ud G.uu "get" vs H=some (v,H'))(S:aN W H s)(rx:aG W vs xs):
  si gM A (xi (.builtin "dict.get") (.ref G.E0::xs)) (λz=>bf W H s aQ H' λW' a=>Rel W' v z) E s:=by
 refine lR.el h rx λu y ry h=>aJ.el h ry λi t h=>?_
 cases h;refine S.cO.Bs rfl (λx hx t' k=>?_) λhx k=>?_
 ·refine hx▸?_;exact gx S (S.cO.Bt i x hx)
 ·refine hx▸?_;exact cU S k rfl
end
section
variable{n:Nat}{A:tj}{E:Value->oC->Prop}{W W':Wd}{H H':AH}{s s':oC}{sc:te}{env:af}{e':Ts}
theorem zY{v:V}{vs:List V}{zs:List Value}(h:aG W (v::vs) zs):∃z r,zs=z::r/\Rel W v z/\aG W vs r:=by
 induction zs with |nil=>exact h.elim|cons z r=>exact⟨z,r,rfl,h.1,h.2⟩
theorem Ik{k n:Nat}(h:k<ai)(e:k=n):((n:Nat):Int)<2^63:=Int.lt_trans (aae.mpr (e▸h)) (show((ai:Nat):Int)<2^63 by decide)
theorem Yt{k n:Nat}(h:k<ai)(e:k=n):¬(((n:Nat):Int)≥2^63):=Int.not_le.mpr (Ik h e)
theorem FL{vs:List V}{v:V}{xs:List Value}(h:LY vs H=some (v,H'))(S:aN W H s)(rs:aG W vs xs):
  si gM A (xi (.builtin "len") xs) (λz=>bf W H s aQ H' λW' a=>Rel W' v z) E s:=by
 refine lR.el h rs λu y ry h=>?_
 obtain⟨k,hk,e⟩:=gF h;refine(yA e).elim λA1 NF=>?_;subst A1;subst NF
 have fin:∀{n t u:Nat},k=n->bf W H s aQ H (λW' a=>Rel W' (.int k) (.int (n:Int) t)) {s with toks:=u}:=λe=>e▸cU S _ ⟨_,rfl⟩
 obtain hh:=nU S ry;refine dP.el hk λus e hk=>?_
 rw[e] at hh;obtain⟨l,m,ys,rfl,g,hl,r⟩:=hh;obtain rfl:=oy hk;exact Calls.call_len_list (v_ g) (Ik hl r.length) (fin r.length)
theorem FN{vs:List V}{v:V}{xs:List Value}(h:LZ vs H=some (v,H'))(S:aN W H s)(rs:aG W vs xs):
  si gM A (xi (.builtin "chr") xs) (λz=>bf W H s aQ H' λW' a=>Rel W' v z) E s:=by
 refine lR.el h rs λu y ry h=>aJ.el h ry λi t h=>sy h λhc e=>?_
 refine(yA e).elim λS8 S9=>?_;subst S8;subst S9
 obtain q:=a_ hc;exact P.chr_of_int (Bool.or_eq_false_iff.mpr ⟨decide_eq_false (aaw.mpr (of_decide_eq_true q.1)),decide_eq_false (aaw.mpr (Int.le_of_lt_add_one (of_decide_eq_true q.2)))⟩) (gx S (show 1<ai by decide))
theorem FO{vs:List V}{v:V}{xs:List Value}(h:L0 vs H=some (v,H'))(S:aN W H s)(rs:aG W vs xs):
  si gM A (xi (.builtin "ord") xs) (λz=>bf W H s aQ H' λW' a=>Rel W' v z) E s:=by
 refine lR.el h rs λu y ry h=>onStr.el h ry λx t a h=>?_
 obtain⟨c,hc,e⟩:=gF h;obtain S_:=(yA e).1;obtain Tc:=(yA e).2;subst S_;subst Tc;cases oH hc;exact P.ord_of_char (cy S)
theorem FP{vs:List V}{v:V}{xs:List Value}(h:L2 vs H=some (v,H'))(S:aN W H s)(rs:aG W vs xs):
  si gM A (xi (.builtin "isinstance") xs) (λz=>bf W H s aQ H' λW' a=>Rel W' v z) E s:=by
 refine v8.el h rs λu y w z ry rz h=>aJ.el h ry λi t h=>xY.el h rz λT h=>sy h λhc e=>?_
 obtain JK:=(yA e).1;obtain Td:=(yA e).2;subst JK;subst Td;cases eq_of_beq hc;exact IsiPair.int_tuple (gQ S _)
theorem ku(f:Nat->Int):∀n,preSum f (n+1)=f 0+preSum (λj=>f (j+1)) n|0=>by simp[preSum]|n+1=>by obtain ih:=ku f n;refine(?_:preSum f (n+1)+f (n+1)=f 0+(preSum (λj=>f (j+1)) n+f (n+1)));refine ih▸?_;exact Iz.go (nat_lit 9429970342946064) [] [_,_,_] ae
theorem yx:∀{vs:List V} {i:Int},sumInts vs=some i->∃ns:List Int,vs=ns.map .int/\preSum (λj=>ns.getD j 0) ns.length=i
|[],i,h=>⟨[],rfl,oy h⟩|v::vs,i,h=>aJ.inv h λk e h=>by
 refine(gF h).elim λj z=>z.elim λhj e2=>?_
 refine(yx hj).elim λns z=>z.elim λh1 h2=>?_
 exact⟨k::ns,by simp only[e,h1];rfl,by simp only[pE,ku];exact h2.symm▸e2⟩
theorem FQ{vs:List V}{v:V}{xs:List Value}(h:L1 vs H=some (v,H'))(S:aN W H s)(rs:aG W vs xs)(hh:A.handled=none):
  si gM A (xi (.builtin "sum") xs) (λz=>bf W H s aQ H' λW' a=>Rel W' v z) E s:=by
 refine lR.el h rs λu z rz h=>dP.el h λus e h=>?_
 subst e;obtain⟨i,hs,e⟩:=gF h;refine(yA e).elim λTe Tf=>?_;subst Te;subst Tf
 obtain⟨ns,rfl,hp⟩:=yx hs;obtain⟨l,m,ys,rfl,hz,hl,r⟩:=rz;obtain g:=S.z _ _ hz;obtain el:ns.length=ys.size:=(ph ..).symm.trans r.length;obtain cG:=x5 (ti g);refine bN (call_sum_walkAnyS (wpAny_pyIter_list (v_ g) ⟨s.heap.objs.size,_,_,_,_,_,_,λj=>ns.getD j 0,rfl,(Walks.list (A:=A.in1) hh s.heap.objs.size l cG ys).toS,?_,?_,?_,?_⟩))
 ·exact⟨⟨_,tc _ rfl,rfl,rfl⟩,_,px _ g,rfl,m,rfl⟩
 ·intro b hb;rw[xc];rcases bx hb with rfl|hb
  ·exact BM _
  ·refine(vu.mp hb)▸?_;exact Mo (ti g)
 ·intro j w hw;obtain hj:=(Array.getElem?_eq_some_iff.mp hw).1;obtain hv:(ns.map V.int)[j]?=some (.int (ns.getD j 0)):=by simp[tv,sg (show j<ns.length by exact aW (nat_lit 9025969084961026) ae hj el)]
  obtain⟨x,hx,rx⟩:=r.get hv;rw[xv,hw] at hx;obtain rfl:=oy hx;exact rx
 ·intro s' t' M hsz;rw[<-el,hp];refine⟨W,ah.grow S aQ (λb o hb=>M.heap b o ?_ (px _ hb)) hsz rfl rfl (λa a h=>h) (λa a h=>.inl h) M.os M.gens,⟨_,rfl⟩⟩;intro hm;exact x5 (ti hb) (vu.mp hm)
theorem lz:typeLookup (.type "method") (t5 "__call__")=pure (some (.builtin "method.__call__")):=by kernel_rfl
theorem xd(a b:Value):argsOk "iter" ⟨[a,b],[]⟩:=by unfold argsOk;kernel_rfl
theorem BS{vs:List V}{v:V}{xs:List Value}(h:H6 vs H=some (v,H'))(S:aN W H s)(rs:aG W vs xs):
  si gM A (xi (.builtin "iter") xs) (λz=>bf W H s aQ H' λW' a=>Rel W' v z) E s:=by
 refine v8.el h rs λu y st z ry rz h=>ET.el h λj g e h=>?_
 subst e;have Yu:=ry
 refine(dS h).elim λTg Th=>?_;subst Tg;subst Th
 obtain⟨m,c,rfl,hj,zm,hg⟩:=ry;obtain gm:=S.z _ _ zm;refine Calls.call_function_entry (by decide+kernel) (by decide+kernel) kdk_entry_iter (xd _ _) ?_;refine ox (pk ?_);refine ox (wpAny_specialOf (⟨_,gm,rfl⟩) lz ?_);refine ox (wpAny_rule ?_);refine ox (B1 (pk ⟨_,rfl,?_⟩))
 obtain PP:=ah.new S aQ (.mK (.bm j g) st true) {cls:=.type "callable_iterator",data:=.fields #[.ref m,z,.bool false]} rfl s.toks
  ⟨_,.ref m,z,tc _ rfl,rfl,rfl,λa=>⟨Yu.mono (Wd.iI S (pd _)),rz.mono (Wd.iI S (pd _))⟩⟩
 refine⟨_,PP,?_⟩;exact⟨_,rfl,Wd.e_ ..⟩
theorem BU{i:String}{vs:List V}{v:V}{xs:List Value}(h:lT i vs H=some (v,H'))(S:aN W H s)(rs:aG W vs xs)(hh:A.handled=none):
  si gM A (xi (.builtin i) xs) (λz=>bf W H s aQ H' λW' a=>Rel W' v z) E s:=by
 refine oG h (λhc h=>eq_of_beq hc▸FL h S rs) λh=>oG h (λhc h=>eq_of_beq hc▸FN h S rs) λh=>oG h (λhc h=>eq_of_beq hc▸FO h S rs) λh=>oG h (λhc h=>eq_of_beq hc▸FQ h S rs hh) λh=>oG h (λhc h=>eq_of_beq hc▸FP h S rs) λh=>oG h (λhc h=>eq_of_beq hc▸BS h S rs) λh=>nE h
end
section
variable{A:tj}{E:Value->oC->Prop}{s:oC}
theorem sU{Q:List Value->oC->Prop}(it:sx){T:String}{o:Nw}{items:Array Value}{n:Nat}(hT:T="list"\/T="tuple")(ho:s.heap.get? it=some o)(hc:o.cls=.type T)(hd:o.data=.seq items n)
  (hQ:∀h':xI,s.heap.objs.size<=h'.objs.size->(∀b o',s.heap.get? b=some o'->h'.get? b=some o')->Q items.toList {s with heap:=h'})(hsz:items.size<=sizeLine):si gM A (collect (.ref it)) Q E s:=
 bN (wpAny_collect_seq (hsz:=hsz) it hT ho hc hd λh' hk hz=>hQ h' hz hk)
end
section
variable{n:Nat}{A:tj}{E:Value->oC->Prop}{W W':Wd}{H H':AH}{s s':oC}{sc:te}{env:af}{e':Ts}
set_option tactic.hygienic true in
theorem kB{c:Bool}{vs:List V}{v:V}{a:sx}{h':xI}{tk m:Nat}{ys:Array Value}(h:(if c then iA (.lst vs) else pure (.lst vs)) H=some (v,H'))(S:aN W H s)(ha:s.heap.objs.size<=a)
  (hk:∀b o,s.heap.get? b=some o->h'.get? b=some o)(g:h'.get? a=some (ja ys m))(hl:vs.length<ai)(r:aG W vs ys.toList):
  bf W H s aQ H' (λW' d=>Rel W' v (.ref a)) {s with heap:=h',toks:=tk}:=by
 obtain cF:=ti g;obtain hsz:=y7 (vw ha cF);induction c with
 |false=>
  obtain⟨rfl,rfl⟩:=cC h;obtain PP:ah W H' s aQ (W.add a (ja ys m)) H' {s with heap:=h',toks:=tk}:=ah.grow S aQ hk hsz rfl rfl (λb o e=>by
    refine(?_:(if b=a then some (ja ys m) else W.Z b)=some o);rw[if_neg (λq=>by rw[q] at e;rw[S.iG ha] at e;exact nE e)];exact e) (λb o e=>by
    have e':(if b=a then some (ja ys m) else W.Z b)=some o:=e;split at e'
    ·rename_i q;obtain rfl:=oy e';exact .inr ⟨q▸ha,by exact q▸(g)⟩
    ·exact .inl e') rfl rfl
  refine⟨_,PP,?_⟩;exact⟨a,m,ys,rfl,Wd.bg ..,hl,r.mono PP.le⟩
 |true=>
  obtain⟨rfl,rfl⟩:=dS h;have L:W.Le (W.ref H.length a):=Wd.iI S (pd _)
  have PP:ah W H s aQ (W.ref H.length a) (H++[.lst vs]) {s with heap:=h',toks:=tk}:=ah.Nj S aQ (.lst vs) rfl rfl (by simp[Wd.ref]) (λb j hb=>by
    refine(?_:(if b=a then some H.length else W.own b)=some j);rw[if_neg (λq=>by rw[q,S.dc ha] at hb;exact nE hb)];exact hb) (λb j hb=>by
    have JL:(if b=a then some H.length else W.own b)=some j:=hb;split at JL
    ·rename_i q;obtain rfl:=oy JL;exact .inr ⟨rfl,by refine q▸?_;exact ha,by refine q▸?_;exact cF⟩
    ·exact .inl JL) hsz hk ⟨m,ys,g,hl,r.mono L⟩ rfl rfl
  refine⟨_,PP,?_⟩;exact⟨a,rfl,Wd.e_ ..⟩
theorem l8:∀{vs:List V} {ys:Array Value},ys.size=vs.length->(∀(j:Nat) (x:Value),ys[j]?=some x->∃v,vs[j]?=some v/\Rel W v x)->aG W vs ys.toList:=by
 obtain key:∀{vs:List V} {xs:List Value},xs.length=vs.length->(∀(j:Nat) (x:Value),xs[j]?=some x->∃v,vs[j]?=some v/\Rel W v x)->aG W vs xs:=by
  intro vs;induction vs with
  |nil=>intro xs hl _;obtain this:=List.length_eq_zero_iff.mp hl;subst this;trivial
  |cons v vs ih=>
   intro xs hl hg;induction xs with |nil=>exact nomatch hl|cons x xs=>obtain⟨u,hu,ru⟩:=hg 0 x rfl;obtain rfl:=oy hu;refine⟨ru,ih (by simpa using hl) λj y hy=>?_⟩;obtain this:=hg (j+1) y (hy);exact this
 intro vs ys hl hg;exact key (hl) λj x hx=>hg j x (by rwa [xv] at hx)
theorem NP.inv{u:V}{xs:List V}{P:Prop}(h:xZ u=some xs)(k:∀x,u=.str x->xs=(x.cps.toList.map λc=>.str ⟨#[c]⟩)->P)(l:∀a b,u=.t9 a b->xs=((w8 (b-a).toNat).map λ(i:Nat)=>.int (a+(i:Int)))->P)(m:u=.lst xs->P):P:=by
 induction u using V.casesOn with |lst ys=>exact m (congrArg V.lst (oy h))|str x=>exact k x rfl (oy h).symm|t9 a b=>exact l a b rfl (oy h).symm|_=>exact nE h
theorem FT{vs:List V}{v:V}{xs:List Value}(h:L3 vs H=some (v,H'))(S:aN W H s)(rs:aG W vs xs):
  si gM A (xi (.type "int") xs) (λz=>bf W H s aQ H' λW' a=>Rel W' v z) E s:=by
 refine lR.el h rs λu y ry h=>eJ.el h ry λb h=>?_
 cases h;exact call_int_bool (cy S)
theorem uS{a b:Int}{t u w:Tok}{tk:Nat}(S:aN W H s)(ha:i9 a=true)(hb:i9 b=true):bf W H s aQ H (λW' c=>Rel W' (.t9 a b) (.ref s.heap.objs.size)) {s with heap:=s.heap.push {cls:=.type "range",data:=.fields #[.int a t,.int b u,.int 1 w]},toks:=tk}:=
 ⟨_,ah.push S aQ _ rfl tk,_,_,_,_,rfl,Wd.bg ..,by
  have :=of_decide_eq_true ha;have :=of_decide_eq_true hb
  exact small_one (by omega) (by omega) (by omega) (by omega)⟩
theorem zZ{vs:List V}{v:V}{xs:List Value}(h:rangeT vs H=some (v,H'))(S:aN W H s)(rs:aG W vs xs):
  si gM A (xi (.type "range") xs) (λz=>bf W H s aQ H' λW' c=>Rel W' v z) E s:=by
 refine iH h (λh=>lR.el h rs λu y ry h=>aJ.el h ry λb t h=>sy h λhb e=>?_) λh=>v8.el h rs λu y w z ry rz h=>aJ.el h ry λa t h=>aJ.el h rz λb t' h=>sy h λhb e=>?_
 ·refine(yA e).elim λA1 NF=>?_;subst A1;subst NF
  exact call_range_1 (uS S rfl hb)
 ·refine(yA e).elim λQA FD=>?_;subst QA;subst FD
  obtain q:=a_ hb;exact call_range_2 (uS S q.1 q.2)
theorem xe{c:Bool}{vs:List V}{v:V}{xs:List Value}(h:A_ c vs H=some (v,H'))(S:aN W H s)(rs:aG W vs xs)(hh:A.handled=none):
  si gM A (xi (.type "list") xs) (λz=>bf W H s aQ H' λW' d=>Rel W' v z) E s:=by
 refine lR.el h rs λu y rz h=>?_
 obtain⟨us,hu,h⟩:=t7 h;refine Jt h (λhs h2=>?_) λd h=>nE h
 obtain hl:=cQ hs;refine NP.inv hu (λx e1 e2=>?_) (λa b e1 e2=>?_) λe1=>?_
 ·subst e1;obtain⟨hx,t,rfl⟩:=rz;refine call_list_str hh x t (hn:=bA hx) λh' tk acc c' hk hD z0=>kB h2 S (pd _) hk hD hl ?_
  rw[e2];refine l8 (z0.1.trans (ph ..).symm) λj v hv=>?_
  obtain⟨c,w,hc,rfl⟩:=z0.2 j v hv;exact⟨.str ⟨#[c]⟩,by simp only[x3,xv,hc];rfl,(show 1<ai by decide),w,rfl⟩
 ·subst e1;obtain⟨q,t,w,w',rfl,hz,Yv⟩:=rz;obtain hlen:(b-a).toNat<ai:=by rw[e2,ph,Kt] at hl;exact hl
  refine call_list_range hh (S.z _ _ hz) Yv (Mine.rangeSize_one a b).symm (vb (y7 hlen) (by decide)) λh' tk acc c' hk hD z0=>kB h2 S (pd _) hk hD hl ?_
  rw[e2];refine l8 (by simp only[z0.1,ph,Kt]) λj v hv=>?_
  obtain hj:=(Array.getElem?_eq_some_iff.mp hv).1;rw[z0.1] at hj;obtain⟨Ey,rfl⟩:=z0.2 j v hv;exact⟨.int (a+(j:Int)),by simp only[x3,List.getElem?_range hj];rfl,_,by rw[Int.mul_one]⟩
 ·subst e1;obtain⟨l,m,ys,rfl,g,_,r⟩:=rz;have el:=r.length
  exact call_list_seq (hsz:=bA (aW (nat_lit 9307503654351106) ae el ‹_›)) l (.inl rfl) (S.z _ _ g) rfl rfl λh' c' hk hD=>kB (tk:=s.toks) h2 S (pd _) hk hD hl r
theorem BV{c:Bool}{i:String}{vs:List V}{v:V}{xs:List Value}(h:jE c i vs H=some (v,H'))(S:aN W H s)(rs:aG W vs xs)(hh:A.handled=none):
  si gM A (xi (.type i) xs) (λz=>bf W H s aQ H' λW' a=>Rel W' v z) E s:=
 oG h (λhc h=>eq_of_beq hc▸FT h S rs) λh=>oG h (λhc h=>eq_of_beq hc▸zZ h S rs) λh=>oG h (λhc h=>eq_of_beq hc▸xe h S rs hh) λh=>nE h
end
section
variable{n:Nat}{A:tj}{E:Value->oC->Prop}{W W' ax:Wd}{H H' H₀:AH}{s s' a7:oC}{sc:te}{env:af}{e':Ts}
set_option tactic.hygienic true in
theorem ah.xg{X:sx->Prop}{a:sx}{ob:Nw}(P:ah ax H₀ a7 X W H s)(f:c8 W a)(ha:a7.heap.objs.size<=a)(g:s.heap.get? a=some ob):ah ax H₀ a7 X (W.add a ob) H s:=by
 obtain S:=P.sim;obtain⟨f1,f2,f3⟩:=f;have wc:∀b o,W.Z b=some o->(W.add a ob).Z b=some o:=λb o e=>by show(if b=a then some ob else W.Z b)=some o;rw[if_neg (λq=>by rw[q,f2] at e;exact nE e)];exact e
 have zc:∀b o,(W.add a ob).Z b=some o->(b=a/\o=ob)\/W.Z b=some o:=λb o e=>by
  have e':(if b=a then some ob else W.Z b)=some o:=e;split at e'
  ·rename_i q;obtain rfl:=oy e';exact .inl ⟨q,rfl⟩
  ·exact .inr e'
 have L:W.Le (W.add a ob):=⟨wc,λd d h=>h⟩;refine⟨⟨λb o e=>?_,S.jV,S.cH,λb j h hl=>?_,λj o e=>?_,λc Q q hm=>?_,S.base.mono wc⟩,P.le.trans L,P.yg,P.Eu,λb o e=>?_,P.keep,P.cl,P.gone,P.len,P.size,P.os,P.gens⟩
 ·rcases zc b o e with ⟨rfl,rfl⟩|e
  ·exact g
  ·exact S.z b o e
 ·induction hh:(W.add a ob).Z b with
  |none=>rfl|some o=>
   rcases zc b o hh with ⟨rfl,rfl⟩|h'
   ·have h2:W.own b=some j:=h;rw[f1] at h2;exact nE h2
   ·rw[S.uv b j h hl] at h';exact nE h'
 ·refine(S.obj j o e).elim λb A1=>?_;obtain h1:=A1.1;obtain h2:=A1.2
  exact⟨b,h1,h2.keeps L (λd h=>h) (λd e=>e) λd d d e=>e⟩
 ·obtain⟨h1,⟨oc,h0⟩,h2,nT,ps,h3,h4,h5⟩:=S.tab c Q q hm;refine⟨h1,⟨oc,wc _ _ h0⟩,?_,nT,ps,h3,h4,λpos cv hc=>(h5 pos cv hc).mono wc⟩
  ·induction hh:(W.add a ob).Z Q with
   |none=>rfl|some o=>
    rcases zc Q o hh with ⟨rfl,_⟩|h'
    ·exact absurd ⟨c,q,hm⟩ f3
    ·rw[h2] at h';exact nE h'
 ·rcases zc b o e with ⟨rfl,rfl⟩|e
  ·exact .inr (.inl ha)
  ·exact P.yh b o e
set_option tactic.hygienic true in
theorem ah.BW{X:sx->Prop}{a:sx}{o:aF}(P:ah ax H₀ a7 X W H s)(f:c8 W a)(ha:a7.heap.objs.size<=a)(cF:a<s.heap.objs.size)(hr:mP (W.ref H.length a) s.heap a H.length o):
  ah ax H₀ a7 X (W.ref H.length a) (H++[o]) s:=by
 obtain S:=P.sim;obtain⟨f1,f2,f3⟩:=f;obtain L:=Wd.iI S (pd _);have oc:∀b k,(W.ref H.length a).own b=some k->(b=a/\k=H.length)\/(b≠a/\W.own b=some k):=λb k e=>by
  have e':(if b=a then some H.length else W.own b)=some k:=e;split at e'
  ·rename_i q;obtain rfl:=oy e';exact .inl ⟨q,rfl⟩
  ·rename_i q;exact .inr ⟨q,e'⟩
 have yg:∀b k,W.own b=some k->(W.ref H.length a).own b=some k:=λb k e=>by refine(if_neg (λq=>by rw[q,f1] at e;exact nE e)).trans ?_;exact e
 refine⟨⟨S.z,λk b e=>?_,λb k e=>?_,λb k e hl=>?_,λk o' e=>?_,λc Q q hm=>?_,S.base⟩,P.le.trans L,λb k e=>yg b k (P.yg b k e),λb k e=>?_,P.yh,P.keep,P.cl,λk e=>?_,by simp;exact w3 P.len,P.size,P.os,P.gens⟩
 ·have e':(if k=H.length then some a else W.φ k)=some b:=e;show(if b=a then some H.length else W.own b)=some k;split at e'
  ·rename_i q;obtain rfl:=oy e';rw[if_pos rfl,q]
  ·exact yg b k (S.jV k b e')
 ·rcases oc b k e with ⟨rfl,rfl⟩|⟨_,e⟩
  ·exact⟨by simp,cF⟩
  ·exact⟨by simp;exact Mo (S.cH b k e).1,(S.cH b k e).2⟩
 ·rcases oc b k e with ⟨rfl,rfl⟩|⟨_,e⟩
  ·exact f2
  ·refine S.uv b k e ?_;obtain⟨q,hq,hn⟩:=hl;rw[vl (S.cH b k e).1] at hq;exact⟨q,hq,hn⟩
 ·by_cases hk:k<H.length
  ·rw[vl hk] at e;obtain⟨b,h1,h2⟩:=S.obj k o' e;exact⟨b,L.φ _ _ h1,h2.keeps L (λb hb=>yg b k hb) (λd e=>e) λd d d e=>e⟩
  ·obtain i_:k=H.length:=by
    obtain this:=(eI e).1;simp at this;exact aL (nat_lit 0x10251054191801112) ae this hk
   subst i_;rw[zt (pd _),X1] at e;obtain rfl:=oy e;exact⟨a,Wd.e_ ..,hr⟩
 ·obtain⟨h1,h0,h2,nT,ps,h3,h4,h5⟩:=S.tab c Q q hm;refine⟨h1,h0,h2,?_,ps,h3,h4,h5⟩;show(if Q=a then some H.length else W.own Q)=none;rw[if_neg (λe=>f3 ⟨c,q,by refine e▸?_;exact hm⟩)];exact nT
 ·rcases oc b k e with ⟨rfl,rfl⟩|⟨_,e⟩
  ·exact .inr ⟨ha,by rw[aaA P.len];intro e;cases e⟩
  ·exact P.Eu b k e
 ·have :=P.gone k e;have cF:=(eI this).1;refine(vl cF).trans ?_;exact this
theorem z6{X:sx->Prop}{c:Bool}{vs:List V}{v:V}{a:sx}{ys:Array Value}{m:Nat}(h:(if c then iA (.lst vs) else pure (.lst vs)) H=some (v,H'))(P:ah ax H₀ a7 X W H s)(f:c8 W a)(ha:a7.heap.objs.size<=a)
  (g:s.heap.get? a=some (ja ys m))(hl:vs.length<ai)(r:aG W vs ys.toList):∃W',ah ax H₀ a7 X W' H' s/\W.Le W'/\Rel W' v (.ref a)/\∀b,b≠a->c8 W b->c8 W' b:=by
 induction c with
 |false=>refine iD h ?_;obtain L:W.Le (W.add a (ja ys m)):=⟨λb o e=>by refine(if_neg (λq=>by rw[q,f.2.1] at e;exact nE e)).trans ?_;exact e,λd d h=>h⟩;refine⟨_,P.xg f ha g,L,?_,λb hb fb=>⟨fb.1,(if_neg hb).trans fb.2.1,fb.2.2⟩⟩;exact⟨a,m,ys,rfl,Wd.bg ..,hl,r.mono L⟩
 |true=>obtain Ti:=(dS h).1;obtain Tj:=(dS h).2;subst Ti;subst Tj;obtain L:W.Le (W.ref H.length a):=Wd.iI P.sim (pd _);refine⟨_,P.BW f ha (ti g) ⟨m,ys,g,hl,r.mono L⟩,L,?_,λb hb fb=>⟨(if_neg hb).trans fb.1,fb.2.1,fb.2.2⟩⟩;exact⟨a,rfl,Wd.e_ ..⟩
theorem lA{X:sx->Prop}{c:Bool}{vs:List (Str×V)}{v:V}{a:sx}{ys:Array th}{m:Nat}(h:(if c then iA (.aE vs) else pure (.aE vs)) H=some (v,H'))(P:ah ax H₀ a7 X W H s)(f:c8 W a)(ha:a7.heap.objs.size<=a)
  (g:s.heap.get? a=some (dO ys m))(h0:a≠sysModules)(nd:(vs.map (·.1)).Nodup)(hl:vs.length<ai)(r:Reld W vs ys.toList):∃W',ah ax H₀ a7 X W' H' s/\W.Le W'/\Rel W' v (.ref a)/\∀b,b≠a->c8 W b->c8 W' b:=by
 cases c with
 |false=>refine iD h ?_;obtain L:W.Le (W.add a (dO ys m)):=⟨λb o e=>by refine(if_neg (λq=>by rw[q,f.2.1] at e;exact nE e)).trans ?_;exact e,λd d h=>h⟩;refine⟨_,P.xg f ha g,L,?_,λb hb fb=>⟨fb.1,(if_neg hb).trans fb.2.1,fb.2.2⟩⟩;exact⟨a,m,ys,rfl,Wd.bg ..,h0,nd,hl,r.mono L⟩
 |true=>obtain Tn:=(dS h).1;obtain To:=(dS h).2;subst Tn;subst To;obtain L:=Wd.iI P.sim (pd _);refine⟨_,P.BW f ha (ti g) ⟨m,ys,g,h0,nd,hl,r.mono L⟩,L,?_,λb hb fb=>⟨(if_neg hb).trans fb.1,fb.2.1,fb.2.2⟩⟩;exact⟨a,rfl,Wd.e_ ..⟩
end
section
variable{n:Nat}{A:tj}{E:Value->oC->Prop}{W W' ax:Wd}{H H' H₀:AH}{s s' a7:oC}{sc:te}{env:af}{e':Ts}
theorem aN.mods(S:aN W H s){a:sx}(h:s.heap.objs.size<=a):a≠sysModules:=by rintro rfl;exact absurd S.cO.mods (vi h)
end
set_option tactic.hygienic true in
theorem qO{pos:aaK}{a b:Int}{c cv:Value}:∀(l:List Value),TriplesOk l->codeAmong pos (l++[rawInt a,rawInt b,c])=some cv->codeAmong pos l=some cv\/cv=c
|[],aR,h=>by
 have h':(if a==pos.line&&b==pos.col then some c else codeAmong pos [])=some cv:=h;split at h'
 ·obtain rfl:=oy h';exact .inr rfl
 ·exact nE h'
|[x],ht,aR=>by induction x<;>exact ht.elim
|[x,y],ht,aR=>by induction x<;>first|exact ht.elim|(induction y<;>exact ht.elim)
|x::y::z::r,ht,h=>by
 induction x<;>first|exact ht.elim|skip
 induction y<;>first|exact ht.elim|skip
 rename_i x _ y _;have h':(if x==pos.line&&y==pos.col then some z else codeAmong pos (r++[rawInt a,rawInt b,c]))=some cv:=h
 refine(?_:(if x==pos.line&&y==pos.col then some z else codeAmong pos r)=some cv\/_);split at h'
 ·rename_i hc;rw[if_pos hc];exact .inl h'
 ·rename_i hc;rw[if_neg hc];exact qO r ht h'
theorem jK{e:Ts}:∀(names:List (Str×aav)) (cs:List (Str×sx)),(∀n∈names,n.2=.free->(e.cells.lookup n.1).isSome=true)->
  ∃cl,(forIn names cs λ(x:Str×aav) (cs:List (Str×sx))=>(match x with |(name,kind)=>if(kind==.free)=true then do let a<-cellOf e name;pure (FX ((name,a)::cs)) else pure (FX cs):Sem (ForInStep (List (Str×sx)))))=pure cl/\
   (∀n,(n,Ap)∈names->cl.lookup n=e.cells.lookup n)/\(∀n,(n,Ap)∉names->cl.lookup n=cs.lookup n)
 |[],cs,aR=>⟨cs,by rw[List.forIn_nil],(λn h=>nomatch h),λb b=>rfl⟩|(m,k)::r,cs,h=>by
  rw[NA];obtain hr:=λn hn=>h n (y0 _ hn)
  by_cases hk:k=.free
  ·subst hk;refine(nB (h _ (wx ..) rfl)).elim λa ha=>?_
   refine(jK r ((m,a)::cs) hr).elim λcl z5=>?_;obtain g1:=z5.1;obtain g2:=z5.2.1;obtain g3:=z5.2.2
   refine⟨cl,?_,λn hn=>?_,λn hn=>?_⟩
   ·have :cellOf e m=pure a:=by unfold cellOf;rw[ha]
    simp only[this,beq_self_eq_true,if_true,pure_bind];exact g1
   ·by_cases Tp:(n,Ap)∈r
    ·exact g2 n Tp
    ·rcases bx hn with e1|e1
     ·cases e1;simp only[g3 _ Tp,List.lookup_cons_self,ha]
     ·exact absurd e1 Tp
   ·obtain h1:=λq=>hn (y0 _ q)
    obtain h2:n≠m:=λq=>hn (by refine q▸?_;exact wx ..)
    simp only[g3 n h1,sT];have :(n==m)=false:=by simpa using h2
    rw[this]
  ·refine(jK r cs hr).elim λcl Il=>?_;obtain g1:=Il.1;obtain g2:=Il.2.1;obtain g3:=Il.2.2
   refine⟨cl,?_,λn hn=>?_,λn hn=>?_⟩
   ·have :(k==Ap)=false:=by simpa using hk
    simp only[this,aat,if_false,pure_bind];exact g1
   ·refine(bx hn).elim (λe1=>?_) λe1=>?_
    ·obtain⟨rfl,rfl⟩:=yA e1;exact absurd rfl hk
    ·exact g2 n e1
   ·exact g3 n λq=>hn (y0 _ q)
section
variable{n:Nat}{A:tj}{E:Value->oC->Prop}{W W' ax:Wd}{H H' H₀:AH}{s s' a7:oC}{sc aB:te}{env:af}{e':Ts}
theorem fV(h:gI sc aB=true):aB.kind=.function/\(aB.names.map (·.1)).Nodup/\h_ aB=false/\∀x,(x,Ap)∈aB.names->(kindOf sc x=some .cell\/kindOf sc x=some .free)/\x≠t5 "__classdict__":=by
 unfold gI at h;simp only[vr,beq_iff_eq,decide_eq_true_eq,L9,SU] at h;refine h.elim λTq h4=>?_;refine Tq.elim λTr h3=>?_;refine Tr.elim λh1 h2=>?_
 refine⟨h1,h2,h3,λx hx=>?_⟩;obtain this:=h4 _ hx;simp only[Bool.or_eq_true,bne_iff_ne,ne_eq,not_true_eq_false,false_or,vr,beq_iff_eq] at this;exact this
theorem mapM_some{α β:Type}{f:α->Option β}:∀{l:List α} {r:List β},l.mapM f=some r->∀x∈l,∃y,f x=some y/\y∈r
|[],r,h,x,hx=>by cases hx
|a::l,r,h,x,hx=>by
 rw[List.mapM_cons] at h;induction ha:f a with
 |none=>obtain h:=ha▸h;exact nE h
 |some b=>
  rw[ha] at h;induction hr:l.mapM f with
  |none=>obtain h:=hr▸h;exact nE h
  |some bs=>
   rw[hr] at h;obtain rfl:=oy h;rcases bx hx with rfl|hx
   ·exact⟨b,ha,wx ..⟩
   ·refine(mapM_some hr x hx).elim λy Qz=>?_;obtain h1:=Qz.1;obtain h2:=Qz.2
    exact⟨y,h1,y0 _ h2⟩
theorem qP{α β:Type}{f:α->Option β}:∀{l:List α} {r:List β},l.mapM f=some r->∀y∈r,∃x∈l,f x=some y
|[],r,h,y,hy=>by obtain rfl:=oy h;cases hy
|a::l,r,h,y,hy=>by
 rw[List.mapM_cons] at h;induction ha:f a with
 |none=>obtain h:=ha▸h;exact nE h
 |some b=>
  rw[ha] at h;induction hr:l.mapM f with
  |none=>obtain h:=hr▸h;exact nE h
  |some bs=>
   rw[hr] at h;obtain rfl:=oy h;rcases bx hy with rfl|hy
   ·exact⟨a,wx ..,ha⟩
   ·refine(qP hr y hy).elim λx Wc=>?_;obtain h1:=Wc.1;obtain h2:=Wc.2
    exact⟨x,y0 _ h1,h2⟩
theorem gT{dD:List (Str×V)}(h:fM aB env=some dD):(∀x,(x,Ap)∈aB.names->∃v,aY env x=some v/\(x,v)∈dD)/\∀x v,(x,v)∈dD->(x,Ap)∈aB.names/\aY env x=some v:=by
 refine⟨λx hx=>?_,λx v hv=>?_⟩
 ·obtain⟨y,h1,h2⟩:=mapM_some h (x,.free) (wi.mpr ⟨hx,by rfl⟩);induction hl:aY env x with
  |none=>obtain h1:=hl▸h1;exact nE h1
  |some v=>rw[hl] at h1;obtain rfl:=oy h1;exact⟨v,rfl,h2⟩
 ·obtain⟨⟨m,k⟩,h1,h2⟩:=qP h (x,v) hv;obtain hm:=(I7 h1).1;obtain hk:=(I7 h1).2;obtain hk:k=.free:=by simpa using hk
  subst hk;induction hl:aY env m with
  |none=>obtain h2:=hl▸h2;exact nE h2
  |some u=>rw[hl] at h2;cases h2;exact⟨hm,hl⟩
theorem oK{dD:List (Str×V)}(hc:fM aB env=some dD)(gO:gI sc aB=true)(N:aq sc env e' W s):
  ∃cl,closureFor aB e'=pure cl/\(∀x,(x,Ap)∈aB.names->cl.lookup x=e'.cells.lookup x)/\∀x,(x,Ap)∉aB.names->cl.lookup x=none:=by
 obtain Tt:=fV gO;obtain oM:=Tt.2.2.2;refine(gT hc).elim λc1 b=>?_
 obtain hs:∀m∈aB.names,m.2=.free->(e'.cells.lookup m.1).isSome=true:=λm hm hk=>by
  obtain⟨x,k⟩:=m;subst hk;refine(c1 x hm).elim λv Tu=>?_;obtain hv:=Tu.1
  rcases(oM x hm).1 with h|h
  ·obtain⟨c,_,_,h1,_⟩:=N.cells x h;rw[h1];rfl
  ·obtain⟨c,_,_,h1,_⟩:=N.frees x v h hv;rw[h1];rfl
 refine(jK aB.names [] hs).elim λcl BX=>?_;obtain g1:=BX.1;obtain g2:=BX.2.1;obtain g3:=BX.2.2
 refine⟨cl,?_,g2,λx hx=>by refine(g3 x hx).trans ?_;rfl⟩;show(forIn aB.names ([]:List (Str×sx)) (λ(x:Str×aav) (cs:List (Str×sx))=>(match x with |(name,kind)=>if(kind==.free)=true then do let a<-cellOf e' name;pure (FX ((name,a)::cs)) else pure (FX cs):Sem (ForInStep (List (Str×sx)))))>>=λr=>pure r)=pure cl
 rw[g1];rfl
end
section
variable{n:Nat}{A:tj}{E:Value->oC->Prop}{W W' ax:Wd}{H H' H₀:AH}{s s' a7:oC}{sc aB:te}{env:af}{e':Ts}
set_option tactic.hygienic true in
theorem ah.table(S:aN W H s)(X:sx->Prop){c P c':sx}{q:Str}{ps:Array Value}{oc:Nw}{vs:Array Value}{t:Tok}{a b:Int}{h':xI}{tk:Nat}(hm:(c,P,q)∈G.tabs)(hP:s.heap.get? P=some (tabObj ps))
  (hx:xI.ExtBut P s.heap h')(hsz:s.heap.objs.size<=h'.objs.size)(yy:s.heap.objs.size<=c')(Tv:h'.get? c'=some oc)(hd:oc.data=.fields vs)(hv:vs[1]?=some (.str (q++"<lambda>") t))
  (xh:h'.get? P=some (tabObj (ps++#[rawInt a,rawInt b,.ref c']))):ah W H s X (W.add c' oc) H {s with heap:=h',toks:=tk}:=by
 obtain⟨_,_,zP,oP,QB,gP,tP,cP⟩:=S.tab c P q hm;have :QB=ps:=by
  rw[hP] at gP;have :=oy gP
  simp only[tabObj,Nw.mk.injEq,Data.fields.injEq,true_and,and_true] at this;exact this.symm
 subst this;obtain zc:=S.iG yy;obtain Yw:=S.dc yy;have wc:∀b o,W.Z b=some o->(W.add c' oc).Z b=some o:=λb o e=>by show(if b=c' then some oc else W.Z b)=some o;rw[if_neg (λq=>by rw[q,zc] at e;exact nE e)];exact e
 have Tw:∀b o,(W.add c' oc).Z b=some o->(b=c'/\o=oc)\/W.Z b=some o:=λb o e=>by
  have e':(if b=c' then some oc else W.Z b)=some o:=e;split at e'
  ·rename_i q;obtain rfl:=oy e';exact .inl ⟨q,rfl⟩
  ·exact .inr e'
 have L:W.Le (W.add c' oc):=⟨wc,λd d h=>h⟩;have zk:=λb o e=>hx b o (λq=>by rw[q,zP] at e;exact nE e) (S.z b o e)
 have ok:∀b k o,W.own b=some k->s.heap.get? b=some o->h'.get? b=some o:=λb k o hb e=>hx b o (λq=>by rw[q,oP] at hb;exact nE hb) e
 refine⟨⟨λb o e=>?_,S.jV,λb k e=>⟨(S.cH b k e).1,xp (S.cH b k e).2 hsz⟩,λb k e hl=>?_,λk o e=>?_,λc2 P2 q2 We=>?_,S.base.mono wc⟩,L,λd d h=>h,λd d h=>.inl h,λb o e=>?_,λb o e hn d d=>hx b o (λq1=>hn ⟨c,q,by rw[q1];exact hm⟩) e,λb Tz ht e=>?_,λd h=>h,pd _,hsz,rfl,rfl⟩
 ·rcases Tw b o e with ⟨rfl,rfl⟩|e
  ·exact Tv
  ·exact zk b o e
 ·induction hh:(W.add c' oc).Z b with
  |none=>rfl|some o=>
   rcases Tw b o hh with ⟨rfl,rfl⟩|h1
   ·have e2:W.own b=some k:=e;rw[Yw] at e2;exact nE e2
   ·rw[S.uv b k e hl] at h1;exact nE h1
 ·obtain⟨b,h1,h2⟩:=S.obj k o e;exact⟨b,h1,h2.keeps L (λd h=>h) (λob e=>ok b k ob (S.jV k b h1) e) λb' ob hb e=>ok b' k ob hb e⟩
 ·obtain⟨h1,⟨Wf,h0⟩,h2,nT,Tz,h3,h4,h5⟩:=S.tab c2 P2 q2 We
  have hd2:CodeHd h' c2 P2:=by
   obtain⟨o,Yx,file,tf,flags,tg,JD,text,tt,e,r⟩:=h1;have :=S.z _ _ h0
   rw[e] at this;cases this;exact⟨_,Yx,file,tf,flags,tg,JD,text,tt,zk _ _ h0,r⟩
  have Wg:(W.add c' oc).Z P2=none:=by show(if P2=c' then some oc else W.Z P2)=none;rw[if_neg (λq=>absurd (ti h3) (vi (by rw[q];exact yy)))];exact h2
  by_cases Wh:P2=P
  ·subst Wh;obtain Yy:=S.cO.Br c P2 q c2 q2 hm We;subst Yy;rw[gP] at h3;have :Tz=QB:=by have :=oy h3;simp only[tabObj,Nw.mk.injEq,Data.fields.injEq,true_and,and_true] at this;exact this.symm
   subst this;refine⟨hd2,⟨Wf,wc _ _ h0⟩,Wg,nT,_,xh,by rw[aaH];exact TriplesOk_snoc _ _ _ _ h4,λpos cv hc=>?_⟩;rw[aaH] at hc;rcases qO _ h4 hc with hc|rfl
   ·exact(h5 pos cv hc).mono wc
   ·exact⟨c',oc,vs,t,rfl,Wd.bg ..,hd,hv⟩
  ·refine⟨hd2,⟨Wf,wc _ _ h0⟩,Wg,nT,Tz,hx _ _ Wh h3,h4,λpos cv hc=>(h5 pos cv hc).mono wc⟩
 ·rcases Tw b o e with ⟨rfl,rfl⟩|e
  ·exact .inr (.inl yy)
  ·exact .inl e
 ·by_cases hb:b=P
  ·subst hb;rw[hP] at e;obtain this:=oy e;simp only[tabObj,Nw.mk.injEq,Data.fields.injEq,true_and,and_true] at this;subst this;exact⟨_,xh⟩
  ·exact⟨#[],by exact hx _ _ hb e⟩
theorem FU{dD:List (Str×V)}{cl:List (Str×sx)}(hc:fM aB env=some dD)(gO:gI sc aB=true)(A3:dD.all (λkv=>G.C.wo kv.1)=true)(N:aq sc env e' W s)
  (nZ:∀x,(x,Ap)∈aB.names->cl.lookup x=e'.cells.lookup x):mO W dD cl:=by
 refine(fV gO).elim λYz TA=>?_;obtain oM:=TA.2.2
 obtain⟨c1,c2⟩:=gT hc;obtain key:∀l:List (Str×V),(∀p∈l,p∈dD)->mO W l cl:=by
  intro l;induction l with
  |nil=>intro _;trivial|cons p r ih=>
   obtain⟨x,v⟩:=p;intro hp;refine⟨?_,ih λp hm=>hp p (y0 _ hm)⟩;obtain hm:=hp (x,v) (wx ..);refine(c2 x v hm).elim λhx hv=>?_
   have hw:G.C.wo x=true:=cj A3 _ hm;rcases(oM x hx).1 with h|h
   ·obtain⟨c,o,u,h1,h2,h3,h4,h5,h6⟩:=N.cells x h;rw[hv] at h6;obtain⟨⟨y,rfl,ry⟩,hz⟩:=h6;rw[if_pos hw] at hz;exact⟨c,o,y,by refine(nZ x hx).trans ?_;exact h1,hz,h4,ry⟩
   ·obtain⟨c,o,y,h1,h2,h4,h5,_,h6⟩:=N.frees x v h hv;rcases h6 with h6|⟨h6,_⟩
    ·exact⟨c,o,y,by refine(nZ x hx).trans ?_;exact h1,h6,h4,h5⟩
    ·rw[hw] at h6;exact nomatch h6
 exact key dD λp h=>h
end
noncomputable def Out.expr(out:Out)(gens:List uj)(aB:te)(pos:aaK):Expr:=match out with |.e x=>.ListComp x gens aB pos|.kv k v=>.DictComp k v gens aB pos
noncomputable def emitC(out:Out)(acc:Value)(env:Ts):Sem Unit:=match out with
|.e elt=>do let _<-call (.builtin "list.append") [acc,<-eval elt env]
|.kv k v=>do
 let kv<-eval k env;let vv<-holding [kv] (eval v env)
 match acc with
 |.ref d=>do
  standAt {k.pos with endLine:=v.pos.endLine,endCol:=v.pos.endCol}
  holding [kv,vv] (dictSet d kv vv)
 |_=>unsupported "internal:dictcomp"
noncomputable def qQ(out:Out)(gens:List uj)(aB:te)(pos:aaK)(d:Nat)(acc:Value)(env:Ts)(K:Sem RR):Sem RR:=match gens[d+1]? with
|some g'=>do
 let x<-eval g'.iter env
 standAt g'.iter.pos
 let x<-if g'.is_async !=0 then foldedIterable g'.iter x else foldedSetIterable g'.iter env x
 let _<-runOwn (.compStart (out.expr gens aB pos) (d+1) (<-holding [x] (if g'.is_async !=0 then asyncIter x else pyIter x)) acc env) env
 K
|none=>do
 emitC out acc env
 K
theorem compTurn_gen{out:Out}{gens:List uj}{aB:te}{pos:aaK}{d:Nat}{it acc:Value}{env:Ts}{g:uj}(hg:gens[d]?=some g)(ha:g.is_async=0):
  compTurn (out.expr gens aB pos) d it acc env=(do
   standAt g.iter.pos
   match <-pyNext it with
   |none=>pure (.done .next)|some v=>
    letOwnedTupleGo g.target it v
    assign g.target env v
    let mut ok:=true
    for c in g.ifs do
     if ok then ok<-isTrue c env (eval c env)
    if ok then
     qQ out gens aB pos d acc env (again (.compLoop (out.expr gens aB pos) d it acc env))
    else again (.compLoop (out.expr gens aB pos) d it acc env)):=by
 obtain⟨t,i,f,a⟩:=g;cases ha;induction out with |e x=>unfold compTurn Out.expr;dsimp only;rw[hg];rfl|kv k v=>unfold compTurn Out.expr;dsimp only;rw[hg];rfl
section
variable{A:tj}{E:Value->oC->Prop}{R:Result->oC->Prop}{s:oC}
theorem jx{out:Out}{gens:List uj}{aB:te}{pos:aaK}{d:Nat}{it acc:Value}{env:Ts}{g:uj}(hg:gens[d]?=some g)(ha:g.is_async=0)
  (h0:codeAny gM A (.compLoop (out.expr gens aB pos) d it acc env) R s)
  (h:si gM A (pyIter it) (λIm s'=>codeAny gM A (.compLoop (out.expr gens aB pos) d Im acc env) R s') (notedBy gM A env λx s'=>R (.error x) s') s):
  codeAny gM A (.compStart (out.expr gens aB pos) d it acc env) R s:=by
 have nZ:clausesOf (out.expr gens aB pos)=gens:=by induction out<;>rfl
 refine codeAny_of_tree ?_
 have JM:si gM A ((compStart (out.expr gens aB pos) d it acc env).onRaise (λx=>do noteFrame x env;standAt theWindowsPlace)) (λfin s'=>match fin with |.done f=>R (.ok f) s'|.again c'=>c'.quiet=true/\codeAny gM A c' R s')
   (λe s'=>R (.error e) s') s:=by
  refine wpAny_notedAt ?_;unfold compStart;rw[nZ,hg];obtain YA:(some g).elim false (λx=>x.is_async !=0)=false:=by simp[ha]
  refine YA.symm▸?_;have Wi:(Code.compLoop (out.expr gens aB pos) d it acc env).quiet=true:=by induction out<;>rfl
  have NQ:∀Im,(Code.compLoop (out.expr gens aB pos) d Im acc env).quiet=true:=λIm=>by induction out<;>rfl
  refine ox (wpAny_askSetting (wpAny_ite ?_));split
  ·first
    |exact ox (pk (pk (And.intro Wi h0)))|exact pk (And.intro Wi h0)
  ·first
    |exact ox (wpAny_rule (ox (uk (ox (wb h (λIm s' h'=>pk (And.intro (NQ Im) h')) λa a x=>x)))))|(refine ox (wpAny_rule ?_);exact ox (uk (ox (wb h (λIm s' h'=>pk (And.intro (NQ Im) h')) λa a x=>x))))
 induction out<;>exact JM
theorem sV{out:Out}{gens:List uj}{aB:te}{pos:aaK}{d:Nat}{it acc:Value}{env:Ts}{g:uj}(hg:gens[d]?=some g)(ha:g.is_async=0)(I:Nat->oC->Prop)
  (turn:∀n s,I n s->∀(E:Value->oC->Prop) (Q:Option Value->oC->Prop) (B:Bool->oC->Prop) (K:Sem RR) (T:RR->oC->Prop),(∀s',R (.ok .next) s'->Q none s')->
   (∀v s',si gM A (letOwnedTupleGo g.target it v) (λa a7=>si gM A (assign g.target env v) (λa ar=>si gM A (forIn g.ifs true λc r=>if r=true then do let ok<-isTrue c env (eval c env);pure (FX ok) else pure (FX r)) B E ar) E a7) E s'->Q (some v) s')->
   (∀s',si gM A (qQ out gens aB pos d acc env K) T E s'->B true s')->(∀m s',m<n->I m s'->si gM A K T E s')->(∀m s',m<n->I m s'->B false s')->si gM A (pyNext it) Q E s)
  (n:Nat)(h:I n s):codeAny gM A (.compLoop (out.expr gens aB pos) d it acc env) R s:=by
 have hq:(Code.compLoop (out.expr gens aB pos) d it acc env).quiet=true:=by induction out<;>rfl
 refine codeAny_loop hq I (λn s hI=>?_) n h;have JM:si gM A ((compTurn (out.expr gens aB pos) d it acc env).onRaise (λx=>do noteFrame x env;theTreesLotGoes x)) (λfin s'=>match fin with |.done f=>R (.ok f) s'|.again c'=>c'=.compLoop (out.expr gens aB pos) d it acc env/\∃m,m<n/\I m s') (λe s'=>R (.error e) s') s:=by
  refine wpAny_noted ?_;refine(compTurn_gen hg ha)▸?_;exact ox (uk (ox (turn n s hI _ _ (λok s'=>si gM A (if ok=true then qQ out gens aB pos d acc env (again (.compLoop (out.expr gens aB pos) d it acc env)) else again (.compLoop (out.expr gens aB pos) d it acc env)) _ _ s') (again (.compLoop (out.expr gens aB pos) d it acc env)) _ (λa h=>pk h) (λv a h=>ox (wb h (λa a h=>ox (wb h (λa a h=>ox h) λa a h=>h)) λa a h=>h)) (λa h=>h) (λm a hm h=>pk ⟨rfl,m,hm,h⟩) λm a hm h=>pk ⟨rfl,m,hm,h⟩)))
 induction out<;>exact JM
end
section
variable{n:Nat}{A:tj}{E:Value->oC->Prop}{W W' ax:Wd}{H H' H₀:AH}{s s' a7:oC}{sc aB:te}{env:af}{e':Ts}
theorem qR{env:Ts}:∀(cs:List Expr),(forIn cs false λc r=>if r=true then do let ok<-PySem.isTrue c env (PySem.eval c env);pure (FX ok) else pure (FX r):Sem Bool)=pure false|[]=>by rfl|c::r=>by rw[NA];exact qR r
def jk(W:Wd)(s:oC)(a:sx):Acc->Prop|.l vs=>∃ys m,s.heap.get? a=some (ja ys m)/\vs.length<ai/\aG W vs ys.toList|.d kvs=>∃es m,s.heap.get? a=some (dO es m)/\a≠sysModules/\(kvs.map (·.1)).Nodup/\kvs.length<ai/\Reld W kvs es.toList
theorem jk.keep{a:sx}{ac:Acc}{X:sx->Prop}(x:jk W s a ac)(f:c8 W a)(P:ah W H s X W' H' s')(hx:¬X a):jk W' s' a ac/\c8 W' a:=by
 have kp:=λo ho=>P.keep a o ho f.2.2 (λk h=>by rw[f.1] at h;exact nE h) hx
 induction ac with
 |l vs=>obtain⟨ys,m,g,hl,r⟩:=x;exact⟨⟨ys,m,kp _ g,hl,r.mono P.le⟩,f.post P (ti g) hx⟩
 |d kvs=>obtain⟨es,m,g,h0,nd,hl,r⟩:=x;exact⟨⟨es,m,kp _ g,h0,nd,hl,r.mono P.le⟩,f.post P (ti g) hx⟩
def Apart(aB:te)(e':Ts)(a:sx):Prop:=a≠e'.locals/\∀y,(kindOf aB y=some .cell\/kindOf aB y=some .free)->e'.cells.lookup y≠some a
theorem Apart.gj{a:sx}(h:Apart aB e' a):¬ck aB e' a:=by
 rintro(rfl|⟨y,hy,hl⟩)
 ·exact h.1 rfl
 ·exact h.2 y (.inl hy) hl
theorem eg{a:sx}{h':xI}{tk:Nat}(S:aN W H s)(f:c8 W a)(A2:xI.SameBut a s.heap h'):ah W H s (λb=>b=a) W H {s with heap:=h',toks:=tk}:=ah.free S (λb hb=>by exact hb▸(f)) (λb o hb ho=>A2.extBut b o hb ho) (Fu A2.1.symm) rfl rfl
end
section
variable{n:Nat}{A:tj}{E:Value->oC->Prop}{W W' ax:Wd}{H H' H₀:AH}{s s' a7:oC}{sc aB:te}{env:af}{e':Ts}
theorem jk.lt{a:sx}{ac:Acc}(x:jk W s a ac):a<s.heap.objs.size:=by
 induction ac with
 |l vs=>obtain⟨ys,m,g,_⟩:=x;exact ti g
 |d kvs=>obtain⟨es,m,g,_⟩:=x;exact ti g
theorem SrcAt.m6{b:sx}(x:SrcAt W H s b):¬c8 W b:=λf=>by
 obtain⟨_,hz⟩:=x;rcases hz with ⟨k,hz,_⟩|⟨o',hz⟩
 ·rw[f.1] at hz;exact nE hz
 ·rw[f.2.1] at hz;exact nE hz
theorem sW{α:Type}{l:List α}{d:Nat}{x:α}{r:List α}(h:l.drop d=x::r):l[d]?=some x/\l.drop (d+1)=r:=by
 constructor
 ·have :=List.getElem?_drop (xs:=l) (i:=d) (j:=0);rw[h] at this;simpa using this.symm
 ·rw[<-List.drop_drop,h];rfl
end
noncomputable abbrev LB(u:Option Value):Nw:={cls:=.type "cell",data:=.cell u}
section
variable{M:Model}{A:tj}{E:Value->oC->Prop}{s:oC}
theorem BY(names:List (Str×aav))(cells:List (Str×sx)){s:oC}{Q:List (Str×sx)->oC->Prop}
  (h:∀r h',(∀b o,s.heap.get? b=some o->h'.get? b=some o)->s.heap.objs.size<=h'.objs.size->(∀x,(x,wa)∈names->∃c,r.lookup x=some c/\s.heap.objs.size<=c/\h'.get? c=some (LB none))->(∀x,(x,wa)∉names->r.lookup x=cells.lookup x)->(∀x y c,(x,wa)∈names->(y,wa)∈names->r.lookup x=some c->r.lookup y=some c->x=y)->Q r {s with heap:=h'}):
  si M A (forIn names cells λ(x:Str×aav) (cs:List (Str×sx))=>(match x with |(name,kind)=>if(kind==.cell)=true then do let a<-alloc {cls:=.type "cell",data:=.cell none};pure (FX ((name,a)::cs)) else pure (FX cs):Sem (ForInStep (List (Str×sx))))) Q E s:=by
 induction names generalizing cells s Q with
 |nil=>exact pk (h cells s.heap (λd d e=>e) (pd _) (λx hx=>nomatch hx) (λd d=>rfl) (λx y c hx=>nomatch hx))|cons p rest ih=>
  obtain⟨m,k⟩:=p;rw[NA];by_cases hk:k=.cell
  ·subst hk;refine ox (ox (wpAny_alloc (pk ?_)));refine ih ((m,s.heap.objs.size)::cells) λr h' hk hsz h1 h2 h3=>?_
   have hsz:s.heap.objs.size+1<=h'.objs.size:=by
    have :(s.heap.push (LB none)).objs.size<=h'.objs.size:=hsz
    rwa [xc] at this
   have h1:∀x,(x,wa)∈rest->∃c,r.lookup x=some c/\s.heap.objs.size+1<=c/\h'.get? c=some (LB none):=λx hx=>by
    refine(h1 x hx).elim λc z2=>?_;obtain e1:=z2.1;obtain e2:=z2.2.1;obtain e3:=z2.2.2
    rw[xc] at e2;exact⟨c,e1,e2,e3⟩
   have hm:(m,wa)∉rest->r.lookup m=some s.heap.objs.size:=λhn=>by simp only[h2 m hn,List.lookup_cons_self]
   refine h r h' (λb o e=>hk b o (px _ e)) (Ln.go (nat_lit 281548411109633) [_,_,0] ae hsz) (λx hx=>?_) (λx hx=>?_) (λx y c hx hy e1 e2=>?_)
   ·by_cases hr:(x,wa)∈rest
    ·obtain⟨c,e1,e2,e3⟩:=h1 x hr;exact⟨c,e1,aL (nat_lit 281548411109633) ae e2,e3⟩
    ·rcases bx hx with e|e
     ·cases e;exact⟨_,hm hr,pd _,hk _ _ (tc _ rfl)⟩
     ·exact absurd e hr
   ·have hr:=λq=>hx (y0 _ q)
    have cG:x≠m:=λq=>hx (by refine q▸?_;exact wx ..)
    simp only[h2 x hr,sT];have :(x==m)=false:=by simpa using cG
    rw[this]
   ·by_cases QC:(x,wa)∈rest
    ·by_cases LC:(y,wa)∈rest
     ·exact h3 x y c QC LC e1 e2
     ·rcases bx hy with e|e
      ·cases e;rw[hm LC] at e2;cases e2;obtain⟨c',e3,e4,_⟩:=h1 x QC;rw[e1] at e3;obtain rfl:=oy e3;exact absurd e4 (Nat.not_succ_le_self _)
      ·exact absurd e LC
    ·rcases bx hx with e|e
     ·cases e;rw[hm QC] at e1;obtain rfl:=oy e1;by_cases LC:(y,wa)∈rest
      ·obtain⟨c',e3,e4,_⟩:=h1 y LC;rw[e2] at e3;obtain rfl:=oy e3;exact absurd e4 (Nat.not_succ_le_self _)
      ·rcases bx hy with e|e
       ·cases e;rfl
       ·exact absurd e LC
     ·exact absurd e QC
  ·have hb:(k==wa)=false:=by simpa using hk
   simp only[hb,aat,if_false];refine ox (pk ?_);refine ih cells λr h' i_ hsz h1 h2 h3=>h r h' i_ hsz (λx hx=>?_) (λx hx=>?_) (λx y c hx hy=>?_)
   ·rcases bx hx with e|e
    ·cases e;exact absurd rfl hk
    ·exact h1 x e
   ·exact h2 x λq=>hx (y0 _ q)
   ·have E6:(x,wa)∈rest:=by
     rcases bx hx with e|e
     ·cases e;exact absurd rfl hk
     ·exact e
    have MN:(y,wa)∈rest:=by
     rcases bx hy with e|e
     ·cases e;exact absurd rfl hk
     ·exact e
    exact h3 x y c E6 MN
theorem z7{scope:te}{globals:sx}{cl:List (Str×sx)}{qual:Str}{e':Ts}{Q:Ts->oC->Prop}
  (h:∀r h',(∀b o,s.heap.get? b=some o->h'.get? b=some o)->s.heap.objs.size<h'.objs.size->h'.get? s.heap.objs.size=some {cls:=.type "dict",data:=.dict #[]}->
   (∀x,(x,wa)∈scope.names->∃c,r.lookup x=some c/\s.heap.objs.size<c/\h'.get? c=some (LB none))->
   (∀x,(x,wa)∉scope.names->r.lookup x=cl.lookup x)->(∀x y c,(x,wa)∈scope.names->(y,wa)∈scope.names->r.lookup x=some c->r.lookup y=some c->x=y)->
   Q {scope,locals:=s.heap.objs.size,globals,cells:=r,qual,func:=none,code:=e'.code,frame:=e'.frame,builtins:=e'.builtins} {s with heap:=h'}):
  si M A (newFunctionEnv scope globals cl [] qual none .none (some e')) Q E s:=by
 refine ox (wpAny_alloc ?_);refine ox (BY scope.names cl λr h' hk hsz h1 h2 h3=>?_);obtain hsz:s.heap.objs.size+1<=h'.objs.size:=by
  have :(s.heap.push {cls:=.type "dict",data:=.dict #[]}).objs.size<=h'.objs.size:=hsz
  rwa [xc] at this
 refine ox (wpAny_of_eq (List.forIn_nil ..) (pk ?_));refine h r h' (λb o e=>hk b o (px _ e)) hsz (hk _ _ (tc _ rfl)) (λx hx=>?_) h2 h3;refine(h1 x hx).elim λc JN=>?_;obtain e1:=JN.1;obtain e2:=JN.2.1;obtain e3:=JN.2.2
 rw[xc] at e2;exact⟨c,e1,e2,e3⟩
end
theorem iO{env:Ts}:∀{names:List (Str×aav)} {x:Str} {k:aav},names.lookup x=some k->
  (names.map λ(n,k)=>if(k==Ap&&env.scope.kind==.function&&env.kindOf n==some .cell) then(n,wa) else(n,k)).lookup x=some k\/
  (k=.free/\(names.map λ(n,k)=>if(k==Ap&&env.scope.kind==.function&&env.kindOf n==some .cell) then(n,wa) else(n,k)).lookup x=some .cell)
 |[],aR,bV,h=>by exact nE h|(n,j)::r,x,k,h=>by
  obtain ih:=@iO env r x k;refine(?_:List.lookup x ((if(j==Ap&&env.scope.kind==.function&&env.kindOf n==some .cell)=true then(n,wa) else(n,j))::_)=_\/(_/\List.lookup x ((if(j==Ap&&env.scope.kind==.function&&env.kindOf n==some .cell)=true then(n,wa) else(n,j))::_)=_));induction hx:x==n with
  |true=>
   simp only[sT,hx] at h;obtain rfl:=oy h;by_cases hc:(j==Ap&&env.scope.kind==.function&&env.kindOf n==some .cell)=true
   ·rw[if_pos hc];simp only[vr,beq_iff_eq] at hc;simp only[sT,hx];exact .inr ⟨hc.1.1,trivial⟩
   ·rw[if_neg hc];simp only[sT,hx];exact .inl trivial
  |false=>
   simp only[sT,hx] at h;by_cases hc:(j==Ap&&env.scope.kind==.function&&env.kindOf n==some .cell)=true
   ·rw[if_pos hc];simp only[sT,hx];exact ih h
   ·rw[if_neg hc];simp only[sT,hx];exact ih h
section
variable{n:Nat}{A:tj}{E:Value->oC->Prop}{W W' ax:Wd}{H H' H₀:AH}{s s' a7 ar da:oC}{sc aB:te}{env:af}{e':Ts}
theorem oN{l:List (Str×V)}{x:Str}{v:V}(h:aY l x=some v):(x,v)∈l:=mem_of_lookup h
theorem xj{dD:List (Str×V)}{cl r:List (Str×sx)}{L:sx}{n0:Nat}{o:Nw}(LD:h_ sc=false)(gO:gI sc aB=true)(mR:fM aB env=some dD)(N:aq sc env e' W s)(Wj:s.heap.objs.size=n0)
  (hk:∀b o,s.heap.get? b=some o->s'.heap.get? b=some o)(fr:∀b,n0<=b->c8 W b)(nZ:∀x,(x,Ap)∈aB.names->cl.lookup x=e'.cells.lookup x)
  (gL:s'.heap.get? L=some {cls:=.type "dict",data:=.dict #[]})(hL:n0<=L)
  (h1:∀x,(x,wa)∈aB.names->∃c,r.lookup x=some c/\L<c/\s'.heap.get? c=some (LB none))(h2:∀x,(x,wa)∉aB.names->r.lookup x=cl.lookup x)
  (h3:∀x y c,(x,wa)∈aB.names->(y,wa)∈aB.names->r.lookup x=some c->r.lookup y=some c->x=y)(glob:e'.globals=mainGlobals):
  aq aB dD {scope:=relabel aB e',locals:=L,globals:=e'.globals,cells:=r,qual:=e'.qual,func:=none,code:=e'.code,frame:=e'.frame,builtins:=e'.builtins} W s'/\
  (∀y,kindOf aB y=some .free->∃c,r.lookup y=some c/\c<n0):=by
 refine(fV gO).elim λBZ z=>z.elim λnd z=>z.elim λYB oM=>?_
 obtain⟨c1,c2⟩:=gT mR;have Io:∀x k,kindOf aB x=some k->(x,k)∈aB.names:=λx k h=>mem_of_lookup h
 have Wl:∀x k,(x,k)∈aB.names->kindOf aB x=some k:=λx k h=>b8 nd h
 have NR:∀x v,aY dD x=some v->kindOf aB x=some .free/\aY env x=some v:=λx v h=>by
  refine(c2 x v (oN h)).elim λg1 g2=>?_
  exact⟨Wl _ _ g1,g2⟩
 have NS:∀x,kindOf aB x≠some .free->aY dD x=none:=λx h=>by
  induction e:aY dD x with |none=>rfl|some v=>exact absurd (NR x v e).1 h
 have B3:∀x,kindOf aB x=some .free->r.lookup x=e'.cells.lookup x:=λx h=>by
  obtain hn:(x,wa)∉aB.names:=λq=>by have :=Wl _ _ q;rw[h] at this;exact nomatch this
  simp only[h2 x hn,nZ x (Io _ _ h)]
 have old:∀x,kindOf aB x=some .free->∃v c o y,aY env x=some v/\e'.cells.lookup x=some c/\s.heap.get? c=some o/\o.data=.cell (some y)/\Rel W v y/\(W.Z c=some o\/(G.C.wo x=false/\W.own c=none/\¬G.fR c)):=λx h=>by
  refine(c1 x (Io _ _ h)).elim λv z=>z.elim λhv a=>?_
  rcases(oM x (Io _ _ h)).1 with hs|hs
  ·refine(N.cells x hs).elim λc NT=>?_;refine NT.elim λo NU=>?_;refine NU.elim λu qS=>?_;obtain g1:=qS.1;obtain g2:=qS.2.1;obtain g3:=qS.2.2.1;obtain g4:=qS.2.2.2.1;obtain g5:=qS.2.2.2.2.1;obtain g6:=qS.2.2.2.2.2
   rw[hv] at g6;obtain⟨⟨y,rfl,ry⟩,hz⟩:=g6;refine⟨v,c,o,y,hv,g1,g2,g4,ry,?_⟩;by_cases hw:G.C.wo x=true
   ·rw[if_pos hw] at hz;exact .inl hz
   ·exact .inr ⟨by simpa using hw,g5,g3⟩
  ·refine(N.frees x v hs hv).elim λc NV=>?_;refine NV.elim λo NW=>?_;refine NW.elim λy uT=>?_;obtain g1:=uT.1;obtain g2:=uT.2.1;obtain g4:=uT.2.2.1;obtain g5:=uT.2.2.2.1;obtain g6:=uT.2.2.2.2.2
   exact⟨v,c,o,y,hv,g1,g2,g4,g5,g6⟩
 obtain fL:=fr L hL;refine⟨⟨BZ,glob,N.builtins,λa=>N.code LD,λx k h cG=>?_,?_,λx hx=>?_,λx v hx hv=>?_,λx y c hx hy e1 e2=>?_⟩,λy hy=>?_⟩
 ·exact iO h
 ·refine⟨_,#[],0,λa=>none,gL,fL.2.2,rfl,⟨_,_,_,gL,rfl,λe he=>by simp at he,λx=>rfl⟩,fL.1,fL.2.1,λx v hx hv=>?_⟩;rw[NS x (by rw[hx];intro h;exact nomatch h)] at hv;exact nE hv
 ·refine(h1 x (Io _ _ hx)).elim λc B4=>?_;obtain g1:=B4.1;obtain g2:=B4.2.1;obtain g3:=B4.2.2
  obtain fc:=fr c (vb hL (y7 g2));refine⟨c,_,none,g1,g3,fc.2.2,rfl,fc.1,?_⟩;rw[NS x (by rw[hx];intro h;exact nomatch h)];exact fc.2.1
 ·obtain⟨v',c,o',y,g1,g2,g3,g4,g5,g6⟩:=old x hx;have BC:=(NR x v hv).2;rw[g1] at BC;obtain rfl:=oy BC;exact⟨c,o',y,by rw[<-g2];exact B3 x hx,hk _ _ g3,g4,g5,by simpa using (oM x (Io _ _ hx)).2,g6⟩
 ·obtain⟨c',q1,q2,_⟩:=h1 x (Io _ _ hx);rw[e1] at q1;obtain rfl:=oy q1;rcases hy with hy|hy
  ·exact h3 x y c (Io _ _ hx) (Io _ _ hy) e1 e2
  ·obtain⟨v',c',o',z,g1,g2,g3,_⟩:=old y hy;rw[B3 y hy,g2] at e2;obtain rfl:=oy e2;have :=ti g3
   rw[Wj] at this;exact absurd (xp this hL) (vi (y7 q2))
 ·refine(old y hy).elim λv' NX=>?_;refine NX.elim λc' NY=>?_;refine NY.elim λo' NZ=>?_;refine NZ.elim λz B6=>?_;obtain g1:=B6.1;obtain g2:=B6.2.1;obtain g3:=B6.2.2.1
  exact⟨c',by rw[B3 y hy];exact g2,by have :=ti g3;rw[Wj] at this;exact this⟩
end
noncomputable def sX(out:Out):Sem Value:=match out with |.e _=>newList []|.kv _ _=>newDict
def sY(out:Out):Nw:=match out with |.e _=>ja #[] 0|.kv _ _=>dO #[] 0
section
variable{n:Nat}{A:tj}{E:Value->oC->Prop}{W W' ax:Wd}{H H' H₀:AH}{s s' a7 ar da:oC}{sc aB:te}{env:af}{e':Ts}
theorem z8{M:Model}{out:Out}{Q:Value->oC->Prop}(h:Q (.ref s.heap.objs.size) {s with heap:=s.heap.push (sY out)}):si M A (sX out) Q E s:=by
 induction out with |e x=>exact B1 h (by show(0:Nat)<=sizeLine;exact zr _)|kv k v=>exact B1 h
theorem B7{out:Out}{a:sx}(g:s.heap.get? a=some (sY out))(h0:a≠sysModules):jk W s a out.start:=by
 induction out with |e x=>exact⟨#[],0,g,by show 0<ai;decide,by trivial⟩|kv k v=>exact⟨#[],0,g,h0,by simp,by show 0<ai;decide,by trivial⟩
end
section
variable{n:Nat}{A:tj}{E:Value->oC->Prop}{W W' ax du:Wd}{H H' H₀:AH}{s s' a7 ar da dA:oC}{sc aB:te}{env:af}{e':Ts}
def z9(c:Bool):Acc->M V
|.l vs=>if c then iA (.lst vs) else pure (.lst vs)
|.d kvs=>if c then iA (.aE kvs) else pure (.aE kvs)
theorem uU{X:sx->Prop}{c:Bool}{ac:Acc}{v:V}{a:sx}{H₁:AH}(h:z9 c ac H=some (v,H₁))(P:ah ax H₀ a7 X W H s)(f:c8 W a)(ha:a7.heap.objs.size<=a)(hA:jk W s a ac):
  ∃W',ah ax H₀ a7 X W' H₁ s/\W.Le W'/\Rel W' v (.ref a)/\∀b,b≠a->c8 W b->c8 W' b:=by
 induction ac with
 |l vs=>obtain⟨ys,m,g,hl,r⟩:=hA;exact z6 h P f ha g hl r
 |d kvs=>obtain⟨es,m,g,h0,nd,hl,r⟩:=hA;exact lA h P f ha g h0 nd hl r
theorem N1(N:aq sc env e' W s){b:sx}(h:ck sc e' b):b<s.heap.objs.size:=by
 rcases h with rfl|⟨y,hy,hl⟩
 ·obtain⟨o,_,_,_,h1,_⟩:=N.locals;exact ti h1
 ·obtain⟨c,oc,u,h1,h2,_⟩:=N.cells y hy;rw[hl] at h1;obtain rfl:=oy h1;exact ti h2
end
def B8:Prop:=∀{A:tj} {E:Value->oC->Prop} {W:Wd} {H H':AH} {s:oC} {vs:List V} {xs:List Value} {v:V},fN vs H=some (v,H')->aN W H s->aG W vs xs->A.handled=none->si gM A (xi (.builtin "sorted") xs) (λz=>bf W H s aQ H' λW' a=>Rel W' v z) E s
section
variable{n:Nat}{A:tj}{E:Value->oC->Prop}{W W':Wd}{H H':AH}{s s':oC}{sc:te}{env:af}{e':Ts}
end
end Mine
end
noncomputable section
end
noncomputable section
open PySem PySem.W PySem.Builtin PySem.Builtin.Str PyProof.Rows
namespace Mine
theorem B9{α:Type}{cmp:Nat->Nat->(Bool->oC->Prop)->oC->Prop}{hU:Nat->Nat->Option Bool}{s:oC}(hc:∀i j b (C:Bool->oC->Prop),hU i j=some b->C b s->cmp i j C s){Q:α->oC->Prop}:
  ∀(t:KasT α) {a:α},runK hU t=some a->Q a s->t.kasWp cmp Q s
 |.ret x,a,h,hq=>by obtain rfl:=oy h;exact hq
 |.ask i j k,a,h,hq=>by
  unfold runK at h;induction hb:hU i j with
  |none=>obtain h:=hb▸h;exact nE h
  |some b=>rw[hb] at h;exact hc i j b _ hb (B9 hc (k b) h hq)
section
variable{A:tj}{E:Value->oC->Prop}{W W':Wd}{H H':AH}{s s':oC}
theorem eX:∀{vs:List V} {xs:List Value} {i:Nat} {v:V},aG W vs xs->vs[i]?=some v->∃x,xs[i]?=some x/\Rel W v x
|[],[],i,v,aR,h=>by simp at h|u::vs,x::xs,0,v,r,h=>by simp at h;subst h;exact⟨x,rfl,r.1⟩|u::vs,x::xs,i+1,v,r,h=>by
 refine(eX r.2 (h)).elim λy z=>z.elim λhy ry=>?_
 exact⟨y,by exact hy,ry⟩
|[],aR::bV,i,v,r,iq=>xk r|aR::bV,[],i,v,r,iq=>xk r
theorem z_{vs:List V}{xs:List Value}(r:aG W vs xs)(i:Nat):Rel W (vs.getD i .none) (xs.getD i .none):=by
 induction h:vs[i]? with
 |some v=>
  refine(eX r h).elim λx z=>z.elim λhx rx=>?_
  simp only[tv,tv,h,hx];exact rx
 |none=>
  obtain h2:xs[i]?=none:=by obtain this:=r.length;rw[List.getElem?_eq_none_iff] at h⊢;exact aW (nat_lit 9289911199871234) ae this h
  simp only[tv,tv,h,h2];rfl
theorem jL{vs:List V}{xs:List Value}(r:aG W vs xs):∀(p:List Nat),aG W (p.map λi=>vs.getD i .none) (p.map λi=>xs.getD i .none)|[]=>by trivial|i::p=>by exact⟨z_ r i,jL r p⟩
theorem jM{ks:List V}{i j:Nat}{b:Bool}(h:sortAns ks i j=some b):∃u v,ks[i]?=some u/\ks[j]?=some v/\LW bj u v=some b:=by
 have h:(match ks[i]?,ks[j]? with |some a,some b=>LW bj a b|_,_=>none)=some b:=h;induction h1:ks[i]? with |none=>rw[h1] at h;exact nE h|some a=>induction h2:ks[j]? with |none=>rw[h1,h2] at h;exact nE h|some c=>rw[h1,h2] at h;exact⟨a,c,rfl,rfl,h⟩
theorem l9{vs:List V}{xs:List Value}(r:aG W vs xs){x:Value}(hx:x∈xs):∃v∈vs,Rel W v x:=by
 refine(List.getElem?_of_mem hx).elim λi hi=>?_
 have hl:=r.length;have cF:=(eI hi).1
 obtain hv:vs[i]?=some vs[i]:=sg (by omega);refine(eX r hv).elim λy Qm=>?_;obtain hy:=Qm.1;obtain ry:=Qm.2
 rw[hi] at hy;obtain rfl:=oy hy;exact⟨_,FC _,ry⟩
def sZ(A:tj)(ks:List V)(vs:List Value)(s:oC):Prop:=∃κ,(∀(Q:SortKind->oC->Prop) (E:Value->oC->Prop),Q κ s->si gM A (keyKind' vs.toArray) Q E s)/\∀i j b (C:Bool->oC->Prop),sortAns ks i j=some b->C b s->kas_ask G.prog G.w A κ vs i j C s
theorem getD_at{xs:List Value}{i:Nat}{x:Value}(h:xs[i]?=some x):xs.getD i Value.none=x:=by simp only[tv,h];rfl
theorem B_{ks:List V}{vs:List Value}(hk:ks.all EO=true)(r:aG W ks vs)(h2:2<=vs.length):sZ A ks vs s:=by
 have hint:∀v x,EO v=true->Rel W v x->∃i t,v=.int i/\x=.int i t:=λv x h r=>by induction v using V.casesOn<;>first|(obtain⟨t,rfl⟩:=r;exact⟨_,t,rfl,rfl⟩)|exact bE h
 refine⟨oneType',λQ E hq=>kas_kind (T:=.type "int") h2 (λx hx=>?_) rfl rfl hq,λi j b C h hC=>?_⟩
 ·obtain⟨v,hv,rv⟩:=l9 r hx;obtain⟨i,t,rfl,rfl⟩:=hint v x (cj hk v hv) rv;exact Looks.of_pure rfl
 ·obtain⟨u,v,hu,hv,hl⟩:=jM h;obtain⟨x,hx,rx⟩:=eX r hu;obtain⟨y,hy,ry⟩:=eX r hv;obtain⟨p,t,rfl,rfl⟩:=hint u x (cj hk u (Fn hu)) rx;obtain⟨q,t',rfl,rfl⟩:=hint v y (cj hk v (Fn hv)) ry;unfold kas_ask;simp only[getD_at hx,getD_at hy];obtain rfl:=oy hl;exact kat_lt_int hC
theorem keys_str{ks:List V}{vs:List Value}(hk:ks.all EP=true)(r:aG W ks vs)(h2:2<=vs.length):sZ A ks vs s:=by
 have JO:∀v x,EP v=true->Rel W v x->∃i t,v=.str i/\x=.str i t:=λv x h r=>by induction v using V.casesOn<;>first|(obtain⟨_,t,rfl⟩:=r;exact⟨_,t,rfl,rfl⟩)|exact bE h
 refine⟨oneType',λQ E hq=>kas_kind (T:=.type "str") h2 (λx hx=>?_) rfl rfl hq,λi j b C h hC=>?_⟩
 ·obtain⟨v,hv,rv⟩:=l9 r hx;obtain⟨i,t,rfl,rfl⟩:=JO v x (cj hk v hv) rv;exact Looks.of_pure rfl
 ·obtain⟨u,v,hu,hv,hl⟩:=jM h;obtain⟨x,hx,rx⟩:=eX r hu;obtain⟨y,hy,ry⟩:=eX r hv;obtain⟨p,t,rfl,rfl⟩:=JO u x (cj hk u (Fn hu)) rx;obtain⟨q,t',rfl,rfl⟩:=JO v y (cj hk v (Fn hv)) ry;unfold kas_ask;simp only[getD_at hx,getD_at hy];obtain rfl:=oy hl;exact kas_lt_str hC
theorem Ca{ks:List V}{vs:List Value}(h:ks.all ER=true)(r:aG W ks vs)(hz:∀b o,W.Z b=some o->s.heap.get? b=some o):∃fs,KatTups s.heap vs fs/\fs.length=vs.length/\∀f∈fs,∃x t,f=.str x t:=by
 induction ks generalizing vs with
 |nil=>induction vs with |nil=>exact⟨[],.nil,rfl,λa h=>nomatch h⟩|cons _ _=>exact r.elim
 |cons k ks ih=>induction vs with
  |nil=>exact r.elim|cons x xs=>
   obtain h:=a_ h;refine(ih h.2 r.2).elim λfs z=>z.elim λh1 z=>z.elim λh2 h3=>?_
   obtain hp:=h.1;refine(aaI.mp hp).elim λp hp=>?_
   obtain⟨_,t,ys,n,t1,t2,rfl,g,e⟩:=j9 hp r.1;refine⟨.str p.1 t1::fs,.cons (hz _ _ g) rfl rfl (by rw[<-xv,e];rfl) h1,congrArg (·+1) h2,λf hf=>(bx hf).elim (λe=>e▸⟨_,_,rfl⟩) (h3 f)⟩
theorem Cb{ks:List V}{vs:List Value}(hk:ks.all ER=true)(r:aG W ks vs)(hz:∀b o,W.Z b=some o->s.heap.get? b=some o)(h2:2<=vs.length):sZ A ks vs s:=by
 obtain⟨fs,h1,hl,h3⟩:=Ca hk r hz;refine⟨tuples' (Value.type "str"!=Value.type "tuple"),λQ E hq=>kat_kind h1 (aL (nat_lit 0x91110311290102) ae h2 hl) (λf hf=>?_) (by decide) hq,λi j b C h hC=>?_⟩
 ·obtain⟨x,t,rfl⟩:=h3 f hf;exact Looks.of_pure rfl
 ·obtain⟨u,v,hu,hv,hl⟩:=jM h;obtain⟨x,hx,rx⟩:=eX r hu;obtain⟨y,hy,ry⟩:=eX r hv;obtain⟨p,hp⟩:=aaI.mp (cj hk u (Fn hu):(iC u).isSome=true);obtain⟨q,hq⟩:=aaI.mp (cj hk v (Fn hv):(iC v).isSome=true);obtain⟨e1,t,xs,n,t1,t2,rfl,g,ex⟩:=j9 hp rx;obtain⟨e2,t',ys,n',u1,u2,rfl,g',ey⟩:=j9 hq ry;have hl:some (bif p.1==q.1 then bif p.2==q.2 then false else strLt p.2 q.2 else strLt p.1 q.1)=some b:=by rw[e1,e2] at hl;exact hl
  obtain rfl:=oy hl;unfold kas_ask;rw[getD_at hx,getD_at hy];refine kat_lt (hz _ _ g) rfl (hz _ _ g') rfl ?_;rw[ex,ey,show decide (xs.size<ys.size)=false by rw[<-D2,<-D2,ex,ey];rfl];refine kat_cons (eqBool_str (kat_go (λe=>kat_yes (kat_cons (eqBool_str (kat_go (λe'=>kat_yes (kat_nil ?_)) λe'=>kat_no (kat_one _ _ (P.lt_str ?_)))))) λe=>kat_no (oneLt_str ?_)))
  ·rw[e,e'] at hC;exact hC
  ·rw[e,e'] at hC;exact hC
  ·rw[e] at hC;exact hC
theorem yz{ks:List V}{vs:List Value}(hk:sortable ks=true)(r:aG W ks vs)(hz:∀b o,W.Z b=some o->s.heap.get? b=some o)(h2:2<=vs.length):sZ A ks vs s:=by
 simp only[sortable,Bool.or_eq_true] at hk;rcases hk with hk|hk|hk
 ·exact B_ hk r h2
 ·exact keys_str hk r h2
 ·exact Cb hk r hz h2
theorem yC{ks:List V}{kvs vs:List Value}{p:Array Nat}{κ:SortKind}(hl:kvs.length=vs.length)(h2:2<=vs.length)(A4:vs.length<64)
  (ha:∀i j b (C:Bool->oC->Prop),sortAns ks i j=some b->C b s->kas_ask G.prog G.w A κ kvs i j C s)(hr:runK (sortAns ks) (kas_sort vs.length)=some p):
  si gM A ((sortRuns').run (SortSt.mk' κ (kvs.toArray.zip vs.toArray) #[] 7 none)) (λr s'=>s'=s/\(arrOf r.2).map (·.2)=aaF (p.toList.map λi=>vs.getD i Value.none)/\failedOf r.2=none/\p.size=vs.length) E s:=by
 refine kat_run (Q:=λst s'=>s'=s/\(arrOf st).map (·.2)=aaF (p.toList.map λi=>vs.getD i Value.none)/\failedOf st=none/\p.size=vs.length) (G:=λq s'=>q=p/\s'=s) hl h2 A4 ?_ ?_
 ·rintro q st s' hq N2 hf ⟨rfl,rfl⟩;exact⟨rfl,kat_snds hl N2,hf,hq⟩
 ·exact B9 ha _ hr ⟨rfl,rfl⟩
end
section
variable{A:tj}{E:Value->oC->Prop}{s:oC}
end
section
variable{n:Nat}{A:tj}{E:Value->oC->Prop}{W W':Wd}{H H':AH}{s s':oC}{sc:te}{env:af}{e':Ts}
theorem s6{v:V}{xs:List V}(h:j5 v H=some (xs,H')):H'=H:=by
 induction v using V.casesOn with |lst xs=>exact(cC h).2|_=>exact nE h
theorem oO{v:V}{xs:List V}{z:Value}(h:j5 v H=some (xs,H'))(S:aN W H s)(r:Rel W v z)(hh:A.handled=none)(hl:xs.length<64){Q:List Value->oC->Prop}
  (hQ:∀h' tk vs,(∀b o,s.heap.get? b=some o->h'.get? b=some o)->aG W xs vs->Q vs {s with heap:=h',toks:=tk}):
  si gM A (collect z) Q E s:=by
 induction v using V.casesOn with
 |lst ys=>
  obtain⟨rfl,rfl⟩:=cC h;obtain⟨l,m,ys,rfl,hz,_,rs⟩:=r;obtain el:=rs.length;refine sU (hsz:=by exact aL (nat_lit 0x10000007f10140e011103102) ae el hl) l (.inl rfl) (S.z _ _ hz) rfl rfl λh' a hk=>?_
  exact hQ h' s.toks _ hk rs
 |_=>exact nE h
theorem fW{ks xs:List V}{v:V}(h:bO ks xs=some v):∃out,v=.lst out/\(xs.length<2->out=xs)/\
  (¬xs.length<2->xs.length<64/\sortable ks=true/\∃p,runK (sortAns ks) (kas_sort xs.length)=some p/\out=p.toList.map λi=>xs.getD i .none):=by
 unfold bO at h;refine aaN (p:=xs.length<2) (λh2=>?_) λh2=>?_
 ·rw[if_pos h2] at h;obtain rfl:=oy h;exact⟨xs,rfl,λa=>rfl,λh=>absurd h2 h⟩
 ·rw[if_neg h2] at h;by_cases h3:(decide (xs.length<64)&&sortable ks)=true
  ·rw[if_pos h3] at h;refine(gF h).elim λp N3=>?_;obtain hp:=N3.1;obtain TF:=N3.2;subst TF
   simp only[vr,decide_eq_true_eq] at h3;exact⟨_,rfl,λh=>absurd h h2,λa=>⟨h3.1,h3.2,p,hp,rfl⟩⟩
  ·rw[if_neg h3] at h;exact nE h
theorem pY{a:sx}{vs:List Value}{xs:List V}{m:Nat}{out:List V}{Pq:RR->oC->Prop}(h:bO xs xs=some (.lst out))(rs:aG W xs vs)(hl:xs.length<64)(ho:s.heap.get? a=some (seqObj "list" vs.toArray m))
  (hz:∀b o,W.Z b=some o->s.heap.get? b=some o)(TG:W.Z a=none)
  (hP:∀outs h',(∀b o,b≠a->s.heap.get? b=some o->h'.get? b=some o)->(∃m',h'.get? a=some (seqObj "list" outs m'))->aG W out outs.toList->out.length<64->Pq (.done (.ret .none)) {s with heap:=h'}):
  si gM A (Builtin.«list.sort» ⟨[.ref a],[]⟩) Pq E s:=by
 have el:=rs.length;rw[list_sort_plain];refine ox (listItems_at ho rfl ?_);refine ox (listUpdate_at ho rfl ?_ (by rw[H0,aak];exact aL (nat_lit 0x10000007f10140e011103102) ae el hl) (zr _));obtain⟨e1,EA⟩:∃e1,(s.heap.update a (y6 λc=>#[])).get? a=some (seqObj "list" #[] e1):=⟨_,get?_update_seq ho (λc=>#[])⟩;refine ox (seqEpoch_at EA rfl ?_);refine ox (wpAny_newTuple ?_ (by show vs.length<=_;rw[aak];exact aL (nat_lit 0x10000007f10140e011103102) ae el hl));refine ox (wpAny_newList ?_ (zr _));refine ub ?_;obtain N4:(((s.heap.update a (y6 λc=>#[])).push (seqObj "tuple" vs.toArray 0)).push (seqObj "list" #[] 0)).get? a=some (seqObj "list" #[] e1):=px _ (px _ EA);obtain Ip:=λb o hb e=>px _ (px _ ((Hn _ _ (aaJ hb)).trans e))
 dsimp only;have fin:∀outs:Array Value,∃m',((((s.heap.update a (y6 λc=>#[])).push (seqObj "tuple" vs.toArray 0)).push (seqObj "list" #[] 0)).update a (y6 λc=>outs)).get? a=some (seqObj "list" outs m'):=λouts=>⟨_,get?_update_seq N4 _⟩
 have Iq:∀(outs:Array Value) b o,b≠a->s.heap.get? b=some o->((((s.heap.update a (y6 λc=>#[])).push (seqObj "tuple" vs.toArray 0)).push (seqObj "list" #[] 0)).update a (y6 λc=>outs)).get? b=some o:=λouts b o hb e=>(Hn _ _ (aaJ hb)).trans (Ip b o hb e)
 have hsz:vs.toArray.size=vs.length:=by rfl
 obtain⟨N5,e,q1,q2⟩:=fW h;cases e;by_cases h2:vs.toArray.size<2
 ·rw[if_pos h2,if_pos h2]
  obtain this:=q1 (aW (nat_lit 0x29211290111031122103) ae el hsz h2);induction this;refine ox (pk ?_);refine ox (pk ?_);dsimp only;obtain eo:(Array.map (λx=>x.snd) (arrOf (SortSt.mk' general' (vs.toArray.zip vs.toArray) #[] 7 none)))=vs.toArray:=by
   show Array.map (λx=>x.snd) (vs.toArray.zip vs.toArray)=vs.toArray;apply Array.ext
   ·simp
   ·intro i h1 h2;simp
  rw[eo];refine ox (seqEpoch_at N4 rfl ?_);refine ox (listUpdate_at N4 rfl ?_ (zr _) (by rw[H0,aak];exact aL (nat_lit 0x1910000007f810129011103102) ae hsz h2));simp only[bne_self_eq_false,aat,if_false];exact pk (hP vs.toArray _ (Iq _) (fin _) (rs) hl)
 ·rw[if_neg h2,if_neg h2];obtain⟨A4,hs,p,hp,rfl⟩:=q2 (by simp_all)
  obtain⟨κ,hk,JP⟩:=yz (s:={s with heap:=((s.heap.update a (y6 λc=>#[])).push (seqObj "tuple" vs.toArray 0)).push (seqObj "list" #[] 0)}) hs rs
   (λb o hb=>Ip b o (λq=>by rw[q,TG] at hb;exact nE hb) (hz b o hb)) (aL (nat_lit 0x1290110212905102) ae h2 hsz)
  refine ox (hk _ _ ?_);rw[el] at hp;refine ox (wb (yC rfl (aL (nat_lit 0x1290110212905102) ae h2 hsz) (aL (nat_lit 0x40e11140e011103102) ae el A4) JP hp) ?_ λc c e=>e);rintro⟨⟨⟩,JI⟩ s' ⟨rfl,N2,hf,Ex⟩;have TH:=N2
  rw[TH];refine ox (seqEpoch_at N4 rfl ?_);refine ox (listUpdate_at N4 rfl ?_ (zr _) (by rw[H0,ph,D2,Ex,aak];exact aL (nat_lit 0x1910000007f810140e011103102) ae el A4));rw[hf];simp only[bne_self_eq_false,aat,if_false];exact pk (hP _ _ (Iq _) (fin _) (jL rs p.toList) (by rw[ph,D2,Ex];exact aL (nat_lit 0x40e11140e011103102) ae el A4))
theorem Aa:B8:=by
 intro A E W H H' s vs xs v h S rs hh;induction vs using List.casesOn with
 |nil=>exact nE h|cons v0 rest=>
  induction rest using List.casesOn with
  |cons _ _=>exact nE h|nil=>
   obtain⟨z,rfl,rz⟩:=dI rs;refine cY h λus H₁ h1 h2=>?_
   obtain h3:=(nS h2).1;obtain TJ:=(nS h2).2;subst TJ;obtain this:=s6 h1;subst this;refine(fW h3).elim λout mQ=>?_;obtain w9:=mQ.1;obtain q1:=mQ.2.1;obtain q2:=mQ.2.2;subst w9
   have hl:us.length<64:=by
    by_cases hs:us.length<2
    ·exact aS (nat_lit 0x40e0112901101) ae hs
    ·exact(q2 hs).1
   refine Calls.call_function_entry kind_sorted plain_sorted entry_sorted (args_sorted1 _) ?_;refine ox (pk ?_);refine ox (bN (oO h1 S rz (by exact hh) hl λh' tk vs hk rs yy=>?_));obtain el:=rs.length;refine ox (wpAny_newList ?_ (by exact aL (nat_lit 0x10000007f10140e011103102) ae el hl));refine ox (ub (PQ slot_list_sort ⟨_,tc _ rfl,rfl⟩ entry_list_sort (pY h3 rs hl (tc _ rfl) (λb o hb=>px _ (hk b o (S.z b o hb))) (S.iG yy) λouts BH FW hg ro Ir=>⟨_,rfl,?_⟩) (args_list_sort _)));refine hg.elim λm' hg=>?_
   obtain Ir:out.length<ai:=X2 Ir (by decide);refine pk ⟨_,rfl,kB (c:=false) rfl S yy (λb o e=>FW b o (λq=>absurd (ti e) (by rw[q];exact vi yy)) (px _ (hk b o e))) hg Ir ro⟩
end
theorem bC.YC{A:tj}{n:Nat}(h:bC A (n+1)):bC A.in1.in1 n:=⟨h.handled,by have :=h.depth;simp only[tj.in1_depth];exact aW (nat_lit 0x21081121918081101) ae this,by obtain this:=h.units;simp only[tj.in1_units];exact aW (nat_lit 0x21ca191908881121918ca081101) ae this⟩
section
variable{n:Nat}{A:tj}{E:Value->oC->Prop}{W W':Wd}{H H':AH}{s s':oC}{sc:te}{env:af}{e':Ts}
structure iP(ax:Wd)(H₀:AH)(a7:oC)(l kS:sx)(e1:Nat)(ks:List V)(W:Wd)(H:AH)(t:oC):Prop where
 post:ah ax H₀ a7 aQ W H t
 gl:t.heap.get? l=some (seqObj "list" #[] e1)
 gk:∃keys e,t.heap.get? kS=some (seqObj "list" keys e)/\aG W ks keys.toList
 fl:c8 W l
 fk:c8 W kS
 ll:a7.heap.objs.size<=l
 lk:a7.heap.objs.size<=kS
 ne:l≠kS
theorem iP.step{ax:Wd}{H₀ H₁:AH}{a7 t t':oC}{l kS:sx}{e1:Nat}{ks:List V}{k:V}{x:Value}(K:iP ax H₀ a7 l kS e1 ks W H t)(dy:aN ax H₀ a7)(P:ah W H t aQ W' H₁ t')(r:Rel W' k x):
  ∃keys e,t'.heap.get? kS=some (seqObj "list" keys e)/\keys.size=ks.length/\iP ax H₀ a7 l kS e1 (ks++[k]) W' H₁ {t' with heap:=t'.heap.update kS (y6 (·.push x))}:=by
 refine K.gk.elim λkeys z=>z.elim λe z=>z.elim λgk rk=>?_
 obtain el:=rk.length;obtain YD:=P.keep _ _ K.gl K.fl.2.2 (λj hj=>by rw[K.fl.1] at hj;exact nE hj) (λh=>h);obtain Wm:=P.keep _ _ gk K.fk.2.2 (λj hj=>by rw[K.fk.1] at hj;exact nE hj) (λh=>h);obtain YE:=K.fl.post P (ti K.gl) (λh=>h);obtain Wn:=K.fk.post P (ti gk) (λh=>h);obtain aa:=K.post.trans dy P;obtain ab:ah W' H₁ t' (λa=>a=kS) W' H₁ {t' with heap:=t'.heap.update kS (y6 (·.push x))}:=ah.free aa.sim (λa ha=>by cases ha;exact Wn) (λb o hb ho=>(Hn _ _ (aaJ hb)).trans ho) (by rw[xI.size_update];exact pd _) rfl rfl;refine⟨keys,e,Wm,el.symm,⟨((aa.wk λc h=>h.elim).trans dy ab).drop λa ha=>.inr (by cases ha;exact K.lk),(Hn _ _ K.ne.symm).trans YD,⟨_,_,get?_update_seq Wm _,?_⟩,YE,Wn,K.ll,K.lk,K.ne⟩⟩;rw[Array.toList_push];exact(rk.mono P.le).append (⟨r,trivial⟩)
end
section
variable{n:Nat}{A:tj}{E:Value->oC->Prop}{W W':Wd}{H H':AH}{s s':oC}{sc:te}{env:af}{e':Ts}
theorem FY{ax:Wd}{H₀:AH}{a7:oC}{l kS:sx}{e1:Nat}{ks xs out:List V}{vs:List Value}{Pq:RR->oC->Prop}(K:iP ax H₀ a7 l kS e1 ks W H s)(dy:aN ax H₀ a7)(hl:ks.length=xs.length)
  (rs:aG W xs vs)(A4:xs.length<64)(h:bO ks xs=some (.lst out))
  (hP:∀W' t,ah ax H₀ a7 aQ W' H t->Rel W' (.lst out) (.ref l)->Pq (.done (.ret .none)) t):
  si gM A (do
   let keys<-Builtin.List.listItems (.ref kS)
   ksk_end l false vs.toArray e1 (.ref kS) keys) Pq E s:=by
 obtain⟨keys,e,gk,rk⟩:=K.gk;obtain el:=rs.length;obtain ek:=rk.length;simp only[D2] at ek;have S:=K.post.sim
 have fin:∀(outs:List Value) (st:SortSt),aG W out outs->out.length<64->(arrOf st).map (·.2)=aaF outs->failedOf st=none->si gM A (ksk_tail l false e1 (.ref kS) st) Pq E s:=by
  intro outs st ro ho TL hf;obtain eo:=ro.length;unfold ksk_tail;have N6:=TL
  rw[N6];have TM:(s.heap.update kS (y6 λc=>(#[]:Array Value))).get? l=some (seqObj "list" #[] e1):=(Hn _ _ K.ne.symm).trans K.gl
  refine ox (listUpdate_at gk rfl ?_ (by rw[aak];exact aW (nat_lit 0x10000007f10140e2112021103103) ae ek hl A4) (zr _));refine ox (wpAny_letGo ?_);refine ox (seqEpoch_at TM rfl ?_);refine ox (listUpdate_at TM rfl ?_ (zr _) (by show outs.toArray.size<=_;rw[H0,aak];exact aL (nat_lit 0x1910000007f810140e011103102) ae eo ho));rw[hf];simp only[bne_self_eq_false,aat,if_false];obtain⟨m',hg⟩:∃m',((s.heap.update kS (y6 λc=>(#[]:Array Value))).update l (y6 λc=>aaF outs)).get? l=some (seqObj "list" (aaF outs) m'):=⟨_,get?_update_seq TM _⟩
  obtain ab:ah W H s (λa=>a=l\/a=kS) W H {s with heap:=(s.heap.update kS (y6 λc=>(#[]:Array Value))).update l (y6 λc=>aaF outs)}:=
   ah.free S (λa ha=>ha.elim (λq=>q▸K.fl) (λq=>q▸K.fk)) (λb o hb ho=>(Hn _ _ (λq=>hb (.inl q.symm))).trans ((Hn _ _ (λq=>hb (.inr q.symm))).trans ho))
    (by rw[xI.size_update,xI.size_update];exact pd _) rfl rfl
  obtain a8:ah ax H₀ a7 aQ W H {s with heap:=(s.heap.update kS (y6 λc=>(#[]:Array Value))).update l (y6 λc=>aaF outs)}:=((K.post.wk λc h=>h.elim).trans dy ab).drop λa ha=>.inr (ha.elim (λq=>q▸K.ll) (λq=>q▸K.lk))
  obtain bt:=a8.xg K.fl K.ll hg;refine pk (hP _ _ bt ?_);obtain L:W.Le (W.add l (seqObj "list" (aaF outs) m')):=⟨λb o hb=>by show(if b=l then some _ else W.Z b)=some o;rw[if_neg (λq=>by rw[q,K.fl.2.1] at hb;exact nE hb)];exact hb,λc c h=>h⟩;exact⟨l,m',_,rfl,Wd.bg ..,X2 ho (by decide),by exact ro.mono L⟩
 refine ox (listItems_at gk rfl ?_);unfold ksk_end
 try dsimp only
 obtain⟨N5,YF,q1,q2⟩:=fW h;obtain rfl:=V.lst.inj YF;by_cases h2:vs.toArray.size<2
 ·rw[if_pos h2,if_pos h2];have N7:vs.length<2:=by exact h2
  obtain this:=q1 (aL (nat_lit 0x2911129011012102) ae el N7);subst this;refine ox (pk ?_);refine ox (pk ?_);refine fin vs _ rs A4 ?_ rfl;show Array.map (λx=>x.snd) (keys.zip vs.toArray)=vs.toArray;apply Array.ext
  ·simp;omega
  ·intro i h1 h2;simp
 ·rw[if_neg h2,if_neg h2];have N7:¬vs.length<2:=by simpa using h2
  obtain⟨_,hs,p,hp,rfl⟩:=q2 (aL (nat_lit 0x909612911101312905103) ae N7 el);obtain ekv:keys.toList.toArray=keys:=by simp
  obtain⟨κ,hk,JP⟩:=yz hs rk S.z (by simp only[D2];exact e9 (nat_lit 0x229012121313103312905104) ae N7 el hl ek);refine ox (hk _ _ ?_);rw[el] at hp;have run:=yC (E:=E) (by rw[D2];exact e9 (nat_lit 0x312532252025103513) ae ek hl el) (aS (nat_lit 2817809993985) ae N7) (aL (nat_lit 0x40e11140e011103102) ae el ‹_›) JP hp
  refine ox (wb run ?_ λc c e=>e);rintro⟨⟨⟩,JI⟩ s' ⟨rfl,N2,hf,Ex⟩;exact fin _ JI (jL rs p.toList) (by rw[ph,D2,Ex];exact aL (nat_lit 0x40e11140e011103102) ae el ‹_›) N2 hf
end
end Mine
end
noncomputable section
end
noncomputable section
open PySem PySem.W PySem.Builtin PySem.Builtin.Str PyProof.Rows
namespace Mine
theorem gU{K:Frag}{h:xI}{N:sx}{mg:Str->Option Value}{n:Str}{v:Value}(X:K.In h)(G:h.Ns N mg)(e:nsIn K N n=some (some v)):mg n=some v:=by
 obtain⟨o,es,ep,ho,hd,_,hf⟩:=G;have e:(match K.lookup N with |some ⟨_,_,.dict es _,_⟩=>(match es.toList.find? (·.key.isStr n) with |some e=>some (some e.val)|none=>if es.toList.any (·.refKey) then none else some none)|_=>none)=some (some v):=e
 induction q:K.lookup N with
 |none=>rw[q] at e;exact nE e|some z=>
  obtain rfl:=oy (ho.symm.trans (X _ _ q));rw[q,show o=⟨o.cls,o.dict,.dict es ep,o.slots⟩ from hd▸rfl] at e;refine(hf n).symm.trans ?_;have e:(match es.toList.find? (·.key.isStr n) with |some e=>some (some e.val)|none=>if es.toList.any (·.refKey) then none else some none)=some (some v):=e
  rw[Array.find?_toList] at e;show(es.find? λe=>e.key.isStr n).map (·.val)=some v;induction he:es.find? λe=>e.key.isStr n with |some y=>rw[he] at e;exact congrArg _ (oy (oy e))|none=>rw[he] at e;induction ha:es.toList.any (·.refKey) with |true=>rw[ha] at e;exact nE e|false=>rw[ha] at e;exact nomatch e
theorem Ab{K:Frag}{C f:sx}{od:Nw}{es:Array th}{ep:Nat}{name:Str}(hd:od.data=.dict es ep)(sk:StrKeys es)(hn:nsFind es name=none)(hc:hasDictIn K C=true)
  (hf:findIn K (.ref C) name=some (some (.ref f)))(hg:specialIn K (.ref f) "__get__"=some (some (.builtin "function.__get__")))(ht:takesIn K (.ref f)=some false)(JQ:copiedNames.contains name=false):
  findObj K C (some od) name=some (.bind (.builtin "function.__get__") (.ref f)):=by
 refine findObj_fn hc hf hg ht JQ ((congrArg (λd=>lookIn name ⟨od.cls,od.dict,d,od.slots⟩) hd).trans ?_);show(match es.toList.find? (·.key.isStr name) with |some e=>some (some e.val)|none=>if es.toList.any (·.refKey) then none else some none)=some none;rw[(Array.find?_toList ..).trans (Option.map_eq_none_iff.mp hn),List.any_eq_false.mpr λe he=>?_]
 ·rfl
 ·obtain⟨n,t,hk⟩:=sk e (Array.mem_toList_iff.mp he);show ¬(match e.key with |.ref _=>true|_=>false)=true;rw[hk];exact wy
section
variable{A:tj}{E:Value->oC->Prop}{s:oC}
theorem Cc{K:Frag}{C f x dx:sx}{o od:Nw}{es:Array th}{ep:Nat}{name:Str}{Q:Value->oC->Prop}(X:K.In s.heap)(ho:s.heap.get? x=some o)(JR:o.cls=.ref C)(zO:o.dict=some dx)(TN:∀c,o.data≠.cls c)
  (TP:s.heap.get? dx=some od)(hd:od.data=.dict es ep)(sk:StrKeys es)(hn:nsFind es name=none)(hc:hasDictIn K C=true)
  (hf:findIn K (.ref C) name=some (some (.ref f)))(hg:specialIn K (.ref f) "__get__"=some (some (.builtin "function.__get__")))(ht:takesIn K (.ref f)=some false)(JQ:copiedNames.contains name=false)
  (hp:plainGet K C name=true)(YG:typeIn K (.ref f)=some (.type "function"))
  (h:Q (.ref s.heap.objs.size) {s with heap:=s.heap.push {cls:=.type "method",data:=.fields #[.ref f,.ref x]},toks:=s.toks+1}):
  si gM A (getAttr (.ref x) name true) Q E s:=by
 obtain I:InstAt s.heap x o C (some od):=⟨ho,JR,by unfold notCls;induction Je:o.data with |cls c=>exact absurd Je (TN c)|_=>rfl,by refine zO▸?_;exact TP⟩;refine get_bind X I (plainGet_of hp).1 (Ab hd sk hn hc hf hg ht JQ) (plainGet_of hp).2 ?_;refine wpAny_call (fn_get X YG ?_);exact pk h
theorem Cd{a:sx}{so:Nw}{S:Int->Bool}{n:Nat}{i:Int}{t:Tok}{Q:Value->oC->Prop}(g:s.heap.get? a=some so)(YH:so.SetObjOf (aax G.prog G.w) S n)(hb:n<scanBound)(h:∀k,Q (.bool (S i)) {s with toks:=k}):
  si gM A (compareOp .In (.int i t) (.ref a)) Q E s:=
 wpAny_inSet_of (knd:=aax G.prog G.w) (k:=i) (by show(i==i)=true;simp) rfl (YH.setOf g hb) (h _)
end
def AllP{α β:Type}(P:α->β->Prop):List (α×β)->Prop|[]=>True|(a,b)::r=>P a b/\AllP P r
theorem AllP.at{α β:Type}[BEq α][LawfulBEq α]{P:α->β->Prop}{l:List (α×β)}{a:α}{b:β}(h:AllP P l)(e:l.lookup a=some b):P a b:=by
 induction l with
 |nil=>exact nE e|cons p r ih=>
  rw[sT] at e;induction hk:a==p.1 with |true=>rw[hk] at e;exact eq_of_beq hk▸oy e▸h.1|false=>rw[hk] at e;exact ih h.2 e
theorem AllP.of{α β:Type}{f:α->β->Bool}:∀{l:List (α×β)},l.all (λp=>f p.1 p.2)=true->AllP (λa b=>f a b=true) l|[],aR=>trivial|aR::bV,h=>⟨(a_ h).1,AllP.of (a_ h).2⟩
theorem AllP.cons{α β:Type}{P:α->β->Prop}{a:α}{b:β}{r:List (α×β)}(h:P a b)(t:AllP P r):AllP P ((a,b)::r):=⟨h,t⟩
noncomputable def TQ(o:Nw):FuncData:=match o.data with |.func d=>d|_=>default
noncomputable def TR(o:Nw):Array Value:=match o.data with |.fields v=>v|_=>#[]
def fO(s:B2)(c:Nat)(d:FuncData):Nw:={cls:=.type "function",dict:=none,data:=(.func {d with params:=Hd.fP s,body:=.stmts (Hd.fB s),scope:=Hd.fS s,globals:=mainGlobals,closure:=[],defaults:=.none,kwdefaults:=.none,code:=.ref c,builtins:=builtinsNs}),slots:=#[]}
section
variable{h:xI}(X:(Hd.kF w0.params).In h)
include X
def YI(o:Nw):Tok:=match (TR o).toList with |_::.str _ t::_=>t|_=>0
theorem c9(i f c:Nat){s:B2}(e:((Hd.kF w0.params).lookup f,(Hd.kF w0.params).lookup c,(TR (Hd.oA w0.params c))[1]?,(uq[i]?).map (λp=>(p.1,p.2.2)),(d_ s).ok,(c7 (Hd.fP s)).isSome)=(some (fO s c (TQ (Hd.oA w0.params f))),some {cls:=.type "code",dict:=none,data:=.fields (TR (Hd.oA w0.params c)),slots:=#[]},some (.str (TQ (Hd.oA w0.params f)).qualname (YI (Hd.oA w0.params c))),some (c,(TQ (Hd.oA w0.params f)).qualname++".<locals>."),true,true):=by kernel_rfl):(d_ s).ok=true/\FnAt h f (d_ s):=by
 obtain⟨e1,e⟩:=yA e;obtain⟨e2,e⟩:=yA e;obtain⟨e3,e⟩:=yA e;obtain⟨m,e⟩:=yA e;obtain⟨ok,pm⟩:=yA e;refine(gF m).elim λp q=>⟨ok,_,_,X f _ e1,rfl,rfl,rfl,rfl,rfl,rfl,rfl,rfl,rfl,?_,⟨c,_,_,_,rfl,X c _ e2,rfl,e3⟩,⟨c,p.2.1,rfl,Fn (i:=i) ?_⟩⟩
 ·show _=some ((c7 (Hd.fP s)).getD []);induction hh:c7 (Hd.fP s) with |none=>rw[hh] at pm;exact bE pm|some v=>rfl
 ·exact q.1.trans (congrArg some (aaC (congrArg Prod.fst q.2:) (aaC rfl (congrArg Prod.snd q.2:))))
theorem N8:AllP (λf d=>d.ok=true/\FnAt h f d) VV:=
 .cons (c9 X 0 28 27)<|
 .cons (c9 X 1 35 34)<|
 .cons (c9 X 2 42 41)<|
 .cons (c9 X 3 49 48)<|
 .cons (c9 X 4 70 69)<|
 .cons (c9 X 5 77 76)<|
 .cons (c9 X 6 91 90)<|
 .cons (c9 X 7 98 97)<|
 .cons (c9 X 8 105 104)<|
 .cons (c9 X 9 123 122)<|
 .cons (c9 X 10 169 168)<|
 .cons (c9 X 11 176 175)<|
 .cons (c9 X 12 183 182)<|
 .cons (c9 X 13 190 189)<|
 .cons (c9 X 14 197 196)<|
 .cons (c9 X 15 204 203)<|
 .cons (c9 X 16 209 208)<|
 .cons (c9 X 17 216 215)<|
 .cons (c9 X 18 221 220)<|
 .cons (c9 X 19 226 225)<|
 .cons (c9 X 20 231 230)<|trivial
noncomputable def Ce:Option (Option Value)->Bool|some none=>true|_=>false
omit X in
theorem uV{x:Option (Option Value)}(h:Ce x=true):x=some none:=by
 cases x with |none=>exact nomatch h|some y=>cases y with |none=>rfl|some _=>exact nomatch h
theorem Cf{c N:Nat}{d:Ja}{nm q bs sn sub col dd k0 k1 k2 k3 k5}(e:(Hd.kF w0.params).lookup c=some (excClassObj nm q c N bs [.type "object"] true sn sub false col dd k0 k1 k2 k3 k5 "object.__new__"))(o:nsOkIn (Hd.kF w0.params) N=true)
  (h1:nsIn (Hd.kF w0.params) N (t5 "__getattribute__")=some none)(h2:nsIn (Hd.kF w0.params) N (t5 "__getattr__")=some none)(h3:nsIn (Hd.kF w0.params) N (t5 "__setattr__")=some none)
  (m:AllP (λm f=>nsIn (Hd.kF w0.params) N m=some (some (.ref f))/\(jD C4 f).isSome=true/\(fastLookup "object" m).isSome=true) d.meths)(fl:d.EM.all (λa=>Ce (nsIn (Hd.kF w0.params) N a)&&Ce (fastLookup "object" a))=true):Jh h c d:=by
 have n:h.Ns N (h.nsMap N):=.of_isNs (isNs_of_in X o);refine⟨_,_,N,_,_,_,_,_,_,_,_,_,_,h.nsMap N,X c _ e,n,ns_none_of X n h1,ns_none_of X n h2,ns_none_of X n h3,λx f hx=>?_,λx hx=>?_⟩
 ·have q:=m.at hx;refine⟨gU X n q.1,q.2.1,?_⟩;rw[typeLookup_type,U2,<-Option.some_get q.2.2];exact⟨_,rfl⟩
 ·have q:=a_ (cj fl x hx);refine⟨ns_none_of X n (uV q.1),?_⟩;rw[typeLookup_type,U2,uV q.2]
theorem JS:AllP (λc d=>Jh h c d) Jg:=by refine .cons (Cf X (rfl:_=some (Hd.H9 w0.params)) (by kernel_rfl) (by kernel_rfl) (by kernel_rfl) (by kernel_rfl) (by repeat first|exact trivial|refine .cons ⟨by kernel_rfl,by kernel_rfl,by kernel_rfl⟩ ?_) (by kernel_rfl)) ?_;refine .cons (Cf X (rfl:_=some (Hd.H_ w0.params)) (by kernel_rfl) (by kernel_rfl) (by kernel_rfl) (by kernel_rfl) (by repeat first|exact trivial|refine .cons ⟨by kernel_rfl,by kernel_rfl,by kernel_rfl⟩ ?_) (by kernel_rfl)) ?_;trivial
noncomputable def N9(K:Frag)(c:sx)(m:Str)(f:sx):Bool:=hasDictIn K c&&(findIn K (.ref c) m==some (some (.ref f))&&(specialIn K (.ref f) "__get__"==some (some (.builtin "function.__get__"))&&
  (takesIn K (.ref f)==some false&&((copiedNames.contains m).not&&(plainGet K c m&&typeIn K (.ref f)==some (.type "function"))))))
omit X in
theorem Cg:AllP (λc d=>AllP (λm f=>N9 (Hd.kF w0.params) c m f=true) d.meths) Jg:=.cons (.of (by kernel_rfl)) (.cons (.of (by kernel_rfl)) trivial)
end
end Mine
end
noncomputable section
open PySem PySem.W PySem.Builtin PySem.Builtin.Str PyProof.Rows
noncomputable section
namespace Mine
open Hd (ents E3 ent fH)
theorem lB(st:Nat)(i:Int):∀(T:Nat) (L:List E3),match L.lookup i with |some x=>∃t,((ents st T L).find? λe=>e.key.isInt i).map (·.val)=some (.str x t)|none=>((ents st T L).find? λe=>e.key.isInt i)=none
|aR,[]=>rfl|T,(j,x)::r=>by
 have e0:ents st T ((j,x)::r)=ent T (j,x)::ents st (T+st) r:=rfl;rw[sT,e0];induction h:i==j with
 |true=>
  have e:yB i (ent T (j,x)).key=true:=by have :=eq_of_beq h;subst this;show yB i (.int i T)=true;simp[yB]
  dsimp only;exact⟨T+1,by rw[List.find?_cons_of_pos (p:=λe:th=>yB i e.key) e];rfl⟩
 |false=>
  have e:¬yB i (ent T (j,x)).key=true:=by show ¬yB i (.int j T)=true;simp only[beq_eq_false_iff_ne,ne_eq] at h;simp[yB];exact λq=>h q.symm
  dsimp only;rw[List.find?_cons_of_neg (p:=λe:th=>yB i e.key) e];exact lB st i (T+st) r
theorem oQ{i:Int}:∀{L R:List E3},(L++R).lookup i=match L.lookup i with |some x=>some x|none=>R.lookup i
|[],aR=>rfl|(j,x)::L,R=>by
 rw[List.cons_append,sT,sT];induction i==j with |true=>rfl|false=>exact oQ
set_option tactic.hygienic true in
theorem setObj_of{prog:Program}{o:Nw}{es:Array (Int×Value)}{ep:Nat}{t:SetTable}(xs:List Int)(hx:o.ExactSet)(hd:o.data=.set es ep t)
  (h1:es.toList.all (λe=>match e.2 with |.int k _=>k==e.1&&hashInt k==e.1|_=>false)=true)(h2:xs.all (λx=>es.toList.any (·.1==x))=true)(h3:es.toList.all (λe=>xs.contains e.1)=true)(hf:t.fits es.size=true):
  o.SetObjOf (aax prog w0) (λi=>xs.contains i) es.size:=by
 have sh:∀e∈es.toList,∃t,e.2=.int e.1 t/\hashInt e.1=e.1:=by
  intro e he;have :=cj h1 e he
  split at this
  ·rename_i k tk hk;simp only[vr,beq_iff_eq] at this;obtain⟨rfl,h5⟩:=this;exact⟨tk,hk,h5⟩
  ·exact bE this
 refine⟨hx,es,ep,t,hd,λe he=>?_,λk=>⟨λhk=>?_,?_⟩,rfl,hf⟩
 ·obtain⟨tk,h4,h5⟩:=sh e he;exact⟨⟨e.1,by rw[h4];show yB e.1 (.int e.1 tk)=true;simp[yB],h5.symm⟩,by rw[h4];rfl⟩
 ·have :=cj h2 k (by simpa using hk);obtain⟨e,he,i_⟩:=List.any_eq_true.mp this;have :=eq_of_beq i_
  subst this;obtain⟨tk,h4,_⟩:=sh e he;exact⟨e,he,by rw[h4];show yB e.1 (.int e.1 tk)=true;simp[yB]⟩
 ·rintro⟨e,he,hk⟩;obtain⟨tk,h4,_⟩:=sh e he;have i_:yB k e.2=true:=hk
  rw[h4] at i_;have :e.1=k:=by simpa [yB] using i_
  subst this;exact cj h3 e he
section
variable{h:xI}(X:(Hd.kF w0.params).In h)
include X
omit X in
theorem JT:(Hd.sd w0.params).SetObjOf (aax lU w0) (λi=>cZ.contains i) 27:=by obtain⟨es,ep,t,hd,h1,h2,h3,hf,hz⟩:∃es ep t,(Hd.sd w0.params).data=.set es ep t/\es.toList.all (λe=>match e.2 with |.int k _=>k==e.1&&hashInt k==e.1|_=>false)=true/\cZ.all (λx=>es.toList.any (·.1==x))=true/\es.toList.all (λe=>cZ.contains e.1)=true/\t.fits es.size=true/\es.size=27:=⟨_,_,_,rfl,by kernel_rfl,by kernel_rfl,by kernel_rfl,by kernel_rfl,by kernel_rfl⟩;rw[<-hz];exact setObj_of cZ ⟨rfl,rfl,rfl⟩ hd h1 h2 h3 hf
omit X in
theorem qT{st T:Nat}{L:List E3}(hL:∀e∈L,Hd.Et e):∀e∈ents st T L,∃k,(aax lU w0).is k e.key=true/\e.hash=(aax lU w0).hash k:=by
 induction L generalizing T with
 |nil=>intro e he;cases he
 |cons x r ih=>
  intro e he;have Ci:e∈ent T x::ents st (T+st) r:=he
  rcases bx Ci with rfl|Ci
  ·refine⟨x.1,?_,(hL x (.head _)).1.symm⟩;show yB x.1 (.int x.1 T)=true;simp[yB]
  ·exact ih (λy hy=>hL y (.tail _ hy)) e Ci
theorem uW(i:Int):∃es n,h.get? 124=some (dO es n)/\h.MapOf (aax lU w0) 124 (findBy yB es)/\match fH.lookup i with |some x=>∃t,findBy yB es i=some (.str x t)|none=>findBy yB es i=none:=by
 have g:h.get? 124=some (Hd.wC w0.params):=X 124 _ (by kernel_rfl);obtain⟨a,b,c,d,k,e0⟩:∃a b c d k,Hd.wC w0.params=Hd.cA (ents a b (fH.take k)++ents c d (fH.drop k)):=⟨_,_,_,_,_,rfl⟩;rw[e0] at g;refine⟨_,_,g,⟨_,_,_,g,⟨rfl,rfl,rfl⟩,rfl,?_,λk=>rfl⟩,?_⟩
 ·intro e he;have Ci:e∈ents a b (fH.take k)++ents c d (fH.drop k):=by simpa using he
  rcases Fm.mp Ci with Ci|Ci
  ·exact qT (λy hy=>Hd.Jf y (List.mem_of_mem_take hy)) e Ci
  ·exact qT (λy hy=>Hd.Jf y (List.mem_of_mem_drop hy)) e Ci
 ·have h1:=lB a i b (fH.take k);have h2:=lB c i d (fH.drop k);have e2:findBy yB (ents a b (fH.take k)++ents c d (fH.drop k)).toArray i=((ents a b (fH.take k)).find? (λe=>yB i e.key)|>.or ((ents c d (fH.drop k)).find? λe=>yB i e.key)).map (·.val):=by unfold findBy;rw[List.find?_toArray,List.find?_append]
  rw[e2];have e3:fH.lookup i=match (fH.take k).lookup i with |some x=>some x|none=>(fH.drop k).lookup i:=by rw[<-oQ,TB]
  rw[e3];induction hl:(fH.take k).lookup i with
  |some x=>
   rw[hl] at h1;obtain⟨t,ht⟩:=h1;refine⟨t,?_⟩;induction hf:(ents a b (fH.take k)).find? (λe=>yB i e.key) with |none=>rw[hf] at ht;exact nE ht|some e=>rw[hf] at ht;exact ht
  |none=>
   rw[hl] at h1;dsimp only at h1⊢;rw[h1]
   revert h2
   induction (fH.drop k).lookup i with
   |some x=>rintro⟨t,ht⟩;exact⟨t,ht⟩
   |none=>intro h2;rw[h2];rfl
end
end Mine
end
end
noncomputable section
open PySem PySem.W PySem.Builtin PySem.Builtin.Str PyProof.Rows
namespace Mine
def Z0(bo:xI)(a:sx):Option Nw:=if Hd.kT.contains a then none else bo.get? a
def W0(bo:xI):Wd:=⟨λa=>none,λa=>none,Z0 bo⟩
theorem JU{bo:xI}{a:sx}{o:Nw}(e:Z0 bo a=some o):bo.get? a=some o:=by
 unfold Z0 at e;induction h:Hd.kT.contains a with |true=>rw[h] at e;exact nE e|false=>rw[h] at e;exact e
theorem yD{bo:xI}{a:sx}(e:Hd.kT.contains a=false):Z0 bo a=bo.get? a:=by unfold Z0;refine e▸?_;rfl
theorem Cj{h h':xI}{a:sx}{m:Str->Option Value}(x:h.Ns a m)(e:∀o,h.get? a=some o->h'.get? a=some o):h'.Ns a m:=
 let ⟨o,es,ep,g,r⟩:=x;⟨o,es,ep,e _ g,r⟩
theorem FZ:∀a∈uq,∀b∈uq,a.2.1=b.2.1->a.2.2=b.2.2:=by decide+kernel
theorem F0{i:Int}{x:Str}(h:Hd.fH.lookup i=some x):x.length<ai:=by
 have :Hd.fH.all (λp=>decide (p.2.length<2^20))=true:=by kernel_rfl
 exact of_decide_eq_true ((AllP.of (f:=λa x=>decide (x.length<2^20)) this).at h)
theorem N_(P:Hc):(Hd.kF P).all (λp=>!Hd.kT.contains p.1)=true:=by kernel_rfl
theorem m7:∀p∈uq,p.2.1∈Hd.kT/\Hd.kT.contains p.1=false:=by decide+kernel
section
variable{bo:xI}(dp:(Hd.kF w0.params).In bo)
include dp
theorem YJ{h:xI}(hz:∀a o,Z0 bo a=some o->h.get? a=some o):(Hd.kF w0.params).In h:=by intro a o e;refine hz a o ?_;obtain h:=(AllP.of (f:=λa b=>!Hd.kT.contains a) (N_ w0.params)).at e;rw[yD (L9 _▸h),dp a o e]
theorem uX:∀p∈uq,CodeHd bo p.1 p.2.1:=by
 intro p hp;have :uq.all (λp=>codeHdIn (Hd.kF w0.params) p.1 p.2.1)=true:=by kernel_rfl
 exact codeHd_of_K dp (cj this p hp)
omit dp in
theorem Ck:AllP (λx v=>∃y,(∀W,Rel W v y)/\nsIn (Hd.kF w0.params) mainGlobals x=some (some y)) Bm:=by
 repeat refine .cons ⟨_,λW=>by first|exact rfl|exact⟨rfl,rfl⟩,by kernel_rfl⟩ ?_
 trivial
theorem Cm{mg:Str->Option Value}(g:bo.Ns mainGlobals mg){x:Str}{v:V}(h:Bm.lookup x=some v):∃y,(∀W,Rel W v y)/\mg x=some y:=(Ck.at h).imp λa q=>⟨q.1,gU dp g q.2⟩
theorem F1{mg mb:Str->Option Value}(g:bo.Ns mainGlobals mg)(hb:∀x:Str,x≠"__name__"->mb x=bootBuiltins x):∀n∈nD,mg (t5 n)=none/\mb (t5 n)=some (.builtin n):=by
 intro n hn;simp only[nD,y3,Oy,or_false] at hn;rcases hn with rfl|rfl|rfl|rfl|rfl|rfl|rfl
 all_goals exact⟨ns_none_of dp g (by kernel_rfl),(hb _ (by decide+kernel)).trans (by decide+kernel)⟩
theorem F2{mg mb:Str->Option Value}(g:bo.Ns mainGlobals mg)(hb:∀x:Str,x≠"__name__"->mb x=bootBuiltins x):∀n∈nF,mg (t5 n)=none/\mb (t5 n)=some (.type n):=by
 intro n hn;simp only[nF,y3,Oy,or_false] at hn;rcases hn with rfl|rfl|rfl|rfl|rfl
 all_goals exact⟨ns_none_of dp g (by kernel_rfl),(hb _ (by decide+kernel)).trans (by decide+kernel)⟩
end
set_option tactic.hygienic true in
theorem F3{bo:xI}{p:Program}{loose:List Str}{ur:ExcName->Option Value}{mg mb:Str->Option Value}(dp:(Hd.kF w0.params).In bo)(T:Top p loose ur mg mb bo):Base (Z0 bo):=by
 intro h hz;have X:=YJ dp hz
 have to:=λ{a} ha o e=>hz a o (by rw[yD ha];exact e)
 have g:=Cj T.g (to (by decide+kernel));have b:=Cj T.b (to (by decide+kernel))
 refine{noLimit:=?_,mods:=?_,fns:=?_,cls:=?_,bound:=?_,setIn:=?_,Br:=?_,Ib:=?_,Bs:=?_,Bt:=?_,glob:=?_}
 ·obtain⟨mc,x,y⟩:=T.nolimit;exact⟨mc,Cj x (to (by decide+kernel)),y⟩
 ·have :=ti (X 113 (Hd.sd w0.params) (by kernel_rfl));exact X2 (by decide) this
 ·intro f d hf;exact(N8 X).at hf
 ·intro c d hc;exact(JS X).at hc
 ·intro c d a f hc ha A E Q s x dx o od es ep hs ho nZ zO TN TP hd sk hn hQ;obtain⟨b1,z⟩:=a_ ((Cg.at hc).at ha);obtain⟨b2,z⟩:=a_ z;obtain⟨b3,z⟩:=a_ z;obtain⟨b4,z⟩:=a_ z;obtain⟨b5,z⟩:=a_ z;obtain⟨b6,b7⟩:=a_ z;subst hs;exact Cc X ho nZ zO TN TP hd sk hn b1 (eq_of_beq b2) (eq_of_beq b3) (eq_of_beq b4) ((L9 _).mp b5) b6 (eq_of_beq b7) hQ
 ·intro A E Q s i t hs hQ;subst hs;exact Cd (X 113 _ (by kernel_rfl)) JT (by decide+kernel) hQ
 ·intro c P q c' q' h1 h2;exact FZ _ h1 _ h2 rfl
 ·obtain⟨es,n,g,_⟩:=uW X 0;exact⟨es,n,g⟩
 ·intro A E Q s i t hs h1 h2;subst hs;refine(uW X i).elim λes TS=>?_;refine TS.elim λn xm=>?_;obtain g:=xm.1;obtain hM:=xm.2.1;obtain hf:=xm.2.2
  refine call_meetsIn F.slot_dict_get (⟨_,g,rfl⟩) F.entry_dict_get (F.args_dict_get_2 _ _) (meets_dict_get (aax lU w0) 124 (by show yB i (.int i t)=true;simp[yB]) (by decide+kernel)) ⟨_,hM,?_⟩
  revert hf h1 h2
  show(∀x,Hd.fH.lookup i=some x->_)->(Hd.fH.lookup i=none->_)->_;induction hl:Hd.fH.lookup i with
  |some x=>rintro h1 _ ⟨tk,ht⟩;rw[ht];exact h1 x rfl tk _
  |none=>intro _ h2 hn;rw[hn];exact h2 rfl _
 ·intro i x hx;exact F0 hx
 ·refine⟨mg,mb,g,b,λx v hx=>?_,λc P q hm=>⟨?_,?_⟩⟩
  ·unfold lookGlob at hx;split at hx
   ·rename_i u hu;obtain rfl:=oy hx;obtain⟨y,h1,h2⟩:=Cm X g hu;exact⟨y,h1,.inl h2⟩
   ·split at hx
    ·rename_i n hn;obtain rfl:=oy hx;obtain hm:=List.mem_of_find?_eq_some hn;obtain he:=eq_of_beq (List.find?_some (p:=λn=>t5 n==x) hn);subst he;obtain⟨h1,h2⟩:=F1 X g T.builtins n hm;exact⟨_,λW=>rfl,.inr ⟨h1,h2⟩⟩
    ·obtain⟨n,hn,rfl⟩:=gF hx;have hm:=List.mem_of_find?_eq_some hn;obtain he:=eq_of_beq (List.find?_some (p:=λn=>t5 n==x) hn);subst he;obtain⟨h1,h2⟩:=F2 X g T.builtins n hm;exact⟨_,λW=>rfl,.inr ⟨h1,h2⟩⟩
  ·have hP:=(m7 _ hm).1;refine⟨4,boot_o_4 w0.params,gU X g (by kernel_rfl),by decide+kernel,by decide+kernel,?_,X 4 _ (by kernel_rfl),rfl,rfl,rfl⟩;rintro rfl;exact absurd (show 4∈Hd.kT from hP) (by decide+kernel)
  ·have hP:=(m7 _ hm).1;rintro rfl;exact absurd (show mainGlobals∈Hd.kT from hP) (by decide+kernel)
theorem JV{s:oC}{p:Program}{loose:List Str}{ur:ExcName->Option Value}{mg mb:Str->Option Value}(dp:(Hd.kF w0.params).In s.heap)(TT:∀P∈Hd.kT,s.heap.get? P=some (tabObj #[]))(T:Top p loose ur mg mb s.heap):aN (W0 s.heap) [] s:=by
 refine⟨λa o e=>JU e,λk a e=>(nE e),λa k e=>(nE e),λa k e=>(nE e),λk o e=>(by simp at e),λc P q hm=>?_,F3 dp T⟩;have Wo:=hm
 obtain⟨h1,h2⟩:=m7 _ Wo;obtain hc:=uX dp _ Wo;refine⟨hc,?_,?_,rfl,#[],TT P h1,?_,?_⟩
 ·obtain⟨o,_,_,_,_,_,_,_,_,e,_⟩:=hc;exact⟨o,by refine(yD h2).trans ?_;exact e⟩
 ·show Z0 s.heap P=none;exact if_pos (by simpa using h1)
 ·exact trivial
 ·intro pos cv YK;simp[codeAmong] at YK
section
def bY(d:Nat)(sc:te)(env:af)(e:Expr)(H:AH)(v:V)(H':AH):Prop:=∀⦃A:tj⦄⦃E:Value->oC->Prop⦄⦃W:Wd⦄⦃s:oC⦄⦃e':Ts⦄⦃Q:Value->oC->Prop⦄,bC A d->aN W H s->aq sc env e' W s->(∀x W' s',ah W H s aQ W' H' s'->Rel W' v x->Q x s')->si gM A (eval e e') Q E s
def pO(d:Nat)(sc:te)(env:af)(e:Expr)(H:AH)(b:Bool)(H':AH):Prop:=∀⦃A:tj⦄⦃E:Value->oC->Prop⦄⦃W:Wd⦄⦃s:oC⦄⦃e':Ts⦄⦃Q:Bool->oC->Prop⦄,bC A d->aN W H s->aq sc env e' W s->(∀W' s',ah W H s aQ W' H' s'->Q b s')->si gM A (isTrue e e' (eval e e')) Q E s
inductive lC(d:Nat)(sc:te)(env:af):List Expr->AH->List V->AH->Prop where
|nil{H:AH}:lC d sc env [] H [] H|cons{e:Expr}{es:List Expr}{H H₁ H':AH}{v:V}{vs:List V}(hs:isStarred e=false)(h:bY d sc env e H v H₁)(k:lC d sc env es H₁ vs H'):lC d sc env (e::es) H (v::vs) H'
def aC(d:Nat)(f:V)(vs:List V)(H:AH)(v:V)(H':AH):Prop:=∀⦃A:tj⦄⦃E:Value->oC->Prop⦄⦃W:Wd⦄⦃s:oC⦄⦃f':Value⦄⦃xs:List Value⦄⦃Q:Value->oC->Prop⦄,bC A d->aN W H s->Rel W f f'->aG W vs xs->(∀x W' s',ah W H s aQ W' H' s'->Rel W' v x->Q x s')->codeAny gM A (.call f' ⟨xs,[]⟩) (wants Q E) s
def pZ(d:Nat)(sc:te)(env:af)(t:Expr)(v:V)(H:AH)(aj:af)(H':AH):Prop:=∀⦃A:tj⦄⦃E:Value->oC->Prop⦄⦃W:Wd⦄⦃s:oC⦄⦃e':Ts⦄⦃x:Value⦄⦃Q:Unit->oC->Prop⦄,bC A d->aN W H s->aq sc env e' W s->Rel W v x->(∀u W' s',ah W H s (ck sc e') W' H' s'->aq sc aj e' W' s'->Q u s')->si gM A (aaq t e' x) Q E s
def jy(d:Nat)(sc:te)(env:af)(c:B2)(H:AH)(fl:Fl)(aj:af)(H':AH):Prop:=∀⦃A:tj⦄⦃E:Value->oC->Prop⦄⦃W:Wd⦄⦃s:oC⦄⦃e':Ts⦄⦃Q:Flow->oC->Prop⦄,bC A d->aN W H s->aq sc env e' W s->(∀f W' s',ah W H s (ck sc e') W' H' s'->aq sc aj e' W' s'->lW W' fl f->Q f s')->si gM A (PySem.exec c e') Q E s
theorem ah.k{α:Type}{t:Sem α}{A:tj}{E:Value->oC->Prop}{X:sx->Prop}{W ag:Wd}{H H₁ H':AH}{s s₁:oC}{R:α->Wd->oC->Prop}{Q:α->oC->Prop}(P:ah W H s X ag H₁ s₁)(S:aN W H s)(k:∀x W' s',ah W H s X W' H' s'->R x W' s'->Q x s')(h:si gM A t (λx=>bf ag H₁ s₁ X H' (R x)) E s₁):si gM A t Q E s₁:=wb h (λx ar q=>q.elim λa9 q=>k x a9 ar (P.trans S q.1) q.2) λa a h=>h
variable{d:Nat}{sc:te}{env:af}{e l r t o i:Expr}{a b v c:V}{H H₁ H2 H':AH}{p:aaK}
theorem Oa{op:Operator}(h1:bY d sc env l H a H₁)(h2:bY d sc env r H₁ b H')(h3:binop op a b=some v):bY d sc env (.BinOp l op r p) H v H':=λc c c c c c rm S N k=>wpAny_BinOp (h1 rm S N λc c c aa aw=>h2 rm aa.sim (N.expr aa) λc c c ab bc=>(aa.trans S ab).k S k (Bw h3 ab.sim (aw.mono ab.le) bc))
theorem JW(h1:bY d sc env o H a H₁)(h2:bY d sc env i H₁ b H')(h4:item H' a b=some c):bY d sc env (.Subscript o i p) H c H':=λe e e e e e rm S N k=>ym (h1 rm S N λe e e aa aw=>h2 rm aa.sim (N.expr aa) λe e e ab bc=>(yn h4 ab.sim (aw.mono ab.le) bc).elim λg g3=>g.elim λT g=>g.elim λx g=>⟨T,x,g.1,g.2,(aa.trans S ab).k S k g3⟩)
theorem Ob{op:CmpOp}(hm:behindInMarks op r=false)(h1:bY (d+1) sc env l H a H₁)(h2:bY (d+1) sc env r H₁ b H')(h3:bG H' op a b=some v):bY (d+1) sc env (.Compare l [op] [r] p) H v H':=λc c c c c c rm S N k=>wpAny_Compare1 (h1 rm S N λc c c aa aw=>h2 rm aa.sim (N.expr aa) λc c c ab bc=>(aa.trans S ab).k S k (Jw h3 ab.sim (aw.mono ab.le) bc (vw (Nat.add_le_add_left (Nat.le_mul_of_pos_right 12 (Sr _)) _) rm.units))) hm
theorem Oc(h1:pO d sc env t H true H₁)(h2:bY d sc env l H₁ v H'):bY d sc env (.IfExp t l r p) H v H':=λa a a a a a rm S N k=>wpAny_IfExp (h1 rm S N λa a aa=>h2 rm aa.sim (N.expr aa) λa a a ab bc=>k _ _ _ (aa.trans S ab) bc)
theorem Od(h1:pO d sc env t H false H₁)(h2:bY d sc env r H₁ v H'):bY d sc env (.IfExp t l r p) H v H':=λa a a a a a rm S N k=>wpAny_IfExp (h1 rm S N λa a aa=>h2 rm aa.sim (N.expr aa) λa a a ab bc=>k _ _ _ (aa.trans S ab) bc)
theorem Oe{j:Int}(h1:bY d sc env l H (.int j) H'):bY d sc env (.UnaryOp .USub l p) H (.int (-j)) H':=λa a a a a a rm S N k=>wpAny_UnaryOp (h1 rm S N λa a a aa aw=>aa.k S k (Exists.elim aw λa h=>h▸P.neg_int (cy aa.sim)))
theorem xn{x:Str}(hx:(x==t5 "__debug__")=false)(h:d9 G.C sc env x=some v):bY d sc env (.Name x p) H v H:=λa a a a a a rm S N k=>wpAny_Name ((ah.refl S).k S k (k6 h S N)) hx
theorem Of{j:Int}{q:Nat}:bY d sc env (.Constant (.int j) q p) H (.int j) H:=λa a a a a a rm S N k=>wpAny_Constant_int (k _ _ _ (.toks S aQ _) ⟨_,rfl⟩)
theorem Og{x:Str}{q:Nat}(hz:x.length<ai):bY d sc env (.Constant (.str x) q p) H (.str x) H:=λa a a a a a rm S N k=>Calls.Constant_str (k _ _ _ (.toks S aQ _) ⟨hz,_,rfl⟩)
theorem JX{x:Bool}{q:Nat}:bY d sc env (.Constant (.bool x) q p) H (.bool x) H:=λa a a a a a rm S N k=>eval_Constant ..▸pk (k _ _ _ (.refl S) rfl)
theorem JY{q:Nat}:bY d sc env (.Constant .none q p) H .none H:=λa a a a a a rm S N k=>eval_Constant ..▸pk (k _ _ _ (.refl S) rfl)
theorem dZ{e':Ts}{es:List Expr}(hs:isStarred e=false):starEach (e::es) e'=(false,eval e e')::starEach es e':=by induction e using Expr.casesOn<;>first|rfl|exact nomatch hs
theorem lC.run{es:List Expr}{vs:List V}(h:lC d sc env es H vs H'){A:tj}{E:Value->oC->Prop}{W:Wd}{s:oC}{e':Ts}{q:aaK}(rm:bC A d)(S:aN W H s)(N:aq sc env e' W s):∀{Q:List Value->oC->Prop},(∀xs W' s',ah W H s aQ W' H' s'->aG W' vs xs->Q xs s')->
  si gM A (spliced (backTo q (starEach es e'))) Q E s:=by
 induction h generalizing W s with |nil=>exact λk=>pk (k _ _ _ (.refl S) trivial)|cons hs h _ ih=>exact λk=>dZ hs▸Calls.spliced_cons (rest:=backTo q (starEach _ e')) (h rm S N λa a a aa aw=>ih aa.sim (N.expr aa) λa a a ab bc=>k _ _ _ (aa.trans S ab) ⟨aw.mono ab.le,bc⟩)
theorem JZ{es:List Expr}{vs:List V}{v:V}(h:lC d sc env es H vs H₁)(hz:vs.length<ai)(hn:(if G.C.mu p then iA (.lst vs) else pure (.lst vs)) H₁=some (v,H')):bY d sc env (.List es p) H v H':=λa a a a a a rm S N k=>arm_eval_List ..▸ox (uk (ox (h.run rm S N λa a a aa aw=>aa.k S k (wJ hn aa.sim aw hz))))
theorem Oh{es:List Expr}{q:Nat}{vs:List V}(h:lC d sc env es H vs H')(hz:vs.length<ai):bY d sc env (.Tuple es q p) H (.tup vs) H':=λa a a a a a rm S N k=>arm_eval_Tuple ..▸ox (uk (ox (h.run rm S N λa a a aa aw=>aa.k S k (uC aa.sim aw hz))))
theorem Oi{x:Str}(hs:dU o=false)(h1:bY d sc env o H a H₁)(h2:getAttrA G.C a x H₁=some (v,H')):bY d sc env (.Attribute o x p) H v H':=λb b b b b b rm S N k=>arm_eval_Attribute ..▸gz hs▸ox (h1 rm S N λb b b aa aw=>ox (uk (ox (ub ((ah.refl aa.sim).k aa.sim (λb b b ab bc=>ox (wpAny_letTemporaryGo (pk (k _ _ _ (aa.trans S ab) bc)))) (n_ h2 aa.sim aw))))))
theorem Oj{b:Bool}(h:pO d sc env t H b H'):pO d sc env (.UnaryOp .Not t p) H (!b) H':=λa a a a a a rm S N k=>wpAny_isTrue_Not (h rm S N k)
theorem Ol{b:Bool}(h1:pO d sc env t H true H₁)(h2:pO d sc env l H₁ b H'):pO d sc env (.IfExp t l r p) H b H':=λa a a a a a rm S N k=>isTrue_IfExp (h1 rm S N λa a aa=>h2 rm aa.sim (N.expr aa) λa a ab=>k _ _ (aa.trans S ab))
theorem Om{b:Bool}(h1:pO d sc env t H false H₁)(h2:pO d sc env r H₁ b H'):pO d sc env (.IfExp t l r p) H b H':=λa a a a a a rm S N k=>isTrue_IfExp (h1 rm S N λa a aa=>h2 rm aa.sim (N.expr aa) λa a ab=>k _ _ (aa.trans S ab))
theorem Oo{op:CmpOp}{b:Bool}(h:bY d sc env (.Compare l [op] [r] p) H (.bool b) H'):pO d sc env (.Compare l [op] [r] p) H b H':=λa a a a a a rm S N k=>wI (h rm S N λa a a aa aw=>wH rfl aa.sim aw λa=>k _ _ (aa.trans S (.toks aa.sim aQ _)))
end
section
variable{d:Nat}{sc:te}{env aj ay:af}{e l r t o i x:Expr}{a b v c:V}{H H₁ H2 H3 H':AH}{p q:aaK}{fl:Fl}{st:B2}{bd:List B2}
noncomputable def Cn(e:Expr):Bool:=vT e.ctorIdx 25
def pP(d:Nat)(sc:te)(env:af)(b:List B2)(H:AH)(fl:Fl)(aj:af)(H':AH):Prop:=∀⦃A:tj⦄⦃E:Value->oC->Prop⦄⦃W:Wd⦄⦃s:oC⦄⦃e':Ts⦄⦃Q:Flow->oC->Prop⦄,bC A d->aN W H s->aq sc env e' W s->(∀f W' s',ah W H s (ck sc e') W' H' s'->aq sc aj e' W' s'->lW W' fl f->Q f s')->si gM A (PySem.execs b e') Q E s
theorem ah.up{W W':Wd}{s s':oC}{X:sx->Prop}(P:ah W H s aQ W' H' s'):ah W H s X W' H' s':=P.wk λa h=>h.elim
theorem oR{M:Model}{α β:Type}{m:Sem α}{b:α}{f:α->Sem β}{A:tj}{Q:β->oC->Prop}{E:Value->oC->Prop}{s:oC}(h:m=pure b)(k:si M A (f b) Q E s):si M A (m>>=f) Q E s:=h▸ox (pk k)
theorem Oq:pP d sc env [] H .next env H:=λa a a a a a rm S N k=>wpAny_execs_nil (k _ _ _ (.refl S) N rfl)
theorem bq(h1:jy d sc env st H .next ay H₁)(h2:pP d sc ay bd H₁ fl aj H'):pP d sc env (st::bd) H fl aj H':=λa a a a a a rm S N k=>wpAny_execs_cons (h1 rm S N λf a a aa dT hG=>hG▸h2 rm aa.sim dT λa a a ab de fe=>k _ _ _ (aa.trans S ab) de fe)
theorem Co(h1:jy d sc env st H (.ret v) aj H'):pP d sc env (st::bd) H (.ret v) aj H':=λa a a a a a rm S N k=>wpAny_execs_cons (h1 rm S N λf a a aa dT hG=>hG.elim λx hx=>hx.1▸k _ _ _ aa dT ⟨x,rfl,hx.2⟩)
theorem J0(h1:jy d sc env st H .cont aj H'):pP d sc env (st::bd) H .cont aj H':=λa a a a a a rm S N k=>wpAny_execs_cons (h1 rm S N λf a a aa dT hG=>hG▸k _ _ _ aa dT rfl)
theorem Ot(h:bY d sc env x H v H'):jy d sc env (.Return (some x) p) H (.ret v) env H':=λa a a a a a rm S N k=>exec_Return_some ..▸ox (uk (ox (h rm S N λz a a P r=>pk (k _ _ _ P.up (N.expr P) ⟨z,rfl,r⟩))))
theorem Ou{QD:List B2}(h:pO d sc env t H true H₁)(h2:pP d sc env bd H₁ fl aj H'):jy d sc env (.If t bd QD p) H fl aj H':=λa a a a a a rm S N k=>arm_exec_If ..▸ox (uk (ox (h rm S N λa a P=>h2 rm P.sim (N.expr P) λa a a ab de fe=>k _ _ _ (P.up.trans S ab) de fe)))
theorem Ov{QD:List B2}(h:pO d sc env t H false H₁)(h2:pP d sc env QD H₁ fl aj H'):jy d sc env (.If t bd QD p) H fl aj H':=λa a a a a a rm S N k=>arm_exec_If ..▸ox (uk (ox (h rm S N λa a P=>h2 rm P.sim (N.expr P) λa a a ab de fe=>k _ _ _ (P.up.trans S ab) de fe)))
theorem J1(hc:gJ x=false)(h:bY d sc env x H .none H'):jy d sc env (.Expr x p) H .next env H':=λb b b b e' b rm S N k=>
 PySem.exec_Expr e' x p (by unfold interactive;rw[N.kind];rfl) (by induction x using Expr.casesOn<;>first|rfl|(exact nomatch hc))▸
  ox (uk (ox (h rm S N λz b b P r=>r▸dropValue_plain (v:=.none) (λa e=>nomatch e)▸pk (k _ _ _ P.up (N.expr P) rfl))))
theorem F4{n:Nat}{e':Ts}(hc:gJ x=false):swapsWith x (some t) n e'=pure false:=by induction x using Expr.casesOn<;>first|rfl|cases hc
theorem Ac{e':Ts}{ts:List Expr}{k:Nat}(hc:Cn x=false):swappedStores [.Tuple ts k p] x e'=pure none:=by induction x using Expr.casesOn<;>first|rfl|cases hc
theorem Iu(hc:gJ x=false)(hs:∀e',swappedStores [t] x e'=pure none)(ha:∀e',aal [t] e'=[(false,aaq t e')])(h1:bY d sc env x H a H₁)(h2:pZ d sc env t a H₁ aj H'):jy d sc env (.Assign [t] x p) H .next aj H':=λb b b b b b rm S N k=>arm_exec_Assign ..▸ox (uk (oR (F4 hc) (ox (h1 rm S N λb b b aa aw=>oR (hs _) (ha _▸ox (h2 rm aa.sim (N.expr aa) aw λb b b ab de=>pk (k _ _ _ (aa.up.trans S ab) de rfl)))))))
theorem Ow{y:Str}(hk:kindOf sc y=some .local):pZ d sc env (.Name y p) a H (aH env y a) H:=λb b b b b b b rm S N r k=>wpAny_assign_Name ((ah.refl S).k S (λx W' s' P (N':aq sc (aH env y a) _ W' s')=>k x W' s' P N') (fU S N hk r))
theorem J2{y:Str}(hk:kindOf sc y=some .cell)(hw:G.C.wo y=true->aY env y=none):pZ d sc env (.Name y p) a H (aH env y a) H:=λb b b b b b b rm S N r k=>wpAny_assign_Name ((ah.refl S).k S (λx W' s' P (N':aq sc (aH env y a) _ W' s')=>k x W' s' P N') (w4 S N hk hw r))
theorem Ox{y:Str}(h1:bY d sc env o H v H₁)(h2:setAttrA G.C v y a H₁=some ((),H')):pZ d sc env (.Attribute o y p) a H env H':=λb b b b b b b rm S N r k=>arm_assign_Attribute ..▸ox (ub (h1 rm S N λb b b aa aw=>ox (uk (ox (ub (n9 h2 aa.sim aw (r.mono aa.le) λb b ab=>wpAny_release (k _ _ _ (aa.trans S ab).up (N.expr (aa.trans S ab)))))))))
theorem Oz(h1:bY d sc env o H v H₁)(h2:bY d sc env i H₁ b H2)(h3:j0 v b a H2=some ((),H')):pZ d sc env (.Subscript o i p) a H env H':=λc c c c c c c rm S N r k=>arm_assign_Subscript ..▸ox (ub (h1 rm S N λc c c aa aw=>ox (ub (h2 rm aa.sim (N.expr aa) λc c c ab bc=>ox (uk (ox (ub (oj h3 ab.sim (aw.mono ab.le) bc (r.mono (aa.le.trans ab.le)) λc c a8=>wpAny_release (k _ _ _ ((aa.trans S ab).trans S a8).up (N.expr ((aa.trans S ab).trans S a8)))))))))))
end
section
variable{d:Nat}{sc:te}{env aj ay:af}{e l r t o i x:Expr}{es:List Expr}{a b v c fv:V}{vs us:List V}{H H₁ H2 H3 H':AH}{p q ap:aaK}{fl:Fl}{st:B2}{bd:List B2}
def qU(d:Nat)(f:V)(vs:List V)(H:AH)(v:V)(H':AH):Prop:=∀⦃A:tj⦄⦃E:Value->oC->Prop⦄⦃W:Wd⦄⦃s:oC⦄⦃f':Value⦄⦃xs:List Value⦄⦃Q:Value->oC->Prop⦄,bC A d->aN W H s->Rel W f f'->aG W vs xs->(∀x W' s',ah W H s aQ W' H' s'->Rel W' v x->Q x s')->si gM A (xi f' xs) Q E s
theorem aC.wp(h:aC d fv vs H v H'):qU d fv vs H v H':=λa a a a a a a rm S rf rs k=>wpAny_call (h rm S rf rs k)
theorem lC.star{e':Ts}(h:lC d sc env es H vs H'):(backTo p (starEach es e')).any (·.1)=false:=by
 induction h with |nil=>rfl|cons hs _ _ ih=>exact dZ hs▸ih
theorem lC.args{A:tj}{E:Value->oC->Prop}{W:Wd}{s:oC}{e':Ts}{f':Value}{Q:Args->oC->Prop}(h:lC d sc env es H vs H')(rm:bC A d)(S:aN W H s)(N:aq sc env e' W s)
  (k:∀xs W' s',ah W H s aQ W' H' s'->aG W' vs xs->Q ⟨xs,[]⟩ s'):si gM A (evalArgs f' true (backTo p (starEach es e')) []) Q E s:=by
 induction h with |nil=>exact evalArgs_nil3 (k [] W s (.refl S) trivial)|cons hs h1 h2=>obtain m:=(lC.cons hs h1 h2).run rm S N k;rw[dZ hs] at m⊢;exact Calls.evalArgs_plain m
theorem cw{A:tj}{E:Value->oC->Prop}{W:Wd}{s:oC}{e':Ts}{f':Value}{first:List Value}{Q:Value->oC->Prop}(h:lC d sc env es H vs H₁)(hc:callable fv=true)(nZ:∀c,fv=.cls c->(G.C.gG.lookup c).isSome=true)(rm:bC A d)(S:aN W H s)(N:aq sc env e' W s)
  (rf:Rel W fv f')(k:∀xs W' s',ah W H s aQ W' H₁ s'->Rel W' fv f'->aG W' vs xs->si gM A (xi f' (first++xs)) Q E s'):
  si gM A (callWith q f' first (backTo p (starEach es e')) []) Q E s:=
 callWith_of ((Bool.or_false _).trans (h.star)) (λh X=>sM hc h X nZ) (h.args rm S N λxs ag s₁ aa aw=>⟨⟨aa.sim.cO,ag,rf.mono aa.le,aa.sim.z⟩,k _ ag s₁ aa (rf.mono aa.le) aw⟩)
theorem F5{f:Str}(h1:bY d sc env (.Name f q) H fv H₁)(h2:lC d sc env es H₁ vs H2)(hc:callable fv=true)(nZ:∀c,fv=.cls c->(G.C.gG.lookup c).isSome=true)(h3:qU d fv vs H2 v H'):bY d sc env (.Call (.Name f q) es [] p) H v H':=λa a a a a a rm S N k=>arm_eval_Call_Name' ..▸ox (h1 rm S N λa a a aa aw=>cw h2 hc nZ rm aa.sim (N.expr aa) aw λa a a ab rf rs=>h3 rm ab.sim rf rs λa a a a8 r=>k _ _ _ ((aa.trans S ab).trans S a8) r)
def kC(d:Nat)(sc:te)(env:af)(o:V)(m:Str)(es:List Expr)(H:AH)(v:V)(H':AH):Prop:=∀⦃A:tj⦄⦃E:Value->oC->Prop⦄⦃W:Wd⦄⦃s:oC⦄⦃e':Ts⦄⦃ov:Value⦄⦃p:aaK⦄⦃Q:Value->oC->Prop⦄,bC A d->aN W H s->aq sc env e' W s->Rel W o ov->(∀x W' s',ah W H s aQ W' H' s'->Rel W' v x->Q x s')->∀{im:Sem Bool},si gM A (getMethod ov m im) (λr ar=>si gM A (callWith p r.1 r.2 (backTo p (starEach es e')) []) Q E ar) E s
end
section
variable{d:Nat}{sc:te}{env aj ay:af}{e l r t o i x:Expr}{es:List Expr}{a b v c ov:V}{vs us:List V}{H H₁ H2 H3 H':AH}{p q ap:aaK}{m:Str}
theorem F6(hs:dU o=false)(Lz:es.any isStarred=false)(hl:(ap.endLine==p.line)=true)(hn:es.length<29)(h1:bY d sc env o H ov H₁)(h2:kC d sc env ov m es H₁ v H'):bY d sc env (.Call (.Attribute o m ap) es [] p) H v H':=λa a a a a a rm S N k=>lg hs Lz hl hn (h1 rm S N λa a a aa aw=>h2 rm aa.sim (N.expr aa) aw λa a a ab bc=>k _ _ _ (aa.trans S ab) bc)
theorem J3{k c f:Nat}{fs:List (Str×V)}{cd:Ja}(hk:H[k]?=some (.inst c fs))(hl:fs.lookup m=none)(hd:G.C.gG.lookup c=some cd)(hm:cd.meths.lookup m=some f)(h1:lC d sc env es H vs H₁)(h2:aC d (.fn f) (.ref k::vs) H₁ v H'):kC d sc env (.ref k) m es H v H':=by
 intro A E W s e' ov p Q rm S N r0 kk im;obtain⟨a,rfl,ha⟩:=r0;refine(mY S hk ha hd).elim λmA YL=>?_;refine YL.elim λob YM=>?_;refine YM.elim λdx Wq=>?_;obtain I:=Wq.1;obtain F:=Wq.2.1
 obtain⟨nm,qn,N0,bs,sn,sub,col,dd,k0,k1',k2,k3,k5,mN,hC,hN,Nf,Wr,wU,Ng,Ez⟩:=S.cO.cls c cd hd;obtain⟨hf,Ly,y,hB⟩:=Ng m f hm;obtain⟨YN,YO⟩:=nB Ly;obtain⟨_,of,fd,TU,TV,_⟩:=S.cO.fns f YN YO;obtain Qn:=F m;rw[hl] at Qn;obtain tail:=cw (Q:=Q) (fv:=.fn f) (first:=[.ref a]) h1 rfl (λc e=>nomatch e) rm S N ⟨rfl,Ly⟩ λxs b b aa rf rx=>h2.wp rm aa.sim rf ⟨⟨a,rfl,aa.le.φ _ _ ha⟩,rx⟩ λb b b ab bc=>kk _ _ _ (aa.trans S ab) bc
 exact method_of hC hN Nf Wr hf TU TV hB I Qn tail
theorem OA{k:Nat}{cl g:V}{fs:List (Str×V)}(hk:H[k]?=some (.qp cl fs))(hl:fs.lookup (t5 "read")=some g)(hg:Bc g=true)(h1:lC d sc env es H vs H₁)(h2:aC d g vs H₁ v H'):kC d sc env (.ref k) (t5 "read") es H v H':=by
 intro A E W s e' ov p Q rm S N r0 kk im;obtain⟨a,rfl,ha⟩:=r0;obtain⟨o,fd,Ny,Tv,YQ,Je⟩:=S.at hk ha;rcases Je with ⟨rfl,_⟩|⟨dx,cG,zO,hda,NC,mF,wU,hF⟩
 ·exact nE hl
 ·obtain Ws:=hF (t5 "read")
  rw[hl] at Ws;obtain⟨y,hy,ry⟩:=Ws;obtain tail:∀k:Nat,si gM A (callWith p y [] (backTo p (starEach es e')) []) Q E {s with toks:=k}:=λk=>
   have PT:=ah.toks S aQ k
   cw h1 (by induction g using V.casesOn<;>first|rfl|cases hg) (λc e=>by subst e;exact bE hg) rm PT.sim (N.expr PT) ry λxs b b aa rf rx=>h2.wp rm aa.sim rf rx λb b b ab bc=>kk _ _ _ ((PT.trans S aa).trans S ab) bc
  exact sJ Ny Tv YQ zO wU.ns hy jv (handed (by induction g using V.casesOn<;>first|rfl|cases hg) ry) tail
def F7(T:String)(m:Str)(o:V)(vs:List V)(H:AH)(v:V)(H':AH):Prop:=∃id,Slot T m id/\typeOf (.builtin id)=pure (.type "method_descriptor")/\∀⦃A:tj⦄⦃E:Value->oC->Prop⦄⦃W:Wd⦄⦃s:oC⦄⦃x:Value⦄⦃xs:List Value⦄,aN W H s->Rel W o x->aG W vs xs->bC A 1->si gM A (xi (.builtin id) (x::xs)) (λz=>bf W H s aQ H' λW' a=>Rel W' v z) E s
theorem qV{T:String}(pa:PlainAttrs T)(hT:∀{W s x},aN W H s->Rel W ov x->s.TypeIs x T/\∀a,x=.ref a->∃ob,s.heap.get? a=some ob/\ob.dict=none)(h1:lC (d+1) sc env es H vs H₁)(h2:F7 T m ov vs H₁ v H'):kC (d+1) sc env ov m es H v H':=λA E W s e' x p Q rm S N r0 kk im=>h2.elim λid g=>getMethod_builtin (hT S r0).1 pa g.1 g.2.1 (hT S r0).2 (cw h1 (fv:=.blt id) rfl (λc e=>nomatch e) rm S N rfl λxs b b aa b rx=>aa.k S kk (g.2.2 aa.sim (r0.mono aa.le) rx (rm.le (Nat.succ_le_succ (zr d)))))
end
theorem Ad{W:Wd}{vs:List Value}{ns:List Int}(h:IntsAre vs ns):aG W (ns.map .int) vs:=by
 induction h with |nil=>trivial|cons n t _ ih=>exact⟨⟨t,rfl⟩,ih⟩
theorem F8:∀P∈Hd.kT,∃p∈uq,p.2.1=P:=by decide+kernel
theorem J4{s s':oC}{W':Wd}{H':AH}(dp:(Hd.kF w0.params).In s.heap)(TT:∀P∈Hd.kT,s.heap.get? P=some (tabObj #[]))(P:ah (W0 s.heap) [] s aQ W' H' s'):OldK s.heap s'.heap:=by
 obtain grown:∀b o,b∈Hd.kT->s.heap.get? b=some o->isCodeTable s.heap b/\o=tabObj #[]/\∃ps,s'.heap.get? b=some (tabObj ps):=λb o hb e=>by
  obtain e2:=TT b hb;rw[e] at e2;obtain rfl:=oy e2;obtain⟨p,hp,rfl⟩:=F8 b hb;obtain hc:=uX dp p hp;refine⟨(hc.tab e).isCodeTable,rfl,?_⟩;refine(P.cl p.2.1 #[] ⟨p.1,p.2.2,hp⟩ e).elim λmore h=>?_
  exact⟨_,h⟩
 obtain keep:∀b o,¬b∈Hd.kT->s.heap.get? b=some o->s'.heap.get? b=some o:=λb o hb e=>P.keep b o e (λ⟨c,q,hm⟩=>hb (m7 _ hm).1) (λk hk=>by exact nE hk) (λh=>h)
 refine⟨λb o e=>?_,λb o e=>?_⟩
 ·by_cases hb:b∈Hd.kT
  ·obtain⟨ht,rfl,ps,hP⟩:=grown b o hb e;exact .inr (.inl ⟨ht,rfl,#[],ps,rfl,by exact Array.empty_append▸(hP)⟩)
  ·exact .inl (keep b o hb e)
 ·by_cases hb:b∈Hd.kT
  ·obtain⟨_,_,ps,hP⟩:=grown b o hb e;exact⟨_,hP⟩
  ·exact⟨o,keep b o hb e⟩
theorem F9{P:Hc}{h:xI}{a:sx}{vs:List Value}{d:List WData}(w1:Well P h (.ref a) (.list d))(hL:h.IsList a vs.toArray):h.get? a=some (ja vs.toArray 0):=by
 cases w1 with |list g _=>obtain⟨o,ho,_,n,hd⟩:=hL;rw[g] at ho;obtain rfl:=oy ho;cases hd;exact g
theorem F_{s:oC}{p:Program}{loose:List Str}{ur:ExcName->Option Value}{mg mb:Str->Option Value}{fa a:sx}{vs:List Value}{ns:List Int}{m:Nat}{E:Value->oC->Prop}(dp:(Hd.kF w0.params).In s.heap)(TT:∀P∈Hd.kT,s.heap.get? P=some (tabObj #[]))(T:Top p loose ur mg mb s.heap)
  (hf:mg (Mine.T "law")=some (.ref fa))(g:s.heap.get? a=some (ja vs.toArray m))(hI:IntsAre vs ns)(hl:ns.length<64){H':AH}(run:aC 9 (.fn 231) [.lst (ns.map .int)] [] (.bool true) H'):
  si (model lU w0) callerA (xi (.ref fa) [.ref a]) (λv s'=>v=.bool true/\OldK s.heap s'.heap/\s'.os=s.os/\s'.gens=s.gens) E s:=by
 obtain S:=JV dp TT T;have TX:fa=231:=by have :=gU dp T.g (n:=Mine.T "law") (v:=.ref 231) (by kernel_rfl);rw[hf] at this;cases this;rfl
 subst TX;have ha:Hd.kT.contains a=false:=by
  induction h:Hd.kT.contains a with |false=>rfl|true=>have :=TT a (by simp_all);rw[g] at this;exact nomatch this
 refine wpAny_call (run ⟨rfl,by decide+kernel,by decide+kernel⟩ S ?_ ?_ λv W' s' P r=>?_)
 ·skip
  exact⟨rfl,rfl⟩
 ·skip
  refine⟨⟨a,m,_,rfl,?_,?_,by exact Ad hI⟩,trivial⟩
  ·skip
   refine(yD ha).trans ?_;exact g
  ·rw[ph];exact X2 hl (by decide)
 ·skip
  exact⟨r,J4 dp TT P,P.os,P.gens⟩
section
variable{d:Nat}{sc:te}{env aj ay:af}{e l r t o i x:Expr}{es:List Expr}{a b v v' c ov f:V}{vs us:List V}{H H₁ H2 H3 H':AH}{p q ap:aaK}{m:Str}{fl:Fl}
theorem yE{n:Nat}(h:aC d f vs H v H₁)(hz:freeze n v H₁=some (v',H')):aC d f vs H v' H':=λa a a a a a a rm S rf rs k=>h rm S rf rs λa a a P r=>(jc n hz P.sim r).elim λa q=>k _ _ _ (P.trans S q.1) q.2
theorem J5{fk:Nat}{dd:A7}(hd:jD G.C fk=some dd)(hl:dd.params.length=vs.length)(h:pP d dd.sc (dd.params.zip vs) dd.body H fl aj H'):aC (d+1) (.fn fk) vs H (Rq fl) H':=by
 intro A E W s f' xs Q rm S rf rs k;refine rf.elim λz1 b=>?_;subst z1
 obtain⟨gO,o,fd,ho,JR,gi,Cp,uG,hg,TY,TZ,J6,T3,J7,M9,yF⟩:=S.cO.fns fk dd hd;have J8:=gO
 unfold A7.ok at J8;simp only[vr,decide_eq_true_eq,beq_iff_eq,L9] at J8;obtain⟨⟨⟨⟨⟨⟨Ie,hd2⟩,Qp⟩,Lw⟩,XT⟩,MZ⟩,hd7⟩:=J8;have M8:dd.params.length=xs.length:=by rw[hl];exact rs.length
 refine codeAny_call_cells rm.lim ho gi S.cO.noLimit M9 Cp (lY J7 J6 T3 M8 MZ) TZ ?_ (λs₁ I=>?_) (by rw[uG];exact hd2) (by rw[uG];exact Qp) (by rw[uG];exact Ie)
 ·intro x hx;obtain YR:=(aaM hx).1;obtain this:=cj Lw x.1 YR;unfold Bp kindOf at this;rw[uG]
  revert this
  induction hk:dd.sc.names.lookup x.1 with
  |none=>intro h;exact bE h|some k=>
   induction k with |«local»=>intro _;exact .inl rfl|cell=>intro _;exact .inr ⟨rfl,dW _ _ _ _ hk⟩|_=>intro h;exact bE h
 ·obtain⟨aa,dT,own⟩:=BB S gO rfl hl rs uG hg TY yF I;exact h (rm.deeper _) aa.sim dT λg a9 ar ab de fe=>k _ _ _ (ah.trans' S aa ab λa ha=>.inr (own a ha)) fe.val
theorem T4{k f:Nat}(h:aC d (.fn f) (.ref k::vs) H v H'):aC d (.bm k f) vs H v H':=λc c c c c c c rm S rf rs k=>by obtain⟨a,b,rfl,h2,h3,h4⟩:=rf;exact ks_codeAny_call_bound (S.z _ _ h3) (h rm S ⟨rfl,h4⟩ ⟨⟨b,rfl,h2⟩,rs⟩ k)
theorem Cq{ps:List Str}{body:Expr}{dD:List (Str×V)}(Fy:x7 ps sc dD=true)(hl:ps.length=vs.length)(h:bY d (f9 sc) (ps.zip vs++dD) body H v H'):aC (d+1) (.r8 ps body sc dD) vs H v H':=by
 intro A E W s f' xs Q rm S rf rs k;obtain⟨a,o,fd,rfl,hz,JR,gi,J7,Cp,uG,hg,TY,J6,T3,⟨c,oc,YS,t,M5,Qq,Qs,M6⟩,rc⟩:=rf;have J9:=Fy
 unfold x7 at J9;simp only[vr,decide_eq_true_eq,beq_iff_eq,L9] at J9;obtain⟨⟨⟨⟨⟨⟨⟨⟨mR,g1⟩,g2⟩,g3⟩,g4⟩,g5⟩,g6⟩,g7⟩,g8⟩:=J9;obtain M8:ps.length=xs.length:=by rw[hl];exact rs.length
 refine kla_callFunE rm.lim (S.z _ _ hz) gi (by rw[uG];exact g2) (by rw[uG];exact g3) Cp ⟨c,oc,YS,t,M5,S.z _ _ Qq,Qs,M6⟩ ?_;rw[lY J7 J6 T3 M8 g7];refine pk (wpAny_newFunctionEnv ?_ ?_ (λbo wU A2=>?_) (by rw[uG];exact g1))
 ·intro x hx;rw[uG] at hx;obtain this:=cj g4 x hx;simpa using this
 ·intro x hx;obtain this:=cj g5 x.1 (aaM hx).1;rw[uG];unfold kindOf at this;simpa using this
 ·obtain⟨aa,dT,own⟩:=zN (e:=newEnv fd.scope s.heap.objs.size fd.globals fd.closure (fd.qualname++".<locals>.") (some a) fd.code none fd.builtins) S Fy hl rs rc rfl uG rfl hg TY wU _ A2;exact⟨aa.sim.cO.noLimit,kla_codeExpr (h (rm.deeper _) aa.sim dT λx a9 ar ab bc=>k _ _ _ (aa.trans S ab) bc)⟩
end
section
variable{d:Nat}{sc:te}{env aj ay:af}{e l r t o i x:Expr}{es:List Expr}{a b c old ov iv y z:V}{vs us:List V}{H H₁ H2 H3 hJ H':AH}{p q ap:aaK}{m n:Str}{fl:Fl}
theorem J_(h1:d9 G.C sc env n=some old)(h2:bY d sc env x H y H')(h3:jZ old y=some z)(hk:kindOf sc n=some .local):jy d sc env (.AugAssign (.Name n q) .Add x p) H .next (aH env n z) H':=by intro A E W s e' Q rm S N k;refine arm_exec_AugAssign ..▸ox (uk (ox ((ah.refl S).k S (λa ag s₁ aa aw=>?_) (k6 h1 S N))));refine ox (ub (h2 rm aa.sim (N.expr aa) λb a9 ar ab bc=>ox (uk (ox (wpAny_operating ((aa.trans S ab).k S (λc cx da P dt=>?_) (om h3 ab.sim (aw.mono ab.le) bc)))))));exact ox (uk (ox (wpAny_bindName (P.up.k S (λe e e P N'=>pk (k _ _ _ P N' rfl)) (fU P.sim (N.expr P) hk dt)))))
theorem fh{α:Type}{t:Sem α}{A:tj}{E:Value->oC->Prop}{X:sx->Prop}{W:Wd}{s:oC}{R:α->Wd->oC->Prop}{Q:α->oC->Prop}(h:si gM A t (λx=>bf W H s X H' (R x)) E s)(k:∀x W' s',ah W H s X W' H' s'->R x W' s'->Q x s'):si gM A t Q E s:=wb h (λx ar q=>q.elim λa9 q=>k x a9 ar q.1 q.2) λa a h=>h
theorem J'(h1:bY d sc env o H ov H₁)(h2:getAttrA G.C ov m H₁=some (old,H2))(h3:bY d sc env x H2 y H3)(h4:jZ old y=some z)(h5:setAttrA G.C ov m z H3=some ((),H')):jy d sc env (.AugAssign (.Attribute o m q) .Add x p) H .next env H':=by
 intro A E W s e' Q rm S N k;refine arm_exec_AugAssign_2 ..▸ox (uk (ox (h1 rm S N λu ag s₁ aa aw=>ox (ub (ox (uk (ox (fh (n_ h2 aa.sim aw) λa a9 ar ab bc=>?_))))))));refine ox (ub (h3 rm ab.sim (N.expr (aa.trans S ab)) λb cx da a8 dt=>ox (uk (wpAny_operating (fh (om h4 a8.sim (bc.mono a8.le) dt) λc du dA bt km=>?_)))));have Q4:=(ab.trans aa.sim a8).trans aa.sim bt
 exact ox (uk (ox (ub (n9 h5 bt.sim (aw.mono Q4.le) km λbp cm cb=>ox (wpAny_release (pk (have P:=(aa.trans S Q4).trans S cb;k _ _ _ P.up (N.expr P) rfl)))))))
theorem Ka(hi:isSlice i=false)(h1:bY d sc env o H ov H₁)(h2:bY d sc env i H₁ iv H2)(h3:item H2 ov iv=some old)(h4:bY d sc env x H2 y H3)(h5:jZ old y=some z)(h6:j0 ov iv z H3=some ((),H')):jy d sc env (.AugAssign (.Subscript o i q) .Add x p) H .next env H':=by
 intro A E W s e' Q rm S N k;refine arm_exec_AugAssign_3 ..▸ox (uk (ox (h1 rm S N λu ag s₁ aa aw=>ox (ub (h2 rm aa.sim (N.expr aa) λj a9 ar ab bc=>ox (ub (ox (uk (ox (fh (yn h3 ab.sim (aw.mono ab.le) bc).2 λb cx da a8 dt=>?_))))))))));refine ox (ub (h4 rm a8.sim (N.expr ((aa.trans S ab).trans S a8)) λc du dA bt km=>ox (uk (wpAny_operating (fh (om h5 bt.sim (dt.mono bt.le) km) λdd bp cm cb kn=>?_)))));have Q5:=(a8.trans ab.sim bt).trans ab.sim cb
 refine ox (uk ?_);have main:si gM A (do holding [dd,u,j] (setItem u j dd);release [dd,u,j] [];pure Flow.next) Q E cm:=ox (ub (oj h6 cb.sim (aw.mono (ab.le.trans Q5.le)) (bc.mono Q5.le) kn λkz l3 fw=>ox (wpAny_release (pk (have P:=((aa.trans S ab).trans S Q5).trans S fw;k _ _ _ P.up (N.expr P) rfl)))))
 induction i using Expr.casesOn<;>first|exact main|cases hi
end
section
variable{d:Nat}{sc:te}{env aj ay:af}{e l r t o i x:Expr}{es ts:List Expr}{a b c v ov iv y z:V}{vs us:List V}{H H₁ H2 H3 hJ H':AH}{p q ap:aaK}{m n:Str}{fl:Fl}
inductive Cs(d:Nat)(sc:te):af->List Expr->List V->AH->af->AH->Prop where
|nil{env:af}{H:AH}:Cs d sc env [] [] H env H|cons{t:Expr}{ts:List Expr}{v:V}{vs:List V}{env ay aj:af}{H H₁ H':AH}(hs:isStarred t=false)(h:pZ d sc env t v H ay H₁)(k:Cs d sc ay ts vs H₁ aj H'):Cs d sc env (t::ts) (v::vs) H aj H'
theorem ia{e':Ts}(hs:isStarred t=false):aal (t::ts) e'=(false,aaq t e')::aal ts e':=by induction t using Expr.casesOn<;>first|rfl|exact nomatch hs
theorem Cs.len{e':Ts}(h:Cs d sc env ts vs H aj H'):(aal ts e').length=vs.length/\(aal ts e').findIdx? (·.1)=none:=by
 induction h with |nil=>exact⟨rfl,rfl⟩|cons hs _ _ ih=>refine(ia hs)▸?_;exact⟨congrArg (·+1) ih.1,by rw[List.findIdx?_cons,ih.2];rfl⟩
theorem Cs.run{A:tj}{E:Value->oC->Prop}{W:Wd}{s:oC}{e':Ts}{xs:List Value}(h:Cs d sc env ts vs H aj H')(rm:bC A d)(S:aN W H s)(N:aq sc env e' W s)(r:aG W vs xs):
  ∀{Q:Unit->oC->Prop},(∀u W' s',ah W H s (ck sc e') W' H' s'->aq sc aj e' W' s'->Q u s')->si gM A (assignInOrder ((aal ts e').map (·.2)) xs) Q E s:=by
 induction h generalizing W s xs with |nil=>exact λk=>(match xs,r with |[],_=>pk (k _ _ _ (.refl S) N))|cons hs h _ ih=>exact λk=>ia hs▸(match xs,r with |x::xs,r=>ox (ub (h rm S N r.1 λa a a aa dT=>ih aa.sim dT (r.2.mono aa.le) λa a a ab de=>k _ _ _ (aa.trans S ab) de)))
theorem Iv{k:Nat}(h:Cs d sc env ts vs H aj H'):pZ d sc env (.Tuple ts k p) (.tup vs) H aj H':=by
 intro A E W s e' x Q rm S N r kk;obtain⟨a,m,xs,rfl,hz,hl,r⟩:=r;obtain g:=S.z _ _ hz;obtain el:=r.length;refine arm_assign_Tuple ..▸ox (uk ?_);unfold unpack;simp only[h.len.1,el,h.len.2];refine ox (ub (bN (wpAny_unpackItems_tuple rm.handled (Fb g) λh' he hsz=>?_)));have aa:=ah.grow S aQ (λb o e=>he b o (x5 (ti e)) e) hsz rfl rfl (λc c h=>h) (λc c h=>.inl h) rfl rfl
 exact h.run rm aa.sim (N.expr aa) r λc c c P N=>kk _ _ _ (aa.up.trans S P) N
end
section
variable{d:Nat}{sc:te}{env aj ay:af}{e e2 l r t o i x:Expr}{es ts:List Expr}{a b c v ov iv y z:V}{vs us:List V}{H H₁ H2 H3 hJ H':AH}{p q ap:aaK}{m n:Str}{fl:Fl}{op:BoolOp}{u w:Bool}
def OB(d:Nat)(sc:te)(env:af)(op:BoolOp)(es:List Expr)(H:AH)(v:V)(H':AH):Prop:=∀⦃A:tj⦄⦃E:Value->oC->Prop⦄⦃W:Wd⦄⦃s:oC⦄⦃e':Ts⦄⦃p:aaK⦄⦃Q:Value->oC->Prop⦄,bC A d->aN W H s->aq sc env e' W s->(∀x W' s',ah W H s aQ W' H' s'->Rel W' v x->Q x s')->si gM A (boolOp p op (evalEach es e')) Q E s
noncomputable def Iw:BoolOp->Bool->Bool|.And,b=>!b|.Or,b=>b
theorem OC(h:bY d sc env e H v H'):OB d sc env op [e] H v H':=λa a a a a a a rm S N k=>h rm S N k
theorem IB(h:bY d sc env e H a H₁)(ht:Qi a H₁=some (u,H₁))(hk:if Iw op u then a=v/\H₁=H' else OB d sc env op (e2::es) H₁ v H'):OB d sc env op (e::e2::es) H v H':=λA E W s e' p Q rm S N k=>
 ox (h rm S N λx ag s₁ aa aw=>ox (uk (ox (ub (wH ht aa.sim aw λtk=>by
  have P:=aa.trans S (ah.toks aa.sim aQ tk);induction op<;>induction u
  ·obtain⟨rfl,rfl⟩:=hk;exact pk (k _ _ _ P aw)
  ·exact hk rm P.sim (N.expr P) λb b b ab bc=>k _ _ _ (P.trans S ab) bc
  ·exact hk rm P.sim (N.expr P) λb b b ab bc=>k _ _ _ (P.trans S ab) bc
  ·obtain⟨rfl,rfl⟩:=hk;exact pk (k _ _ _ P aw))))))
theorem Ct(h:OB d sc env op es H v H'):bY d sc env (.BoolOp op es p) H v H':=λa a a a a a rm S N k=>h rm S N k
def p5(d:Nat)(sc:te)(env:af)(op:BoolOp)(es:List Expr)(H:AH)(u:Bool)(H':AH):Prop:=∀⦃A:tj⦄⦃E:Value->oC->Prop⦄⦃W:Wd⦄⦃s:oC⦄⦃e':Ts⦄⦃Q:Bool->oC->Prop⦄,bC A d->aN W H s->aq sc env e' W s->(∀W' s',ah W H s aQ W' H' s'->Q u s')->si gM A (allTrue op es e') Q E s
theorem Kc:p5 d sc env .And [] H true H:=λa a a a a a rm S N k=>pk (k _ _ (.refl S))
theorem OD:p5 d sc env .Or [] H false H:=λa a a a a a rm S N k=>pk (k _ _ (.refl S))
theorem Kd(h:pO d sc env e H false H'):p5 d sc env .And (e::es) H false H':=λa a a a a a rm S N k=>wpAny_allTrue_And_cons (h rm S N λa a P=>k _ _ P)
theorem Ke(h:pO d sc env e H true H₁)(h2:p5 d sc env .And es H₁ u H'):p5 d sc env .And (e::es) H u H':=λa a a a a a rm S N k=>wpAny_allTrue_And_cons (h rm S N λa a P=>h2 rm P.sim (N.expr P) λa a ab=>k _ _ (P.trans S ab))
theorem OE(h:pO d sc env e H true H'):p5 d sc env .Or (e::es) H true H':=λa a a a a a rm S N k=>wpAny_allTrue_Or_cons (h rm S N λa a P=>k _ _ P)
theorem OF(h:pO d sc env e H false H₁)(h2:p5 d sc env .Or es H₁ u H'):p5 d sc env .Or (e::es) H u H':=λa a a a a a rm S N k=>wpAny_allTrue_Or_cons (h rm S N λa a P=>h2 rm P.sim (N.expr P) λa a ab=>k _ _ (P.trans S ab))
theorem Cu(h:p5 d sc env op es H u H'):pO d sc env (.BoolOp op es p) H u H':=λa a a a a a rm S N k=>wpAny_isTrue_BoolOp (h rm S N k)
theorem OG(he:∀e' w,isTrue e e' w=(do let v<-w;standAt e.pos;holding [v] (truthy v)))(h:bY d sc env e H v H')(ht:Qi v H'=some (u,H')):pO d sc env e H u H':=λa a a a a a rm S N k=>wpAny_isTrue_value (h rm S N λa a a P r=>wH ht P.sim r λa=>k _ _ (P.trans S (.toks P.sim aQ _))) (he _ _)
theorem Kf:jy d sc env (.Continue p) H .cont env H:=λa a a a a a rm S N k=>show si _ _ (do standAt _;pure Flow.cont) _ _ _ from ox (uk (pk (k _ _ _ (.refl S) N rfl)))
end
section
variable{d:Nat}{sc:te}{env aj ay:af}{e e2 l r t o i x:Expr}{es ts:List Expr}{a b c v ov iv y z:V}{vs us:List V}{H H₁ H2 H3 hJ H':AH}{p q ap:aaK}{m n:Str}{fl:Fl}{op:BoolOp}{u w:Bool}
def OH(d:Nat)(sc:te)(env:af)(e:Option Expr)(H:AH)(j:Option Int)(H':AH):Prop:=∀⦃A:tj⦄⦃E:Value->oC->Prop⦄⦃W:Wd⦄⦃s:oC⦄⦃e':Ts⦄⦃Q:Value->oC->Prop⦄,bC A d->aN W H s->aq sc env e' W s->(∀x W' s',ah W H s aQ W' H' s'->nX x j->Q x s')->si gM A (evalPart e e') Q E s
theorem Kg:OH d sc env none H none H:=λa a a a a a rm S N k=>evalPart_none _▸pk (k _ _ _ (.refl S) (.inl ⟨rfl,rfl⟩))
theorem Kh{j:Int}(h:bY d sc env e H (.int j) H'):OH d sc env (some e) H (some j) H':=λa a a a a a rm S N k=>evalPart_some ..▸h rm S N λa a a P r=>r.elim λt hr=>k _ _ _ P (.inr ⟨j,t,rfl,hr⟩)
theorem Ga{lo hi:Option Expr}{jl jh:Option Int}(h1:bY d sc env e H a H₁)(h2:OH d sc env lo H₁ jl H2)(h3:OH d sc env hi H2 jh H')(h4:slice H' a jl jh=some c):bY d sc env (.Subscript e (.Slice lo hi none p) q) H c H':=λb b b b b b rm S N k=>
 ym (h1 rm S N λx ag s₁ aa aw=>wpAny_Slice (h2 rm aa.sim (N.expr aa) λlv a9 ar ab bc=>h3 rm ab.sim (N.expr (aa.trans S ab)) λhv cx da a8 dt=>evalPart_none _▸pk (
  have bt:=ah.gw a8.sim aQ {cls:=.type "slice",data:=.fields #[lv,hv,.none]}
  (BA h4 bt.sim (aw.mono ((ab.trans aa.sim a8).trans aa.sim bt).le) (xI.IsSliceOf.new _ lv hv .none) bc dt).elim λg g3=>g.elim λT g=>g.elim λid g=>⟨T,id,g.1,g.2,fh g3 λz bp cm cb kn=>k _ _ _ ((((aa.trans S ab).trans S a8).trans S bt).trans S cb) kn⟩)))
theorem Gb(hn:(if G.C.mu p then iA (.aE []) else pure (.aE [])) H=some (v,H')):bY d sc env (.Dict [] [] p) H v H':=λa a a s a a rm S N k=>
 have dq:=ah.gw S aQ {cls:=.type "dict",data:=.dict #[]};have fr:=⟨S.dc (pd _),S.iG (pd _),S.gh (pd _)⟩
 arm_eval_Dict ..▸ox (uk (B1 (
  (lA hn dq fr (pd _) (tc _ rfl) (S.mods (pd _)) .nil (by show 0<ai;decide) trivial).elim λW' g=>g.elim λP' g=>k _ _ _ P' g.2.1)))
end
section
variable{d:Nat}{vs:List V}{H H':AH}
theorem IC{c fk:Nat}{cd:Ja}(hd:G.C.gG.lookup c=some cd)(hm:cd.meths.lookup (t5 "__init__")=some fk)(h:aC d (.fn fk) (.ref H.length::vs) (H++[.inst c []]) .none H'):aC (d+1) (.cls c) vs H (.ref H.length) H':=by
 intro A E W s f' xs Q rm S rf rs kk;subst rf;obtain⟨nm,q,N,bs,sn,sub,col,dd,k0,k1,k2,k3,k5,mN,hC,hN,Nf,Wr,wU,Ng,Ez⟩:=S.cO.cls c cd hd;obtain⟨hi,hs,_⟩:=Ng _ fk hm;obtain⟨df,YT⟩:=nB hs;obtain⟨_,oI,fd,YU,Nh,_⟩:=S.cO.fns fk df YT;have hk:∀b ob,s.heap.get? b=some ob->(dH s.heap (G.ca c)).get? b=some ob:=λb ob e=>px _ (px _ e)
 have yt:(dH s.heap (G.ca c)).objs.size=s.heap.objs.size+2:=by simp only[xc]
 have YV:(dH s.heap (G.ca c)).get? (s.heap.objs.size+1)=some {cls:=.ref (G.ca c),dict:=some s.heap.objs.size,data:=.plain}:=by obtain this:=tc (s.heap.push {cls:=.type "dict",data:=.dict #[]}) (o:={cls:=.ref (G.ca c),dict:=some s.heap.objs.size,data:=.plain}) rfl;rw[xc] at this;exact this
 obtain Ss:(dH s.heap (G.ca c)).get? s.heap.objs.size=some {cls:=.type "dict",data:=.dict #[]}:=px _ (tc _ rfl);let ag:Wd:=⟨λj=>if j=H.length then some (s.heap.objs.size+1) else W.φ j,λb=>if b=s.heap.objs.size\/b=s.heap.objs.size+1 then some H.length else W.own b,W.Z⟩
 have w1:ag.φ H.length=some (s.heap.objs.size+1):=if_pos rfl;obtain aa:ah W H s aQ ag (H++[.inst c []]) {s with heap:=dH s.heap (G.ca c)}:=by
  refine ah.Nj S aQ _ rfl rfl (if_pos (.inr rfl)) (λb j h=>?_) (λb j h=>?_) (yt▸Kk _ 2) hk ?_ rfl rfl
  ·have lt:=(S.cH b j h).2;exact(if_neg λq=>q.elim (λe=>aah _ (e▸lt)) λe=>absurd (e▸lt) (vi (Ee _))).trans h
  ·by_cases hb:b=s.heap.objs.size\/b=s.heap.objs.size+1
   ·exact .inr ⟨(oy ((if_pos hb).symm.trans h)).symm,hb.elim (λe=>e▸pd _) (λe=>e▸Ee _),yt▸hb.elim (λe=>e▸Mo (BM _)) λe=>e▸BM _⟩
   ·exact .inl ((if_neg hb).symm.trans h)
  ·refine⟨_,s.heap.objs.size,YV,rfl,rfl,λc e=>(by cases e),x5 (BM _),if_pos (.inl rfl),(by show 0<ai;decide),λa=>none,?_,λx=>rfl⟩;exact xI.Ns1.of_empty ⟨_,#[],_,Ss,rfl,λe he=>absurd he (by simp),λa=>rfl⟩
 obtain⟨hp,gg,dr,tt,os⟩:=s;refine zR hC hN hi YU Nh ?_;exact h.wp (rm.create _ _) aa.sim ⟨rfl,hs⟩ ⟨⟨_,rfl,w1⟩,rs.mono aa.le⟩ λx a9 ar ab bc=>⟨bc,kk _ _ _ (aa.trans S ab) ⟨_,rfl,ab.le.φ _ _ w1⟩⟩
end
section
variable{d:Nat}{sc:te}{env aj:af}{vs:List V}{H H₁ H':AH}{ts es:List Expr}{p p1 p2:aaK}{k1 k2:Nat}{e':Ts}
noncomputable def OI:Expr->Option Str|.Name x _=>some x|_=>none
theorem Cv{line:Nat}{ts:List Expr}{ns:List Str}(h:ts.map OI=ns.map some)(hl:(ts.filterMap (dX e' line)).length=ts.length):ts.filterMap (dX e' line)=ns/\∀x∈ns,e'.kindOf x=some .local:=by
 induction ts generalizing ns with
 |nil=>induction ns with |nil=>exact⟨rfl,λa h=>nomatch h⟩|cons _ _=>exact nomatch h
 |cons t ts ih=>induction ns with
  |nil=>exact nomatch h|cons n ns=>
   obtain⟨h1,h2⟩:=List.cons.inj h;induction ht:dX e' line t with |none=>rw[List.filterMap_cons_none ht] at hl;exact absurd (List.length_filterMap_le (dX e' line) ts) (hl▸(Nat.not_succ_le_self _))|some y=>rw[List.filterMap_cons_some ht] at hl⊢;obtain⟨⟨q,rfl⟩,hy⟩:=sO ht;obtain rfl:=oy h1;obtain⟨g1,g2⟩:=ih h2 (Nat.succ.inj hl);exact⟨by rw[g1],λx hx=>(bx hx).elim (λe=>e▸hy) (g2 x)⟩
theorem Kl{ns:List Str}(YW:nI (.Tuple ts k1 p1) (.Tuple es k2 p2)=false)(hn:ts.map OI=ns.map some)(hk:∀x∈ns,kindOf sc x=some .local\/kindOf sc x=some .cell)(hl:ns.length=vs.length)(h1:bY d sc env (.Tuple es k2 p2) H (.tup vs) H₁)
  (h2:Cs d sc env ts vs H₁ ((ns.zip vs).foldl (λenv p=>aH env p.1 p.2) env) H₁):jy d sc env (.Assign [.Tuple ts k1 p1] (.Tuple es k2 p2) p) H .next ((ns.zip vs).foldl (λenv p=>aH env p.1 p.2) env) H₁:=by
 intro A E W s e' Q rm S N k;refine arm_exec_Assign ..▸ox (uk (oR rfl (ox (h1 rm S N λz ag s₁ aa aw=>?_))));rcases sN YW with hs|⟨ts',k',q',line,ht,hs,hlen,hd⟩
 ·exact oR hs (ox (Iv (k:=k1) h2 rm aa.sim (N.expr aa) aw λc c c ab de=>pk (k _ _ _ (aa.up.trans S ab) de rfl)))
 ·cases ht;obtain⟨g1,g2⟩:=Cv hn hlen;have nd:=g1▸jI hd
  have LF:=List.map_fst_zip (Fu hl);have YX:=List.map_snd_zip (Fu hl.symm)
  obtain⟨a,m,xs,rfl,hz,hsl,rx⟩:=aw;have el:=rx.length
  refine oR hs ?_;refine g1▸?_;refine ox (wpAny_rule (ox ?_));rw[hl,el];refine bN (wpAny_unpackItems_tuple rm.handled (Fb (aa.sim.z _ _ hz)) λh' he hsz=>?_);have ab:=ah.grow aa.sim aQ (λb o e=>he b o (x5 (ti e)) e) hsz rfl rfl (λc c h=>h) (λc c h=>.inl h) rfl rfl
  obtain b9:=aa.trans S ab;obtain de:=N.expr b9;obtain er:ns.reverse.map (λn=>bindName e' n)=(ns.zip vs).reverse.map (λp=>bindName e' p.1):=by rw[<-LF,<-List.map_reverse,tx,LF];rfl
  refine er▸?_;obtain T5:=LF.symm▸nd
  refine ox (fh (zU ab.sim de (by simp only[List.map_reverse,YX];exact rx.reverse) λp hp=>have hm:=(aaM (List.mem_reverse.mp hp:(p.1,p.2)∈_)).1
   qL N (g2 _ hm) (hk _ hm)) λc c c a8 dC=>pk (k _ _ _ (b9.up.trans S a8) (dC.congr λz=>?_) rfl))
  rw[foldl_look z T5,foldl_look z (by rw[List.map_reverse];exact List.pairwise_reverse.mpr (List.Pairwise.imp (λh=>aaJ h) T5)),oq T5]
end
section
variable{d:Nat}{sc:te}{env aj:af}{H H':AH}{fl:Fl}{t:Expr}{body:List B2}
inductive cz(d:Nat)(sc:te)(t:Expr)(body:List B2):List V->af->AH->Fl->af->AH->Prop where
|nil{env:af}{H:AH}:cz d sc t body [] env H .next env H|cons{x:V}{xs:List V}{env ay bu aj:af}{H H₁ H2 H':AH}{f fl:Fl}(h1:pZ d sc env t x H ay H₁)(h2:pP d sc ay body H₁ f bu H2)(hf:f=.next\/f=.cont)(k:cz d sc t body xs bu H2 fl aj H'):cz d sc t body (x::xs) env H fl aj H'|ret{x v:V}{xs:List V}{env ay bu:af}{H H₁ H2:AH}(h1:pZ d sc env t x H ay H₁)(h2:pP d sc ay body H₁ (.ret v) bu H2):cz d sc t body (x::xs) env H (.ret v) bu H2
theorem uY{A:tj}{it:Value}{e:Ts}{s:oC}{R:Result->oC->Prop}(I:Nat->oC->Prop)(turn:∀n s,I n s->∀(E:Value->oC->Prop) (Q:Option Value->oC->Prop) (K:Flow->oC->Prop),(∀s',R (.ok .next) s'->Q none s')->
  (∀v s',si gM A (letOwnedTupleGo t it v) (λa s=>si gM A (aaq t e v) (λa s=>si gM A (PySem.execs body e) K E s) E s) E s'->Q (some v) s')->
  (∀f m s',f=.next\/f=.cont->m<n->I m s'->K f s')->(∀v s',R (.ok (.ret v)) s'->K (.ret v) s')->si gM A (pyNext it) Q E s)(n:Nat)(h:I n s):codeAny gM A (.forLoop t it body [] e) R s:=
 codeAny_forLoop_any I (λn s h=>turn n s h _ _ (λf da=>match f with
  |.next|.cont=>∃m,m<n/\I m da
  |.brk=>R (.ok .next) da|.ret v=>R (.ok (.ret v)) da) (λa q=>wpAny_execs_nil q) (λa a q=>q) (λa a a hf hm q=>by rcases hf with rfl|rfl<;>exact⟨_,hm,q⟩) λa a q=>q) n h
inductive LoopAt(d:Nat)(sc:te)(t:Expr)(body:List B2)(e':Ts)(it:Value)(IA D:sx->Prop)(W:Wd)(H:AH)(s:oC)(fl:Fl)(aj:af)(H':AH):Nat->oC->Prop
|mk{xs:List V}{env:af}{H₁:AH}{ag:Wd}{P:xI->Prop}{s₁:oC}(h:cz d sc t body xs env H₁ fl aj H')(aa:ah W H s (λa=>ck sc e' a\/IA a) ag H₁ s₁)(N:aq sc env e' ag s₁)(I:iL t it IA D W xs P)
 (hP:dY (λa=>IA a\/D a) P) (p:P s₁.heap) (hI:∀a,IA a->bJ ag s₁ a) (hD:∀a,D a->Still ag H₁ s₁ (λa=>ck sc e' a\/IA a) a):LoopAt d sc t body e' it IA D W H s fl aj H' xs.length s₁
theorem LoopAt.turn{A:tj}{E:Value->oC->Prop}{W ag:Wd}{s s₁:oC}{e':Ts}{it:Value}{IA D:sx->Prop}{P:xI->Prop}{x:V}{xs:List V}{env ay bu:af}{H₁ Ha Hb:AH}{f:Fl}{Q:Option Value->oC->Prop}{K:Flow->oC->Prop}(rm:bC A d)(S:aN W H s)
  (aa:ah W H s (λa=>ck sc e' a\/IA a) ag H₁ s₁)(N:aq sc env e' ag s₁)(I:iL t it IA D W (x::xs) P)(p:P s₁.heap)(hI:∀a,IA a->bJ ag s₁ a)(hD:∀a,D a->Still ag H₁ s₁ (λa=>ck sc e' a\/IA a) a)
  (h1:pZ d sc env t x H₁ ay Ha)(h2:pP d sc ay body Ha f bu Hb)(k:∀g bp cm P',ah W H s (λa=>ck sc e' a\/IA a) bp Hb cm->aq sc bu e' bp cm->lW bp f g->dY (λa=>IA a\/D a) P'->iL t it IA D W xs P'->P' cm.heap->(∀a,IA a->bJ bp cm a)->(∀a,D a->Still bp Hb cm (λa=>ck sc e' a\/IA a) a)->K g cm)
  (item:∀v s',si gM A (letOwnedTupleGo t it v) (λb s=>si gM A (aaq t e' v) (λb s=>si gM A (PySem.execs body e') K E s) E s) E s'->Q (some v) s'):
  si gM A (pyNext it) Q E s₁:=by
 refine I.elim λP' z=>z.elim λxh z=>z.elim λI' step=>?_
 obtain ap:=λa ha=>(hI a ha).apart N
 refine wb (step aa.le aa.sim hI rm.handled p) (λr ar q=>q.elim λy q=>q.1▸item _ _ (wb q.2 (λb da q=>q.elim λcx q=>?_) λb b e=>e)) λb b e=>e
 refine h1 rm q.1.sim (N.old q.1 ap) q.2.2.1 λb du dA bt eh=>h2 rm bt.sim eh λg bp cm cb ed dE=>?_
 have hO:=λa ha=>(hI a ha).gj N
 have je:=bt.trans q.1.sim cb;obtain yG:=je.wk (X':=λa=>ck sc e' a\/IA a) λa ha=>.inl ha
 obtain et:=q.1.wk (X':=λa=>ck sc e' a\/IA a) λa ha=>.inr ha
 have st:=λa ha=>(((hD a ha).post aa.sim et).1.post q.1.sim yG)
 have hA:=q.2.1;exact k g bp cm P' ((aa.trans S et).trans S yG) ed dE xh I' (xh _ _ q.2.2.2 λa o ha ho=>ha.elim (λha=>(hA a ha).keep je (hO a ha) ho) λha=>(st a ha).2 o ho) (λa ha=>(hA a ha).post je (hO a ha)) λa ha=>(st a ha).1
theorem cz.run{A:tj}{E:Value->oC->Prop}{W:Wd}{s:oC}{e':Ts}{xs:List V}{it:Value}{IA D:sx->Prop}{P:xI->Prop}(h:cz d sc t body xs env H fl aj H')(rm:bC A d)(S:aN W H s)(N:aq sc env e' W s)
  (I:iL t it IA D W xs P)(hP:dY (λa=>IA a\/D a) P)(p:P s.heap)(hI:∀a,IA a->bJ W s a)(hD:∀a,D a->Still W H s (λa=>ck sc e' a\/IA a) a):
  codeAny gM A (.forLoop t it body [] e') (λr s'=>∃f,r=.ok f/\bf W H s (λa=>ck sc e' a\/IA a) H' (λW' s'=>aq sc aj e' W' s'/\lW W' fl f) s') s:=by
 refine uY (LoopAt d sc t body e' it IA D W H s fl aj H') (λk s₁ h E Q K stop item again ret=>?_) _ (.mk h (.refl S) N I hP p hI hD);cases h with
 |mk h aa N I hP p Cw hD=>
  cases h with
  |nil=>
   refine I rm.handled p λh' tk hsz hk=>stop _ ?_
   obtain ab:ah _ H' s₁ IA _ H' {s₁ with heap:=h',toks:=tk}:=ah.free aa.sim (λa ha=>(Cw a ha).1) hk hsz rfl rfl;exact⟨_,rfl,_,aa.trans S (ab.wk λa ha=>.inr ha),N.old ab λa ha=>(Cw a ha).apart N,rfl⟩
  |cons h1 h2 hf hk=>
   refine LoopAt.turn rm S aa N I p Cw hD h1 h2 (λg bp cm P' lh ed dE xh I' p' a' d'=>again g _ cm ?_ (BM _) (.mk hk lh ed I' xh p' a' d')) item;rcases hf with rfl|rfl
   ·exact .inl dE
   ·exact .inr dE
  |ret h1 h2=>refine LoopAt.turn rm S aa N I p Cw hD h1 h2 (λg bp cm P' lh ed dE b b b b b=>dE.elim λz hz=>hz.1▸ret _ _ ⟨_,rfl,bp,lh,ed,z,rfl,hz.2⟩) item
end
section
variable{d:Nat}{sc:te}{env aj:af}{H H₁ H2 H':AH}{fl:Fl}{t e o x:Expr}{body:List B2}{v:V}{xs ys:List V}{back:Option (Nat×aF)}{p q ap:aaK}
def uZ(d:Nat)(sc:te)(env:af)(t e:Expr)(H:AH)(xs:List V)(back:Option (Nat×aF))(H':AH):Prop:=∀⦃A:tj⦄⦃E:Value->oC->Prop⦄⦃W:Wd⦄⦃s:oC⦄⦃e':Ts⦄⦃Q:Value->oC->Prop⦄,bC A d->aN W H s->aq sc env e' W s->(∀x s₁,NJ A W H s t xs back H' x s₁->Q x s₁)->si gM A (eval e e') Q E s
theorem s7(h1:bY d sc env e H v H₁)(h2:srcOf v H₁=some ((xs,back),H')):uZ d sc env t e H xs back H':=λa a a a a a rm S N k=>h1 rm S N λx ag s₁ aa aw=>k _ _ λ{_}=>(uM h2 aa.sim aw).elim λL V=>wb (Fx V (L.post aa.sim aQ).sim) (λi ar g=>⟨ag,w5.mk' S aa L g.1,g.2.le aa.size⟩) λa a e=>e
theorem Cy(hf:∀e' x,foldedSetIterable e e' x=pure x)(h1:uZ d sc env t e H xs back H₁)(h2:cz d sc t body xs env H₁ fl aj H2)(h3:i8 back H2=some ((),H')):jy d sc env (.For t e body [] p) H fl aj H':=by
 intro A E W s e' Q rm S N k;refine wpAny_For (h1 rm S N λx s₁ hx=>wb hx (λi ar z=>z.elim λa9 z=>?_) λc c e=>e) (hf e');obtain⟨hh,IA,D,P,I,p0,u3,hD⟩:=z;have de:=N.expr hh.1
 refine codeAny_mono (h2.run (E:=E) rm hh.1.sim de I.BE I.pV p0 (λa ha=>(u3 a ha).1) λa ha=>(hD a ha).BG hh.1.sim ?_) ?_
 ·rintro(ho|hi)
  ·exact(hD a ha).gj de ho
  ·obtain⟨f,o,vs,ho,hd⟩:=(u3 a hi).1;exact(hD a ha).2.elim (λq=>q.elim λk q=>nE (f.1.symm.trans q.1)) λq=>q.elim λo q=>nE (f.2.1.symm.trans q)
 ·rintro r da ⟨f,rfl,cx,a8,dC,mf⟩;obtain P':=hh.2 a8 (λb k hb hx=>hx.elim (λhx=>nE ((ck.free de hx).symm.trans hb)) λhx=>nE ((u3 b hx).1.1.1.symm.trans hb)) h3;exact k _ _ _ (P'.drop λa ha=>ha.imp id λhi=>(u3 a hi).2) dC mf
end
section
variable{d:Nat}{sc:te}{env aj:af}{H H₁ H2 H':AH}{fl:Fl}{t e o x:Expr}{v:V}{xs ys:List V}{back:Option (Nat×aF)}{p q ap tp:aaK}{ts:List Expr}{tk:Nat}{kvs:List (Str×V)}
theorem Km(h0:bY d sc env (.Name "enumerate" q) H (.typ "enumerate") H₁)(h1:lC d sc env [x] H₁ [v] H2)(h2:srcOf v H2=some ((ys,back),H'))(hc:enumSrc v=true):uZ d sc env (.Tuple ts tk tp) (.Call (.Name "enumerate" q) [x] [] p) H (aX 0 ys) back H':=by intro A E W s e' Q rm S N k;refine arm_eval_Call_Name' ..▸ox (h0 rm S N λf' ag s₁ aa aw=>cw (fv:=.typ "enumerate") h1 rfl (λc e=>nomatch e) rm aa.sim (N.expr aa) aw λzs a9 ar ab rf YY=>?_);subst rf;obtain⟨z,rfl,rz⟩:=dI YY;obtain⟨L,V⟩:=uM h2 ab.sim rz;obtain ek:=sQ hc ab.sim rz;exact FA V (L.post ab.sim aQ).sim ek.1 ek.2 λy da a8 g self=>k _ _ λ{_}=>self ⟨a9,w5.mk' S (aa.trans S ab) L a8,g.le (aa.trans S ab).size⟩
theorem Gd(Kn:dU o=false)(hl:(ap.endLine==p.line)=true)(h1:bY d sc env o H v H₁)(h2:ES v H₁=some ((kvs,back),H')):uZ d sc env (.Tuple ts tk tp) (.Call (.Attribute o "items" ap) [] [] p) H (kvs.map λkv=>.tup [.str kv.1,kv.2]) back H':=by
 intro A E W s e' Q rm S N k;refine lg Kn rfl hl (Sr _) (h1 rm S N λx ag s₁ aa aw=>?_);refine(mZ h2 aa.sim aw).elim λL Tq=>?_;refine Tq.elim λd Tr=>?_;refine Tr.elim λes YZ=>?_;refine YZ.elim λm LG=>?_;obtain Y0:=LG.1;obtain g:=LG.2.1;subst Y0
 refine getMethod_builtin (⟨_,g,rfl⟩) F.plainAttrs_dict F.slot_dict_items F.type_dict_items (gB g) (cw .nil (fv:=.blt "dict.items") rfl (λc e=>nomatch e) rm aa.sim (N.expr aa) rfl λzs a9 ar ab a rz=>?_);cases oz rz;obtain⟨hV,mn,OJ,m₂,hd,lL,h0,nd,hlen,rs,sa⟩:=mZ h2 ab.sim (aw.mono ab.le);obtain rfl:=IH hd;exact wb (BL (hV.post ab.sim aQ).sim lL h0 nd rs sa) (λx da eP=>k _ _ λ{_}=>wb eP (λi dA g=>⟨a9,w5.mk' S (aa.trans S ab) hV g.1,g.2.le (aa.trans S ab).size⟩) λa a e=>e) λa a e=>e
theorem Cz(Kn:dU o=false)(hl:(ap.endLine==p.line)=true)(h1:bY d sc env o H v H₁)(h2:ES v H₁=some ((kvs,back),H')):uZ d sc env t (.Call (.Attribute o "values" ap) [] [] p) H (kvs.map (·.2)) back H':=by
 intro A E W s e' Q rm S N k;refine lg Kn rfl hl (Sr _) (h1 rm S N λx ag s₁ aa aw=>?_);refine(mZ h2 aa.sim aw).elim λL BX=>?_;refine BX.elim λd T6=>?_;refine T6.elim λes T7=>?_;refine T7.elim λm OL=>?_;obtain JK:=OL.1;obtain g:=OL.2.1;subst JK
 refine getMethod_builtin (⟨_,g,rfl⟩) F.plainAttrs_dict F.slot_dict_values F.type_dict_values (gB g) (cw .nil (fv:=.blt "dict.values") rfl (λc e=>nomatch e) rm aa.sim (N.expr aa) rfl λzs a9 ar ab a rz=>?_);cases oz rz;obtain⟨hV,mn,OJ,m₂,hd,lL,h0,nd,hlen,rs,sa⟩:=mZ h2 ab.sim (aw.mono ab.le);obtain rfl:=IH hd;exact wb (zV (hV.post ab.sim aQ).sim lL h0 nd rs sa) (λx da eP=>k _ _ λ{_}=>wb eP (λi dA g=>⟨a9,w5.mk' S (aa.trans S ab) hV g.1,g.2.le (aa.trans S ab).size⟩) λa a e=>e) λa a e=>e
end
section
variable{n:Nat}{A:tj}{E:Value->oC->Prop}{W W':Wd}{H H':AH}{s s':oC}{sc:te}{env aj:af}{e':Ts}
theorem qW(rm:bC A (n+1)){k j g:Nat}{a:sx}{stop CB f1:V}{r:V}{H₁:AH}{b:Bool}(hk:H[k]?=some (.mK (.bm j g) stop true))(ha:W.φ k=some a)(hr:aC n (.bm j g) [] H r H₁)
  (jN:H₁[k]?=some (.mK f1 CB true))(Y3:A9 f1=true)(hv:gH bj H₁ CB r=some b)(S:aN W H s){Q:Option Value->oC->Prop}
  (q0:b=false->∀y ag s₁,ah W H s aQ ag H₁ s₁->Rel ag r y->Q (some y) s₁)
  (q1:b=true->∀ag s₁,ah W H s aQ ag (H₁.set k (.mK f1 CB false)) s₁->Q none s₁):
  si gM A (pyNext (.ref a)) Q E s:=by
 have O:=S.at hk ha;obtain⟨o,x,y,ho,hc,hd,hl⟩:=O;obtain⟨rx,ry⟩:=hl rfl;have hT:s.TypeIs (.ref a) "callable_iterator":=⟨o,ho,hc⟩
 have Y4:=rx;obtain⟨m,c,rfl,hj,zm,hg⟩:=rx;obtain⟨d,T8⟩:=nB hg;obtain⟨_,of,fd,TU,_,T9,_⟩:=S.cO.fns g d T8;refine ox (wpAny_attempt (aau hT dJ (PQ dJ hT jw ?_ (ko _))));show si _ _ (field (.ref a) 2>>=_) _ _ s;refine ox (aaj ho hd rfl ?_);refine ox (aaj ho hd (x:=.ref m) rfl ?_);refine ox (wpAny_attempt ?_);refine ox (oE (S.z _ _ zm) TU T9 ?_);refine jJ (hr.wp rm.in1 S Y4 trivial λz ag s₁ aa aw=>?_);have T_:=aa.le.φ _ _ ha
 obtain⟨o1,x1,y1,EA,M5,Ie,Ua⟩:=aa.sim.at jN T_;obtain⟨Y5,Y6⟩:=Ua rfl;refine ox (aaj EA Ie rfl ?_);refine ox (aaj EA Ie rfl ?_);refine ox (ub ((nV bj hv aa.sim Y6 aw (by have :=rm.units;simp only[tj.in1_units,bj];exact aW (nat_lit 0x2a9190881121918ca081101) ae this)).eq _ _ _ _ ?_));induction b with
 |false=>exact ox (pk (pk ⟨_,rfl,pk (q0 rfl z ag s₁ aa aw)⟩))|true=>
  obtain⟨j1,g1,rfl⟩:∃j1 g1,f1=.bm j1 g1:=by induction f1 using V.casesOn<;>first|exact⟨_,_,rfl⟩|(exact bE Y3)
  obtain⟨m1,c1,rfl,hj1,Y7,Y8⟩:=Y5;obtain⟨d1,Ub⟩:=nB Y8;obtain⟨_,of1,fd1,Uc,_,OM,_⟩:=aa.sim.cO.fns g1 d1 Ub;have own:=aa.sim.jV k a T_
  have Ua:pT H₁ k:=⟨_,jN,trivial⟩;refine ox (wpAny_rule (ox ?_));refine ox (aaj EA Ie rfl ?_);refine ox ?_;refine ox (oE (aa.sim.z _ _ Y7) Uc OM ?_);refine pk ?_;refine ox (dK EA Ie (by simp) λh2 o2 Y9 Qq hd2 Wt=>?_);refine ox (dK Y9 hd2 (by simp) λh3 o3 Y_ Qs Qp Wu=>?_);refine dK Y_ Qp (by simp) λh4 o4 Za M6 Lw Wv=>?_
  refine ox ?_;simp only[newExc,newTuple];refine ox (B1 ?_ (Ln.go (nat_lit 72057596169224448) [] ae));refine ox (wpAny_of_eq (a:=Value.none) (by first|rfl|(rfl)) ?_);refine B1 ?_ (by size_fits);refine ox (wpAny_handled ?_);rw[show A.in1.handled=none from rm.handled];refine ox (pk (wpAny_throw ?_));refine ox (wpAny_isInstance ⟨_,tc _ rfl,rfl⟩ isSubtype_stop ?_);refine pk (q1 rfl ag _ (aa.trans S (ah.JE aa.sim aQ Ua T_ ?_ (λb ob hb hn=>?_) ?_ rfl rfl)))
  ·skip
   rw[xc,xc,Wv.1,Wu.1,Wt.1];exact aS (nat_lit 27595307483392) ae
  ·have cG:b≠a:=λe=>hn (by rw[e];exact own)
   exact px _ (px _ (Wv.extBut _ _ cG (Wu.extBut _ _ cG (Wt.extBut _ _ cG hb))))
  ·refine⟨o4,.none,.none,px _ (px _ Za),by rw[M6,Qs,Qq];exact M5,?_,λh=>bE h⟩;rw[Lw];rfl
inductive jm(d:Nat)(sc:te)(t:Expr)(body:List B2)(k:Nat):Nat->af->AH->Fl->af->AH->Prop where
|dead{m:Nat}{env:af}{H:AH}{f st:V}(hk:H[k]?=some (.mK f st false)):jm d sc t body k m env H .next env H|stop{m:Nat}{env:af}{H H₁:AH}{j g:Nat}{st f1 A5 r:V}(hk:H[k]?=some (.mK (.bm j g) st true))(hc:aC d (.bm j g) [] H r H₁)(jN:H₁[k]?=some (.mK f1 A5 true))(hb:A9 f1=true)(hv:gH bj H₁ A5 r=some true):jm d sc t body k m env H .next env (H₁.set k (.mK f1 A5 false))|cons{m:Nat}{env ay bu aj:af}{H H₁ H2 H3 H':AH}{j g:Nat}{st f1 A5 r:V}{f fl:Fl}(hk:H[k]?=some (.mK (.bm j g) st true))(hc:aC d (.bm j g) [] H r H₁)(jN:H₁[k]?=some (.mK f1 A5 true))(hb:A9 f1=true)(hv:gH bj H₁ A5 r=some false)
 (h1:pZ d sc env t r H₁ ay H2) (h2:pP d sc ay body H2 f bu H3) (hf:f=.next\/f=.cont) (h:jm d sc t body k m bu H3 fl aj H'):jm d sc t body k (m+1) env H fl aj H'
|ret{m:Nat}{env ay bu:af}{H H₁ H2 H3:AH}{j g:Nat}{st f1 A5 r v:V}(hk:H[k]?=some (.mK (.bm j g) st true))(hc:aC d (.bm j g) [] H r H₁)(jN:H₁[k]?=some (.mK f1 A5 true))(hb:A9 f1=true)(hv:gH bj H₁ A5 r=some false)
 (h1:pZ d sc env t r H₁ ay H2) (h2:pP d sc ay body H2 (.ret v) bu H3):jm d sc t body k m env H (.ret v) bu H3
inductive ID(d:Nat)(sc:te)(t:Expr)(body:List B2)(k:Nat)(e':Ts)(a:sx)(W:Wd)(H:AH)(s:oC)(fl:Fl)(aj:af)(H':AH):Nat->oC->Prop|mk{m:Nat}{env:af}{H₁:AH}{ag:Wd}{s₁:oC}(h:jm d sc t body k m env H₁ fl aj H')(aa:ah W H s (ck sc e') ag H₁ s₁)(N:aq sc env e' ag s₁)(ha:ag.φ k=some a):ID d sc t body k e' a W H s fl aj H' m s₁
theorem jm.turn{t:Expr}{body:List B2}{k:Nat}{a:sx}{f:Fl}{ag:Wd}{s₁:oC}{H₀ H₁ H2 H3:AH}{ay bu:af}{j g:Nat}{st f1 A5 r:V}{Q:Option Value->oC->Prop}{K:Flow->oC->Prop}(rm:bC A (n+1))(Ge:bC A n)
  (hk:H₀[k]?=some (.mK (.bm j g) st true))(ha:ag.φ k=some a)(hc:aC n (.bm j g) [] H₀ r H₁)(jN:H₁[k]?=some (.mK f1 A5 true))(hb:A9 f1=true)(hv:gH bj H₁ A5 r=some false)(S:aN W H s)(aa:ah W H s (ck sc e') ag H₀ s₁)(N:aq sc env e' ag s₁)
  (h1:pZ n sc env t r H₁ ay H2)(h2:pP n sc ay body H2 f bu H3)
  (item:∀v s',si gM A (letOwnedTupleGo t (.ref a) v) (λb s=>si gM A (aaq t e' v) (λb s=>si gM A (PySem.execs body e') K E s) E s) E s'->Q (some v) s')
  (q:∀g bp cm,ah W H s (ck sc e') bp H3 cm->aq sc bu e' bp cm->bp.φ k=some a->lW bp f g->K g cm):si gM A (pyNext (.ref a)) Q E s₁:=by
 refine qW rm hk ha hc jN hb hv aa.sim (λb y cx da a8 ry=>item _ _ ?_) λhb=>nomatch hb
 obtain⟨oo,_,_,go,gc,_,_⟩:=a8.sim.at jN (a8.le.φ _ _ ha);refine l5 go gc rfl (h1 Ge a8.sim (N.expr a8) ry λb du dA bt eh=>h2 Ge bt.sim eh λf bp cm cb ed dE=>?_);obtain je:=a8.up.trans aa.sim (bt.trans a8.sim cb);exact q _ _ _ (aa.trans S je) ed (je.le.φ _ _ ha) dE
theorem jm.run{t:Expr}{body:List B2}{k m:Nat}{a:sx}{fl:Fl}(h:jm n sc t body k m env H fl aj H')(rm:bC A (n+1))(S:aN W H s)(N:aq sc env e' W s)(ha:W.φ k=some a):
  codeAny gM A (.forLoop t (.ref a) body [] e') (λr s'=>∃f,r=.ok f/\bf W H s (ck sc e') H' (λW' s'=>aq sc aj e' W' s'/\lW W' fl f) s') s:=by
 refine uY (ID n sc t body k e' a W H s fl aj H') (λk' s₁ h E Q K stop item again ret=>?_) m (.mk h (.refl S) N ha);obtain Ge:=rm.le (Ee n);cases h with
 |mk h aa N ha=>
  cases h with
  |dead hk=>
   obtain⟨o,x,y,go,gc,gd,_⟩:=aa.sim.at hk ha;refine BN rm.handled go gc gd λh' hsz hk=>stop _ ?_
   obtain ab:ah _ H' s₁ aQ _ H' {s₁ with heap:=h'}:=ah.grow aa.sim aQ hk hsz rfl rfl (λb b h=>h) (λb b h=>.inl h) rfl rfl;exact⟨_,rfl,_,aa.trans S ab.up,N.expr ab,rfl⟩
  |stop hk hc jN hb hv=>exact qW rm hk ha hc jN hb hv aa.sim (λhb=>nomatch hb) λb cx da a8=>stop _ ⟨_,rfl,cx,aa.trans S a8.up,N.expr a8,rfl⟩|cons hk hc jN hb hv h1 h2 hf h=>
   refine jm.turn rm Ge hk ha hc jN hb hv S aa N h1 h2 item λf bp cm cb ed ha dE=>?_
   refine again f _ cm ?_ (BM _) (.mk h cb ed ha);rcases hf with rfl|rfl
   ·exact .inl dE
   ·exact .inr dE
  |ret hk hc jN hb hv h1 h2=>exact jm.turn rm Ge hk ha hc jN hb hv S aa N h1 h2 item λf bp cm cb ed b dE=>dE.elim λz hz=>hz.1▸ret _ _ ⟨_,rfl,bp,cb,ed,z,rfl,hz.2⟩
theorem Ko{t:Expr}{x:Str}{q p:aaK}{body:List B2}{k m:Nat}{fl:Fl}{f st:V}{b:Bool}(hn:d9 G.C sc env x=some (.ref k))(hd:(x==t5 "__debug__")=false)(hk:H[k]?=some (.mK f st b))(h:jm n sc t body k m env H fl aj H'):jy (n+1) sc env (.For t (.Name x q) body [] p) H fl aj H':=by
 intro A E W s e' Q rm S N kk;refine wpAny_For (wpAny_Name (fh (k6 hn S N) λy ag s₁ aa aw=>?_) hd) λc=>rfl
 obtain⟨a,rfl,ha⟩:=aw;obtain⟨o,_,_,ho,hc,_⟩:=aa.sim.at hk ha;refine BO ho hc (codeAny_mono (h.run rm aa.sim (N.expr aa) ha) ?_);rintro r ar ⟨f,rfl,a9,ab,q⟩;exact kk _ _ _ (aa.up.trans S ab) q.1 q.2
end
noncomputable def eu(ks:List Str)(env:af):af:=env.filter λp=>ks.contains p.1
def bw(C:Cx)(sc:te)(ks:List Str)(env:af):Bool:=env.all λp=>ks.contains p.1||(kindOf sc p.1==some .local||!C.wo p.1)
theorem lD{ks:List Str}{x:Str}(h:ks.contains x=true):∀env:af,aY (eu ks env) x=aY env x
|[]=>rfl|(y,v)::r=>by
 obtain ih:=lD h r;unfold eu aY at ih⊢;induction hy:ks.contains y with
 |true=>rw[Kj (by exact hy),sT,sT,ih]|false=>
  obtain hn:(x==y)=false:=zu λe=>nomatch (e▸hy).symm.trans h
  rw[He (by exact λq=>nomatch hy.symm.trans q),sT,hn,ih]
theorem lE{ks:List Str}{x:Str}(h:ks.contains x=false):∀env:af,aY (eu ks env) x=none
|[]=>rfl|(y,v)::r=>by
 obtain ih:=lE h r;unfold eu aY at ih⊢;induction hy:ks.contains y with
 |true=>
  obtain hn:(x==y)=false:=zu λe=>nomatch (e▸h).symm.trans hy
  rw[Kj (by exact hy),sT,hn,ih]
 |false=>rw[He (by exact λq=>nomatch hy.symm.trans q),ih]
theorem iQ{C:Cx}{sc:te}{ks:List Str}{x:Str}(h:ks.contains x=false)(hk:kindOf sc x≠some .local):∀env:af,bw C sc ks env=true->aY env x=none\/C.wo x=false
|[],aR=>.inl rfl|(y,v)::r,ho=>by
 obtain q:=a_ ho;induction e:x==y with
 |true=>induction eq_of_beq e;exact(Bool.or_eq_true_iff.mp q.1).elim (λq=>bE (h.symm.trans q)) λq=>(Bool.or_eq_true_iff.mp q).elim (λq=>absurd (eq_of_beq q) hk) λq=>.inr ((L9 _).mp q)
 |false=>unfold aY;simp only[sT,e];exact iQ h hk r q.2
section
variable{d:Nat}{sc:te}{env aj ay bu:af}{H H' H₁ H2:AH}{fl f:Fl}{t:Expr}{body:List B2}{x:V}{xs:List V}{ks:List Str}
theorem aq.keep{e':Ts}{W:Wd}{s:oC}(N:aq sc env e' W s)(h:bw G.C sc ks env=true):aq sc (eu ks env) e' W s:=by
 obtain up:∀x v,aY (eu ks env) x=some v->aY env x=some v:=λx v hx=>by
  induction hc:ks.contains x with |true=>simp only[<-hx,lD hc]|false=>exact nE ((lE hc env).symm.trans hx)
 refine⟨N.kind,N.globals,N.builtins,N.code,N.kinds,?_,λx hx=>?_,λx v hx hv=>N.frees x v hx (up x v hv),N.inj⟩
 ·refine N.locals.elim λo Jl=>?_;refine Jl.elim λes R6=>?_;refine R6.elim λep Ew=>?_;refine Ew.elim λm wF=>?_;obtain h1:=wF.1;obtain h2:=wF.2.1;obtain h3:=wF.2.2.1;obtain h4:=wF.2.2.2.1;obtain h5:=wF.2.2.2.2.1;obtain h6:=wF.2.2.2.2.2.1;obtain h7:=wF.2.2.2.2.2.2
  exact⟨o,es,ep,m,h1,h2,h3,h4,h5,h6,λx v hk hv=>h7 x v hk (up x v hv)⟩
 ·have c:=N.cells x hx;induction hc:ks.contains x with
  |true=>rw[lD hc];exact c|false=>
   rw[lE hc];rcases iQ hc (hx▸(λe=>nomatch e)) env h with h0|h0
   ·rw[h0] at c;exact c
   ·refine c.elim λc Ud=>?_;refine Ud.elim λo Ue=>?_;refine Ue.elim λu Ae=>?_;obtain h1:=Ae.1;obtain h2:=Ae.2.1;obtain h3:=Ae.2.2.1;obtain h4:=Ae.2.2.2.1;obtain h5:=Ae.2.2.2.2.1;obtain h6:=Ae.2.2.2.2.2
    refine⟨c,o,u,h1,h2,h3,h4,h5,?_⟩
    revert h6
    induction aY env x with |none=>exact id|some v=>exact λh6=>by have h6:=h6.2;rw[h0] at h6;exact h6
theorem pP.keep(h:pP d sc env body H fl aj H')(ho:bw G.C sc ks aj=true):pP d sc env body H fl (eu ks aj) H':=λa a a a a a rm S N k=>h rm S N λa a a P N' F=>k _ _ _ P (N'.keep ho) F
theorem jy.keep{st:B2}(h:jy d sc env st H fl aj H')(ho:bw G.C sc ks aj=true):jy d sc env st H fl (eu ks aj) H':=λa a a a a a rm S N k=>h rm S N λa a a P N' F=>k _ _ _ P (N'.keep ho) F
theorem jy.low{st:B2}(h:jy d sc (eu ks env) st H fl aj H')(ho:bw G.C sc ks env=true):jy d sc env st H fl aj H':=λa a a a a a rm S N k=>h rm S (N.keep ho) k
end
section
variable{d:Nat}{aB:te}{H H':AH}{out:Out}
inductive LH(d:Nat)(aB:te):Out->af->Acc->AH->Acc->AH->Prop where
|e{x:Expr}{env:af}{vs:List V}{v:V}{H H':AH}(h:bY d aB env x H v H')(hz:vs.length+1<ai):LH d aB (.e x) env (.l vs) H (.l (vs++[v])) H'|kv{x k:Expr}{env:af}{kvs:List (Str×V)}{t:Str}{v:V}{H H₁ H':AH}(h1:bY d aB env k H (.str t) H₁)(h:bY d aB env x H₁ v H')(hz:kvs.length+1<ai):LH d aB (.kv k x) env (.d kvs) H (.d (aH kvs t v)) H'
inductive CC(d:Nat)(aB:te)(env:af):List Expr->AH->Bool->AH->Prop where
|nil{H:AH}:CC d aB env [] H true H|t{c:Expr}{cs:List Expr}{H H₁ H':AH}{b:Bool}(h:pO d aB env c H true H₁)(k:CC d aB env cs H₁ b H'):CC d aB env (c::cs) H b H'|f{c:Expr}{cs:List Expr}{H H':AH}(h:pO d aB env c H false H'):CC d aB env (c::cs) H false H'
abbrev jO:=af->Acc->AH->af->Acc->AH->Prop
inductive aK(d:Nat)(aB:te)(g:uj)(T:jO):List V->jO where
|nil{env:af}{ac:Acc}{H:AH}:aK d aB g T [] env ac H env ac H|yes{x:V}{xs:List V}{env ay bu aj:af}{ac l_ gn:Acc}{H H₁ H2 H3 H':AH}{ks:List Str}(h1:pZ d aB env g.target x H ay H₁)(h2:CC d aB ay g.ifs H₁ true H2)(h3:T ay ac H2 bu l_ H3)(ho:bw G.C aB ks bu=true)(k:aK d aB g T xs (eu ks bu) l_ H3 aj gn H'):aK d aB g T (x::xs) env ac H aj gn H'|no{x:V}{xs:List V}{env ay aj:af}{ac gn:Acc}{H H₁ H2 H':AH}{ks:List Str}(h1:pZ d aB env g.target x H ay H₁)(h2:CC d aB ay g.ifs H₁ false H2)(ho:bw G.C aB ks ay=true)(k:aK d aB g T xs (eu ks ay) ac H2 aj gn H'):aK d aB g T (x::xs) env ac H aj gn H'
theorem CC.run{A:tj}{E:Value->oC->Prop}{W:Wd}{s:oC}{e':Ts}{env:af}{cs:List Expr}{b:Bool}(h:CC d aB env cs H b H')(rm:bC A d)(S:aN W H s)(N:aq aB env e' W s):∀{Q:Bool->oC->Prop},(∀W' s',ah W H s aQ W' H' s'->Q b s')->
  si gM A (forIn cs true λc r=>if r=true then do let ok<-PySem.isTrue c e' (PySem.eval c e');pure (FX ok) else pure (FX r)) Q E s:=by
 induction h generalizing W s with |nil=>intro Q k;exact pk (k _ _ (.refl S))|t h _ ih=>intro Q k;rw[NA];exact ox (ox (h rm S N λa a P=>pk (ih P.sim (N.expr P) λa a ab=>k _ _ (P.trans S ab))))|f h=>intro Q k;rw[NA];exact ox (ox (h rm S N λa a P=>pk (wpAny_of_eq (qR _) (k _ _ P))))
structure CD(aB:te)(e':Ts)(a:sx)(IA:sx->Prop)(W:Wd)(H:AH)(s:oC)(aj:af)(ac:Acc)(W':Wd)(H':AH)(s':oC):Prop where
 post:ah W H s (λb=>ck aB e' b\/b=a\/IA b) W' H' s'
 env:aq aB aj e' W' s'
 acc:jk W' s' a ac
 free:c8 W' a
theorem LH.run{A:tj}{E:Value->oC->Prop}{W:Wd}{s:oC}{e':Ts}{env:af}{ac gn:Acc}{a:sx}{Q:Unit->oC->Prop}(h:LH d aB out env ac H gn H')(rm:bC A d)(S:aN W H s)(N:aq aB env e' W s)(hA:jk W s a ac)(f:c8 W a)(ap:Apart aB e' a)
  (k:∀u W' s',CD aB e' a (λc=>False) W H s env gn W' H' s'->Q u s'):si gM A (emitC out (.ref a) e') Q E s:=by
 induction h with
 |@e _ _ _ v _ _ h hz=>refine ox (h rm S N λy ag s₁ aa aw=>?_);obtain ib:=(jk.keep hA f aa (λh=>h)).2;obtain⟨ys,m,g,hl,ry⟩:=(jk.keep hA f aa (λh=>h)).1;obtain⟨m',hm⟩:=jH ys m (·.push y);obtain PX:=eg aa.sim ib (Pl s₁.heap a (y6 (·.push y)));refine ox (call_meets F.slot_list_append (⟨_,g,rfl⟩) F.entry_list_append (F.args_list_append_2 _ _) (PySem.list_append a ys m y (bA ((ry.length.trans D2)▸hl))) ⟨g,pk (k _ ag _ ?_)⟩);exact⟨aa.up.trans S (PX.wk λb hb=>.inr (.inl hb)),(N.expr aa).old PX λb hb=>⟨hb▸ap.1,λy hy=>hb▸ap.2 y (hy.imp id (·.1))⟩,⟨ys.push y,m',hm▸TC _ g (hm▸rfl),pj ..▸hz,(show(ys.push y).toList=ys.toList++[y] from Array.toList_push ..)▸ry.append (⟨aw,trivial⟩)⟩,ib⟩
 |@kv _ _ _ kvs _ _ _ _ _ h1 h hz=>
  refine ox (h1 rm S N λy ag s₁ aa aw=>ox (ub (h rm aa.sim (N.expr aa) λz a9 ar ab bc=>ox (uk (ub ?_)))));obtain b9:=aa.trans S ab;obtain ib:=(jk.keep hA f b9 (λh=>h)).2;obtain⟨es,m,g,h0,nd,hl,rd⟩:=(jk.keep hA f b9 (λh=>h)).1;obtain⟨ps,hD,rp⟩:=e7 g nd rd;obtain⟨Qv,tk,rfl⟩:=aw;refine wpAny_dictSet_pairs (hsz:=bA (rp.length▸hl)) (strKind_is _ _ _ tk) hD λh' Ug A2=>?_
  obtain PX:=eg ab.sim ib A2;obtain⟨Jm,m',g',Nz,Zb⟩:=k8 Ug (eW.Fe Qv bc (rp.keys▸nd) rp);exact k _ a9 _ ⟨b9.up.trans S (PX.wk λb hb=>.inr (.inl hb)),(N.expr b9).old PX λb hb=>⟨hb▸ap.1,λy hy=>hb▸ap.2 y (hy.imp id (·.1))⟩,⟨Jm,m',g',h0,Nz,vw (bP kvs _ _) hz,Zb⟩,ib⟩
end
section
variable{d:Nat}{aB:te}{H H':AH}{out:Out}{g:uj}{T:jO}{A:tj}{e':Ts}{a:sx}{pos:aaK}{gens gs:List uj}{env aj:af}{ac gn:Acc}{E:Value->oC->Prop}{W:Wd}{s:oC}
abbrev CX(aB:te)(e':Ts)(a:sx)(IA:sx->Prop):sx->Prop:=λb=>ck aB e' b\/b=a\/IA b
def IE(A:tj)(aB:te)(e':Ts)(out:Out)(gens:List uj)(pos:aaK)(a:sx)(d:Nat)(T:jO):Prop:=∀⦃E:Value->oC->Prop⦄⦃W:Wd⦄⦃s:oC⦄⦃env aj:af⦄⦃ac gn:Acc⦄⦃H H':AH⦄⦃K:Sem RR⦄⦃Q:RR->oC->Prop⦄,T env ac H aj gn H'->aN W H s->aq aB env e' W s->jk W s a ac->c8 W a->(∀W' s',CD aB e' a (λb=>False) W H s aj gn W' H' s'->si gM A K Q E s')->si gM A (qQ out gens aB pos d (.ref a) e' K) Q E s
inductive CF(d:Nat)(aB:te)(g:uj)(T:jO)(e':Ts)(a:sx)(it:Value)(IA D:sx->Prop)(W:Wd)(H:AH)(s:oC)(aj:af)(gn:Acc)(H':AH):Nat->oC->Prop
|mk{xs:List V}{env:af}{ac:Acc}{H₁:AH}{ag:Wd}{P:xI->Prop}{s₁:oC}(h:aK d aB g T xs env ac H₁ aj gn H')(c:CD aB e' a IA W H s env ac ag H₁ s₁)(I:iL g.target it IA D W xs P)
 (hP:dY (λa=>IA a\/D a) P) (p:P s₁.heap) (hI:∀b,IA b->bJ ag s₁ b) (hD:∀b,D b->Still ag H₁ s₁ (CX aB e' a IA) b):CF d aB g T e' a it IA D W H s aj gn H' xs.length s₁
theorem aK.run{xs:List V}{it:Value}{k:Nat}{IA D:sx->Prop}{P:xI->Prop}(h:aK d aB g T xs env ac H aj gn H')(rm:bC A d)(hg:gens[k]?=some g)(ha:g.is_async=0)(ap:Apart aB e' a)(tail:IE A aB e' out gens pos a k T)
  (S:aN W H s)(N:aq aB env e' W s)(hA:jk W s a ac)(f:c8 W a)(I:iL g.target it IA D W xs P)(hP:dY (λa=>IA a\/D a) P)(p:P s.heap)(hI:∀b,IA b->bJ W s b)(QE:∀b,IA b->b≠a)(hD:∀b,D b->Still W H s (CX aB e' a IA) b):
  codeAny gM A (.compLoop (out.expr gens aB pos) k it (.ref a) e') (λr s'=>r=.ok .next/\∃W',CD aB e' a IA W H s aj gn W' H' s') s:=by
 refine sV hg ha (CF d aB g T e' a it IA D W H s aj gn H') (λk s₁ h E Q B K T stop item yes again no=>?_) _ (.mk h ⟨.refl S,N,hA,f⟩ I hP p hI hD);cases h with
 |mk h c I hP p Cw hD=>
  have aa:=c.post;cases h with
  |nil=>
   refine I rm.handled p λh' tk hsz hk=>stop _ ?_
   obtain ab:ah _ H' s₁ IA _ H' {s₁ with heap:=h',toks:=tk}:=ah.free aa.sim (λa ha=>(Cw a ha).1) hk hsz rfl rfl;obtain q:=c.acc.keep c.free ab (λhx=>QE a hx rfl);exact⟨rfl,_,aa.trans S (ab.wk λb hb=>.inr (.inr hb)),c.env.old ab λb hb=>(Cw b hb).apart c.env,q.1,q.2⟩
  |yes h1 h2 h3 ho hk=>
   refine I.elim λP' z1=>?_;obtain xh:=z1.1;obtain I':=z1.2.1;obtain step:=z1.2.2
   refine wb (step aa.le aa.sim Cw rm.handled p) (λr ar q=>q.elim λy q=>q.1▸item _ _ (wb q.2 (λi da q=>q.elim λcx q=>?_) λi i e=>e)) λi i e=>e
   obtain dC:=c.env.old q.1 λb hb=>(Cw b hb).apart c.env
   obtain ij:=c.acc.keep c.free q.1 (λhx=>QE a hx rfl);refine h1 rm q.1.sim dC q.2.2.1 λi du dA bt eh=>h2.run rm bt.sim eh λbp cm cb=>yes _ ?_
   obtain ip:=ij.1.keep ij.2 bt ap.gj;obtain eC:=ip.1.keep ip.2 cb (λh=>h);refine tail h3 cb.sim (eh.expr cb) eC.1 eC.2 λkz l3 js=>?_
   have ft:=((bt.wk λb hb=>.inl hb).trans q.1.sim cb.up).trans q.1.sim (js.post.wk λb hb=>hb.imp id λhb=>hb.resolve_right λh=>h);have et:=q.1.wk (X':=CX aB e' a IA) λb hb=>.inr (.inr hb)
   have u4:=ft.wk (X':=CX aB e' a IA) λb hb=>hb.imp id .inl
   have oS:=q.2.1;have hx:∀b,IA b->¬(ck aB e' b\/b=a):=λb hb hq=>hq.elim ((oS b hb).gj dC) (QE b hb)
   have st:=λb hb=>((hD b hb).post aa.sim et).1.post q.1.sim u4
   exact again _ _ (BM _) (.mk hk ⟨(aa.trans S et).trans S u4,js.env.keep ho,js.acc,js.free⟩ I' xh (xh _ _ q.2.2.2 λb o hb ho=>hb.elim (λhb=>(oS b hb).keep ft (hx b hb) ho) λhb=>(st b hb).2 o ho) (λb hb=>(oS b hb).post ft (hx b hb)) λb hb=>(st b hb).1)
  |no h1 h2 ho hk=>
   refine I.elim λP' NN=>?_;obtain xh:=NN.1;obtain I':=NN.2.1;obtain step:=NN.2.2
   refine wb (step aa.le aa.sim Cw rm.handled p) (λr ar q=>q.elim λy q=>q.1▸item _ _ (wb q.2 (λi da q=>q.elim λcx q=>?_) λi i e=>e)) λi i e=>e
   obtain dC:=c.env.old q.1 λb hb=>(Cw b hb).apart c.env
   have ij:=c.acc.keep c.free q.1 (λhx=>QE a hx rfl);refine h1 rm q.1.sim dC q.2.2.1 λi du dA bt eh=>h2.run rm bt.sim eh λbp cm cb=>?_
   obtain ip:=ij.1.keep ij.2 bt ap.gj;obtain eC:=ip.1.keep ip.2 cb (λh=>h);have ft:=bt.trans q.1.sim cb.up
   have et:=q.1.wk (X':=CX aB e' a IA) λb hb=>.inr (.inr hb)
   have u4:=ft.wk (X':=CX aB e' a IA) λb hb=>.inl hb
   have oS:=q.2.1;have hx:=λb hb hq=>(oS b hb).gj dC hq
   have st:=λb hb=>((hD b hb).post aa.sim et).1.post q.1.sim u4
   exact no _ _ (BM _) (.mk hk ⟨(aa.trans S et).trans S u4,(eh.expr cb).keep ho,eC.1,eC.2⟩ I' xh (xh _ _ q.2.2.2 λb o hb ho=>hb.elim (λhb=>(oS b hb).keep ft (hx b hb) ho) λhb=>(st b hb).2 o ho) (λb hb=>(oS b hb).post ft (hx b hb)) λb hb=>(st b hb).1)
end
section
variable{d:Nat}{sc aB:te}{H H':AH}{out:Out}{T:jO}{A:tj}{e':Ts}{a:sx}{pos:aaK}{gens:List uj}{env aj:af}{ac gn:Acc}{E:Value->oC->Prop}{W:Wd}{s:oC}
inductive ON(d:Nat)(aB:te)(g:uj)(T:jO):jO|mk{env aj:af}{ac gn:Acc}{H H₁ H2 H':AH}{xs:List V}{back:Option (Nat×aF)}(ha:g.is_async=0)(hf:∀e' x,foldedSetIterable g.iter e' x=pure x)(h1:uZ d aB env g.target g.iter H xs back H₁)(h2:aK d aB g T xs env ac H₁ aj gn H2)(h3:i8 back H2=some ((),H')):ON d aB g T env ac H aj gn H'
def bT(d:Nat)(aB:te)(out:Out):List uj->jO|[]=>λenv ac H aj gn H'=>aj=env/\LH d aB out env ac H gn H'|g::gs=>ON d aB g (bT d aB out gs)
theorem bT.run(rm:bC A d)(ap:Apart aB e' a):∀(gs:List uj) (k:Nat),gens.drop (k+1)=gs->IE A aB e' out gens pos a k (bT d aB out gs)
|[],k,hd=>λE W s env aj ac gn H H' K Q h S N hA f kk=>by obtain hn:=aaA (List.drop_eq_nil_iff.mp hd);unfold qQ;refine hn▸?_;exact ox (h.2.run rm S N hA f ap λu W' s' c=>kk W' s' (h.1▸c))
|g::gs,k,hd=>λE W s env aj ac gn H H' K Q h S N hA f kk=>by
 obtain⟨ha,hf,h1,h2,h3⟩:=h;obtain⟨hg,T8⟩:=sW hd;obtain hb:(g.is_async !=0)=false:=by rw[ha];rfl
 unfold qQ;refine hg▸?_;dsimp only;refine hb▸?_;refine ox (h1 rm S N λx s₁ hx=>ox (uk (ox (wpAny_of_eq (hf e' x) (ox (ub (wb hx (λi ar z=>z.elim λa9 z=>?_) λl l e=>e)))))));obtain⟨hh,IA,D,P,I,p0,u3,hD⟩:=z;have de:=N.expr hh.1
 have c₂:=hA.keep f hh.1 (λh=>h)
 obtain loop:=h2.run rm hg ha ap (bT.run rm ap gs (k+1) T8) hh.1.sim de c₂.1 c₂.2 I.BE I.pV p0 (λb hb=>(u3 b hb).1) (λb hb e=>aah _ (xp hA.lt (e▸(u3 b hb).2)))
  (λb hb=>(hD b hb).BG hh.1.sim λq=>q.elim ((hD b hb).gj de) λq=>q.elim (λq=>(hD b hb).m6 (q▸c₂.2)) λq=>(hD b hb).m6 (u3 b q).1.1)
 have fin:∀{R:Result->oC->Prop},(∀s',(∃W',CD aB e' a (λl=>False) W H s aj gn W' H' s')->R (.ok .next) s')->codeAny gM A (.compLoop (out.expr gens aB pos) (k+1) i (.ref a) e') R ar:=λhQ=>codeAny_mono loop λr s' q=>q.1▸q.2.elim λcx c=>hQ s' ⟨cx,(hh.2 c.post (λb j hb hx=>hx.elim (λhx=>nE ((ck.free de hx).symm.trans hb)) λhx=>hx.elim (λhx=>nE ((hx▸c₂.2.1:a9.own b=none).symm.trans hb)) λhx=>nE ((u3 b hx).1.1.1.symm.trans hb)) h3).drop λb hb=>hb.elim (λh=>.inl (.inl h)) λh=>h.elim (λh=>.inl (.inr (.inl h))) λh=>.inr (u3 b h).2,c.env,c.acc,c.free⟩
 exact ox (wpAny_runOwn (jx hg ha (fin λs' q=>q.elim λW' c=>kk W' s' c) (I.self rm.handled p0 (fin λs' q=>q.elim λW' c=>kk W' s' c))))
end
section
variable{d:Nat}{sc aB:te}{H H' H₁ H2:AH}{out:Out}{A:tj}{e':Ts}{pos p q:aaK}{g:uj}{gs:List uj}{env aj dD:af}{ac:Acc}{E:Value->oC->Prop}{W:Wd}{s:oC}{xs:List V}{back:Option (Nat×aF)}{v:V}{y:Str}
inductive p6(d:Nat)(sc:te)(env:af)(aB:te)(out:Out):List uj->AH->Acc->AH->Prop
|mk{g:uj}{gs:List uj}{H H₁ H2 H':AH}{dD aj:af}{ac:Acc}{xs:List V}{back:Option (Nat×aF)}(LD:h_ sc=false)(gO:gI sc aB=true)(ha:g.is_async=0)(hf:∀e' x,foldedSetIterable g.iter e' x=pure x)(mR:fM aB env=some dD)
 (h1:uZ d sc env g.target g.iter H xs back H₁) (h2:aK d aB g (bT d aB out gs) xs dD out.start H₁ aj ac H2) (h3:i8 back H2=some ((),H')):p6 d sc env aB out (g::gs) H ac H'
set_option tactic.hygienic true in
theorem p6.made{gens:List uj}{use:Option (Value->Sem Unit)}{Q:Value->oC->Prop}(h:p6 d sc env aB out gens H ac H')(rm:bC A d)(S:aN W H s)(N:aq sc env e' W s)
  (k:∀(a L:sx) du dA m,ah W H s aQ du H' dA->c8 du a->s.heap.objs.size<=a->jk du dA a ac->c8 du L->s.heap.objs.size<=L->L≠a->dA.heap.Ns L m->compPost gM A E use Q (.ref a) L (.ok .next) dA):
  si gM A (comprehension (out.expr gens aB pos) aB e' p (sX out) (firstAsync gens) (firstIter gens e') use) Q E s:=by
 obtain⟨LD,gO,ha,hf,mR,h1,h2,h3⟩:=h;rename_i g gs H₁ H2 dD aj xs back;obtain LG:=fV gO;obtain BZ:=LG.1;obtain nd:=LG.2.1;obtain oM:=LG.2.2.2;refine(oK mR gO N).elim λcl OO=>?_;obtain yH:=OO.1;obtain nZ:=OO.2.1
 have TX:firstAsync (g::gs)=false:=by cases g;subst ha;rfl
 simp only[TX,show firstIter (g::gs) e'=PySem.eval g.iter e' from by cases g;rfl];refine wpAny_comprehension_free (by induction out<;>rfl) (hf e') yH BZ (λx hx hl=>b8 nd (hl▸hx:(x.1,aav.local)∈aB.names)) (h1 rm S N λx s₁ hx=>wb hx (λi ar z=>z.elim λa9 z=>z8 (z7 λr h' hk hsz gL c1 c2 c3=>?_)) λf f e=>e);obtain⟨hh,IA,D,P,I,p0,u3,hD⟩:=z;have fx:=hh.1.sim
 have CG:=hh.1.size;obtain Gf:=xc ..;have kp:=λb o e=>hk b o (px _ e)
 have a8:ah a9 H₁ ar aQ a9 H₁ {ar with heap:=h'}:=ah.grow fx aQ kp (Nat.le_of_succ_le (y7 (Gf▸hsz:ar.heap.objs.size+1<h'.objs.size))) rfl rfl (λf f h=>h) (λf f h=>.inl h) rfl rfl;have fr:∀b,ar.heap.objs.size<=b->c8 a9 b:=λb hb=>⟨fx.dc hb,fx.iG hb,fx.gh hb⟩
 have Uh:=Gf▸c1;obtain Zc:=Gf▸gL;refine(xj (s':={ar with heap:=h'}) (o:=LB none) LD gO mR (N.expr hh.1) rfl kp fr nZ Zc (Ee _) Uh c2 c3 N.globals).elim λdC Su=>?_
 obtain Zd:=hk _ _ (tc _ (by induction out<;>rfl))
 obtain ap:Apart aB {scope:=relabel aB e',locals:=ar.heap.objs.size+1,globals:=e'.globals,cells:=r,qual:=e'.qual,func:=none,code:=e'.code,frame:=e'.frame,builtins:=e'.builtins} ar.heap.objs.size:=
  ⟨x5 (BM _),λy hy he=>hy.elim
   (λhy=>(Uh y (mem_of_lookup hy)).elim λc q=>absurd (oy (q.1.symm.trans he)▸q.2.1) (vi (Ee _)))
   λhy=>(Su y hy).elim λc q=>absurd (oy (q.1.symm.trans he)▸q.2) (aah _)⟩
 have fa:=fr _ (pd _);have hA:=B7 (W:=a9) (s:={ar with heap:=h'}) Zd (fx.mods (pd _))
 have Gg:∀b,D b->SrcAt a9 H₁ {ar with heap:=h'} b:=λb hb=>⟨(hD b hb).1.imp λo q=>⟨kp _ _ q.1,q.2⟩,(hD b hb).2⟩
 have ps:=I.pV _ _ p0 λb o f e=>kp _ _ e
 obtain loop:=h2.run (gens:=g::gs) rm rfl ha ap (bT.run rm ap gs 0 rfl) a8.sim dC hA fa I.BE I.pV ps (λb hb=>⟨(u3 b hb).1.1,(u3 b hb).1.2.imp λo q=>q.imp λvs q=>⟨kp _ _ q.1,q.2⟩⟩)
  (λb hb e=>(u3 b hb).1.2.elim λo q=>q.elim λvs q=>aah _ (e▸ti q.1))
  (λb hb=>(Gg b hb).BG a8.sim λq=>q.elim ((Gg b hb).gj dC) λq=>q.elim (λq=>(Gg b hb).m6 (q▸fa)) λq=>(Gg b hb).m6 (u3 b q).1.1)
 obtain fin:codeAny gM A (.compLoop (out.expr (g::gs) aB pos) 0 i (.ref ar.heap.objs.size) {scope:=relabel aB e',locals:=ar.heap.objs.size+1,globals:=e'.globals,cells:=r,qual:=e'.qual,func:=none,code:=e'.code,frame:=e'.frame,builtins:=e'.builtins})
   (compPost gM A E use Q (.ref ar.heap.objs.size) (ar.heap.objs.size+1)) {ar with heap:=h'}:=codeAny_mono loop λrr s' q=>q.1▸q.2.elim λdu c=>by
  obtain P':=hh.2 (a8.up.trans fx c.post) (λb j hb hx=>hx.elim (λhx=>nE ((ck.free dC hx).symm.trans hb)) λhx=>hx.elim (λhx=>nE ((hx▸fa.1:a9.own b=none).symm.trans hb)) λhx=>nE ((u3 b hx).1.1.1.symm.trans hb)) h3;have Ze:ah W H s aQ du _ s':=P'.drop λb hb=>.inr (hb.elim (λhb=>hb.elim (λhb=>hb▸vb CG (Ee _)) λhb=>hb.elim λy hy=>(Uh y (mem_of_lookup hy.1)).elim λc q=>oy (q.1.symm.trans hy.2)▸vb CG (y7 (FV q.2.1))) λhb=>hb.elim (λhb=>hb▸CG) λhb=>(u3 b hb).2)
  refine c.env.locals.elim λo Ui=>?_;refine Ui.elim λes Uj=>?_;refine Uj.elim λep Uk=>?_;refine Uk.elim λm Af=>?_;obtain q1:=Af.1;obtain q2:=Af.2.1;obtain q3:=Af.2.2.1;obtain q4:=Af.2.2.2.1;obtain q5:=Af.2.2.2.2.1;obtain q6:=Af.2.2.2.2.2.1
  exact k _ _ du s' m Ze c.free CG c.acc ⟨q5,q6,q2⟩ (vb CG (Ee _)) (Nat.ne_of_gt (BM _)) q4
 show codeAny _ _ (.compStart (out.expr (g::gs) aB pos) 0 i (.ref ar.heap.objs.size) {scope:=relabel aB e',locals:=(ar.heap.push (sY out)).objs.size,globals:=e'.globals,cells:=r,qual:=e'.qual,func:=none,code:=e'.code,frame:=e'.frame,builtins:=e'.builtins})
  (compPost gM A E use Q (.ref ar.heap.objs.size) (ar.heap.push (sY out)).objs.size) {ar with heap:=h'}
 refine Gf▸?_;exact jx rfl ha fin (I.self rm.handled ps fin)
end
section
variable{d:Nat}{sc aB:te}{H H' H₁ H2:AH}{out:Out}{A:tj}{e':Ts}{pos p q:aaK}{gens:List uj}{env aj dD:af}{ac:Acc}{E:Value->oC->Prop}{W:Wd}{s:oC}{v:V}{y:Str}{c:Bool}
theorem p6.val{Q:Value->oC->Prop}(h:p6 d sc env aB out gens H ac H₁)(hv:z9 c ac H₁=some (v,H'))(rm:bC A d)(S:aN W H s)(N:aq sc env e' W s)(k:∀x W' s',ah W H s aQ W' H' s'->Rel W' v x->Q x s'):
  si gM A (comprehension (out.expr gens aB pos) aB e' p (sX out) (firstAsync gens) (firstIter gens e')) Q E s:=
 h.made rm S N λa L du dA m P f ha hA fL hL Ul wU=>⟨m,wU,λh' hs=>
  have cb:=eg P.sim fL hs;have eC:=hA.keep f cb (λe=>Ul e.symm)
  (uU hv (P.trans' S cb λb hb=>.inr (hb▸hL)) eC.2 ha eC.1).elim λbp q=>k _ bp _ q.1 q.2.2.1⟩
theorem p6.use{Q:Value->oC->Prop}(h:p6 d sc env aB out gens H ac H₁)(hv:z9 c ac H₁=some (v,H'))(hy:kindOf sc y=some .local)(rm:bC A d)(S:aN W H s)(N:aq sc env e' W s)(k:∀x W' s',ah W H s (ck sc e') W' H' s'->aq sc (aH env y v) e' W' s'->Q x s'):
  si gM A (comprehension (out.expr gens aB pos) aB e' p (sX out) (firstAsync gens) (firstIter gens e') (some λv=>assignAll v [aaq (.Name y q) e'])) Q E s:=by
 refine h.made rm S N λa L du dA m P f ha hA fL hL Ul wU=>(uU hv P f ha hA).elim λbp g=>?_
 refine wpAny_assign_Name (fh (fU g.1.sim (N.expr g.1) hy g.2.2.1) λi kz l3 fw mv=>?_);obtain QF:=λhq=>aah _ (xp (N1 N hq) hL)
 obtain Um:=g.2.2.2 L Ul fL;obtain⟨oL,es,ep,gL,r1⟩:=id wU;obtain Zf:=Um.post fw (ti gL) QF;refine⟨m,⟨oL,es,ep,fw.keep L oL gL Um.2.2 (λk hk=>nE (Um.1.symm.trans hk)) QF,r1⟩,λh' hs=>?_⟩;obtain l4:=eg fw.sim Zf hs;refine k _ kz _ ((g.1.up.trans S fw).trans' S l4 λb hb=>.inr (hb▸hL)) (mv.old l4 λb hb=>hb▸⟨λe=>QF (.inl e),λz hz he=>hz.elim (λhz=>QF (.inr ⟨z,hz,he⟩)) λhz=>?_⟩);obtain cG:z≠y:=λe=>nomatch (hy.symm.trans (e▸hz.1:kindOf sc y=some .free):some aav.local=some Ap)
 obtain Ww:=hz.2;rw[bR,if_neg cG] at Ww;obtain⟨u,hu⟩:=nB Ww;refine(N.frees z u hz.1 hu).elim λc' QG=>?_;refine QG.elim λo' Zg=>?_;refine Zg.elim λw' Il=>?_;obtain g1:=Il.1;obtain g2:=Il.2.1
 exact aah _ (xp (oy (g1.symm.trans he)▸ti g2) hL)
theorem xo(h:p6 d sc env aB out gens H ac H₁)(hv:z9 (G.C.mu p) ac H₁=some (v,H')):bY d sc env (out.expr gens aB p) H v H':=λa a a a a a rm S N k=>by induction out<;>exact h.val hv rm S N k
theorem CH(h:p6 d sc env aB out gens H ac H₁)(hv:z9 (G.C.mu pos) ac H₁=some (v,H'))(hk:kindOf sc y=some .local\/kindOf sc y=some .cell)(h2:pZ d sc env (.Name y q) v H' (aH env y v) H'):jy d sc env (.Assign [.Name y q] (out.expr gens aB pos) p) H .next (aH env y v) H':=by
 intro A E W s e' Q rm S N k;refine arm_exec_Assign ..▸ox (uk ?_);obtain⟨b,hb,JL⟩:=uJ (t:=.Name y q) (l:=p.line);refine oR hb ?_;induction b with
 |true=>obtain⟨_,y',q',e,hy⟩:=JL rfl;cases e;obtain hl:=qL N hy hk;induction out<;>exact ox (ox (h.use hv hl rm S N λa a a P N'=>pk (pk (k _ _ _ P N' rfl))))
 |false=>exact ox (xo h hv rm S N λa a a aa aw=>oR rfl (ox (h2 rm aa.sim (N.expr aa) aw λa a a ab de=>pk (k _ _ _ (aa.up.trans S ab) de rfl))))
end
section
variable{d:Nat}{sc:te}{env:af}{es:List Expr}{m x:Str}{vs us:List V}{v:V}{H H₁ H':AH}{k:Nat}{kvs Kp:List (Str×V)}{p:aaK}{i:String}
theorem OP(h:lT i vs H=some (v,H')):qU d (.blt i) vs H v H':=λa a a a a a a rm S rf rs k=>rf▸fh (BU h S rs rm.handled) k
theorem OQ{c:Bool}(h:jE c i vs H=some (v,H')):qU d (.typ i) vs H v H':=λa a a a a a a rm S rf rs k=>rf▸fh (BV h S rs rm.handled) k
theorem CI(h:fN vs H=some (v,H')):qU d (.blt "sorted") vs H v H':=λa a a a a a a rm S rf rs k=>rf▸fh (Aa h S rs rm.handled) k
theorem xq{m:Str}{vs:List V}{v:V}{H':AH}(h1:lC (d+1) sc env es H vs H₁)(h:F7 "str" m (.str x) vs H₁ v H'):kC (d+1) sc env (.str x) m es H v H':=qV F.plainAttrs_str (λS r=>by obtain⟨_,t,rfl⟩:=r;exact⟨typeIs_str _ _ t,λa e=>nomatch e⟩) h1 h
theorem OR(h1:lC (d+1) sc env es H vs H₁)(h2:nH x m vs H₁=some (v,H')):kC (d+1) sc env (.str x) m es H v H':=by
 refine iH h2 (λh=>?_) λh=>?_
 ·induction vs with
  |cons _ _=>exact nE h|nil=>
   refine k7 h λhc e=>?_
   obtain q:=a_ hc;obtain⟨rfl,rfl⟩:=yA e;refine eq_of_beq q.1▸xq h1 ⟨_,F.slot_str_lower,F.type_str_lower,λA E W s y ys S r rs rm=>?_⟩;obtain⟨_,t,rfl⟩:=r;induction ys with |nil=>exact BQ (eq_of_beq q.2) S|cons _ _=>exact rs.elim
 ·refine lR.inv h λu e h=>?_
  subst e;refine oG (m:=qw x u) (n:=if m=="count" then Jd x u else M.fail) h (λhc h=>?_) λh=>Be h λhc h=>?_
  ·have q:=a_ hc;refine eq_of_beq q.1▸xq h1 ⟨_,F.slot_str_join,F.type_str_join,λA E W s y ys S r rs rm=>?_⟩;obtain⟨_,t,rfl⟩:=r;obtain⟨z,rfl,rz⟩:=dI rs;exact BP h (eq_of_beq q.2) S rz
  ·refine eq_of_beq hc▸xq h1 ⟨_,F.slot_str_count,F.type_str_count,λA E W s y ys S r rs rm=>?_⟩;obtain⟨_,t,rfl⟩:=r;obtain⟨z,rfl,rz⟩:=dI rs;exact FE h S rz
theorem Kq{QH:List V}(hk:H[k]?=some (.lst us))(h1:lC (d+1) sc env es H vs H₁)(i_:H₁[k]?=some (.lst QH))(h2:kX k m vs (.lst QH) H₁=some (v,H')):kC (d+1) sc env (.ref k) m es H v H':=by
 have bl:∀{m:Str},F7 "list" m (.ref k) vs H₁ v H'->kC (d+1) sc env (.ref k) m es H v H':=λh=>qV F.plainAttrs_list (λS r=>by obtain⟨a,rfl,ha⟩:=r;obtain⟨_,_,g,_⟩:=S.at hk ha;exact⟨⟨_,g,rfl⟩,λb e=>by obtain rfl:=IH e;exact⟨_,g,rfl⟩⟩) h1 h
 refine iH h2 (λh=>lR.inv h λu e h=>?_) λh=>v8.inv h λi u e h=>?_
 ·subst e;refine oG h (λhc h=>?_) λh=>Be h λhc h=>?_
  ·refine eq_of_beq hc▸bl ⟨_,F.slot_list_append,F.type_list_append,λA E W s y ys S r rs rm=>?_⟩;obtain⟨l,rfl,ha⟩:=r;obtain⟨z,rfl,rz⟩:=dI rs;exact FF h S i_ ha rz
  ·refine eq_of_beq hc▸bl ⟨_,F.slot_list_pop,F.type_list_pop,λA E W s y ys S r rs rm=>?_⟩;obtain⟨l,rfl,ha⟩:=r;obtain⟨z,rfl,rz⟩:=dI rs;exact FG h S i_ ha rz
 ·subst e;refine Be h λhc h=>?_
  refine eq_of_beq hc▸bl ⟨_,F.slot_list_insert,F.type_list_insert,λA E W s y ys S r rs rm=>?_⟩;obtain⟨l,rfl,ha⟩:=r;obtain⟨z,z',rfl,rz,Zh⟩:=uz rs;exact FH h S i_ ha rz Zh
theorem Kr(h1:lC (d+1) sc env es H vs H₁)(h2:x6 us m vs H₁=some (v,H')):kC (d+1) sc env (.lst us) m es H v H':=by
 have bl:∀{m:Str} {v:V} {H':AH},F7 "list" m (.lst us) vs H₁ v H'->kC (d+1) sc env (.lst us) m es H v H':=λh=>qV F.plainAttrs_list (λS r=>by obtain⟨l,_,_,rfl,z,_⟩:=r;exact⟨⟨_,S.z _ _ z,rfl⟩,λb e=>by obtain rfl:=IH e;exact⟨_,S.z _ _ z,rfl⟩⟩) h1 h
 refine lR.inv h2 λu e h=>?_
 subst e;induction hc:m=="count" with
 |true=>
  rw[hc] at h;refine(gF h).elim λn z=>z.elim λhn e=>?_
  cases e;refine eq_of_beq hc▸bl ⟨_,F.slot_list_count,F.type_list_count,λA E W s y ys S r rs rm=>?_⟩;obtain⟨l,m,ys,rfl,z,hl,ry⟩:=r;obtain⟨q,rfl,rq⟩:=dI rs;exact zW hn S rm.units z ry rq
 |false=>
  rw[hc] at h;induction hd:m=="index" with |false=>rw[hd] at h;exact nE h|true=>rw[hd] at h;obtain⟨n,hn,e⟩:=gF h;cases e;refine eq_of_beq hd▸bl ⟨_,F.slot_list_index,F.type_list_index,λA E W s y ys S r rs rm=>?_⟩;obtain⟨l,m,ys,rfl,z,hl,ry⟩:=r;obtain⟨q,rfl,rq⟩:=dI rs;exact zX hn S rm.units z hl ry rq
theorem OS{tb:List (Int×Str)}(h1:lC (d+1) sc env es H vs H₁)(h2:ud tb "get" vs H₁=some (v,H')):kC (d+1) sc env (.tabI tb) (t5 "get") es H v H':=qV F.plainAttrs_dict (λS r=>by obtain⟨rfl,_⟩:=r;obtain⟨es0,m0,g⟩:=S.cO.Ib;exact⟨⟨_,g,rfl⟩,gB g⟩) h1 ⟨_,F.slot_dict_get,F.type_dict_get,λa a a a a a S r rs rm=>by obtain⟨rfl,rfl⟩:=r;exact BR h2 S rs⟩
theorem Ks(h1:lC (d+1) sc env es H vs H₁)(h2:qx kvs "get" vs H₁=some (v,H')):kC (d+1) sc env (.aE kvs) (t5 "get") es H v H':=qV F.plainAttrs_dict (λS r=>by obtain⟨l,_,_,rfl,z,_⟩:=r;exact⟨⟨_,S.z _ _ z,rfl⟩,gB (S.z _ _ z)⟩) h1 ⟨_,F.slot_dict_get,F.type_dict_get,λa a a a a a S r rs rm=>by obtain⟨l,_,_,rfl,z,h0,nd,hl,rd⟩:=r;exact uR h2 S (S.z _ _ z) h0 nd rd rs⟩
theorem Ku(hk:H[k]?=some (.aE Kp))(h1:lC (d+1) sc env es H vs H₁)(jN:H₁[k]?=some (.aE kvs))(h2:qx kvs "get" vs H₁=some (v,H')):kC (d+1) sc env (.ref k) (t5 "get") es H v H':=qV F.plainAttrs_dict (λS r=>by obtain⟨a,rfl,ha⟩:=r;obtain⟨_,_,g,_⟩:=S.at hk ha;exact⟨⟨_,g,rfl⟩,gB g⟩) h1 ⟨_,F.slot_dict_get,F.type_dict_get,λb b b b b b S r rs rm=>by obtain⟨a,rfl,ha⟩:=r;obtain⟨_,_,g,h0,nd,hl,rd⟩:=S.at jN ha;exact uR h2 S g h0 nd rd rs⟩
end
section
variable{d:Nat}{sc mh:te}{env dD:af}{body:Expr}{args:Arguments}{ps:List Str}{v:V}{H H':AH}{p:aaK}
theorem OT(LD:h_ sc=false)(Ex:c7 args=some ps)(mR:fM mh env=some dD)(hw:(dD.all λkv=>G.C.wo kv.1)=true)(gO:gI sc mh=true)(hv:(if G.C.mu p then iA (.qp (.r8 ps body mh dD) []) else pure (.r8 ps body mh dD):M V) H=some (v,H')):bY d sc env (.Lambda args body mh p) H v H':=by
 intro A E W s e' Q rm S N k;obtain⟨c,P,yF,hm⟩:=N.code LD;obtain⟨cl,yH,nZ,_⟩:=oK mR gO N;have rc:=FU mR gO hw N nZ
 obtain⟨Wx,_,zP,oP,Zi,gP,tP,cP⟩:=S.tab c P e'.qual hm;obtain⟨mg,mb,g1,g2,g3,g4⟩:=S.cO.glob;obtain⟨Wy,Zj⟩:=g4 c P e'.qual hm;obtain⟨as,rfl,_⟩:=jt Ex
 have fin:∀{ag:Wd} {s₁:oC} {cv LI:Value} {tk:Nat},ah W H s aQ ag H s₁->qC ag.Z cv (e'.qual++"<lambda>")->
   Q (.ref s₁.heap.objs.size) {s₁ with heap:=s₁.heap.push {cls:=.type "function",data:=.func (kla_fn "<lambda>" (e'.qual++"<lambda>") ⟨[],as,none,[],[],none,[]⟩ body mh cl ((mg "__name__").getD .none) cv LI)},toks:=tk}:=by
  intro ag s₁ cv LI tk aa Zk;induction Wz:G.C.mu p with
  |false=>rw[Wz] at hv;cases hv;obtain ab:=ah.push aa.sim aQ {cls:=.type "function",data:=.func (kla_fn "<lambda>" (e'.qual++"<lambda>") ⟨[],as,none,[],[],none,[]⟩ body mh cl ((mg "__name__").getD .none) cv LI)} rfl tk;exact k _ _ _ (aa.trans S ab) ⟨_,_,_,rfl,Wd.bg ..,rfl,rfl,Ex,rfl,rfl,rfl,rfl,rfl,rfl,Zk.mono ab.le.z,rc.mono (aa.le.trans ab.le)⟩
  |true=>
   rw[Wz] at hv;cases hv
   exact k _ _ _ (aa.trans S (ah.new aa.sim aQ (.qp (.r8 ps body mh dD) []) {cls:=.type "function",data:=.func (kla_fn "<lambda>" (e'.qual++"<lambda>") ⟨[],as,none,[],[],none,[]⟩ body mh cl ((mg "__name__").getD .none) cv LI)} rfl tk
    ⟨_,_,tc _ rfl,rfl,rfl,.inl ⟨rfl,rfl⟩⟩)) ⟨_,rfl,Wd.e_ ..⟩
 show si _ _ (do
   let dv<-evalAll [];let Zl<-holding dv (evalAllOpt [])
   makeFunction "<lambda>" (e'.qual++"<lambda>") ⟨[],as,none,[],[],none,[]⟩ (.expr body) mh e' dv Zl [] p p.line) _ _ _
 refine ox (pk (ox (ub (pk ?_))));induction Un:codeAmong p Zi.toList with
 |some cv=>exact kla_makeFunctionHit yH N.globals g1 yF Wx gP tP Un Wy λLI h' tk hk hsz=>fin (s₁:={s with heap:=h'}) (ah.grow S aQ hk hsz rfl rfl (λa a h=>h) (λa a h=>.inl h) rfl rfl) (cP p cv Un)|none=>
  refine kla_makeFunction yH N.globals g1 yF Wx gP tP Un Zj Wy λc' LI h' tk hx yy cF Uo xh=>?_
  obtain⟨c2,oc,vs,t,e1,e2,e3,e4⟩:=Uo;obtain rfl:=IH e1;exact fin (s₁:={s with heap:=h',toks:=s.toks}) (ah.table S aQ hm gP hx (vb yy (y7 cF)) yy e2 e3 e4 xh) ⟨c',oc,vs,t,rfl,Wd.bg ..,e3,e4⟩
end
section
variable{d:Nat}{sc:te}{env:af}{ke ve:Expr}{x:Str}{u v:V}{H H₁ H2 H':AH}{p:aaK}
theorem Gh(h1:bY d sc env ke H (.str x) H₁)(h2:bY d sc env ve H₁ u H2)(hv:(if G.C.mu p then iA (.aE [(x,u)]) else pure (.aE [(x,u)]):M V) H2=some (v,H')):bY d sc env (.Dict [some ke] [ve] p) H v H':=by
 intro A E W s e' Q rm S N k;obtain dq:=ah.gw S aQ {cls:=.type "dict",data:=.dict #[]};obtain fr:c8 W s.heap.objs.size:=⟨S.dc (pd _),S.iG (pd _),S.gh (pd _)⟩;obtain g0:({s with heap:=s.heap.push {cls:=.type "dict",data:=.dict #[]}}:oC).heap.get? s.heap.objs.size=some (dO #[] 0):=tc _ rfl;refine wpAny_Dict_pairs (knd:=sk) (pairs:=[(eval ke e',do let x<-eval ve e';standAt p;pure x)]) rfl (List.cons_ne_nil _ _) (Nat.succ_le_succ (zr _)) (evalPairs_cons (h1 rm dq.sim (N.expr dq) λz ag s₁ aa aw=>ox (h2 rm aa.sim (N.expr (dq.trans S aa)) λy a9 ar ab bc=>ox (uk (pk (evalPairs_nil ?_))))));obtain⟨hl,t,rfl⟩:=aw;obtain b9:=aa.trans dq.sim ab;obtain P':=dq.trans S b9;obtain WA:=fr.post b9 (by rw[xc];exact BM _) (λh=>h);obtain g1:=b9.keep _ _ g0 fr.2.2 (λk hk=>nE (fr.1.symm.trans hk)) (λh=>h);obtain⟨QB,Zm,Zn⟩:=e7 (W:=a9) (kvs:=[]) g1 .nil trivial;induction QB with
 |cons _ _=>exact Zn.elim|nil=>
  refine⟨[(x,y)],⟨strKind_is ..,rfl,trivial⟩,Zm,λh' hd A2=>?_⟩;refine(k8 hd (show eW a9 [(x,u)] _ from⟨rfl,hl,bc,trivial⟩)).elim λes Wb=>?_;refine Wb.elim λm NL=>?_;obtain g2:=NL.1;obtain Zo:=NL.2.1;obtain Zp:=NL.2.2
  obtain ab:=eg b9.sim WA A2;exact(lA hv (P'.trans' S ab λb hb=>.inr (hb▸pd _)) WA (pd _) g2 (S.mods (pd _)) Zo (by show 1<ai;decide) Zp).elim λcx q=>k _ cx _ q.1 q.2.2.1
end
section
variable{d:Nat}{g:V}
inductive lF(d:Nat)(g:V):List V->AH->List V->AH->Prop|nil{H:AH}:lF d g [] H [] H|cons{x k:V}{xs ks:List V}{H H₁ H':AH}(h:aC d g [x] H k H₁)(t:lF d g xs H₁ ks H'):lF d g (x::xs) H (k::ks) H'
theorem lF.len{xs ks:List V}{H H':AH}(h:lF d g xs H ks H'):ks.length=xs.length:=by
 induction h with |nil=>rfl|cons _ _ ih=>exact congrArg (·+1) ih
variable{A:tj}{E:Value->oC->Prop}{W ax:Wd}{H H₀ H':AH}{s a7 t:oC}{l kS:sx}{e1:Nat}{f':Value}{xs ks kr:List V}{ys:List Value}
theorem lF.run{body:Value->PUnit->Sem (ForInStep PUnit)}(h:lF d g xs H kr H')(rm:bC A d)(dy:aN ax H₀ a7)
  (hb:∀x (t:oC) (Q:oC->Prop),si gM A (xi f' [x]) (λk t'=>∃keys e,t'.heap.get? kS=some (seqObj "list" keys e)/\keys.size<64/\Q {t' with heap:=t'.heap.update kS (y6 (·.push k))}) (λa a=>False) t->si gM A (body x ⟨⟩) (λr t'=>r=.yield ⟨⟩/\Q t') E t)
  (K:iP ax H₀ a7 l kS e1 ks W H t)(rf:Rel W g f')(rs:aG W xs ys)(hl:ks.length+xs.length<64):
  si gM A (forIn ys y5 body) (λa t'=>∃W',W.Le W'/\iP ax H₀ a7 l kS e1 (ks++kr) W' H' t') E t:=by
 induction h generalizing W t ks ys with
 |nil=>cases oz rs;exact pk ⟨W,.refl W,by rw[rn];exact K⟩
 |@cons x k xs ks0 Ha H₁ Hb h _ ih=>
  obtain⟨y,yr,rfl,r1,r2⟩:=zY rs;rw[NA];refine ox (wb (hb y t (λt'=>∃W',W.Le W'/\iP ax H₀ a7 l kS e1 (ks++[k]) W' H₁ t') (h.wp rm K.post.sim rf ⟨r1,trivial⟩ λz ag mI aa rz=>?_)) (λq mI hq=>?_) λa a e=>e)
  ·refine(K.step dy aa rz).elim λkeys Il=>?_;refine Il.elim λe LJ=>?_;obtain g1:=LJ.1;obtain g2:=LJ.2.1;obtain K':=LJ.2.2
   exact⟨keys,e,g1,g2▸vw (Kk ks.length _) hl,ag,aa.le,K'⟩
  ·obtain⟨rfl,ag,q⟩:=hq;refine wb (ih q.2 (rf.mono q.1) (r2.mono q.1) (by rw[pj];simp only[pE,tm] at hl⊢;exact aL (nat_lit 0x40e1190980881140e1918081101) ae hl)) (λa t' q'=>?_) λa a e=>e
   refine q'.elim λW' OU=>?_;obtain r1:=OU.1;obtain r2:=OU.2
   rw[ta] at r2;exact⟨W',q.1.trans r1,r2⟩
end
section
variable{d:Nat}{g v u:V}{A:tj}{E:Value->oC->Prop}{W ax:Wd}{H H₀ H₁ H2 H3 hJ H':AH}{s a7 t:oC}{l:sx}{m:Nat}{f':Value}{xs ks out:List V}{vs:List Value}{sc:te}{env:af}{x kf:Expr}{q kp p:aaK}
theorem lF.tree{Pq:RR->oC->Prop}(hc:lF d g xs H₀ ks H')(rm:bC A d)(dy:aN ax H₀ a7)(dq:ah ax H₀ a7 aQ ax H₀ s)(ll:a7.heap.objs.size<=l)(gl:s.heap.get? l=some (seqObj "list" vs.toArray m))(rf:Rel ax g f')(rs:aG ax xs vs)(A4:xs.length<64)
  (h:bO ks xs=some (.lst out))(hP:∀W' t,ah ax H₀ a7 aQ W' H' t->Rel W' (.lst out) (.ref l)->Pq (.done (.ret .none)) t):si gM A (ksk_tree l f' false) Pq E s:=by
 obtain el:=rs.length;obtain Gi:vs.length<=sizeLine:=by rw[aak];exact aL (nat_lit 0x10000007f10140e011103102) ae el A4
 obtain hl:=ti gl;obtain⟨e1,EA⟩:∃e1,(s.heap.update l (y6 λc=>(#[]:Array Value))).get? l=some (seqObj "list" #[] e1):=⟨_,get?_update_seq gl λc=>#[]⟩;refine ox (listItems_at gl rfl (ox (listUpdate_at gl rfl ?_ Gi (zr _))));refine ox (seqEpoch_at EA rfl (ox (wpAny_newTuple (ox (wpAny_newList (ub ?_) (zr _))) Gi)));obtain Up:((s.heap.update l (y6 λc=>(#[]:Array Value))).push (seqObj "tuple" vs.toArray 0)).objs.size=s.heap.objs.size+1:=by rw[size_push',xI.size_update]
 obtain fl:c8 ax l:=⟨dy.dc ll,dy.iG ll,dy.gh ll⟩;obtain lk:a7.heap.objs.size<=((s.heap.update l (y6 λc=>(#[]:Array Value))).push (seqObj "tuple" vs.toArray 0)).objs.size:=Up▸w3 dq.size;obtain aa:ah ax H₀ s (λa=>a=l) ax H₀ {s with heap:=((s.heap.update l (y6 λc=>(#[]:Array Value))).push (seqObj "tuple" vs.toArray 0)).push (seqObj "list" #[] 0)}:=ah.free dq.sim (λa ha=>ha▸fl) (λb o hb ho=>px _ (px _ ((Hn _ _ (aaJ hb)).trans ho))) (by rw[size_push',Up];exact Kk _ 2) rfl rfl;obtain K:iP ax H₀ a7 l ((s.heap.update l (y6 λc=>(#[]:Array Value))).push (seqObj "tuple" vs.toArray 0)).objs.size e1 [] ax H₀ {s with heap:=((s.heap.update l (y6 λc=>(#[]:Array Value))).push (seqObj "tuple" vs.toArray 0)).push (seqObj "list" #[] 0)}:=⟨(dq.up.trans dy aa).drop λa ha=>.inr (ha▸ll),px _ (px _ EA),⟨#[],0,tc _ rfl,trivial⟩,fl,⟨dy.dc lk,dy.iG lk,dy.gh lk⟩,ll,lk,Up▸x5 (Mo hl)⟩;refine ox (wpAny_rule ?_);rw[List.forIn_toArray];refine ox (wb (hc.run rm dy (λx t Q hx=>?_) K rf rs (by simp only[tm,FR];exact A4)) (λc t q=>q.elim λag q=>FY q.2 dy hc.len (rs.mono q.1) A4 h hP) λc c x=>x);refine ox (wpAny_attempt (wb hx (λk t' q=>q.elim λkeys q=>q.elim λe q=>?_) λc c hF=>hF.elim));obtain OV:keys.size+1<=sizeLine:=by rw[aak];exact aS (nat_lit 0x10000007f19080140e01101) ae q.2.1
 exact ox (listUpdate_at q.1 rfl (pk ⟨rfl,q.2.2⟩) (vb (Ee _) OV) (vb (Fu (Array.size_push ..)) (w3 OV)))
theorem lF.call{a:sx}{z:Value}{Q:Value->oC->Prop}(hc:lF d g xs H ks H')(h1:j5 v H=some (xs,H₁))(h:bO ks xs=some (.lst out))(rm:bC A (d+1))(S:aN W H s)(rz:Rel W v z)(rg:Rel W g (.ref a))(k:∀x W' s',ah W H s aQ W' H' s'->Rel W' (.lst out) x->Q x s'):
  si gM A (xi (.builtin "sorted") [z] [(t5 "key",.ref a)]) Q E s:=by
 refine(fW h).elim λN5 z2=>?_;obtain eo:=z2.1;obtain q1:=z2.2.1;obtain q2:=z2.2.2
 have hl:=if hs:xs.length<2 then X2 hs (by simp_all) else(q2 hs).1
 refine call_function_entry_kw kind_sorted plain_sorted entry_sorted (ksk_s1 _ _) ?_;refine ox (pk (ox (bN (oO h1 S rz (by exact rm.handled) hl λh' tk vs hk rs yy=>?_))));have Gi:vs.length<=sizeLine:=by simp only[aak,<-rs.length];exact aS (nat_lit 0x10000007f00140e01101) ae hl
 refine ox (wpAny_newList (ox (ub (wpAny_call_entry_kw slot_list_sort ⟨_,tc _ rfl,rfl⟩ entry_list_sort ?_ (ksk_l1 _ _)))) Gi);obtain dq:ah W H s aQ W H {s with heap:=h'.push (seqObj "list" vs.toArray 0),toks:=tk}:=ah.grow S aQ (λb o e=>px _ (hk b o e)) (by rw[size_push'];exact w3 yy) rfl rfl (λc c h=>h) (λc c h=>.inl h) rfl rfl;exact hc.tree rm.YC S dq yy (tc _ rfl) rg rs hl h λW' t P r=>⟨_,rfl,pk ⟨_,rfl,k _ W' _ P r⟩⟩
theorem Gj{f:Str}(Lz:isStarred x=false)(h1:bY d sc env (.Name f q) H (.blt "sorted") H₁)(h2:bY d sc env x H₁ u H2)(h3:bY d sc env kf H2 g H3)(hg:Bc g=true)(h4:j5 u H3=some (xs,hJ))(h5:lF d g xs H3 ks H')(h6:bO ks xs=some (.lst out)):
  bY (d+1) sc env (.Call (.Name f q) [x] [⟨some (t5 "key"),kf,kp⟩] p) H (.lst out) H':=by
 intro A E W s e' Q rm S N k;have Ge:=rm.le (Ee d)
 refine wpAny_Call_Name_kw (h1 Ge S N λf' ag s₁ aa aw=>?_);have hf:=aw
 subst hf;obtain yu:=dZ Lz;obtain Zq:lC d sc env [x] H₁ [u] H2:=.cons Lz h2 .nil;refine callWith_kw ?_ (by rw[yu];rfl) (by rw[yu];rfl);refine Zq.run Ge aa.sim (N.expr aa) λzs a9 ar ab bc=>?_
 obtain⟨z,rfl,rz⟩:=dI bc;have b9:=aa.trans S ab
 refine kws_cons (h3 Ge ab.sim (N.expr b9) λy cx da a8 dt=>kws_nil ?_);obtain⟨a,rfl⟩:∃a,y=.ref a:=by induction g using V.casesOn<;>first|(obtain⟨a,_,_,rfl,_⟩:=dt;exact⟨a,rfl⟩)|exact bE hg
 exact h5.call h4 h6 rm a8.sim (rz.mono a8.le) dt λb b b P r=>k _ _ _ ((b9.trans S a8).trans S P) r
end
inductive xr where
|obj(o:aF)|call(v:V)(H:AH)|ev(v:V)(H:AH)|ex(fl:Fl)(env:af)(H:AH)|cmp(env:af)(ac:Acc)(H:AH)|ks(l:List Str)|no(i:Nat)(b:Bool)|val(i:Nat)(v:V)|upd(i:Nat)(v:V)(H:AH)
structure Cr(α:Type)(J:α->Prop) where
 a:α
 i:Nat
 O:List xr
 c:Prop->Prop
 pf:∀{P:Prop},c P->J a/\P
abbrev CM(α:Type)(J:α->Prop):=Nat->List xr->Option (Cr α J)
section
variable{α β:Type}{J:α->Prop}{L:β->Prop}
noncomputable def CM.ret(a:α)(h:J a):CM α J:=λi O=>some ⟨a,i,O,λP=>P,λk=>⟨h,k⟩⟩
noncomputable def CM.nil:CM α J:=λa a=>none
noncomputable def CM.aT(m:CM α J)(k:∀a,CM β (λb=>J a->L b)):CM β L:=λi O=>match m i O with |none=>none|some r=>match k r.a r.i r.O with |none=>none|some s=>some ⟨s.a,s.i,s.O,λP=>r.c (s.c P),λh=>(r.pf h).elim λh1 h=>(s.pf h).imp (λh2=>h2 h1) id⟩
noncomputable def CM.map(m:CM α J)(f:α->β)(h:∀a,J a->L (f a)):CM β L:=λi O=>match m i O with |none=>none|some r=>some ⟨f r.a,r.i,r.O,r.c,λq=>(r.pf q).imp (h _) id⟩
noncomputable def dm(b:Bool):CM Unit (λa=>b=true):=λi O=>match b with |true=>some ⟨(),i,O,λP=>P,λh=>⟨rfl,h⟩⟩|false=>none
noncomputable def Uq(i:Nat):List xr->Option (Bool×List xr)|.no j b::O=>bif vT j i then some (b,O) else none|_=>none
noncomputable def OW(i:Nat):List xr->Option (V×List xr)|.val j b::O=>bif vT j i then some (b,O) else none|_=>none
noncomputable def IF(i:Nat):List xr->Option (V×AH×List xr)|.upd j b H::O=>bif vT j i then some (b,H,O) else none|_=>none
noncomputable def ask(b:Bool):CM Bool (λx=>b=x):=λi O=>match Uq i O with |some (x,O)=>some ⟨x,i+1,O,λP=>b=x/\P,λh=>h⟩|none=>match b with |true=>some ⟨true,i+1,O,λP=>P,λh=>⟨rfl,h⟩⟩|false=>some ⟨false,i+1,O,λP=>P,λh=>⟨rfl,h⟩⟩
noncomputable def oT(o:Option V):CM V (λv=>o=some v):=λi O=>match OW i O with |some (x,O)=>some ⟨x,i+1,O,λP=>o=some x/\P,λh=>h⟩|none=>match o with |some x=>some ⟨x,i+1,O,λP=>P,λh=>⟨rfl,h⟩⟩|none=>none
noncomputable def p7(m:M V)(H:AH):CM (V×AH) (λr=>m H=some r):=λi O=>match IF i O with |some (x,H',O)=>some ⟨(x,H'),i+1,O,λP=>m H=some (x,H')/\P,λh=>h⟩|none=>match m H with |some x=>some ⟨x,i+1,O,λP=>P,λh=>⟨rfl,h⟩⟩|none=>none
noncomputable def Ur(m:M Unit)(H:AH):CM AH (λH'=>m H=some ((),H')):=λi O=>match IF i O with |some (aR,H',O)=>some ⟨H',i+1,O,λP=>m H=some ((),H')/\P,λh=>h⟩|none=>match m H with |some x=>some ⟨x.2,i+1,O,λP=>P,λh=>⟨rfl,h⟩⟩|none=>none
noncomputable def CM.obj(H:AH)(k:Nat):CM aF (λo=>H[k]?=some o):=λi O=>match O with |.obj o::O=>some ⟨o,i,O,λP=>H[k]?=some o/\P,λh=>h⟩|_=>none
noncomputable def CM.call(Z:V->AH->Prop):CM (V×AH) (λr=>Z r.1 r.2):=λi O=>match O with |.call v H::O=>some ⟨(v,H),i,O,λP=>Z v H/\P,λh=>h⟩|_=>none
noncomputable def CM.ev(Z:V->AH->Prop):CM (V×AH) (λr=>Z r.1 r.2):=λi O=>match O with |.ev v H::O=>some ⟨(v,H),i,O,λP=>Z v H/\P,λh=>h⟩|_=>none
noncomputable def CM.ex(Z:Fl->af->AH->Prop):CM (Fl×af×AH) (λr=>Z r.1 r.2.1 r.2.2):=λi O=>match O with |.ex f e H::O=>some ⟨(f,e,H),i,O,λP=>Z f e H/\P,λh=>h⟩|_=>none
noncomputable def CM.cmp(Z:af->Acc->AH->Prop):CM (af×Acc×AH) (λr=>Z r.1 r.2.1 r.2.2):=λi O=>match O with |.cmp e a H::O=>some ⟨(e,a,H),i,O,λP=>Z e a H/\P,λh=>h⟩|_=>none
noncomputable def CM.ks:CM (Option (List Str)) (λa=>True):=λi O=>match O with |.ks l::O=>some ⟨some l,i,O,λP=>P,λh=>⟨trivial,h⟩⟩|O=>some ⟨none,i,O,λP=>P,λh=>⟨trivial,h⟩⟩
theorem CM.ok{m:CM α J}{O:List xr}{c:Prop}{a:α}(F:c)(h:(m 0 O).map (λr=>(r.a,r.c True))=some (a,c)):J a:=by
 induction e:m 0 O with
 |none=>obtain h:=e▸h;exact nE h
 |some r=>rw[e] at h;obtain⟨rfl,rfl⟩:=yA (oy h);exact(r.pf F).1
structure Fz(O:List xr)(c:Prop):Prop where
 h:c
theorem Fz.nil:Fz [] True:=⟨trivial⟩
section
variable{O:List xr}{c:Prop}{H H':AH}{v:V}
theorem Fz.obj{k:Nat}{o:aF}(h:H[k]?=some o)(r:Fz O c):Fz (.obj o::O) (H[k]?=some o/\c):=⟨h,r.h⟩
theorem Fz.no(i:Nat){b x:Bool}(h:b=x)(r:Fz O c):Fz (.no i x::O) (b=x/\c):=⟨h,r.h⟩
theorem Fz.val(i:Nat){o:Option V}(h:o=some v)(r:Fz O c):Fz (.val i v::O) (o=some v/\c):=⟨h,r.h⟩
theorem Fz.upd(i:Nat){m:M V}(h:m H=some (v,H'))(r:Fz O c):Fz (.upd i v H'::O) (m H=some (v,H')/\c):=⟨h,r.h⟩
theorem Fz.lG(i:Nat){m:M Unit}(h:m H=some ((),H'))(r:Fz O c):Fz (.upd i .none H'::O) (m H=some ((),H')/\c):=⟨h,r.h⟩
theorem Fz.ks(l:List Str)(r:Fz O c):Fz (.ks l::O) c:=⟨r.h⟩
theorem Fz.call{d:Nat}{f:V}{vs:List V}(h:aC d f vs H v H')(r:Fz O c):Fz (.call v H'::O) (aC d f vs H v H'/\c):=⟨h,r.h⟩
theorem Fz.ev{d:Nat}{sc:te}{env:af}{e:Expr}(h:bY d sc env e H v H')(r:Fz O c):Fz (.ev v H'::O) (bY d sc env e H v H'/\c):=⟨h,r.h⟩
theorem Fz.loop{d:Nat}{sc:te}{env aj:af}{t:Expr}{b:List B2}{xs:List V}{fl:Fl}(h:cz d sc t b xs env H fl aj H')(r:Fz O c):Fz (.ex fl aj H'::O) (cz d sc t b xs env H fl aj H'/\c):=⟨h,r.h⟩
theorem Fz.mK{d:Nat}{sc:te}{env aj:af}{t:Expr}{b:List B2}{k m:Nat}{fl:Fl}(h:jm d sc t b k m env H fl aj H')(r:Fz O c):Fz (.ex fl aj H'::O) ((∃m,jm d sc t b k m env H fl aj H')/\c):=⟨⟨m,h⟩,r.h⟩
theorem Fz.cmp{d:Nat}{aB:te}{env aj:af}{g:uj}{T:jO}{xs:List V}{ac gn:Acc}(h:aK d aB g T xs env ac H aj gn H')(r:Fz O c):Fz (.cmp aj gn H'::O) (aK d aB g T xs env ac H aj gn H'/\c):=⟨h,r.h⟩
end
end
section
variable(d:Nat)
abbrev CE(sc:te)(env:af)(e:Expr)(H:AH):=CM (V×AH) λr=>bY (d+1) sc env e H r.1 r.2
abbrev CT(sc:te)(env:af)(e:Expr)(H:AH):=CM (Bool×AH) λr=>pO (d+1) sc env e H r.1 r.2
abbrev CA(sc:te)(env:af)(t:Expr)(v:V)(H:AH):=CM (af×AH) λr=>pZ (d+1) sc env t v H r.1 r.2
abbrev CS(sc:te)(env:af)(st:B2)(H:AH):=CM (Fl×af×AH) λr=>jy (d+1) sc env st H r.1 r.2.1 r.2.2
abbrev Zr(sc:te)(env:af)(b:List B2)(H:AH):=CM (Fl×af×AH) λr=>pP (d+1) sc env b H r.1 r.2.1 r.2.2
abbrev CL(sc:te)(env:af)(es:List Expr)(H:AH):=CM (List V×AH) λr=>lC (d+1) sc env es H r.1 r.2
structure RL where
 e:∀sc env e H,CE d sc env e H
 t:∀sc env e H,CT d sc env e H
 a:∀sc env t v H,CA d sc env t v H
 x:∀sc env s H,CS d sc env s H
variable{d}
theorem bF{b:Bool}(h:(!b)=true):b=false:=L9 _|>.mp h
noncomputable def ic(R:RL d)(sc:te)(env:af):∀(es:List Expr) (H:AH),CL d sc env es H|[],H=>.ret ([],H) .nil|e::es,H=>.aT (dm (!isStarred e)) λc=>.aT (R.e sc env e H) λa=>.map (ic R sc env es a.2) (λb=>(a.1::b.1,b.2)) λb h3 h2 h1=>.cons (bF h1) h2 h3
noncomputable def oU(R:RL d)(sc:te):∀(b:List B2) (env:af) (H:AH),Zr d sc env b H|[],env,H=>.ret (.next,env,H) Oq|s::b,env,H=>.aT (R.x sc env s H) λr=>match r with |(.next,env,H)=>.map (oU R sc b env H) (λq=>q) λq h2 h1=>bq h1 h2|(.cont,env,H)=>.ret (.cont,env,H) λh1=>J0 h1|(.ret v,env,H)=>.ret (.ret v,env,H) λh1=>Co h1
noncomputable def u5(R:RL d)(sc:te):∀(ts:List Expr) (vs:List V) (env:af) (H:AH),CM (af×AH) λr=>Cs (d+1) sc env ts vs H r.1 r.2|[],[],env,H=>.ret (env,H) .nil|t::ts,v::vs,env,H=>.aT (dm (!isStarred t)) λb=>.aT (R.a sc env t v H) λr=>.map (u5 R sc ts vs r.1 r.2) (λq=>q) λq h3 h2 h1=>.cons (bF h1) h2 h3|aR,bV,iq,yb=>.nil
noncomputable def IG(b:Bool)(f:V)(o:aF)(H:AH):V×AH:=match b with |true=>(.ref H.length,H++[o])|false=>(f,H)
theorem oV(b:Bool)(f:V)(o:aF)(H:AH):(if b=true then iA o else pure f:M V) H=some ((IG b f o H).1,(IG b f o H).2):=by induction b<;>rfl
noncomputable def live:aF->Bool|.gone=>false|_=>true
theorem fX{H:AH}{k:Nat}{o:aF}{α:Type}{f:aF->M α}{r:Option (α×AH)}(h:H[k]?=some o)(hn:live o=true)(hf:f o H=r):M.aT (hget k) f H=r:=by unfold M.aT hget;refine h▸?_;induction o<;>first|exact hf|exact bE hn
def rObj{f:aF->M V}(H:AH)(k:Nat):CM (V×AH) λr=>M.aT (hget k) f H=some (r.1,r.2):=.aT (CM.obj H k) λo=>.aT (dm (live o)) λa=>.map (p7 (f o) H) (λr=>r) λr h3 h2 h1=>fX h1 h2 h3
def CJ{f:aF->M Unit}(H:AH)(k:Nat):CM AH λH'=>M.aT (hget k) f H=some ((),H'):=.aT (CM.obj H k) λo=>.aT (dm (live o)) λa=>.map (Ur (f o) H) (λr=>r) λr h3 h2 h1=>fX h1 h2 h3
def Us(C:Cx)(k:Nat)(a:Str):aF->M V
|.inst c fs=>match fs.lookup a with
  |some v=>if qu C c a&&nG v then pure v else M.fail
  |none=>match (C.gG.lookup c).bind λd=>d.meths.lookup a with |some f=>pure (.bm k f)|none=>M.fail
|_=>M.fail
def CK(C:Cx)(k:Nat)(a:Str)(v:V):aF->M Unit
|.inst c fs=>if qu C c a&&sizeOk (fs.length+1) then ik k (.inst c (aH fs a v)) else M.fail
|.qp c fs=>match v with
  |.r8 ..=>if a=="read"&&fs.isEmpty then ik k (.qp c [(a,v)]) else M.fail
  |_=>M.fail
|_=>M.fail
def OX(C:Cx)(o:V)(x:Str)(H:AH):CM (V×AH) λr=>getAttrA C o x H=some (r.1,r.2):=match o with |.ref k=>rObj (f:=Us C k x) H k|_=>.nil
def OY(C:Cx)(o:V)(x:Str)(v:V)(H:AH):CM AH λH'=>setAttrA C o x v H=some ((),H'):=match o with |.ref k=>CJ (f:=CK C k x v) H k|_=>.nil
def II(o i v:V)(H:AH):CM AH λH'=>j0 o i v H=some ((),H'):=match o,i with |.ref k,.int j=>CJ H k|.ref k,.str x=>CJ H k|aR,bV=>.nil
def OZ(v:V)(H:AH):CM Bool λb=>Qi v H=some (b,H):=match v with
|.none=>.ret false rfl|.bool b=>.ret b rfl|.int i=>.ret (i !=0) rfl|.str s=>.ret (s.length !=0) rfl|.lst xs=>.ret (xs.length !=0) rfl|.ref k=>.aT (CM.obj H k) λo=>match o with |.lst xs=>.ret (xs.length !=0) λh=>fX h rfl rfl|_=>.nil
|_=>.nil
def mj(o:Option aF)(i:V):Option V:=match o with |some (.lst xs)=>t_ (.lst xs) i|some (.aE kvs)=>t_ (.aE kvs) i|_=>none
theorem item_at{H:AH}{k:Nat}{o:aF}{i c:V}(h:H[k]?=some o)(hr:mj (some o) i=some c):item H (.ref k) i=some c:=by show t_ (match H[k]? with |some (.lst xs)=>.lst xs|some (.aE kvs)=>.aE kvs|_=>.ref k) i=some c;rw[h];induction o<;>first|exact hr|exact nE hr
def IJ(a i:V)(H:AH):CM V λv=>item H a i=some v:=match a with |.ref k=>.aT (CM.obj H k) λo=>.map (oT (mj (some o) i)) (λr=>r) λr h2 h1=>item_at h1 h2|a=>oT _
end
section
variable{d:Nat}
def Kv{sc:te}{env:af}{H:AH}{q:Nat}{p:aaK}:∀c:Const,CE d sc env (.Constant c q p) H|.none=>.ret (.none,H) JY|.bool b=>.ret (.bool b,H) JX|.int i=>.ret (.int i,H) Of|.str s=>.map (dm (Nat.blt s.length ai)) (λa=>(.str s,H)) λa h=>Og (Fh h)|_=>.nil
theorem CN{n m:Nat}(h:Nat.blt n m=true):n<m:=Fh h
def O0(f:V)(vs:List V)(H:AH)(p:aaK):CM (V×AH) λr=>callable f=true/\(∀c,f=.cls c->(G.C.gG.lookup c).isSome=true)/\qU (d+1) f vs H r.1 r.2:=match f with
|.blt i=>match decEq i "sorted" with |.isTrue e=>.map (p7 (fN vs) H) (λr=>r) λr h=>⟨rfl,(λg e=>nomatch e),e▸CI h⟩|.isFalse _=>.map (p7 (lT i vs) H) (λr=>r) λr h=>⟨rfl,(λg e=>nomatch e),OP h⟩
|.typ i=>.map (p7 (jE (G.C.mu p) i vs) H) (λr=>r) λr h=>⟨rfl,(λg e=>nomatch e),OQ h⟩|.cls c=>.aT (dm (G.C.gG.lookup c).isSome) λg=>.map (.call (aC (d+1) (.cls c) vs H)) (λr=>r) λr h h0=>⟨rfl,λg e=>V.cls.inj e▸h0,h.wp⟩|.fn k=>.map (.call (aC (d+1) (.fn k) vs H)) (λr=>r) λr h=>⟨rfl,(λg e=>nomatch e),h.wp⟩|.bm k j=>.map (.call (aC (d+1) (.bm k j) vs H)) (λr=>r) λr h=>⟨rfl,(λg e=>nomatch e),h.wp⟩|.r8 a b c e=>.map (.call (aC (d+1) (.r8 a b c e) vs H)) (λr=>r) λr h=>⟨rfl,(λg e=>nomatch e),h.wp⟩|_=>.nil
def eqStr(x y:Str):CM Unit λa=>x=y:=.map (dm (x==y)) (λa=>()) λa h=>eq_of_beq h
def O3(R:RL d)(sc:te)(env:af)(ov:V)(m:Str)(es:List Expr)(H:AH):CM (V×AH) λr=>kC (d+1) sc env ov m es H r.1 r.2:=match ov with
|.ref k=>.aT (CM.obj H k) λo=>match o with
 |.inst c fs=>match h1:fs.lookup m,h2:G.C.gG.lookup c with
  |none,some cd=>match h3:cd.meths.lookup m with |some f=>.aT (ic R sc env es H) λvs=>.map (.call (aC (d+1) (.fn f) (.ref k::vs.1) vs.2)) (λr=>r) λr h hl hk=>J3 hk h1 h2 h3 hl h|none=>.nil
  |aR,bV=>.nil
 |.qp cl fs=>match h1:fs.lookup (t5 "read") with |some g=>.aT (eqStr m (t5 "read")) λa=>.aT (dm (Bc g)) λa=>.aT (ic R sc env es H) λvs=>.map (.call (aC (d+1) g vs.1 vs.2)) (λr=>r) λr h hl hg hm hk=>hm▸OA hk h1 hg hl h|none=>.nil
 |.lst us=>.aT (ic R sc env es H) λvs=>.aT (CM.obj vs.2 k) λo=>(match o with |.lst QH=>.map (p7 (kX k m vs.1 (.lst QH)) vs.2) (λr=>r) λr h jN hl hk=>Kq hk hl jN h|_=>.nil)|.aE kvs=>.aT (eqStr m (t5 "get")) λa=>.aT (ic R sc env es H) λvs=>.aT (CM.obj vs.2 k) λo=>match o with |.aE Kp=>.map (p7 (qx Kp "get" vs.1) vs.2) (λr=>r) λr h jN hl hm hk=>hm▸Ku hk hl jN h|_=>.nil
 |_=>.nil
|.str x=>.aT (ic R sc env es H) λvs=>.map (p7 (nH x m vs.1) vs.2) (λr=>r) λr h hl=>OR hl h|.lst us=>.aT (ic R sc env es H) λvs=>.map (p7 (x6 us m vs.1) vs.2) (λr=>r) λr h hl=>Kr hl h|.tabI tb=>.aT (eqStr m (t5 "get")) λa=>.aT (ic R sc env es H) λvs=>.map (p7 (ud tb "get" vs.1) vs.2) (λr=>r) λr h hl hm=>hm▸OS hl h|.aE kvs=>.aT (eqStr m (t5 "get")) λa=>.aT (ic R sc env es H) λvs=>.map (p7 (qx kvs "get" vs.1) vs.2) (λr=>r) λr h hl hm=>hm▸Ks hl h|_=>.nil
noncomputable def IK(R:RL d)(sc:te)(env:af)(op:BoolOp):∀(es:List Expr) (H:AH),CM (V×AH) λr=>OB (d+1) sc env op es H r.1 r.2
|[e],H=>.map (R.e sc env e H) (λr=>r) λr h=>OC h|e::e2::es,H=>.aT (R.e sc env e H) λa=>.aT (OZ a.1 a.2) λu=>.aT (ask u) λw=>match h:Iw op w with |true=>.ret a λh3 h2 h1=>IB h1 h2 (by rw[h3,h];exact⟨rfl,rfl⟩)|false=>.map (IK R sc env op (e2::es) a.2) (λr=>r) λr h4 h3 h2 h1=>IB h1 h2 (by simp only[h3,h];exact h4)
|aR,bV=>.nil
noncomputable def xu(R:RL d)(sc:te)(env:af):∀(op:BoolOp) (es:List Expr) (H:AH),CM (Bool×AH) λr=>p5 (d+1) sc env op es H r.1 r.2
|.And,[],H=>.ret (true,H) Kc|.Or,[],H=>.ret (false,H) OD|.And,e::es,H=>.aT (R.t sc env e H) λa=>.aT (ask a.1) λw=>match w with |false=>.ret (false,a.2) λh2 h1=>Kd (h2▸h1)|true=>.map (xu R sc env .And es a.2) (λr=>r) λr h3 h2 h1=>Ke (h2▸h1) h3
|.Or,e::es,H=>.aT (R.t sc env e H) λa=>.aT (ask a.1) λw=>match w with |true=>.ret (true,a.2) λh2 h1=>OE (h2▸h1)|false=>.map (xu R sc env .Or es a.2) (λr=>r) λr h3 h2 h1=>OF (h2▸h1) h3
def IL(R:RL d)(sc:te)(env:af):∀(e:Option Expr) (H:AH),CM (Option Int×AH) λr=>OH (d+1) sc env e H r.1 r.2|none,H=>.ret (none,H) Kg|some e,H=>.aT (R.e sc env e H) λa=>match a with |(.int j,H)=>.ret (some j,H) λh=>Kh h|_=>.nil
def O4{α:Type}(o:Option α):CM α λr=>o=some r:=match o with |some r=>.ret r rfl|none=>.nil
def CO(v:V)(H:AH):CM ((List V×Option (Nat×aF))×AH) λr=>srcOf v H=some r:=match v with
|.ref k=>.aT (CM.obj H k) λo=>match o with |.lst xs=>.ret ((xs,some (k,.lst xs)),H.set k .gone) λh=>fX h rfl rfl|_=>.nil
|v=>O4 (srcOf v H)
def IM(v:V)(H:AH):CM ((List (Str×V)×Option (Nat×aF))×AH) λr=>ES v H=some r:=match v with |.aE kvs=>.ret ((kvs,none),H) rfl|_=>.nil
structure Ut(d:Nat)(sc:te)(env:af)(t e:Expr)(H:AH)(r:(List V×Option (Nat×aF))×AH):Prop where
 src:uZ d sc env t e H r.1.1 r.1.2 r.2
 fold:∀e' x,foldedSetIterable e e' x=pure x
abbrev O5(d:Nat)(sc:te)(env:af)(t e:Expr)(H:AH):=CM ((List V×Option (Nat×aF))×AH) λr=>Ut (d+1) sc env t e H r
def gV(R:RL d)(sc:te)(env:af)(t e:Expr)(H:AH)(he:∀e' x,foldedSetIterable e e' x=pure x):O5 d sc env t e H:=.aT (R.e sc env e H) λa=>.map (CO a.1 a.2) (λr=>r) λr h2 h1=>⟨s7 h1 h2,he⟩
def Kw(R:RL d)(sc:te)(env:af)(t e:Expr)(H:AH):O5 d sc env t e H:=match e with
|.Call f es ks p=>match f,es,ks with
 |.Name f q,[x],[]=>match decEq f "enumerate" with
  |.isTrue hf=>match t with
   |.Tuple ts tk tp=>.aT (R.e sc env (.Name f q) H) λa=>match a with |(.typ i,H₁)=>.aT (dm (i=="enumerate")) λg=>.aT (dm (!isStarred x)) λg=>.aT (R.e sc env x H₁) λb=>.aT (CO b.1 b.2) λr=>.map (dm (enumSrc b.1)) (λg=>((aX 0 r.1.1,r.1.2),r.2)) λg h5 h4 h3 h2 h1 h0=>⟨by subst hf;cases eq_of_beq h1;exact Km h0 (.cons (bF h2) h3 .nil) h4 h5,λg g=>rfl⟩|_=>.nil
   |_=>.nil
  |.isFalse _=>gV R sc env t _ H λg g=>rfl
 |.Attribute o m ap,[],[]=>match decEq m "items" with
  |.isTrue hm=>match t with |.Tuple ts tk tp=>.aT (dm (!dU o)) λg=>.aT (dm (ap.endLine==p.line)) λg=>.aT (R.e sc env o H) λa=>.map (IM a.1 a.2) (λr=>((r.1.1.map λkv=>.tup [.str kv.1,kv.2],r.1.2),r.2)) λr h4 h3 h2 h1=>⟨by subst hm;exact Gd (bF h1) h2 h3 h4,λg g=>rfl⟩|_=>.nil
  |.isFalse _=>match decEq m "values" with |.isTrue hm=>.aT (dm (!dU o)) λg=>.aT (dm (ap.endLine==p.line)) λg=>.aT (R.e sc env o H) λa=>.map (IM a.1 a.2) (λr=>((r.1.1.map (·.2),r.1.2),r.2)) λr h4 h3 h2 h1=>⟨by subst hm;exact Cz (bF h1) h2 h3 h4,λg g=>rfl⟩|.isFalse _=>gV R sc env t _ H λg g=>rfl
 |aR,bV,iq=>gV R sc env t _ H λg g=>rfl
|.Name x q=>gV R sc env t _ H λg g=>rfl|.Attribute x q p=>gV R sc env t _ H λg g=>rfl|.Subscript x q p=>gV R sc env t _ H λg g=>rfl|.Constant c k q=>gV R sc env t _ H λg g=>rfl|.BinOp a o b q=>gV R sc env t _ H λg g=>rfl|.Tuple es k q=>gV R sc env t _ H λg g=>rfl|_=>.nil
noncomputable def u6(o:Option (Nat×aF))(H:AH):AH:=match o with |none=>H|some (k,o)=>H.set k o
theorem kD(o:Option (Nat×aF))(H:AH):i8 o H=some ((),u6 o H):=by induction o<;>rfl
def Gk(R:RL d)(sc:te)(env:af)(aB:te)(out:Out)(gens:List uj)(H:AH):CM (Acc×AH) λr=>p6 (d+1) sc env aB out gens H r.1 r.2:=match gens with |[]=>.nil|g::gs=>.aT (dm (!h_ sc&&(gI sc aB&&g.is_async==0))) λa=>.aT (Kw R sc env g.target g.iter H) λr=>match hc:fM aB env with |some dD=>.map (.cmp (λaj ac H'=>aK (d+1) aB g (bT (d+1) aB out gs) r.1.1 dD out.start r.2 aj ac H')) (λq=>(q.2.1,u6 r.1.2 q.2.2)) λq h2 h1 h0=>have w:=a_ h0;have w2:=a_ w.2;.mk (bF w.1) w2.1 (eq_of_beq w2.2) h1.fold hc h1.src h2 (kD ..)|none=>.nil
end
section
variable{d:Nat}
noncomputable def u7(c:Bool)(ac:Acc)(H:AH):V×AH:=match ac with |.l vs=>IG c (.lst vs) (.lst vs) H|.d kvs=>IG c (.aE kvs) (.aE kvs) H
theorem m8(c:Bool)(ac:Acc)(H:AH):z9 c ac H=some ((u7 c ac H).1,(u7 c ac H).2):=by induction ac<;>exact oV ..
def rE(R:RL d)(sc:te)(env:af)(e:Expr)(H:AH):CE d sc env e H:=match e with
|.Constant c q p=>Kv c|.Name x p=>.aT (dm (!(x==t5 "__debug__"))) λg=>.map (oT (d9 G.C sc env x)) (λv=>(v,H)) λv h h1=>xn (bF h1) h|.BinOp l op r p=>.aT (R.e sc env l H) λa=>.aT (R.e sc env r a.2) λb=>.map (oT (binop op a.1 b.1)) (λv=>(v,b.2)) λv h3 h2 h1=>Oa h1 h2 h3|.UnaryOp .USub x p=>.aT (R.e sc env x H) λa=>match a with |(.int j,H)=>.ret (.int (-j),H) λh=>Oe h|_=>.nil
|.BoolOp op es p=>.map (IK R sc env op es H) (λr=>r) λr h=>Ct h|.Compare l [op] [r] p=>.aT (dm (!(behindInMarks op r))) λg=>.aT (R.e sc env l H) λa=>.aT (R.e sc env r a.2) λb=>.map (oT (bG b.2 op a.1 b.1)) (λv=>(v,b.2)) λv h3 h2 h1 h0=>Ob (bF h0) h1 h2 h3|.IfExp t a b p=>.aT (R.t sc env t H) λu=>.aT (ask u.1) λw=>match w with |true=>.map (R.e sc env a u.2) (λr=>r) λr h3 h2 h1=>Oc (h2▸h1) h3|false=>.map (R.e sc env b u.2) (λr=>r) λr h3 h2 h1=>Od (h2▸h1) h3
|.Dict [] [] p=>.ret (IG (G.C.mu p) (.aE []) (.aE []) H) (Gb (oV ..))|.Dict [some k] [v] p=>.aT (R.e sc env k H) λa=>match a with |(.str x,H)=>.map (R.e sc env v H) (λu=>IG (G.C.mu p) (.aE [(x,u.1)]) (.aE [(x,u.1)]) u.2) λu h2 h1=>Gh h1 h2 (oV ..)|_=>.nil
|.List es p=>.aT (ic R sc env es H) λvs=>.map (dm (Nat.blt vs.1.length ai)) (λg=>IG (G.C.mu p) (.lst vs.1) (.lst vs.1) vs.2) λw h2 h1=>JZ h1 (CN h2) (oV ..)|.Tuple es q p=>.aT (ic R sc env es H) λvs=>.map (dm (Nat.blt vs.1.length ai)) (λg=>(.tup vs.1,vs.2)) λw h2 h1=>Oh h1 (CN h2)|.Attribute o x p=>.aT (dm (!dU o)) λg=>.aT (R.e sc env o H) λa=>.map (OX G.C a.1 x a.2) (λr=>r) λr h2 h1 h0=>Oi (bF h0) h1 h2|.Subscript o i p=>match i with |.Slice lo hi none q=>.aT (R.e sc env o H) λa=>.aT (IL R sc env lo a.2) λl=>.aT (IL R sc env hi l.2) λr=>.map (oT (slice r.2 a.1 l.1 r.1)) (λv=>(v,r.2)) λv h4 h3 h2 h1=>Ga h1 h2 h3 h4|i=>.aT (R.e sc env o H) λa=>.aT (R.e sc env i a.2) λb=>.map (IJ a.1 b.1 b.2) (λv=>(v,b.2)) λv h3 h2 h1=>JW h1 h2 h3
|.Call f es ks p=>match f,ks with |.Attribute o m ap,[]=>.aT (dm (!dU o)) λg=>.aT (dm (!es.any isStarred)) λg=>.aT (dm (ap.endLine==p.line)) λg=>.aT (dm (Nat.blt es.length 29)) λg=>.aT (R.e sc env o H) λa=>.map (O3 R sc env a.1 m es a.2) (λr=>r) λr h5 h4 h3 h2 h1 h0=>F6 (bF h0) (bF h1) h2 (CN h3) h4 h5|.Name f q,[]=>.aT (R.e sc env (.Name f q) H) λa=>.aT (ic R sc env es a.2) λvs=>.map (O0 a.1 vs.1 vs.2 p) (λr=>r) λr h3 h2 h1=>F5 h1 h2 h3.1 h3.2.1 h3.2.2|f,ks=>.map (.ev (bY (d+1) sc env (.Call f es ks p) H)) (λr=>r) λr h=>h
|.ListComp x gens aB p=>.map (Gk R sc env aB (.e x) gens H) (λr=>u7 (G.C.mu p) r.1 r.2) λr h=>xo h (m8 ..)|.DictComp x y gens aB p=>.map (Gk R sc env aB (.kv x y) gens H) (λr=>u7 (G.C.mu p) r.1 r.2) λr h=>xo h (m8 ..)|.Lambda args body mh p=>match hp:c7 args,hc:fM mh env with |some ps,some dD=>.map (dm (!h_ sc&&((dD.all λkv=>G.C.wo kv.1)&&gI sc mh))) (λg=>IG (G.C.mu p) (.r8 ps body mh dD) (.qp (.r8 ps body mh dD) []) H) λg h=>have w:=a_ h;have w2:=a_ w.2;OT (bF w.1) hp hc w2.1 w2.2 (oV ..)|aR,bV=>.nil
|e=>.map (.ev (bY (d+1) sc env e H)) (λr=>r) λr h=>h
end
section
variable{d:Nat}
def CP(R:RL d)(sc:te)(env:af)(e:Expr)(H:AH)(he:∀e' w,isTrue e e' w=(do let v<-w;standAt e.pos;holding [v] (truthy v))):CT d sc env e H:=.aT (R.e sc env e H) λa=>.map (OZ a.1 a.2) (λb=>(b,a.2)) λb h2 h1=>OG he h1 h2
def rT(R:RL d)(sc:te)(env:af)(e:Expr)(H:AH):CT d sc env e H:=match e with
|.UnaryOp .Not x p=>.map (R.t sc env x H) (λr=>(!r.1,r.2)) λr h=>Oj h|.BoolOp op es p=>.map (xu R sc env op es H) (λr=>r) λr h=>Cu h|.IfExp t a b p=>.aT (R.t sc env t H) λu=>.aT (ask u.1) λw=>match w with |true=>.map (R.t sc env a u.2) (λr=>r) λr h3 h2 h1=>Ol (h2▸h1) h3|false=>.map (R.t sc env b u.2) (λr=>r) λr h3 h2 h1=>Om (h2▸h1) h3
|.Compare l [op] [r] p=>.aT (R.e sc env (.Compare l [op] [r] p) H) λa=>match a with |(.bool b,H)=>.ret (b,H) λh=>Oo h|_=>.nil
|.Name x p=>CP R sc env _ H λc c=>rfl|.Call f es ks p=>CP R sc env _ H λc c=>rfl|.Attribute o x p=>CP R sc env _ H λc c=>rfl|.Subscript o i p=>CP R sc env _ H λc c=>rfl|.BinOp l op r p=>CP R sc env _ H λc c=>rfl|_=>.nil
def nameOk(C:Cx)(sc:te)(env:af)(y:Str):Bool:=match kindOf sc y with |some .local=>true|some .cell=>!C.wo y||!(aY env y).isSome|_=>false
theorem jf{sc:te}{env:af}{y:Str}{v:V}{H:AH}{p:aaK}(h:nameOk G.C sc env y=true):pZ d sc env (.Name y p) v H (aH env y v) H/\(kindOf sc y=some .local\/kindOf sc y=some .cell):=by
 have h:(match kindOf sc y with |some .local=>true|some .cell=>!G.C.wo y||!(aY env y).isSome|_=>false)=true:=h;induction e:kindOf sc y with
 |none=>rw[e] at h;exact bE h|some k=>
  rw[e] at h;induction k using aav.casesOn with
  |«local»=>exact⟨Ow e,.inl rfl⟩|cell=>
   refine⟨J2 e λhw=>?_,.inr rfl⟩;have h:(!G.C.wo y||!(aY env y).isSome)=true:=h
   rw[hw] at h;induction e:aY env y with |none=>rfl|some v=>rw[e] at h;exact bE h
  |_=>exact bE h
def rA(R:RL d)(sc:te)(env:af)(t:Expr)(v:V)(H:AH):CA d sc env t v H:=match t with
|.Name y p=>.map (dm (nameOk G.C sc env y)) (λc=>(aH env y v,H)) λc h=>(jf h).1|.Tuple ts q p=>match v with |.tup vs=>.map (u5 R sc ts vs env H) (λr=>r) λr h=>Iv h|_=>.nil
|.Attribute o y p=>.aT (R.e sc env o H) λa=>.map (OY G.C a.1 y v a.2) (λH=>(env,H)) λH h2 h1=>Ox h1 h2|.Subscript o i p=>.aT (R.e sc env o H) λa=>.aT (R.e sc env i a.2) λb=>.map (II a.1 b.1 v b.2) (λH=>(env,H)) λH h3 h2 h1=>Oz h1 h2 h3|_=>.nil
noncomputable def isNm(n:Str):Expr->Bool|.Name y _=>y==n|_=>false
theorem Gm{n:Str}{t:Expr}(h:isNm n t=true):∃p,t=.Name n p:=by induction t using Expr.casesOn<;>first|exact nomatch (show false=true from h)|exact⟨_,congrArg (Expr.Name · _) (eq_of_beq h)⟩
noncomputable def namesOk(C:Cx)(sc:te):List Expr->List Str->List V->af->Bool|[],ns,vs,aR=>ns.isEmpty&&vs.isEmpty|t::ts,ns,vs,env=>match ns with |[]=>false|n::ns=>match vs with |[]=>false|v::vs=>isNm n t&&(nameOk C sc env n&&namesOk C sc ts ns vs (aH env n v))
structure Gn(d:Nat)(sc:te)(ts:List Expr)(ns:List Str)(vs:List V)(env:af)(H:AH):Prop where
 as:Cs d sc env ts vs H ((ns.zip vs).foldl (λenv p=>aH env p.1 p.2) env) H
 nm:ts.map OI=ns.map some
 kd:∀x∈ns,kindOf sc x=some .local\/kindOf sc x=some .cell
 ln:ns.length=vs.length
theorem xw{sc:te}{H:AH}{ts:List Expr}{ns:List Str}{vs:List V}{env:af}(h:namesOk G.C sc ts ns vs env=true):Gn d sc ts ns vs env H:=by
 induction ts generalizing ns vs env with
 |nil=>have h1:=a_ h;cases List.isEmpty_iff.mp h1.1;cases List.isEmpty_iff.mp h1.2;exact⟨.nil,rfl,(λa h=>nomatch h),rfl⟩
 |cons t ts ih=>induction ns using List.casesOn with
  |nil=>exact nomatch (show false=true from h)|cons n ns=>induction vs using List.casesOn with
   |nil=>exact nomatch (show false=true from h)|cons v vs=>
    have h1:=a_ h;obtain h2:=a_ h1.2;have ih:=ih h2.2
    obtain⟨p,rfl⟩:=Gm h1.1;have q:=jf (d:=d) (v:=v) (H:=H) (p:=p) h2.1
    exact⟨.cons rfl q.1 ih.as,congrArg (_::·) ih.nm,λx hx=>(bx hx).elim (λe=>e▸q.2) (ih.kd x),congrArg (·+1) ih.ln⟩
end
section
variable{d:Nat}
noncomputable def plainT(e:Expr):Bool:=vT e.ctorIdx 23||(vT e.ctorIdx 20||vT e.ctorIdx 21)
theorem plainT_ok{t x:Expr}(h:plainT t=true):(∀e',swappedStores [t] x e'=pure none)/\∀e',aal [t] e'=[(false,aaq t e')]:=by induction t using Expr.casesOn<;>first|exact⟨λa=>rfl,λa=>rfl⟩|exact bE h
def Gp(R:RL d)(sc:te)(env:af)(t x:Expr)(p:aaK)(H:AH):CS d sc env (.Assign [t] x p) H:=match t with
|.Tuple ts k1 p1=>match x with
 |.Tuple es k2 p2=>.aT (dm (!nI (.Tuple ts k1 p1) (.Tuple es k2 p2))) λb=>.aT (R.e sc env (.Tuple es k2 p2) H) λa=>match a with |(.tup vs,H₁)=>.map (dm (namesOk G.C sc ts (ts.filterMap OI) vs env)) (λb=>(.next,((ts.filterMap OI).zip vs).foldl (λenv p=>aH env p.1 p.2) env,H₁)) λb h2 h1 h0=>have q:=xw h2;Kl (bF h0) q.nm q.kd q.ln h1 q.as|_=>.nil
 |x=>.aT (dm (!Cn x&&!gJ x)) λb=>.aT (R.e sc env x H) λa=>.map (R.a sc env (.Tuple ts k1 p1) a.1 a.2) (λr=>(.next,r.1,r.2)) λr h2 h1 h0=>have q:=a_ h0;Iu (bF q.2) (λb=>Ac (bF q.1)) (λb=>rfl) h1 h2
|t=>.aT (dm (plainT t&&!gJ x)) λb=>.aT (R.e sc env x H) λa=>.map (R.a sc env t a.1 a.2) (λr=>(.next,r.1,r.2)) λr h2 h1 h0=>have q:=a_ h0;have w:=plainT_ok q.1;Iu (bF q.2) w.1 w.2 h1 h2
def O6(R:RL d)(sc:te)(env:af)(t e:Expr)(body:List B2)(p:aaK)(H:AH):CS d sc env (.For t e body [] p) H:=match e with
|.Name x q=>.aT (dm (!(x==t5 "__debug__"))) λa=>.aT (oT (d9 G.C sc env x)) λv=>match v with
 |.ref k=>.aT (CM.obj H k) λo=>match o with |.mK f st b=>.map (.ex λfl aj H'=>∃m,jm d sc t body k m env H fl aj H') (λr=>r) λr h3 h2 h1 h0=>h3.elim λm h3=>Ko h1 (bF h0) h2 h3|.lst xs=>.map (.ex λfl aj H'=>cz (d+1) sc t body xs env (H.set k .gone) fl aj H') (λr=>(r.1,r.2.1,r.2.2.set k (.lst xs))) λr h3 h2 h1 h0=>Cy (λa a=>rfl) (s7 (xn (bF h0) h1) (fX h2 rfl rfl)) h3 rfl|_=>.nil
 |v=>.aT (O4 (srcOf v H)) λr=>.map (.ex λfl aj H'=>cz (d+1) sc t body r.1.1 env r.2 fl aj H') (λq=>(q.1,q.2.1,u6 r.1.2 q.2.2)) λq h3 h2 h1 h0=>Cy (λa a=>rfl) (s7 (xn (bF h0) h1) h2) h3 (kD ..)
|e=>.aT (Kw R sc env t e H) λr=>.map (.ex λfl aj H'=>cz (d+1) sc t body r.1.1 env r.2 fl aj H') (λq=>(q.1,q.2.1,u6 r.1.2 q.2.2)) λq h2 h1=>Cy h1.fold h1.src h2 (kD ..)
def rX(R:RL d)(sc:te)(env:af)(st:B2)(H:AH):CS d sc env st H:=match st with
|.Assign [t] x p=>match gJ x with
 |true=>match t with
  |.Name y q=>match x with |.ListComp e gens aB pos=>.aT (Gk R sc env aB (.e e) gens H) λr=>.map (dm (nameOk G.C sc env y)) (λc=>(.next,aH env y (u7 (G.C.mu pos) r.1 r.2).1,(u7 (G.C.mu pos) r.1 r.2).2)) λc h2 h1=>have q:=jf h2;CH h1 (m8 ..) q.2 q.1|.DictComp e1 e2 gens aB pos=>.aT (Gk R sc env aB (.kv e1 e2) gens H) λr=>.map (dm (nameOk G.C sc env y)) (λc=>(.next,aH env y (u7 (G.C.mu pos) r.1 r.2).1,(u7 (G.C.mu pos) r.1 r.2).2)) λc h2 h1=>have q:=jf h2;CH h1 (m8 ..) q.2 q.1|_=>.nil
  |_=>.nil
 |false=>Gp R sc env t x p H
|.AugAssign t .Add x p=>match t with |.Name n q=>.aT (oT (d9 G.C sc env n)) λold=>.aT (R.e sc env x H) λy=>.aT (oT (jZ old y.1)) λz=>.map (dm (kindOf sc n==some .local)) (λc=>(.next,aH env n z,y.2)) λc h4 h3 h2 h1=>J_ h1 h2 h3 (eq_of_beq h4)|.Attribute o m q=>.aT (R.e sc env o H) λov=>.aT (OX G.C ov.1 m ov.2) λold=>.aT (R.e sc env x old.2) λy=>.aT (oT (jZ old.1 y.1)) λz=>.map (OY G.C ov.1 m z y.2) (λH=>(.next,env,H)) λc h5 h4 h3 h2 h1=>J' h1 h2 h3 h4 h5|.Subscript o i q=>.aT (dm (!isSlice i)) λc=>.aT (R.e sc env o H) λov=>.aT (R.e sc env i ov.2) λiv=>.aT (IJ ov.1 iv.1 iv.2) λold=>.aT (R.e sc env x iv.2) λy=>.aT (oT (jZ old y.1)) λz=>.map (II ov.1 iv.1 z y.2) (λH=>(.next,env,H)) λc h6 h5 h4 h3 h2 h1 h0=>Ka (bF h0) h1 h2 h3 h4 h5 h6|_=>.nil
|.Return (some e) p=>.map (R.e sc env e H) (λr=>(.ret r.1,env,r.2)) λr h=>Ot h|.Continue p=>.ret (.cont,env,H) Kf|.Expr e p=>.aT (dm (!gJ e)) λc=>.aT (R.e sc env e H) λa=>match a with |(.none,H)=>.ret (.next,env,H) λh1 h0=>J1 (bF h0) h1|_=>.nil
|.If t a b p=>.aT (R.t sc env t H) λu=>.aT (ask u.1) λw=>match w with |true=>.map (oU R sc a env u.2) (λr=>r) λr h3 h2 h1=>Ou (h2▸h1) h3|false=>.map (oU R sc b env u.2) (λr=>r) λr h3 h2 h1=>Ov (h2▸h1) h3
|.For t e body [] p=>.aT CM.ks λks=>match ks with |none=>.map (O6 R sc env t e body p H) (λr=>r) λr h c=>h|some ks=>.aT (dm (bw G.C sc ks env)) λc=>.map (O6 R sc (eu ks env) t e body p H) (λr=>r) λr h2 h1 c=>h2.low h1
|st=>.nil
noncomputable def run:Nat->RL d|0=>⟨λa a a a=>.nil,λa a a a=>.nil,λa a a a a=>.nil,λa a a a=>.nil⟩|n+1=>⟨rE (run n),rT (run n),rA (run n),rX (run n)⟩
variable{sc:te}{env aj:af}{H H':AH}{O:List xr}{c:Prop}{v:V}{e:Expr}{b:List B2}{fl:Fl}{u:Bool}{st:B2}
theorem oW(F:Fz O c)(h:((run (d:=d) 30).e sc env e H 0 O).map (λr=>(r.a,r.c True))=some ((v,H'),c):=by kernel_rfl):bY (d+1) sc env e H v H':=CM.ok (J:=λr:V×AH=>bY (d+1) sc env e H r.1 r.2) F.h h
theorem bL(F:Fz O c)(h:((run (d:=d) 30).x sc env st H 0 O).map (λr=>(r.a,r.c True))=some ((fl,aj,H'),c):=by kernel_rfl):jy (d+1) sc env st H fl aj H':=CM.ok (J:=λr:Fl×af×AH=>jy (d+1) sc env st H r.1 r.2.1 r.2.2) F.h h
end
section
variable{d:Nat}{sc:te}{env aj ay bu:af}{H H' H₁ H2:AH}{fl f:Fl}{t:Expr}{body:List B2}{x:V}{xs:List V}{ks:List Str}
structure Turn(d:Nat)(sc:te)(t:Expr)(body:List B2)(x:V)(env:af)(H:AH)(fl:Fl)(aj:af)(H':AH):Prop where
 mk'::
 ex:∃ay H₁,pZ d sc env t x H ay H₁/\pP d sc ay body H₁ fl aj H'
def O7(R:RL d)(ks:List Str)(sc:te)(t:Expr)(body:List B2)(x:V)(env:af)(H:AH):CM (Fl×af×AH) λr=>Turn (d+1) sc t body x env H r.1 r.2.1 r.2.2:=.aT (R.a sc env t x H) λa=>.aT (oU R sc body a.1 a.2) λr=>.map (dm (bw G.C sc ks r.2.1)) (λb=>(r.1,eu ks r.2.1,r.2.2)) λb h3 h2 h1=>⟨_,_,h1,h2.keep h3⟩
theorem au{O:List xr}{c:Prop}(ks:List Str)(F:Fz O c)(h:(O7 (run (d:=d) 30) ks sc t body x env H 0 O).map (λr=>(r.a,r.c True))=some ((fl,aj,H'),c):=by kernel_rfl):Turn (d+1) sc t body x env H fl aj H':=CM.ok (J:=λr:Fl×af×AH=>Turn (d+1) sc t body x env H r.1 r.2.1 r.2.2) F.h h
theorem Turn.next(h1:Turn d sc t body x env H f ay H₁)(hf:f=.next\/f=.cont)(k:cz d sc t body xs ay H₁ fl aj H'):cz d sc t body (x::xs) env H fl aj H':=h1.ex.elim λa q=>q.elim λa q=>.cons q.1 q.2 hf k
theorem Turn.ret{v:V}(h1:Turn d sc t body x env H (.ret v) ay H₁):cz d sc t body (x::xs) env H (.ret v) ay H₁:=h1.ex.elim λa q=>q.elim λa q=>.ret q.1 q.2
theorem cz.fold{σ α:Type}(enc:α->V)(E:σ->af)(Hp:σ->AH)(g:σ->α->σ)(I:List α->σ->Prop)(hI:∀x xs s,I (x::xs) s->I xs (g s x))(step:∀x xs s,I (x::xs) s->Turn d sc t body (enc x) (E s) (Hp s) .next (E (g s x)) (Hp (g s x))):
  ∀(xs:List α) (s:σ),I xs s->cz d sc t body (xs.map enc) (E s) (Hp s) .next (E (xs.foldl g s)) (Hp (xs.foldl g s))
 |[],aR,bV=>.nil|x::xs,s,h=>(step x xs s h).next (.inl rfl) (cz.fold enc E Hp g I hI step xs _ (hI x xs s h))
def Zs(R:RL d)(f:Nat)(vs:List V)(H:AH):CM (V×AH) λr=>aC (d+2) (.fn f) vs H r.1 r.2:=match hd:jD G.C f with |some dd=>.aT (dm (vT dd.params.length vs.length)) λa=>.map (oU R dd.sc dd.body (dd.params.zip vs) H) (λr=>(Rq r.1,r.2.2)) λr h2 h1=>J5 hd (Nat.eq_of_beq_eq_true h1) h2|none=>.nil
theorem bD{f:Nat}{vs:List V}{v:V}{O:List xr}{c:Prop}(F:Fz O c)(h:(Zs (run (d:=d) 30) f vs H 0 O).map (λr=>(r.a,r.c True))=some ((v,H'),c):=by kernel_rfl):aC (d+2) (.fn f) vs H v H':=CM.ok (J:=λr:V×AH=>aC (d+2) (.fn f) vs H r.1 r.2) F.h h
end
end Mine
end
noncomputable section
open PySem PySem.W PySem.Builtin PySem.Builtin.Str
namespace Mine
section
noncomputable def O8(e:Expr):List Expr:=by
 induction e using Expr.casesOn with |BinOp l _ r _=>exact [l,r]|Compare l _ rs _=>exact l::rs|BoolOp _ es _=>exact es|Call f es _ _=>exact f::es|IfExp t a b _=>exact [t,a,b]|ListComp x _ _ _=>exact [x]|Lambda _ b _ _=>exact [b]|Tuple es _ _=>exact es|_=>exact []
def p8(e:Expr)(i:Nat):Expr:=(O8 e).getD i (.Constant .none 0 default)
noncomputable def CQ(s:B2):List Expr×List (List B2):=by
 induction s using B2.casesOn with |For t e b _ _=>exact([t,e],[b])|Assign _ v _=>exact([v],[])|AugAssign _ _ v _=>exact([v],[])|Expr v _=>exact([v],[])|Return v _=>exact(v.toList,[])|If t a b _=>exact([t],[a,b])|_=>exact([],[])
def Gq(s:B2):Expr:=(CQ s).1.headD (.Constant .none 0 default)
def Kx(s:B2)(i:Nat):List B2:=(CQ s).2.getD i []
abbrev cW(s:B2):Expr:=Gq s
abbrev b_(s:B2):List B2:=Kx s 0
noncomputable def cf(b:List B2)(i:Nat):B2:=b.getD i (.Pass default)
abbrev bd(k:Nat):List B2:=Hd.fB (Hd.st k)
variable{d:Nat}{H H':AH}
abbrev jg(k:Nat):te:=(d_ (Hd.st k)).sc
theorem bY.hp{d:Nat}{sc:te}{env:af}{e:Expr}{v:V}{H H₁ H':AH}(h:bY d sc env e H v H₁)(q:H₁=H'):bY d sc env e H v H':=q▸h
theorem aC.hp{d:Nat}{f:V}{vs:List V}{v:V}{H H₁ H':AH}(h:aC d f vs H v H₁)(q:H₁=H'):aC d f vs H v H':=q▸h
theorem Gr(kvs:List (Str×Int)):(aI V.int kvs).map (·.2)=kvs.map λkv=>.int kv.2:=by refine tx.trans ?_;rfl
theorem foldl_add(xs:List (Str×Int)):∀c:Int,xs.foldl (λc x=>c+x.2) c=c+(xs.map (·.2)).sum:=by
 induction xs with |nil=>intro c;exact(aaf c).symm|cons x r ih=>intro c;exact(ih _).trans (Int.add_assoc ..)
theorem iR(kvs:List (Str×Int)):aC (d+2) (.fn 105) [.aE (aI V.int kvs)] H (.int (kvs.map (·.2)).sum) H:=by
 obtain loop:=cz.fold (d:=d+1) (sc:=jg 6) (t:=cW (cf (bd 6) 1)) (body:=b_ (cf (bd 6) 1)) (λkv:Str×Int=>.int kv.2) (λc:Int=>[(T "callers",.aE (aI V.int kvs)),(T "nc",.int c)]) (λa=>H) (λc x=>c+x.2) (λa a=>True) (λa a a a=>trivial)
  (λx xs c a=>au [T "callers",T "nc"] .nil) kvs 0 trivial
 rw[foldl_add,aac,<-Gr] at loop;exact bD (.loop loop .nil)
end
def u9(d:List (Str×Int))(kv:Str×Int):List (Str×Int):=aH d kv.1 kv.2
def put2(d:List (Str×Int))(kv:Str×Int):List (Str×Int):=aH d kv.1 (match d.lookup kv.1 with |some v=>v+kv.2|none=>kv.2)
def eK(t s:List (Str×Int)):List (Str×Int):=s.foldl put2 (t.foldl u9 [])
theorem bS{α β:Type}{m:M α}{f:α->M β}{a:α}{x:Option (β×AH)}(h:m H=some (a,H'))(k:f a H'=x):M.aT m f H=x:=by unfold M.aT;refine h▸?_;exact k
theorem s8{f:V->M V}{p:Str×V}{r vs:List (Str×V)}{v:V}{H H₁ H2:AH}(h:f p.2 H=some (v,H₁))(k:eV f r H₁=some (vs,H2)):eV f (p::r) H=some ((p.1,v)::vs,H2):=bS h (bS k rfl)
theorem Gs{f:V->M V}{x v:V}{r vs:List V}{H H₁ H2:AH}(h:f x H=some (v,H₁))(k:eU f r H₁=some (vs,H2)):eU f (x::r) H=some (v::vs,H2):=bS h (bS k rfl)
theorem oX(m:Nat)(H:AH):∀d:List (Str×Int),eV (freeze (m+1)) (aI V.int d) H=some (aI V.int d,H)|[]=>rfl|(y,u)::r=>by exact s8 rfl (oX m H r)
noncomputable abbrev WB(d:List (Str×Int)):List V:=d.map λkv=>.tup [.str kv.1,.int kv.2]
theorem Ky(d:List (Str×Int)):(aI V.int d).map (λkv=>V.tup [.str kv.1,kv.2])=WB d:=by unfold aI;rw[tx];rfl
theorem fj{o:aF}:(H++[o])[H.length]?=some o:=List.getElem?_concat_length ..
theorem ez{o o':aF}:(H++[o]).set H.length o'=H++[o']:=by rw[aay _ _ (pd _),X1];rfl
theorem Gu{k:Nat}{x:Str}{v:V}{kvs:List (Str×V)}(hz:kvs.length+1<2^20)(e:H.set k (.aE (aH kvs x v))=H'):qq k x v (.aE kvs) H=some ((),H'):=by show(if sizeOk (kvs.length+1) then ik k (.aE (aH kvs x v)) else M.fail:M Unit) H=_;rw[show sizeOk (kvs.length+1)=true from decide_eq_true hz,<-e];rfl
theorem Gv{k:Nat}{kvs:List (Str×V)}(h:H[k]?=some (.aE kvs)):deref H (.ref k)=.aE kvs:=by show(match H[k]? with |some (.lst xs)=>V.lst xs|some (.aE kvs)=>.aE kvs|_=>.ref k)=_;rw[h]
theorem kE{k:Nat}{xs:List V}(h:H[k]?=some (.lst xs)):deref H (.ref k)=.lst xs:=by show(match H[k]? with |some (.lst xs)=>V.lst xs|some (.aE kvs)=>.aE kvs|_=>.ref k)=_;rw[h]
theorem inR{k:Nat}{x:Str}{kvs:List (Str×V)}(h:H[k]?=some (.aE kvs)):bG H .In (.str x) (.ref k)=some (.bool (kvs.lookup x).isSome):=by show(alt (iB (deref H (.ref k)) λkvs=>some (kvs.lookup x).isSome) none).map V.bool=_;rw[Gv h];rfl
section
variable{t s:List (Str×Int)}
abbrev LK(t s:List (Str×Int))(k:Nat):af:=[(T "target",.aE (aI V.int t)),(T "source",.aE (aI V.int s)),(T "new_callers",.ref k)]
theorem zD{d0:List (Str×Int)}(x:Str)(v:Int)(hz:d0.length+1<2^20):qq H.length x (.int v) (.aE (aI V.int d0)) (H++[.aE (aI V.int d0)])=some ((),H++[.aE (aI V.int (aH d0 x v))]):=Gu (by rw[bz];exact hz) (by rw[ez,gK])
theorem Uu(x:Str×Int)(d0:List (Str×Int))(hz:d0.length+1<2^20):Turn (d+1) (jg 5) (cW (cf (bd 5) 1)) (b_ (cf (bd 5) 1)) (.tup [.str x.1,.int x.2]) (LK t s H.length) (H++[.aE (aI V.int d0)]) .next (LK t s H.length) (H++[.aE (aI V.int (u9 d0 x))]):=
 have hk:=fj (H:=H) (o:=.aE (aI V.int d0))
 au [T "target",T "source",T "new_callers"] (.obj hk (.lG 3 (zD (H:=H) x.1 x.2 hz) .nil))
theorem Uv(x:Str×Int)(d0:List (Str×Int))(hz:d0.length+1<2^20):Turn (d+1) (jg 5) (cW (cf (bd 5) 2)) (b_ (cf (bd 5) 2)) (.tup [.str x.1,.int x.2]) (LK t s H.length) (H++[.aE (aI V.int d0)]) .next (LK t s H.length) (H++[.aE (aI V.int (put2 d0 x))]):=by
 obtain hk:=fj (H:=H) (o:=.aE (aI V.int d0));obtain hi:=inR (x:=x.1) hk;obtain hl:=jG V.int d0 x.1;unfold put2;induction h:d0.lookup x.1 with
 |none=>rw[h] at hl;obtain hb:=congrArg Option.isSome hl;exact au [T "target",T "source",T "new_callers"] (.val 2 hi (.no 3 hb (.obj hk (.lG 7 (zD (H:=H) x.1 x.2 hz) .nil))))
 |some v=>rw[h] at hl;obtain hb:=congrArg Option.isSome hl;exact au [T "target",T "source",T "new_callers"] (.val 2 hi (.no 3 hb (.obj hk (.val 11 hl (.obj hk (.lG 14 (zD (H:=H) x.1 (v+x.2) hz) .nil))))))
theorem Ag{o o':aF}:ik H.length o' (H++[o])=some ((),H++[o']):=congrArg (λx=>some ((),x)) ez
theorem Ah{m:Nat}{d0:List (Str×Int)}:freeze (m+2) (.ref H.length) (H++[.aE (aI V.int d0)])=some (.aE (aI V.int d0),H++[.gone]):=bS (a:=.aE (aI V.int d0)) (H':=H++[.aE (aI V.int d0)]) (by unfold hget;rw[fj]) (bS (a:=()) (H':=H++[.gone]) Ag (bS (oX m _ d0) rfl))
theorem kG{α:Type}{g:List (Str×Int)->α->List (Str×Int)}(hg:∀d x,(g d x).length<=d.length+1):∀(xs:List α) (d:List (Str×Int)),(xs.foldl g d).length<=d.length+xs.length|[],aR=>pd _|x::xs,d=>vb (kG hg xs (g d x)) (vb (Nat.add_le_add_right (hg d x) _) (Fu (Nat.succ_add_eq_add_succ ..)))
theorem fm(H:AH)(hz:t.length+s.length+1<2^20):aC (d+2) (.fn 98) [.aE (aI V.int t),.aE (aI V.int s)] H (.aE (aI V.int (eK t s))) (H++[.gone]):=by obtain l1:=cz.fold (d:=d+1) (λkv:Str×Int=>.tup [.str kv.1,.int kv.2]) (λa=>LK t s H.length) (λd0=>H++[.aE (aI V.int d0)]) u9 (λxs d0=>d0.length+xs.length<=t.length) (λx xs d0 h=>by have :=bP d0 x.1 x.2;simp only[pE] at h;unfold u9;exact e9 (nat_lit 0x320801319281801191800102) ae this h) (λx xs d0 h=>Uu x d0 (e9 (nat_lit 0x1000006f1908111000006f1932881121080102) ae h hz)) t [] (Fu (FR _));obtain hl:=kG (λd x=>bP d x.1 x.2) t [];obtain l2:=cz.fold (d:=d+1) (λkv:Str×Int=>.tup [.str kv.1,.int kv.2]) (λa=>LK t s H.length) (λd0=>H++[.aE (aI V.int d0)]) put2 (λxs d0=>d0.length+xs.length<=t.length+s.length) (λx xs d0 h=>by have :=bP d0 x.1 (match d0.lookup x.1 with |some v=>v+x.2|none=>x.2);simp only[pE] at h;unfold put2;exact v7 (nat_lit 0x4382080143819281801191800102) ae this h) (λx xs d0 h=>Uv x d0 (e9 (nat_lit 0x1000006f1908111000006f193288113281080102) ae h hz)) s (t.foldl u9 []) (by simp only[tm,FR] at hl;exact aW (nat_lit 9431645120626945) ae hl);rw[<-WB,<-Ky] at l1 l2;exact yE (bD (.loop l1 (.loop l2 .nil))) (Ah (m:=8))
end
set_option genInjectivity true in
structure St where
 cc:Int
 nc:Int
 tt:Int
 ct:Int
 cs:List (Str×Int)
def St.enc(s:St):V:=.tup [.int s.cc,.int s.nc,.int s.tt,.int s.ct,.aE (aI V.int s.cs)]
noncomputable def St.add(t s:St):St:=⟨s.cc+t.cc,s.nc+t.nc,s.tt+t.tt,s.ct+t.ct,eK t.cs s.cs⟩
theorem s9{d:Nat}(H:AH)(t s:St)(hz:t.cs.length+s.cs.length+1<2^20):aC (d+3) (.fn 91) [t.enc,s.enc] H (t.add s).enc (H++[.gone]):=bD (.call (fm (d:=d) H hz) .nil)
abbrev QI(i j:Nat):List B2:=Hd.fB (Hd.cst i j)
abbrev QJ(i j:Nat):te:=(d_ (Hd.cst i j)).sc
section
variable{d k:Nat}{H:AH}{us vs:List V}
abbrev cE(k:Nat)(us vs:List V):af:=[(T "self",.ref k),(T "left",.tup us),(T "right",.tup vs)]
abbrev cK:List Str:=[T "self",T "left",T "right"]
abbrev Uw:Expr:=cW (cf (QI 3 1) 0)
abbrev Ux:List B2:=b_ (cf (QI 3 1) 0)
end
abbrev cX(s:B2):Expr:=Gq s
abbrev Ai(e:Expr):Expr:=p8 e 0
noncomputable def Aj(e:Expr):te:=by induction e using Expr.casesOn with |Lambda _ _ s _=>exact s|_=>exact default
abbrev Uy(s:B2):List B2:=Kx s 0
abbrev WC(s:B2):List B2:=Kx s 1
noncomputable def yI(c:Nat):Str:=⟨#[c]⟩
def kQ(c:Nat):V:=.str (yI c)
def IP:List Nat->Str|[]=>T ""|c::_=>yI c
noncomputable def Ak:List Nat->Int|[]=>0|c::_=>if c==10 then 1 else 0
theorem d7(c d:Nat):(yI c==yI d)=(c==d):=by
 induction h:c==d with |true=>refine(eq_of_beq h)▸?_;exact beq_self_eq_true _|false=>exact zu λe=>beq_eq_false_iff_ne.mp h (by cases e;rfl)
abbrev WD:Expr:=cX (cf (bd 16) 1)
def qX(kS:Nat):V:=.r8 [T "size"] (Ai WD) (Aj WD) [(T "signs",.ref kS)]
def mV(av:Int)(ks kp:Nat):aF:=.inst 52 [(T "lineno",.int av),(T "instream",.ref ks),(T "whitespace",.str (T "\n\t\r ")),(T "pushback",.ref kp)]
structure Lx where
 k:Nat
 ks:Nat
 kp:Nat
 kS:Nat
structure Lx.Ok(a:Lx)(H:AH):Prop where
 lk:a.k<H.length
 lp:a.kp<H.length
 lS:a.kS<H.length
 Al:∃g,H[a.ks]?=some (.qp g [(T "read",qX a.kS)])
 d1:a.k≠a.ks
 d2:a.k≠a.kp
 d3:a.k≠a.kS
 d4:a.kp≠a.ks
 d5:a.kS≠a.ks
 d6:a.kp≠a.kS
def Lx.hp(a:Lx)(H:AH)(av:Int)(push:List V)(cs:List Nat):AH:=((H.set a.k (mV av a.ks a.kp)).set a.kp (.lst push)).set a.kS (.lst (cs.map kQ))
section
variable{a:Lx}{H:AH}{av l:Int}{push p:List V}{cs r:List Nat}{j c:Nat}
theorem Lx.Ok.self(h:a.Ok H):(a.hp H av push cs)[a.k]?=some (mV av a.ks a.kp):=by unfold Lx.hp;rw[v3 h.d3.symm,v3 h.d2.symm,tA h.lk]
theorem Lx.Ok.xx(h:a.Ok H):(a.hp H av push cs)[a.kp]?=some (.lst push):=by unfold Lx.hp;rw[v3 h.d6.symm,tA (by rw[vx];exact h.lp)]
theorem Lx.Ok.signs(h:a.Ok H):(a.hp H av push cs)[a.kS]?=some (.lst (cs.map kQ)):=tA (by rw[vx,vx];exact h.lS)
theorem Lx.Am(h1:a.k≠j)(h2:a.kp≠j)(h3:a.kS≠j):(a.hp H av push cs)[j]?=H[j]?:=by unfold Lx.hp;rw[v3 h3,v3 h2,v3 h1]
theorem Lx.Ok.stream(h:a.Ok H):∃g,(a.hp H av push cs)[a.ks]?=some (.qp g [(T "read",qX a.kS)]):=by rw[Lx.Am h.d1 h.d4 h.d5];exact h.Al
theorem Lx.Uz:(a.hp H av push cs).set a.kS (.lst (r.map kQ))=a.hp H av push r:=RF ..
theorem Lx.Ok.UA(h:a.Ok H):(a.hp H av push cs).set a.k (mV l a.ks a.kp)=a.hp H l push cs:=by unfold Lx.hp;rw[aag _ _ h.d3.symm,aag _ _ h.d2.symm,RF]
theorem Lx.Ok.O9(h:a.Ok H):(a.hp H av push cs).set a.kp (.lst p)=a.hp H av p cs:=by unfold Lx.hp;rw[aag _ _ h.d6.symm,RF]
theorem Lx.len:(a.hp H av push cs).length=H.length:=by unfold Lx.hp;simp only[vx,vx,vx]
variable{d:Nat}
theorem Gw(h:a.Ok H):aC (d+2) (qX a.kS) [.int 1] (a.hp H av push cs) (.str (IP cs)) (a.hp H av push cs.tail):=by
 obtain hk:=h.signs (av:=av) (push:=push) (cs:=cs);refine Cq (by kernel_rfl) (by kernel_rfl) ?_;induction cs with |nil=>exact oW (.obj hk .nil)|cons c r=>exact(oW (.obj hk (.obj hk (.obj hk .nil)))).hp (H₁:=(a.hp H av push (c::r)).set a.kS (.lst (r.map kQ))) Lx.Uz
theorem s_(h:a.Ok H):aC (d+3) (.fn 35) [.ref a.k] (a.hp H av push cs) (.str (IP cs)) (a.hp H (av+Ak cs) push cs.tail):=by
 refine(h.stream (av:=av) (push:=push) (cs:=cs)).elim λg hg=>?_
 obtain hk:=h.self (av:=av) (push:=push) (cs:=cs);obtain hr:=Gw (d:=d) (av:=av) (push:=push) (cs:=cs) h;obtain FW:=h.self (av:=av) (push:=push) (cs:=cs.tail);have quiet:Ak cs=0->(IP cs==T "\n")=false->aC (d+3) (.fn 35) [.ref a.k] (a.hp H av push cs) (.str (IP cs)) (a.hp H (av+Ak cs) push cs.tail):=λh1 h2=>by rw[h1,aaf];exact bD (.obj hk (.obj hg (.call hr (.no 4 h2 .nil))))
 induction cs using List.casesOn with
 |nil=>exact quiet rfl rfl|cons c r=>
  induction hc:c==10 with
  |true=>cases eq_of_beq hc;exact(bD (.obj hk (.obj hg (.call hr (.obj FW (.obj FW .nil)))))).hp (H₁:=(a.hp H av push r).set a.k (mV (av+1) a.ks a.kp)) h.UA
  |false=>exact quiet (show(if(c==10)=true then(1:Int) else 0)=0 by rw[hc];rfl) ((d7 c 10).trans hc)
noncomputable def eO(l:List Nat):Int:=((l.filter (·==10)).length:Int)
theorem Gx(L:Int):∀cs:List Nat,L-eO cs+Ak cs=L-eO cs.tail
|[]=>aaf _|c::r=>by
 obtain e:eO (c::r)=Ak (c::r)+eO r:=by
  show((List.filter (·==10) (c::r)).length:Int)=(if(c==10)=true then 1 else 0)+_;refine Bn▸?_;induction c==10
  ·skip
   exact(aac _).symm
  ·refine(?_:(((r.filter (·==10)).length+1:Nat):Int)=1+((r.filter (·==10)).length:Int));simp only[Int.natCast_add];exact Int.add_comm _ 1
 show L-eO (c::r)+Ak (c::r)=L-eO r;rw[e];lia
abbrev Lx.hl(a:Lx)(H:AH)(L:Int)(push:List V)(cs:List Nat):AH:=a.hp H (L-eO cs) push cs
theorem fY{L:Int}(h:a.Ok H):aC (d+3) (.fn 35) [.ref a.k] (a.hl H L push cs) (.str (IP cs)) (a.hl H L push cs.tail):=(s_ h).hp (congrArg (a.hp H · push cs.tail) (Gx L cs))
end
noncomputable def sL(l:List Nat):Str:=⟨l.toArray⟩
theorem CR(a b:List Nat):sL a++sL b=sL (a++b):=congrArg Str.mk (List.append_toArray a b)
theorem lH(a:List Nat):(sL a).length=a.length:=H0 ..
theorem Kz{a b:List Nat}(h:a.length+b.length<2^20):jZ (.str (sL a)) (.str (sL b))=some (.str (sL (a++b))):=by show(if sizeOk ((sL a).length+(sL b).length) then some (V.str (sL a++sL b)) else none)=_;simp only[lH,lH,show sizeOk (a.length+b.length)=true from decide_eq_true h,CR];rfl
theorem KA(cs:List Nat):IP cs=sL (cs.take 1):=by induction cs<;>rfl
noncomputable def isWs(c:Nat):Bool:=c==10||c==9||c==13||c==32
theorem oY(c:Nat)(y:Str):strSub (yI c) y=y.cps.toList.contains c:=by
 unfold strSub;rw[show yI c=⟨#[c]⟩ from rfl,l7];rw[Bool.eq_iff_iff];rw[List.contains_iff_mem];constructor
 ·intro h;obtain h2:((Ki 0 (y.length+1)).filter λi=>decide (y.cps.toList[i]?=some c))≠[]:=λe=>by rw[e] at h;simp at h
  obtain⟨i,hi⟩:=List.exists_mem_of_ne_nil _ h2;have :=(I7 hi).2
  exact Fn (of_decide_eq_true this)
 ·intro h
  obtain⟨i,hi⟩:=List.getElem?_of_mem h;obtain cF:=(eI hi).1;have hm:i∈(Ki 0 (y.length+1)).filter λi=>decide (y.cps.toList[i]?=some c):=by
   refine wi.mpr ⟨List.mem_range'_1.mpr ⟨zr _,?_⟩,decide_eq_true hi⟩;have :y.length=y.cps.toList.length:=by rfl
   exact aW (nat_lit 0x19080982111031121102) ae cF this
  induction hf:(Ki 0 (y.length+1)).filter λi=>decide (y.cps.toList[i]?=some c) with |nil=>rw[hf] at hm;exact nomatch hm|cons a r=>rfl
theorem jP(c:Nat):strSub (yI c) (T "\n\t\r ")=isWs c:=by rw[oY];show((c==10)||((c==9)||((c==13)||((c==32)||false))))=_;rw[Bool.or_false,<-Bool.or_assoc,<-Bool.or_assoc];rfl
def qY(k:Nat)(b:Bool):aF:=.mK (.bm k 35) (.str (T "")) b
structure fJ(a:Lx)(H:AH)(j:Nat):Prop where
 ok:a.Ok H
 it:H[j]?=some (qY a.k true)
 j1:a.k≠j
 j2:a.kp≠j
 j3:a.kS≠j
 j4:a.ks≠j
def It(d:Nat)(sc:te)(t:Expr)(body:List B2)(j:Nat)(env:af)(H:AH)(fl:Fl)(aj:af)(H':AH):Prop:=∃m,jm d sc t body j m env H fl aj H'
section
variable{a:Lx}{H H' H₁:AH}{av L:Int}{push:List V}{cs r:List Nat}{j c d:Nat}{sc:te}{t:Expr}{body:List B2}{env aj ay:af}{f fl:Fl}{v:V}
theorem fJ.get(h:fJ a H j):(a.hp H av push cs)[j]?=some (qY a.k true):=(Lx.Am h.j1 h.j2 h.j3).trans h.it
theorem fJ.call(h:fJ a H j):aC (d+3) (.bm a.k 35) [] (a.hl H L push cs) (.str (IP cs)) (a.hl H L push cs.tail):=T4 (fY h.ok)
theorem u_(c:Nat):(T ""==yI c)=false:=zu λe=>nomatch congrArg (λx:Str=>x.cps.toList) e
theorem fJ.step(h:fJ a H j)(h1:Turn (d+3) sc t body (kQ c) env (a.hl H L push r) f ay H₁)(hf:f=.next\/f=.cont)(h2:It (d+3) sc t body j ay H₁ fl aj H'):It (d+3) sc t body j env (a.hl H L push (c::r)) fl aj H':=h2.elim λm h2=>h1.ex.elim λb q=>q.elim λb q=>⟨m+1,.cons h.get h.call h.get rfl (congrArg some (u_ c)) q.1 q.2 hf h2⟩
theorem fJ.ret(h:fJ a H j)(h1:Turn (d+3) sc t body (kQ c) env (a.hl H L push r) (.ret v) ay H₁):It (d+3) sc t body j env (a.hl H L push (c::r)) (.ret v) ay H₁:=h1.ex.elim λb q=>q.elim λb q=>⟨0,.ret h.get h.call h.get rfl (congrArg some (u_ c)) q.1 q.2⟩
theorem fJ.dead(h:fJ a H j):(a.hp H av push cs).set j (qY a.k false)=a.hp (H.set j (qY a.k false)) av push cs:=by unfold Lx.hp;rw[aag _ _ h.j3,aag _ _ h.j2,aag _ _ h.j1]
theorem It.hp(h:It d sc t body j env H fl aj H₁)(q:H₁=H'):It d sc t body j env H fl aj H':=q▸h
theorem fJ.stop(h:fJ a H j):It (d+3) sc t body j env (a.hl H L push []) .next env (a.hl (H.set j (qY a.k false)) L push []):=It.hp ⟨0,.stop h.get (H₁:=a.hl H L push []) h.call h.get rfl (congrArg some (beq_self_eq_true (T "")))⟩ h.dead
end
noncomputable def tk(st:Nat->Bool):List Nat->List Nat×List Nat×Bool
|[]=>([],[],false)|[c]=>if st c then([],[],true) else if c==92 then([],[],false) else([c],[],false)
|c::d::r=>if st c then([],d::r,true) else if c==92 then(d::(tk st r).1,(tk st r).2) else(c::(tk st (d::r)).1,(tk st (d::r)).2)
section
variable{st:Nat->Bool}{c:Nat}{r:List Nat}
theorem Gy(h:st c=true):tk st (c::r)=([],r,true):=by induction r<;>exact if_pos h
theorem nt{b:Bool}(h:b=false):¬b=true:=by rw[h];exact wy
theorem IQ(h:st 92=false):tk st [92]=([],[],false):=(if_neg (nt h)).trans (if_pos rfl)
theorem O_(h:st 92=false)(d:Nat):tk st (92::d::r)=(d::(tk st r).1,(tk st r).2):=(if_neg (nt h)).trans (if_pos rfl)
theorem KC(h:st c=false)(h2:(c==92)=false):tk st (c::r)=(c::(tk st r).1,(tk st r).2):=by
 induction r with |nil=>exact(if_neg (nt h)).trans (if_neg (nt h2))|cons d r=>exact(if_neg (nt h)).trans (if_neg (nt h2))
end
abbrev oB:List B2:=b_ (cf (QI 1 2) 3)
abbrev Gz:B2:=cf (Uy (cf oB 1)) 0
abbrev Zt:List B2:=WC (cf oB 1)
abbrev An:B2:=cf Zt 2
abbrev GA:te:=QJ 1 2
abbrev tE(k j:Nat)(acc:List Nat):af:=[(T "self",.ref k),(T "token",.str (sL acc)),(T "fiter",.ref j)]
abbrev tK:List Str:=[T "self",T "token",T "fiter"]
structure KD(st:Nat->Bool)(t:Expr)(body:List B2)(a:Lx)(H:AH)(L:Int)(push:List V)(j d:Nat):Prop where
 stop:∀{acc c r},st c=true->Turn (d+3) GA t body (kQ c) (tE a.k j acc) (a.hl H L push r) (.ret (.str (sL acc))) (tE a.k j acc) (a.hl H L push r)
 QK:∀{acc:List Nat} {cs},acc.length+1<2^20->Turn (d+3) GA t body (kQ 92) (tE a.k j acc) (a.hl H L push cs) .next (tE a.k j (acc++cs.take 1)) (a.hl H L push cs.tail)
 plain:∀{acc:List Nat} {c r},st c=false->(c==92)=false->acc.length+1<2^20->Turn (d+3) GA t body (kQ c) (tE a.k j acc) (a.hl H L push r) .next (tE a.k j (acc++[c])) (a.hl H L push r)
 ne:st 92=false
def QL(b:Bool)(acc:List Nat):Fl:=bif b then .ret (.str (sL acc)) else .next
def eH(H:AH)(k j:Nat)(b:Bool):AH:=bif b then H else H.set j (qY k false)
section
variable{st:Nat->Bool}{t:Expr}{body:List B2}{a:Lx}{H:AH}{L:Int}{push:List V}{j d:Nat}
abbrev jQ(d:Nat)(t:Expr)(body:List B2)(a:Lx)(H:AH)(L:Int)(push:List V)(j:Nat)(acc cs:List Nat)(q:List Nat×List Nat×Bool):Prop:=It (d+3) GA t body j (tE a.k j acc) (a.hl H L push cs) (QL q.2.2 (acc++q.1)) (tE a.k j (acc++q.1)) (a.hl (eH H a.k j q.2.2) L push q.2.1)
theorem jQ.app{acc x cs r:List Nat}{q:List Nat×List Nat×Bool}{c:Nat}(h:fJ a H j)(h1:Turn (d+3) GA t body (kQ c) (tE a.k j acc) (a.hl H L push cs) .next (tE a.k j (acc++x)) (a.hl H L push r))(h2:jQ d t body a H L push j (acc++x) r q):jQ d t body a H L push j acc (c::cs) (x++q.1,q.2):=by unfold jQ at h2⊢;rw[ta] at h2;exact h.step h1 (.inl rfl) h2
theorem fq(T:KD st t body a H L push j d)(h:fJ a H j):∀(cs acc:List Nat),acc.length+cs.length+1<2^20->jQ d t body a H L push j acc cs (tk st cs)
|[],acc,aR=>by unfold jQ;simp only[show(tk st []).1=[] from rfl,rn];exact h.stop|[c],acc,hz=>by
 induction hs:st c with
 |true=>rw[Gy hs];unfold jQ;rw[rn];exact h.ret (T.stop hs)|false=>induction hc:c==92 with
  |true=>cases eq_of_beq hc;obtain q:=fq T h [] acc (FV hz);rw[IQ hs];exact jQ.app (x:=[]) (q:=([],[],false)) h ((rn acc).symm▸T.QK (cs:=[]) (FV hz)) ((rn acc).symm▸q)
  |false=>rw[KC hs hc];exact jQ.app h (T.plain hs hc (FV hz)) (fq T h [] (acc++[c]) (by refine pj.symm▸?_;exact hz))
|c::d'::r,acc,hz=>by
 obtain hz:acc.length+(r.length+3)<2^20:=hz;obtain LF:acc.length+1<2^20:=by exact aL (nat_lit 0x1000006f1908111000006f3918081101) ae hz
 induction hs:st c with
 |true=>rw[Gy hs];unfold jQ;simp only[rn];exact h.ret (T.stop hs)|false=>induction hc:c==92 with
  |true=>cases eq_of_beq hc;rw[O_ hs];exact jQ.app h (T.QK LF) (fq T h r (acc++[d']) (by rw[pj];show acc.length+1+r.length+1<_;omega))
  |false=>rw[KC hs hc];exact jQ.app h (T.plain hs hc LF) (fq T h (d'::r) (acc++[c]) (by rw[pj];show acc.length+1+(r.length+1)+1<_;omega))
end
section
variable{a:Lx}{H:AH}{L:Int}{push:List V}{j d:Nat}
theorem Ao{acc:List Nat}(cs:List Nat)(h:acc.length+1<2^20):jZ (.str (sL acc)) (.str (IP cs))=some (.str (sL (acc++cs.take 1))):=by rw[KA];exact Kz (vw (Nat.add_le_add_left (List.length_take_le 1 cs) _) h)
theorem GB(h:fJ a H j):KD (·==34) (cW Gz) (b_ Gz) a H L push j d where
 stop:=λ{acc c r} hs=>au tK (.no 2 ((d7 c 34).trans hs) .nil)
 QK:=λ{acc cs} hz=>
  have hk:=h.ok.self (av:=L-eO cs) (push:=push) (cs:=cs)
  au tK (.obj hk (.call (fY (d:=d) (L:=L) (push:=push) (cs:=cs) h.ok) (.val 9 (Ao cs hz) .nil)))
 plain:=λ{acc c r} hs hc hz=>au tK (.no 2 ((d7 c 34).trans hs) (.no 5 ((d7 c 92).trans hc) (.val 8 (Ao [c] hz) .nil)))
 ne:=rfl
theorem yJ(h:fJ a H j):KD isWs (cW An) (b_ An) a H L push j d where
 stop:=λ{acc c r} hs=>
  have hk:=h.ok.self (av:=L-eO r) (push:=push) (cs:=r)
  au tK (.obj hk (.no 4 ((jP c).trans hs) .nil))
 QK:=λ{acc cs} hz=>
  have hk:=h.ok.self (av:=L-eO cs) (push:=push) (cs:=cs)
  au tK (.obj hk (.no 4 (jP 92) (.obj hk (.call (fY (d:=d) (L:=L) (push:=push) (cs:=cs) h.ok) (.val 11 (Ao cs hz) .nil)))))
 plain:=λ{acc c r} hs hc hz=>
  have hk:=h.ok.self (av:=L-eO r) (push:=push) (cs:=r)
  au tK (.obj hk (.no 4 ((jP c).trans hs) (.no 7 ((d7 c 92).trans hc) (.val 10 (Ao [c] hz) .nil))))
 ne:=rfl
noncomputable def gTok:List Nat->List Nat×List Nat×Bool|[]=>([],[],false)|c::r=>if isWs c then gTok r else if c==34 then tk (·==34) r else if c==92 then(r.take 1++(tk isWs r.tail).1,(tk isWs r.tail).2) else(c::(tk isWs r).1,(tk isWs r).2)
abbrev QM:Expr:=cW (cf (QI 1 2) 3)
theorem UB{c:Nat}{r:List Nat}(h:fJ a H j)(hc:isWs c=true):Turn (d+4) GA QM oB (kQ c) (tE a.k j []) (a.hl H L push r) .cont (tE a.k j []) (a.hl H L push r):=
 have hk:=h.ok.self (av:=L-eO r) (push:=push) (cs:=r)
 au tK (.obj hk (.no 4 ((jP c).trans hc) .nil))
abbrev QN(d:Nat)(a:Lx)(H:AH)(L:Int)(push:List V)(j c:Nat)(r:List Nat)(q:List Nat×List Nat×Bool):Prop:=Turn (d+4) GA QM oB (kQ c) (tE a.k j []) (a.hl H L push r) (QL q.2.2 q.1) (tE a.k j q.1) (a.hl (eH H a.k j q.2.2) L push q.2.1)
theorem Zu{r:List Nat}(h:fJ a H j)(hz:r.length+1<2^20):QN d a H L push j 34 r (tk (·==34) r):=by
 obtain hk:=h.ok.self (av:=L-eO r) (push:=push) (cs:=r);obtain hj:=h.get (av:=L-eO r) (push:=push) (cs:=r);obtain⟨m,q⟩:jQ d (cW Gz) (b_ Gz) a H L push j [] r (tk (·==34) r):=fq (GB h) h r [] (by simp only[tm,FR];exact hz)
 revert q
 generalize tk (·==34) r=z;obtain⟨x,y,b⟩:=z;induction b<;>exact λq=>au tK (.obj hk (.no 4 (jP 34) (.ks tK (.obj hj (.mK q .nil)))))
theorem Zv{c:Nat}{r:List Nat}(h:fJ a H j)(hw:isWs c=false)(LL:(c==34)=false)(KG:(c==92)=false)(hz:r.length+2<2^20):QN d a H L push j c r (c::(tk isWs r).1,(tk isWs r).2):=by
 obtain hk:=h.ok.self (av:=L-eO r) (push:=push) (cs:=r);obtain hj:=h.get (av:=L-eO r) (push:=push) (cs:=r);obtain⟨m,q⟩:jQ d (cW An) (b_ An) a H L push j [c] r (tk isWs r):=fq (yJ h) h r [c] (by simp only[aaz,HI 1];exact hz)
 revert q
 generalize tk isWs r=z;obtain⟨x,y,b⟩:=z;obtain e:=Ao (acc:=[]) [c] (by decide);induction b<;>exact λq=>au tK (.obj hk (.no 4 ((jP c).trans hw) (.no 7 ((d7 c 34).trans LL) (.no 10 ((d7 c 92).trans KG) (.val 13 e (.ks tK (.obj hj (.mK q .nil))))))))
theorem Zw{r:List Nat}(h:fJ a H j)(hz:r.length+2<2^20):QN d a H L push j 92 r (r.take 1++(tk isWs r.tail).1,(tk isWs r.tail).2):=by
 obtain hk:=h.ok.self (av:=L-eO r) (push:=push) (cs:=r);obtain hj:=h.get (av:=L-eO r.tail) (push:=push) (cs:=r.tail);obtain hl:(r.take 1).length+r.tail.length+1<2^20:=by obtain h1:=List.length_take_le 1 r;obtain h2:=List.length_tail;exact e9 (nat_lit 0x1000006f190288111000006f293811310119201102104) ae h2 h1 (Md (r.length) (1)) hz
 obtain⟨m,q⟩:jQ d (cW An) (b_ An) a H L push j (r.take 1) r.tail (tk isWs r.tail):=fq (yJ h) h r.tail (r.take 1) hl
 revert q
 generalize tk isWs r.tail=z;obtain⟨x,y,b⟩:=z;obtain e:=Ao (acc:=[]) r (by decide);obtain hc:=fY (d:=d+1) (L:=L) (push:=push) (cs:=r) h.ok;induction b<;>exact λq=>au tK (.obj hk (.no 4 (jP 92) (.obj hk (.call hc (.val 14 e (.ks tK (.obj hj (.mK q .nil))))))))
theorem CU(h:fJ a H j):∀cs:List Nat,cs.length+2<2^20->It (d+4) GA QM oB j (tE a.k j []) (a.hl H L push cs) (QL (gTok cs).2.2 (gTok cs).1) (tE a.k j (gTok cs).1) (a.hl (eH H a.k j (gTok cs).2.2) L push (gTok cs).2.1)
|[],aR=>h.stop|c::r,hz=>by
 obtain hz:r.length+3<2^20:=hz;have go:∀q,QN d a H L push j c r q->It (d+4) GA QM oB j (tE a.k j []) (a.hl H L push (c::r)) (QL q.2.2 q.1) (tE a.k j q.1) (a.hl (eH H a.k j q.2.2) L push q.2.1):=λq h1=>by
  obtain⟨x,y,b⟩:=q;induction b with |true=>exact h.ret h1|false=>exact h.step h1 (.inl rfl) ⟨0,.dead ((Lx.Am h.j1 h.j2 h.j3).trans (tA (eI h.it).1))⟩
 unfold gTok;induction hw:isWs c with
 |true=>exact h.step (UB h hw) (.inr rfl) (CU h r (FV hz))|false=>induction LL:c==34 with
  |true=>cases eq_of_beq LL;exact go _ (Zu h (by solve_by_elim [pd,y7,xp,vb,vw,X2]))
  |false=>induction KG:c==92 with
   |true=>cases eq_of_beq KG;exact go _ (Zw h (aS (nat_lit 0x1000006f2908111000006f39081101) ae hz))
   |false=>exact go _ (Zv h hw LL KG (aS (nat_lit 0x1000006f2908111000006f39081101) ae hz))
theorem Lx.Ok.app{o:aF}(h:a.Ok H):a.Ok (H++[o]):=by
 obtain e:∀{i:Nat},i<H.length->i<(H++[o]).length:=λq=>by exact pj▸(Mo q)
 refine h.Al.elim λg hg=>?_
 exact⟨e h.lk,e h.lp,e h.lS,⟨g,by refine(vl (eI hg).1).trans ?_;exact hg⟩,h.d1,h.d2,h.d3,h.d4,h.d5,h.d6⟩
theorem Lx.app{o:aF}(h:a.Ok H){l:Int}{cs:List Nat}:a.hp H l push cs++[o]=a.hp (H++[o]) l push cs:=by unfold Lx.hp;rw[Pt _ _ h.lk,Pt _ _ (by simp only[vx];exact h.lp),Pt _ _ (by simp only[vx,vx];exact h.lS)]
theorem cR{x:V}{p:List V}{cs:List Nat}{l:Int}(h:a.Ok H):aC (d+2) (.fn 42) [.ref a.k] (a.hp H l (x::p) cs) x (a.hp H l p cs):=by obtain hk:=h.self (av:=l) (push:=x::p) (cs:=cs);obtain hp:=h.xx (av:=l) (push:=x::p) (cs:=cs);exact(bD (.obj hk (.obj hp (.obj hk (.obj hp (.obj hp .nil)))))).hp (H₁:=(a.hp H l (x::p) cs).set a.kp (.lst p)) h.O9
theorem Pa{k:Nat}{v:V}{xs:List V}{H H':AH}(hz:xs.length+1<2^20)(e:H.set k (.lst (xs++[v]))=H'):kX k (T "append") [v] (.lst xs) H=some (.none,H'):=(congrArg (λc:Bool=>alt ((if c=true then(do ik k (.lst (xs++[v]));pure .none:M V) else M.fail) H) none) (decide_eq_true hz)).trans (congrArg (λh=>some (V.none,h)) e)
theorem m9{v:V}{cs:List Nat}{l:Int}(h:a.Ok H)(hz:push.length+1<2^20):aC (d+2) (.fn 49) [.ref a.k,v] (a.hp H l push cs) .none (a.hp H l (push++[v]) cs):=by obtain hk:=h.self (av:=l) (push:=push) (cs:=cs);obtain hp:=h.xx (av:=l) (push:=push) (cs:=cs);obtain e:=Pa (H:=a.hp H l push cs) hz (h.O9 (p:=push++[v]));exact bD (.obj hk (.obj hp (.obj hp (.upd 3 e .nil))))
theorem Aq(cs:List Nat)(h:a.Ok H)(hz:cs.length+2<2^20):aC (d+6) (.fn 42) [.ref a.k] (a.hl H L [] cs) (.str (sL (gTok cs).1)) (a.hl (H++[qY a.k (gTok cs).2.2]) L [] (gTok cs).2.1):=by
 obtain hk:=h.self (av:=L-eO cs) (push:=[]) (cs:=cs);obtain hp:=h.xx (av:=L-eO cs) (push:=[]) (cs:=cs);obtain e0:(a.hl H L [] cs).length=H.length:=Lx.len;have hI:fJ a (H++[qY a.k true]) (a.hl H L [] cs).length:=⟨h.app,e0▸fj,e0▸x5 h.lk,e0▸x5 h.lp,e0▸x5 h.lS,e0▸x5 (h.Al.elim λc q=>(eI q).1)⟩
 obtain hj:=hI.get;obtain ea:=Lx.app h;obtain ee:∀b,eH (H++[qY a.k true]) a.k (a.hl H L [] cs).length b=H++[qY a.k b]:=λb=>by
  induction b with |true=>rfl|false=>show(H++[qY a.k true]).set _ _=_;rw[e0,ez]
 refine(CU (L:=L) (push:=[]) (d:=d) hI cs hz).elim λm q=>?_
 rw[show a.hl (H++[qY a.k true]) L [] cs=a.hl H L [] cs++[qY a.k true] from ea.symm,ee] at q;rw[<-ea] at hj
 revert q
 generalize gTok cs=z;obtain b:=z.2.2;induction b<;>exact λq=>bD (.obj hk (.obj hp (.obj hk (.ks tK (.obj hj (.mK q .nil))))))
end
def UC(c:Nat):Str:=⟨placed (yI c) λi a=>Unicode.lowerAt (yI c).cps i⟩
def mq(c:Nat):Str:=match Hd.fH.lookup (c:Int) with |some x=>x|none=>UC c
theorem IS{d:Nat}(c:Nat)(H:AH):aC (d+2) (.fn 123) [.str (yI c)] H (.bool (cZ.contains (c:Int))) H:=bD .nil
theorem Pb{d:Nat}(c:Nat)(H:AH):aC (d+2) (.fn 169) [.str (yI c)] H (.str (mq c)) H:=by
 unfold mq;induction hl:Hd.fH.lookup (c:Int) with
 |some x=>
  obtain e:ud Hd.fH "get" [.int c] H=some (.str x,H):=by show(pure (match Hd.fH.lookup (c:Int) with |some x=>V.str x|none=>V.none):M V) H=_;refine hl▸?_;rfl
  exact bD (.upd 4 e .nil)
 |none=>
  obtain e:ud Hd.fH "get" [.int c] H=some (.none,H):=by show(pure (match Hd.fH.lookup (c:Int) with |some x=>V.str x|none=>V.none):M V) H=_;refine hl▸?_;rfl
  exact bD (.upd 4 e .nil)
end Mine
end
noncomputable section
open PySem PySem.W PySem.Builtin PySem.Builtin.Str PyProof.Rows
namespace Mine
section
variable{d:Nat}{aB:te}{out:Out}{g:uj}{gs:List uj}{T:jO}
inductive eR(d:Nat)(aB:te)(g:uj)(T:jO)(x:V):jO|yes{env ay bu:af}{ac l_:Acc}{H H₁ H2 H3:AH}{ks:List Str}(h1:pZ d aB env g.target x H ay H₁)(h2:CC d aB ay g.ifs H₁ true H2)(h3:T ay ac H2 bu l_ H3)(ho:bw G.C aB ks bu=true):eR d aB g T x env ac H (eu ks bu) l_ H3|no{env ay:af}{ac:Acc}{H H₁ H2:AH}{ks:List Str}(h1:pZ d aB env g.target x H ay H₁)(h2:CC d aB ay g.ifs H₁ false H2)(ho:bw G.C aB ks ay=true):eR d aB g T x env ac H (eu ks ay) ac H2
theorem eR.go{x:V}{xs:List V}{env ay aj:af}{ac l_ gn:Acc}{H H₁ H':AH}(h:eR d aB g T x env ac H ay l_ H₁)(k:aK d aB g T xs ay l_ H₁ aj gn H'):aK d aB g T (x::xs) env ac H aj gn H':=by
 induction h with |yes h1 h2 h3 ho=>exact .yes h1 h2 h3 ho k|no h1 h2 ho=>exact .no h1 h2 ho k
theorem aK.fold{σ α:Type}{env:af}(enc:α->V)(A:σ->Acc)(Hp:σ->AH)(f:σ->α->σ)(I:List α->σ->Prop)(hI:∀x xs s,I (x::xs) s->I xs (f s x))(step:∀x xs s,I (x::xs) s->eR d aB g T (enc x) env (A s) (Hp s) env (A (f s x)) (Hp (f s x))):
  ∀(xs:List α) (s:σ),I xs s->aK d aB g T (xs.map enc) env (A s) (Hp s) env (A (xs.foldl f s)) (Hp (xs.foldl f s))
 |[],aR,bV=>.nil|x::xs,s,h=>(step x xs s h).go (aK.fold enc A Hp f I hI step xs _ (hI x xs s h))
theorem aK.pick{α:Type}{env:af}{H:AH}(enc f:α->V)(p:α->Bool)(xs:List α)(vs:List V)(hz:vs.length+xs.length<ai)(h:∀x∈xs,∀vs:List V,vs.length+1<ai->eR d aB g T (enc x) env (.l vs) H env (.l (bif p x then vs++[f x] else vs)) H):
  aK d aB g T (xs.map enc) env (.l vs) H env (.l (vs++(xs.filter p).map f)) H:=by
 induction xs generalizing vs with
 |nil=>rw[show vs++(([]:List α).filter p).map f=vs from rn vs];exact .nil|cons x xs ih=>
  obtain hz:=hz;refine(h x (wx ..) vs (aW (nat_lit 0x219081121918081101) ae hz)).go ?_;induction hp:p x with |true=>simp only[Kj hp,xb,List.append_cons vs (f x) (List.map f (List.filter p xs))];exact ih (vs++[f x]) (by rw[pj];show vs.length+1+xs.length<_;exact aW (nat_lit 0x21190881121918081101) ae hz) λy hy=>h y (y0 _ hy)|false=>rw[He (hp▸(wy))];exact ih vs (by solve_by_elim [pd,y7,xp,vb,vw,X2]) λy hy=>h y (y0 _ hy)
noncomputable def Pd(R:RL d)(aB:te)(env:af):∀(cs:List Expr) (H:AH),CM (Bool×AH) λr=>CC (d+1) aB env cs H r.1 r.2|[],H=>.ret (true,H) .nil|c::cs,H=>.aT (R.t aB env c H) λa=>.aT (ask a.1) λw=>match w with |true=>.map (Pd R aB env cs a.2) (λr=>r) λr h3 h2 h1=>.t (h2▸h1) h3|false=>.ret (false,a.2) λh2 h1=>.f (h2▸h1)
def Pe(R:RL d)(aB:te)(out:Out)(env:af)(ac:Acc)(H:AH):CM (Acc×AH) λr=>LH (d+1) aB out env ac H r.1 r.2:=match out,ac with
|.e x,.l vs=>.aT (R.e aB env x H) λa=>.aT (ask (Nat.blt (vs.length+1) ai)) λw=>match w with |true=>.ret (.l (vs++[a.1]),a.2) λh2 h1=>.e h1 (CN h2)|false=>.nil
|.kv k x,.d kvs=>.aT (R.e aB env k H) λt=>match t with
 |(.str t,H)=>.aT (R.e aB env x H) λa=>.aT (ask (Nat.blt (kvs.length+1) ai)) λw=>match w with |true=>.ret (.d (aH kvs t a.1),a.2) λh3 h2 h1=>.kv h1 h2 (CN h3)|false=>.nil
 |_=>.nil
|aR,bV=>.nil
def Pf(R:RL d)(aB:te)(out:Out)(gs:List uj)(env:af)(ac:Acc)(H:AH):CM (af×Acc×AH) λr=>bT (d+1) aB out gs env ac H r.1 r.2.1 r.2.2:=match gs with |[]=>.map (Pe R aB out env ac H) (λr=>(env,r)) λr h=>⟨rfl,h⟩|g::gs=>.aT (dm (g.is_async==0)) λa=>.aT (Kw R aB env g.target g.iter H) λr=>.map (.cmp (λaj gn H'=>aK (d+1) aB g (bT (d+1) aB out gs) r.1.1 env ac r.2 aj gn H')) (λq=>(q.1,q.2.1,u6 r.1.2 q.2.2)) λq h2 h1 h0=>.mk (eq_of_beq h0) h1.fold h1.src h2 (kD ..)
def KH(R:RL d)(ks:List Str)(aB:te)(g:uj)(out:Out)(gs:List uj)(x:V)(env:af)(ac:Acc)(H:AH):CM (af×Acc×AH) λr=>eR (d+1) aB g (bT (d+1) aB out gs) x env ac H r.1 r.2.1 r.2.2:=
 .aT (R.a aB env g.target x H) λa=>.aT (Pd R aB a.1 g.ifs a.2) λb=>match b with |(true,H)=>.aT (Pf R aB out gs a.1 ac H) λr=>.map (dm (bw G.C aB ks r.1)) (λc=>(eu ks r.1,r.2)) λc h4 h3 h2 h1=>.yes h1 h2 h3 h4|(false,H)=>.map (dm (bw G.C aB ks a.1)) (λc=>(eu ks a.1,ac,H)) λc h3 h2 h1=>.no h1 h2 h3
theorem aM{x:V}{env aj:af}{ac gn:Acc}{H H':AH}{O:List xr}{c:Prop}(ks:List Str)(F:Fz O c)(h:(KH (run (d:=d) 30) ks aB g out gs x env ac H 0 O).map (λr=>(r.a,r.c True))=some ((aj,gn,H'),c):=by kernel_rfl):eR (d+1) aB g (bT (d+1) aB out gs) x env ac H aj gn H':=CM.ok (J:=λr:af×Acc×AH=>eR (d+1) aB g (bT (d+1) aB out gs) x env ac H r.1 r.2.1 r.2.2) F.h h
end
end Mine
end
noncomputable section
open PySem PySem.W PySem.Builtin PySem.Builtin.Str
namespace Mine
abbrev KI(s:B2):Expr:=Gq s
abbrev Pg(e:Expr):Expr:=p8 e 0
noncomputable def jW:Expr->te|.ListComp _ _ s _=>s|.DictComp _ _ _ s _=>s|_=>default
noncomputable def vd:Expr->Out|.ListComp e _ _ _=>.e e|.DictComp k v _ _ _=>.kv k v|e=>.e e
noncomputable def iS:Expr->List uj|.ListComp _ g _ _=>g|.DictComp _ _ g _ _=>g|_=>[]
noncomputable def GC(e:Expr):uj:=(iS e).headD default
abbrev bZ(d:Nat)(e:Expr)(xs:List V)(env:af)(ac:Acc)(H:AH)(gn:Acc)(H':AH):Prop:=aK d (jW e) (GC e) (bT d (jW e) (vd e) (iS e).tail) xs env ac H env gn H'
abbrev GD(d:Nat)(e:Expr)(x:V)(env:af)(ac:Acc)(H:AH)(gn:Acc)(H':AH):Prop:=eR d (jW e) (GC e) (bT d (jW e) (vd e) (iS e).tail) x env ac H env gn H'
theorem vf:∀(i:Nat) (l:List Nat),aX (i:Int) (l.map kQ)=(l.zipIdx i).map λp=>.tup [.int p.2,kQ p.1]|aR,[]=>rfl|i,c::r=>congrArg (V.tup [.int i,kQ c]::·) (vf (i+1) r)
theorem vg(l:List Nat):(sL l).cps.toList.map (λc=>V.str ⟨#[c]⟩)=l.map kQ:=by rw[show(sL l).cps.toList=l from List.toList_toArray ..];rfl
theorem tq{n k:Nat}{i:Int}(e:i=k\/i+n=k/\i<0)(h:k<n)(hn:n<2^60):dF n i=some k:=by
 unfold dF;rw[if_pos (by simp only[vr,decide_eq_true_eq,decide_eq_true_eq];omega)];unfold seqIndex?;rcases e with rfl|⟨e,h0⟩
 ·obtain e1:¬(k:Int)<0:=by exact nR (nat_lit 0x9096109079101) ae
  obtain e2:(decide (0<=(k:Int))&&decide ((k:Int)<(n:Int)))=true:=by simp only[vr,decide_eq_true_eq,decide_eq_true_eq];exact⟨nR (nat_lit 118063360) ae,v9 (nat_lit 25321265959169) ae h⟩
  simp only[e1,if_false];rw[if_pos e2];rfl
 ·obtain e2:(decide (0<=(k:Int))&&decide ((k:Int)<(n:Int)))=true:=by simp only[vr,decide_eq_true_eq,decide_eq_true_eq];exact⟨nR (nat_lit 118063360) ae,v9 (nat_lit 25321265959169) ae h⟩
  simp only[h0,if_true,e];rw[if_pos e2];rfl
theorem aP{a b:Nat}(h:a<b):Nat.blt a b=true:=Nat.ble_eq_true_of_le h
theorem GF{α β:Type}(f:α->β)(xs:List α)(lo hi:Option Int):cut (xs.map f) lo hi=(cut xs lo hi).map f:=by unfold cut;rw[ph,List.map_take,List.map_drop]
theorem fu{α:Type}(f:α->V):∀(i:Nat) (l:List α),aX (i:Int) (l.map f)=(l.zipIdx i).map λp=>.tup [.int p.2,f p.1]|aR,[]=>rfl|i,c::r=>congrArg (V.tup [.int i,f c]::·) (fu f (i+1) r)
theorem GG{H:AH}{k:Nat}{xs:List V}(hk:H[k]?=some (.lst xs)):lT "len" [.ref k] H=some (.int xs.length,H):=congrArg (λv=>(Jc v).map λ(n:Nat)=>(V.int n,H)) (kE hk)
section
variable{d k:Nat}{H:AH}{ns:List Int}{m:Nat}
abbrev UD(k:Nat)(ns:List Int):af:=[(T "script",.lst (ns.map .int)),(T "cells",.ref k)]
theorem mw{xs:List V}{j:Nat}{i:Int}{v:V}(e:i=j\/i+xs.length=j/\i<0)(h:xs[j]?=some v)(hn:xs.length<2^60):mj (some (.lst xs)) (.int i)=some v:=by show(dF xs.length i).bind (λk=>xs[k]?)=_;exact(tq e (eI h).1 hn)▸(h)
theorem vh{X:AH}{xs:List V}{j:Nat}{i:Int}{v:V}(e:i=j\/i+xs.length=j/\i<0)(h:xs[j]?=some v)(hn:xs.length<2^60):item X (.lst xs) (.int i)=some v:=mw e h hn
theorem CW{xs ys:List V}{i:Int}{k:Nat}{v:V}{H:AH}(hs:jF xs i v=some ys):Ba k i v (.lst xs) H=some ((),H.set k (.lst ys)):=by show(match jF xs i v with |some ys=>ik k (.lst ys)|none=>M.fail:M Unit) H=_;rw[hs];rfl
theorem Ar{xs:List V}{i:Int}{j:Nat}{v:V}(e:i=j)(h:j<xs.length)(hn:xs.length<2^60):jF xs i v=some (xs.set j v):=by unfold jF;rw[if_pos (decide_eq_true (e▸Kb j)),tq (.inl e) h hn];rfl
theorem xy{xs:List V}{j k:Nat}{v:V}{H H':AH}(h:j<xs.length)(hn:xs.length<2^60)(e:H.set k (.lst (xs.set j v))=H'):Ba k (j:Int) v (.lst xs) H=some ((),H'):=e▸CW (Ar rfl h hn)
theorem Zx:binop .Pow (.int 10) (.int 12)=some (.int 1000000000000):=by exact congrArg (λx=>some (V.int x)) (by decide:(10:Int)^(12:Int).toNat=1000000000000)
noncomputable def vj(m:Nat)(s:List Int)(p:Int×Nat):List Int:=s.set (p.2 %m) (s.getD (p.2 %m) 0+p.1.fmod 1000000000000)
theorem GH(hk:k<H.length)(h0:0<m)(h1:m<100)(s:List Int)(hs:s.length=m)(p:Int×Nat):
  Turn (d+1) (jg 13) (cW (cf (bd 13) 0)) (b_ (cf (bd 13) 0)) (.tup [.int p.2,.int p.1]) (UD k ns) (H.set k (.lst (s.map .int))) .next (UD k ns) (H.set k (.lst ((vj m s p).map .int))):=by
 obtain x:=p.1;obtain n:=p.2;obtain g:=tA hk;obtain hl:(s.map V.int).length=m:=by simp only[ph,hs]
 obtain e1:=GG g;rw[hl] at e1;obtain hm:=Nat.mod_lt _ h0;obtain ef:(n:Int).fmod (m:Int)=((n %m:Nat):Int):=by refine(Int.fmod_eq_emod_of_nonneg _ (Kb m)).trans ?_;rfl
 generalize n %m=i at hm ef;obtain e2:binop .Mod (.int n) (.int m)=some (.int (i:Int)):=by show(if((m:Int)!=0)=true then some (V.int ((n:Int).fmod m)) else none)=_;rw[if_pos (by simp only[bne_iff_ne];exact v9 (nat_lit 0x909610917a1101102) ae hm),ef]
 obtain ei:(s.map V.int)[i]?=some (.int (s.getD i 0)):=by simp only[x3,tv,sg (by rw[hs];exact hm)];rfl
 obtain e3:=mw (.inl rfl) ei (by rw[hl];exact aS (nat_lit 0x1000000000000000100f01164e01101) ae h1);obtain e4:=xy (H:=H.set k (.lst (s.map .int))) (v:=.int (s.getD i 0+x.fmod 1000000000000)) (by rw[hl];exact hm) (by rw[hl];exact aS (nat_lit 0x1000000000000000100f01164e01101) ae h1) rfl;rw[RF,<-List.map_set] at e4;exact au [T "script",T "cells"] (.upd 4 e1 (.val 5 e2 (.obj g (.val 6 e3 (.val 8 Zx (.obj g (.lG 11 e4 .nil)))))))
theorem vm(H:AH)(n:Nat):∀xs:List Int,eU (freeze (n+1)) (xs.map .int) H=some (xs.map .int,H)|[]=>rfl|x::xs=>by exact Gs rfl (vm H n xs)
theorem GI{H:AH}{k n:Nat}{xs:List Int}(hk:H[k]?=some (.lst (xs.map .int))):freeze (n+2) (.ref k) H=some (.lst (xs.map .int),H.set k .gone):=bS (a:=aF.lst (xs.map .int)) (H':=H) (by unfold hget;rw[hk]) (bS (m:=ik k .gone) (a:=()) (H':=H.set k .gone) rfl (bS (vm _ n xs) rfl))
theorem qZ(s:List Int)(p:Int×Nat):(vj m s p).length=s.length:=vx ..
theorem CY{cs:List Int}(hk:k<H.length)(h0:0<m)(h1:m<100)(hc:cs.length=m):∃QO:List Int,QO.length=m/\aC (d+2) (.fn 176) [.lst (ns.map .int),.ref k] (H.set k (.lst (cs.map .int))) (.lst (QO.map .int)) (H.set k .gone):=by
 obtain l:=cz.fold (d:=d+1) (λp:Int×Nat=>V.tup [.int p.2,.int p.1]) (λa=>UD k ns) (λs:List Int=>H.set k (.lst (s.map .int))) (vj m) (λa s=>s.length=m) (λa a s h=>(qZ s _).trans h) (λp a s h=>GH hk h0 h1 s h p) ((cut ns none (some 60)).zipIdx 0) cs hc;obtain hl:(((cut ns none (some 60)).zipIdx 0).foldl (vj m) cs).length=m:=by
  generalize (cut ns none (some 60)).zipIdx 0=ps;clear l;induction ps generalizing cs with |nil=>exact hc|cons p r ih=>exact ih ((qZ cs p).trans hc)
 rw[<-fu,<-GF] at l
 revert hl l
 generalize ((cut ns none (some 60)).zipIdx 0).foldl (vj m) cs=QO;intro l hl;obtain g:=tA hk;refine⟨QO,hl,?_⟩;obtain q:=GI (n:=8) g;rw[RF] at q;exact yE (bD (.loop l .nil)) q
end
section
variable{d k ks j:Nat}{H:AH}{a:Lx}{v:V}{o:aF}
theorem get_set{H:AH}{i j:Nat}{o:aF}(h:i≠j):(H.set i o)[j]?=H[j]?:=v3 h
abbrev o1:aF:=.inst 52 [(T "lineno",.int 1)]
abbrev o2(ks:Nat):aF:=.inst 52 [(T "lineno",.int 1),(T "instream",.ref ks)]
abbrev o3(ks:Nat):aF:=.inst 52 [(T "lineno",.int 1),(T "instream",.ref ks),(T "whitespace",.str (T "\n\t\r "))]
theorem GJ(hk:H[k]?=some (.inst 52 [])):aC (d+2) (.fn 28) [.ref k,.ref ks] H .none ((H++[aF.lst []]).set k (mV 1 ks H.length)):=by
 obtain lt:=(eI hk).1;obtain k1:(H.set k o1)[k]?=some o1:=tA lt;obtain k2:((H.set k o1).set k (o2 ks))[k]?=some (o2 ks):=tA (by rw[vx];exact lt);obtain k3:(((H.set k o1).set k (o2 ks)).set k (o3 ks)++[aF.lst []])[k]?=some (o3 ks):=by rw[RF,RF,vl (by rw[vx];exact lt)];exact tA lt
 refine(bD (.obj hk (.obj k1 (.obj k2 (.obj k3 .nil))))).hp (H₁:=(((H.set k o1).set k (o2 ks)).set k (o3 ks)++[aF.lst []]).set k (mV 1 ks (((H.set k o1).set k (o2 ks)).set k (o3 ks)).length)) ?_;rw[RF,RF,vx,Pt _ _ (by rw[vx];exact lt),RF,Pt _ _ lt]
theorem As{g:V}:aC (d+3) (.cls 52) [.ref ks] H (.ref H.length) ((H++[mV 1 ks (H.length+1)])++[aF.lst []]):=by obtain q:=GJ (k:=H.length) fj;rw[Pt _ _ (pj▸(BM _)),ez,pj] at q;exact IC (cd:=((G.C.gG.lookup 52).getD ⟨[],[]⟩)) (by kernel_rfl) (by kernel_rfl) q
theorem CZ(hv:nG v=true)(hk:H[k]?=some (.inst 80 [])):aC (d+2) (.fn 70) [.ref k,v] H .none (H.set k (.inst 80 [(T "comp_select_list",v)])):=bD (.obj hk .nil)
theorem Lx.C0{l:Int}{p:List V}{cs:List Nat}(h1:a.k≠j)(h2:a.kp≠j)(h3:a.kS≠j):(a.hp H l p cs).set j o=a.hp (H.set j o) l p cs:=by unfold Lx.hp;rw[aag _ _ h3,aag _ _ h2,aag _ _ h1]
theorem Lx.Ok.CK(h:a.Ok H)(h4:a.ks≠j):a.Ok (H.set j o):=by
 have e:∀{i:Nat},i<H.length->i<(H.set j o).length:=λq=>by rw[vx];exact q
 exact⟨e h.lk,e h.lp,e h.lS,by rw[get_set (aaJ h4)];exact h.Al,h.d1,h.d2,h.d3,h.d4,h.d5,h.d6⟩
end
theorem oZ(st:Nat->Bool):∀cs:List Nat,(tk st cs).2.1.length<=cs.length
|[]=>pd _|[c]=>by
 show(if st c then([],[],true) else if c==92 then([],[],false) else([c],[],false):List Nat×List Nat×Bool).2.1.length<=_;induction st c
 ·induction c==92<;>exact zr _
 ·exact zr _
|c::d::r=>by
 obtain h1:=oZ st r;obtain h2:=oZ st (d::r);show(if st c then([],d::r,true) else if c==92 then(d::(tk st r).1,(tk st r).2) else(c::(tk st (d::r)).1,(tk st (d::r)).2):List Nat×List Nat×Bool).2.1.length<=_;induction st c
 ·induction c==92
  ·exact w3 h2
  ·exact w3 (w3 h1)
 ·exact Ee _
theorem vo:∀cs:List Nat,(gTok cs).2.1.length<=cs.length
|[]=>pd _|c::r=>by
 unfold gTok;induction isWs c
 ·induction c==34
  ·induction c==92
   ·exact w3 (oZ _ r)
   ·exact w3 (vb (oZ _ r.tail) (List.length_tail▸(Md ..)))
  ·exact w3 (oZ _ r)
 ·exact w3 (vo r)
noncomputable def lexN:Nat->List Nat->List (List Nat)×List Nat|0,cs=>([],cs)|m+1,cs=>((gTok cs).1::(lexN m (gTok cs).2.1).1,(lexN m (gTok cs).2.1).2)
def ao(t:List Nat):V:=.str (sL t)
abbrev Ph(a:Lx)(kT:Nat)(l:List Nat)(m:Int):af:=[(T "text",.str (sL l)),(T "count",.int m),(T "signs",.ref a.kS),(T "tokens",.ref kT),(T "stream",.ref a.ks),(T "lexer",.ref a.k)]
abbrev Zy:List Str:=[T "text",T "count",T "signs",T "tokens",T "stream",T "lexer"]
structure jz(a:Lx)(B:AH)(kT:Nat):Prop where
 ok:a.Ok B
 lt:kT<B.length
 n1:a.k≠kT
 n2:a.kp≠kT
 n3:a.kS≠kT
 n4:a.ks≠kT
theorem jz.app{a:Lx}{B:AH}{kT:Nat}{o:aF}(h:jz a B kT):jz a (B++[o]) kT:=⟨h.ok.app,by rw[pj];exact Mo h.lt,h.n1,h.n2,h.n3,h.n4⟩
abbrev Au(a:Lx)(kT:Nat)(L:Int)(B:AH)(ts:List (List Nat))(cs:List Nat):AH:=a.hl (B.set kT (.lst (ts.map ao))) L [] cs
section
variable{a:Lx}{B:AH}{kT d:Nat}{L m:Int}{l:List Nat}{ts:List (List Nat)}{cs:List Nat}
theorem C1(i:Int)(h:jz a B kT)(hz:cs.length+2<2^20)(ht:ts.length<1000):
  Turn (d+6) (jg 16) (cW (cf (bd 16) 3)) (b_ (cf (bd 16) 3)) (.int i) (Ph a kT l m) (Au a kT L B ts cs) .next (Ph a kT l m) (Au a kT L (B++[qY a.k (gTok cs).2.2]) (ts++[(gTok cs).1]) (gTok cs).2.1):=by
 obtain O1:=h.ok.CK h.n4;obtain g:=Aq (d:=d) (L:=L) cs O1 hz;obtain O2:=O1.app;obtain eb:B.set kT (.lst (ts.map ao))++[qY a.k (gTok cs).2.2]=(B++[qY a.k (gTok cs).2.2]).set kT (.lst (ts.map ao)):=by rw[Pt _ _ h.lt]
 rw[eb] at g O2;obtain Av:=h.app (o:=qY a.k (gTok cs).2.2)
 revert g O2 Av
 generalize qY a.k (gTok cs).2.2=o;generalize gTok cs=z;obtain x:=z.1;obtain y:=z.2.1;intro g O2 Av;obtain k0:=O1.self (av:=L-eO cs) (push:=[]) (cs:=cs);obtain k2:=O2.self (av:=L-eO y) (push:=[ao x]) (cs:=y);obtain p:=m9 (d:=d+4) (v:=ao x) (push:=[]) (cs:=y) (l:=L-eO y) O2 (by decide);obtain q:=cR (d:=d+4) (x:=ao x) (p:=[]) (cs:=y) (l:=L-eO y) O2;obtain kt:(a.hl ((B++[o]).set kT (.lst (ts.map ao))) L [] y)[kT]?=some (.lst (ts.map ao)):=(Lx.Am Av.n1 Av.n2 Av.n3).trans (tA Av.lt);obtain e:=Pa (v:=ao x) (xs:=ts.map ao) (H:=a.hl ((B++[o]).set kT (.lst (ts.map ao))) L [] y) (by rw[ph];exact aS (nat_lit 0x1000006f1908113e83f01101) ae ht) rfl;rw[Lx.C0 Av.n1 Av.n2 Av.n3,RF,<-List.map_singleton,<-vk] at e;obtain Zz:(a.hl ((B++[o]).set kT (.lst (ts.map ao))) L [ao x] y)[kT]?=some (.lst (ts.map ao)):=(Lx.Am Av.n1 Av.n2 Av.n3).trans (tA Av.lt);exact au Zy (.obj k0 (.obj k0 (.call g (.call p (.obj Zz (.obj k2 (.call q (.obj kt (.upd 4 e .nil)))))))))
abbrev QS:Type:=AH×List (List Nat)×List Nat
def QT(k:Nat)(s:QS)(_:Nat):QS:=(s.1++[qY k (gTok s.2.2).2.2],s.2.1++[(gTok s.2.2).1],(gTok s.2.2).2.1)
theorem yK(k:Nat):∀(xs:List Nat) (s:QS),∃t,xs.foldl (QT k) s=(s.1++t,s.2.1++(lexN xs.length s.2.2).1,(lexN xs.length s.2.2).2)|[],s=>⟨[],by rw[rn];exact congrArg (λx=>(s.1,x,s.2.2)) (rn _).symm⟩|x::xs,s=>by obtain⟨t,h⟩:=yK k xs (QT k s x);refine⟨qY k (gTok s.2.2).2.2::t,h.trans ?_⟩;show((s.1++[_])++t,(s.2.1++[_])++_,_)=_;simp only[ta,ta];rfl
theorem C2(n:Nat)(h:jz a B kT)(hz:cs.length+2<2^20)(ht:n<1000):∃t,cz (d+6) (jg 16) (cW (cf (bd 16) 3)) (b_ (cf (bd 16) 3)) ((w8 n).map λ(i:Nat)=>.int (0+(i:Int))) (Ph a kT l m) (Au a kT L B [] cs) .next (Ph a kT l m) (Au a kT L (B++t) (lexN n cs).1 (lexN n cs).2):=by
 obtain q:=cz.fold (λi:Nat=>V.int (0+(i:Int))) (λb=>Ph a kT l m) (λs:QS=>Au a kT L s.1 s.2.1 s.2.2) (QT a.k) (λxs s=>jz a s.1 kT/\s.2.2.length+2<2^20/\s.2.1.length+xs.length<1000)
  (λx xs s h=>⟨h.1.app,vw (Nat.add_le_add_right (vo _) 2) h.2.1,by obtain this:=h.2.2;unfold QT;rw[pj];simp only[pE,tm] at this⊢;exact aL (nat_lit 0x3e83f119098088113e83f1918081101) ae this⟩)
  (λx xs s h=>C1 _ h.1 h.2.1 (vw (Kk _ _) h.2.2)) (w8 n) (B,[],cs) ⟨h,hz,by simp only[Kt,tm,FR];exact ht⟩
 refine(yK a.k (w8 n) (B,[],cs)).elim λt e=>?_
 rw[e,Kt] at q;exact⟨t,q⟩
theorem GK{n:Int}{H:AH}(h:i9 n=true):jE false "range" [.int n] H=some (.t9 0 n,H):=congrArg (λc=>alt (bif c then some (V.t9 0 n,H) else none) none) h
theorem kH(n:Nat)(H:AH)(h:n<2^60):jE false "range" [.int n] H=some (.t9 0 n,H):=GK (decide_eq_true (by exact h))
theorem KJ(l:List Nat)(H:AH)(h:l.length<2^20):jE true "list" [.str (sL l)] H=some (.ref H.length,H++[.lst (l.map kQ)]):=by show(bif sizeOk ((sL l).cps.toList.map λc=>V.str ⟨#[c]⟩).length then iA (.lst ((sL l).cps.toList.map λc=>V.str ⟨#[c]⟩)) H else none)=_;rw[vg,show sizeOk (l.map kQ).length=true from decide_eq_true (by rw[ph];exact h)];rfl
end
theorem set_same{H:AH}{j:Nat}{o:aF}(h:H[j]?=some o):H.set j o=H:=by
 refine List.ext_getElem? λi=>?_
 by_cases e:j=i
 ·subst e;rw[tA (eI h).1,h]
 ·exact v3 e
theorem KL(H xs:AH)(i:Nat):(H++xs)[H.length+i]?=xs[i]?:=by rw[zt (Kk ..),Nat.add_sub_cancel_left]
abbrev p9(e:Expr)(i:Nat):Expr:=p8 e i
abbrev Pj:Expr:=p9 (cX (cf (bd 16) 0)) 2
abbrev g0:V:=.r8 [] (Ai Pj) (Aj Pj) []
section
variable{d n:Nat}{l:List Nat}{H:AH}
abbrev LM(H:AH)(l:List Nat):AH:=H++[.lst (l.map kQ)]
abbrev GL(H:AH)(l:List Nat):AH:=LM H l++[.lst []]
abbrev EB(H:AH)(l:List Nat):AH:=(GL H l++[aF.qp g0 []]).set (GL H l).length (.qp g0 [(T "read",qX H.length)])
abbrev we(H:AH)(l:List Nat):AH:=(EB H l++[mV 1 (GL H l).length ((EB H l).length+1)])++[.lst []]
theorem xA:we H l=H++[.lst (l.map kQ),.lst [],.qp g0 [(T "read",qX H.length)],mV 1 (H.length+2) (H.length+4),.lst []]:=by unfold we EB;rw[ez];simp only[pj,pE,tm,ta];rfl
theorem UE:(LM H l).length=H.length+1/\(GL H l).length=H.length+2/\(EB H l).length=H.length+3:=by simp only[vx,pj,pE,tm,and_self,Nat.add_assoc]
theorem C3(n:Nat)(hn:n<1000)(hz:l.length+2<2^20):∃(a:Lx) (kT:Nat) (B:AH),jz a B kT/\(∀j,j<H.length->B[j]?=H[j]?)/\H.length<=a.k/\
  aC (d+8) (.fn 197) [.str (sL l),.int n] H (.tup [.ref a.k,.ref a.kS,.ref kT]) (Au a kT (1+eO l) B (lexN n l).1 (lexN n l).2):=by
 obtain⟨e1,e2,e4⟩:=UE;let a:Lx:=⟨(EB H l).length,(GL H l).length,(EB H l).length+1,H.length⟩
 have g:∀i,(we H l)[H.length+i]?=([.lst (l.map kQ),.lst [],.qp g0 [(T "read",qX H.length)],mV 1 (H.length+2) (H.length+4),.lst []]:AH)[i]?:=λi=>by rw[xA];exact KL ..
 have C5:(we H l).length=H.length+5:=by rw[xA,pj];rfl
 have A:jz a (we H l) (LM H l).length:=by
  have h4:=e4;have h2:a.ks=H.length+2:=e2
  have hp:=congrArg (·+1) e4;have hS:a.kS=H.length:=rfl
  refine⟨⟨?_,?_,?_,⟨g0,by rw[h2];exact g 2⟩,?_,?_,?_,?_,?_,?_⟩,?_,?_,?_,?_,?_⟩<;>(first|exact aW (nat_lit 0x20115918231391802102) ae h4 C5|exact aW (nat_lit 0x20115918231491802102) ae hp C5|exact aL (nat_lit 18784333082881) ae C5|exact aW (nat_lit 0x9096102213918231291802103) ae h2 h4|exact aW (nat_lit 0x9096102313918221491803103) ae hp h4|exact aL (nat_lit 0x909611021391803102) ae h4|exact aW (nat_lit 0x9096120212918221491803103) ae hp h2|exact aL (nat_lit 0x909610131291803102) ae h2|exact aL (nat_lit 0x909611021491803102) ae hp|exact aW (nat_lit 0x2115918031191822102) ae e1 C5|exact aW (nat_lit 0x9096120211918221391803103) ae h4 e1|exact aW (nat_lit 0x9096120211918221491803103) ae hp e1|exact aL (nat_lit 0x909610131191803102) ae e1|exact aW (nat_lit 0x9096120211918221291803103) ae h2 e1)
 have eq:Au a (LM H l).length (1+eO l) (we H l) [] l=we H l:=by
  show a.hp ((we H l).set (LM H l).length (.lst [])) (1+eO l-eO l) [] l=_;rw[set_same (by rw[e1];exact g 1),Int.add_sub_cancel];have s1:=set_same (by show(we H l)[(EB H l).length]?=some (mV 1 (GL H l).length ((EB H l).length+1));rw[e4,e2];exact g 3)
  have s2:=set_same (by show(we H l)[(EB H l).length+1]?=_;rw[e4];exact g 4);have s3:(we H l).set a.kS (.lst (l.map kQ))=we H l:=set_same (g 0)
  unfold Lx.hp;rw[s1,s2,s3]
 obtain⟨t,q⟩:=C2 (d:=d+1) (l:=l) (m:=n) n A hz hn;rw[eq] at q;refine⟨a,(LM H l).length,we H l++t,?_,λj hj=>?_,?_,?_⟩
 ·have le:∀{i},i<(we H l).length->i<(we H l++t).length:=λq=>by rw[pj];exact aW (nat_lit 36833925796097) ae q
  obtain⟨f,hf⟩:=A.ok.Al;exact⟨⟨le A.ok.lk,le A.ok.lp,le A.ok.lS,⟨f,by rw[vl (eI hf).1];exact hf⟩,A.ok.d1,A.ok.d2,A.ok.d3,A.ok.d4,A.ok.d5,A.ok.d6⟩,le A.lt,A.n1,A.n2,A.n3,A.n4⟩
 ·rw[vl (by rw[C5];exact aL (nat_lit 0x5918011101101) ae hj),xA,vl hj]
 ·dsimp only[a];rw[e4];exact aS (nat_lit 15309209856) ae
 ·have u0:=KJ l H (aS (nat_lit 0x1000006f0111000006f29081101) ae hz);have r0:=kH n (we H l) (aS (nat_lit 0x1000000000000000100f0113e83f01101) ae hn);have f0:(GL H l++[aF.qp g0 []])[(GL H l).length]?=some (.qp g0 []):=fj
  have nw:=As (d:=d+4) (ks:=(GL H l).length) (H:=EB H l) (g:=.none);exact bD (.upd 2 u0 (.obj f0 (.call nw (.upd 9 r0 (.loop q .nil)))))
end
noncomputable def ie(q:Bool)(i:Nat)(c:Nat):Bool:=bif q then c==34||c==92 else(c==32||(c==9||(c==13||(c==10||c==92))))||(i==0&&c==34)
noncomputable def escL(q all:Bool):Nat->List Nat->List Nat|aR,[]=>[]|i,c::r=>(bif ie q i c||all then [92,c] else [c])++escL q all (i+1) r
noncomputable def allB(way:Int):Bool:=(way.fdiv 2).fmod 2!=0
abbrev wE(raw:List Nat)(way e:Int)(acc:List Nat):af:=[(T "raw",.str (sL raw)),(T "way",.int way),(T "end",.int e),(T "text",.str (sL acc))]
abbrev wK:List Str:=[T "raw",T "way",T "end",T "text"]
abbrev QU:Expr:=cW (cf (bd 15) 1)
abbrev QV:List B2:=b_ (cf (bd 15) 1)
section
variable{d:Nat}{H:AH}{raw acc:List Nat}{way e:Int}
theorem in_str{c:Nat}{x:Str}{b:Bool}(h:x.cps.toList.contains c=b):bG H .In (.str (yI c)) (.str x)=some (.bool b):=congrArg (λb=>some (V.bool b)) ((oY c x).trans h)
theorem eq_int{i j:Int}{b:Bool}(h:(i==j)=b):bG H .Eq (.int i) (.int j)=some (.bool b):=congrArg (λb=>some (V.bool b)) h
theorem eq_str{x y:Str}{b:Bool}(h:(x==y)=b):bG H .Eq (.str x) (.str y)=some (.bool b):=congrArg (λb=>some (V.bool b)) h
theorem KN(q:Bool)(hw:(way.fmod 2!=0)=!q)(i c:Nat)(hz:acc.length+2<2^20):Turn (d+1) (jg 15) QU QV (.tup [.int i,kQ c]) (wE raw way e acc) H .next (wE raw way e (acc++(bif ie q i c||allB way then [92,c] else [c]))) H:=by
 obtain a2:=Kz (b:=[92,c]) hz;have a1:=Kz (b:=[c]) (FV hz)
 induction q with
 |true=>
  refine(?_:Turn (d+1) (jg 15) QU QV _ _ H .next (wE raw way e (acc++(bif (c==34||c==92)||allB way then [92,c] else [c]))) H);have h0:(T "\"\\").cps.toList.contains c=(c==34||c==92):=by show((c==34)||((c==92)||false))=_;rw[Bool.or_false]
  induction hb:(c==34||c==92) with |true=>exact au wK (.no 2 hw (.val 4 (in_str (H:=H) (h0.trans hb)) (.val 11 a2 .nil)))|false=>induction ha:allB way with |true=>exact au wK (.no 2 hw (.val 4 (in_str (H:=H) (h0.trans hb)) (.no 11 ha (.val 15 a2 .nil))))|false=>exact au wK (.no 2 hw (.val 4 (in_str (H:=H) (h0.trans hb)) (.no 11 ha (.val 14 a1 .nil))))
 |false=>
  refine(?_:Turn (d+1) (jg 15) QU QV _ _ H .next (wE raw way e (acc++(bif ((c==32||(c==9||(c==13||(c==10||c==92))))||(i==0&&c==34))||allB way then [92,c] else [c]))) H);have h0:(T " \t\r\n\\").cps.toList.contains c=(c==32||(c==9||(c==13||(c==10||c==92)))):=by show((c==32)||((c==9)||((c==13)||((c==10)||((c==92)||false)))))=_;rw[Bool.or_false]
  induction hb:(c==32||(c==9||(c==13||(c==10||c==92)))) with
  |true=>exact au wK (.no 2 hw (.val 4 (in_str (H:=H) (h0.trans hb)) (.val 12 a2 .nil)))|false=>
   have hi:((i:Int)==0)=(i==0):=by lia
   induction hp:i==0 with
   |false=>induction ha:allB way with |true=>exact au wK (.no 2 hw (.val 4 (in_str (H:=H) (h0.trans hb)) (.val 7 (eq_int (H:=H) (hi.trans hp)) (.no 15 ha (.val 19 a2 .nil)))))|false=>exact au wK (.no 2 hw (.val 4 (in_str (H:=H) (h0.trans hb)) (.val 7 (eq_int (H:=H) (hi.trans hp)) (.no 15 ha (.val 18 a1 .nil)))))
   |true=>induction hs:c==34 with |true=>exact au wK (.no 2 hw (.val 4 (in_str (H:=H) (h0.trans hb)) (.val 7 (eq_int (H:=H) (hi.trans hp)) (.val 10 (eq_str (H:=H) ((d7 c 34).trans hs)) (.val 17 a2 .nil)))))|false=>induction ha:allB way with |true=>exact au wK (.no 2 hw (.val 4 (in_str (H:=H) (h0.trans hb)) (.val 7 (eq_int (H:=H) (hi.trans hp)) (.val 10 (eq_str (H:=H) ((d7 c 34).trans hs)) (.no 17 ha (.val 21 a2 .nil))))))|false=>exact au wK (.no 2 hw (.val 4 (in_str (H:=H) (h0.trans hb)) (.val 7 (eq_int (H:=H) (hi.trans hp)) (.val 10 (eq_str (H:=H) ((d7 c 34).trans hs)) (.no 17 ha (.val 20 a1 .nil))))))
end
noncomputable def endsL(q:Bool):Nat->List Nat|0=>bif q then [34] else [32]|1=>bif q then [34,32] else [10]|2=>bif q then [34,10] else [13]|_=>bif q then [34,9,13,10] else [9,32,10]
def Pk(q:Bool):V:=.lst (bif q then [.str (T "\""),.str (T "\" "),.str (T "\"\n"),.str (T "\"\t\r\n")] else [.str (T " "),.str (T "\n"),.str (T "\r"),.str (T "\t \n")])
noncomputable def vp(way:Int):Nat:=((way.fdiv 4).fmod 4).toNat
def tailL(q:Bool)(way:Int):Nat->List Nat|0=>endsL q (vp way)|1=>[]|_=>[92]
def jn(raw:List Nat)(way:Int):Bool:=(way.fmod 2==0)||(sL raw==T "")
def wg(raw:List Nat)(way:Int)(e:Nat):List Nat:=((bif jn raw way then [34] else [])++escL (jn raw way) (allB way) 0 raw)++tailL (jn raw way) way e
theorem Aw(H:AH)(q:Bool)(way:Int):item H (Pk q) (.int ((way.fdiv 4).fmod 4))=some (.str (sL (endsL q (vp way)))):=by
 have h0:0<=(way.fdiv 4).fmod 4:=Int.fmod_nonneg_of_pos _ (by decide);have h4:(way.fdiv 4).fmod 4<4:=Int.fmod_lt_of_pos _ (by decide)
 unfold vp;generalize (way.fdiv 4).fmod 4=j at h0 h4;obtain⟨n,rfl⟩:=Int.eq_ofNat_of_zero_le h0
 match n,aae.mp h4 with
 |0,aR=>induction q<;>kernel_rfl
 |1,aR=>induction q<;>kernel_rfl
 |2,aR=>induction q<;>kernel_rfl
 |3,aR=>induction q<;>kernel_rfl
theorem tu(q:Bool):∀j,endsL q j=endsL q 0\/endsL q j=endsL q 1\/endsL q j=endsL q 2\/endsL q j=endsL q 3|0=>.inl rfl|1=>.inr (.inl rfl)|2=>.inr (.inr (.inl rfl))|_+3=>.inr (.inr (.inr rfl))
theorem vq(q:Bool)(way:Int):∀e,(tailL q way e).length<=4
|0=>by show(endsL q (vp way)).length<=4;rcases tu q (vp way) with h|h|h|h<;>rw[h]<;>cases q<;>decide
|1=>zr _|_+2=>(by decide:1<=4)
theorem lI(q a:Bool)(i c:Nat)(r:List Nat):escL q a i (c::r)=(bif ie q i c||a then [92,c] else [c])++escL q a (i+1) r:=rfl
theorem o5(q a:Bool):∀(raw:List Nat) (i:Nat),(escL q a i raw).length<=2* raw.length
|[],i=>pd _|c::r,i=>by
 obtain ih:=o5 q a r (i+1);rw[lI];simp only[pj,pE];induction ie q i c||a
 ·refine(?_:1+_<=_);omega
 ·refine(?_:2+_<=_);omega
theorem vt(q a:Bool):∀(raw acc:List Nat) (i:Nat),(raw.zipIdx i).foldl (λacc p=>acc++(bif ie q p.2 p.1||a then [92,p.1] else [p.1])) acc=acc++escL q a i raw|[],acc,i=>(rn acc).symm|c::r,acc,i=>by simp only[List.zipIdx_cons,Jn,vt q a r];exact ta ..
section
variable{d:Nat}{H:AH}{raw:List Nat}{way:Int}{e:Nat}
theorem KO(q:Bool)(hw:(way.fmod 2!=0)=!q)(b0:List Nat)(e:Int)(hb:b0.length<=1)(hr:raw.length<1000):cz (d+1) (jg 15) QU QV (aX 0 ((sL raw).cps.toList.map λc=>V.str ⟨#[c]⟩)) (wE raw way e b0) H .next (wE raw way e (b0++escL q (allB way) 0 raw)) H:=by
 obtain l:=cz.fold (λp:Nat×Nat=>V.tup [.int p.2,kQ p.1]) (λacc=>wE raw way e acc) (λa=>H) (λacc p=>acc++(bif ie q p.2 p.1||allB way then [92,p.1] else [p.1])) (λxs acc=>acc.length+2* xs.length<3000)
  (λp xs acc h=>by
   rw[pj];simp only[pE] at h;induction ie q p.2 p.1||allB way
   ·refine(?_:acc.length+1+_<_);omega
   ·refine(?_:acc.length+2+_<_);omega)
  (λp xs acc h=>KN q hw p.2 p.1 (by simp only[pE] at h;exact aL (nat_lit 0x1000006f290811bb83f19182a081101) ae h)) (raw.zipIdx 0) b0 (by rw[Tx];exact aL (nat_lit 0xbb83f02a1811191013e83f01202) ae hr hb)
 rw[vt,<-vf,<-vg] at l;exact l
theorem UG{a b:List Nat}(h:a.length+b.length<2^20):binop .Add (.str (sL a)) (.str (sL b))=some (.str (sL (a++b))):=by show(if sizeOk ((sL a).length+(sL b).length) then some (V.str (sL a++sL b)) else none)=_;rw[lH,lH,show sizeOk (a.length+b.length)=true from decide_eq_true h,CR];rfl
theorem Pn{r:List Nat}(h:r≠[]):(sL r==T "")=false:=by
 cases r with
 |nil=>exact absurd rfl h|cons a r=>
  refine beq_false_of_ne λe=>?_
  have :=congrArg (λx:Str=>x.cps.size) e;exact nomatch this
theorem xB(he:e<3)(hr:raw.length<1000)(h0:raw≠[]):aC (d+2) (.fn 190) [.str (sL raw),.int way,.int e] H (.str (sL (wg raw way e))) H:=by
 have hlen:∀q b0,b0.length<=1->∀t:List Nat,t.length<=4->(b0++escL q (allB way) 0 raw).length+t.length<2^20:=λq b0 hb t ht=>by obtain this:=o5 q (allB way) raw 0;rw[pj];exact e9 (nat_lit 0x1000006f203881119301492013e83f11212a00104) ae this hr ht hb
 have ht:∀q,(tailL q way e).length<=4:=λq=>vq q way e
 unfold wg;have key:∀q,(way.fmod 2!=0)=!q->jn raw way=q->aC (d+2) (.fn 190) [.str (sL raw),.int way,.int e] H (.str (sL (((bif q then [34] else [])++escL q (allB way) 0 raw)++tailL q way e))) H:=λq hw hq=>by
  have it:=Aw H q way;have ad:=UG (hlen q (bif q then [34] else []) (by induction q<;>decide) _ (ht q))
  have lp:=KO (d:=d) (H:=H) (way:=way) q hw (bif q then [34] else []) e (by induction q<;>decide) hr;have ZA:item H (.lst [.str (sL (endsL q (vp way))),.str (T ""),.str (T "\\")]) (.int e)=some (.str (sL (tailL q way e))):=by
   match e,he with |0,aR=>kernel_rfl|1,aR=>kernel_rfl|2,aR=>kernel_rfl
  induction q<;>exact bD (.no 2 hw (.loop lp (.no 7 hw (.val 13 it (.val 15 ZA (.val 16 ad .nil))))))
 have hs:(sL raw==T "")=false:=(Pn h0);exact key _ (by unfold jn;rw[hs,Bool.or_false];rfl) rfl
end
def GT(cs tok rest:List Nat):Prop:=(gTok cs).1=tok/\(gTok cs).2.1=rest
theorem tw{st:Nat->Bool}{q all b:Bool}{tl r:List Nat}(KG:st 92=false)(hh:∀i c,(ie q i c||all)=false->st c=false/\(c==92)=false)(ht:tk st tl=([],r,b)):∀(raw:List Nat) (i:Nat),tk st (escL q all i raw++tl)=(raw,r,b)
|[],aR=>ht|c::raw,i=>by
 obtain ih:=tw KG hh ht raw (i+1);rw[lI];induction hb:ie q i c||all with |true=>refine(?_:tk st (92::c::(escL q all (i+1) raw++tl))=_);rw[O_ KG,ih]|false=>refine(?_:tk st (c::(escL q all (i+1) raw++tl))=_);rw[KC (hh i c hb).1 (hh i c hb).2,ih]
theorem KP{all:Bool}(i c:Nat)(h:(ie true i c||all)=false):(c==34)=false/\(c==92)=false:=pQ (pQ h).1
theorem C6{all:Bool}(i c:Nat)(h:(ie false i c||all)=false):isWs c=false/\(c==92)=false:=by obtain h1:=pQ (pQ (pQ h).1).1;obtain h2:=pQ h1.2;obtain h3:=pQ h2.2;obtain h4:=pQ h3.2;refine⟨?_,h4.2⟩;unfold isWs;simp only[h4.1,h2.1,h3.1,h1.1];rfl
theorem C7{all b:Bool}{raw tl r:List Nat}(ht:tk (·==34) tl=([],r,b)):GT (34::(escL true all 0 raw++tl)) raw r:=by obtain e:gTok (34::(escL true all 0 raw++tl))=tk (·==34) (escL true all 0 raw++tl):=rfl;unfold GT;rw[e,tw rfl KP ht];exact⟨rfl,rfl⟩
theorem GN{all b:Bool}{c:Nat}{raw tl r:List Nat}(ht:tk isWs tl=([],r,b)):GT (escL false all 0 (c::raw)++tl) (c::raw) r:=by
 obtain ih:=tw rfl C6 ht raw 1;unfold GT;rw[lI];induction hb:ie false 0 c||all with
 |true=>obtain e:gTok ((92::c::[])++escL false all 1 raw++tl)=([c]++(tk isWs (escL false all 1 raw++tl)).1,(tk isWs (escL false all 1 raw++tl)).2):=rfl;rw[ih] at e;exact⟨congrArg (·.1) e,congrArg (·.2.1) e⟩
 |false=>
  obtain h:=C6 0 c hb;obtain LL:(c==34)=false:=(pQ (pQ hb).1).2;obtain e:gTok (c::(escL false all 1 raw++tl))=(c::(tk isWs (escL false all 1 raw++tl)).1,(tk isWs (escL false all 1 raw++tl)).2):=by rw[gTok,h.1,LL,h.2];rfl
  rw[ih] at e;exact⟨congrArg (·.1) e,congrArg (·.2.1) e⟩
theorem q_(X:List Nat):∀(left:List Nat),left.all isWs=true->gTok (left++X)=gTok X|[],aR=>rfl|c::r,h=>by obtain h:=a_ h;refine(?_:gTok (c::(r++X))=_);rw[gTok,h.1];exact q_ X r h.2
theorem KQ(j:Nat):∃left,left.all isWs=true/\endsL true j=34::left:=by
 rcases tu true j with h|h|h|h
 ·exact⟨[],rfl,h⟩
 ·exact⟨[32],rfl,h⟩
 ·exact⟨[10],rfl,h⟩
 ·exact⟨[9,13,10],rfl,h⟩
theorem KR(j:Nat):∃w left,isWs w=true/\left.all isWs=true/\endsL false j=w::left:=by
 rcases tu false j with h|h|h|h
 ·exact⟨32,[],rfl,rfl,h⟩
 ·exact⟨10,[],rfl,rfl,h⟩
 ·exact⟨13,[],rfl,rfl,h⟩
 ·exact⟨9,[32,10],rfl,rfl,h⟩
theorem tB{raw tl left r:List Nat}{way:Int}(hq:∀b,jn raw way=b->∃c,tk (bif b then(·==34) else isWs) tl=([],r,c)):GT (((bif jn raw way then [34] else [])++escL (jn raw way) (allB way) 0 raw)++tl) raw r:=by
 induction hb:jn raw way with
 |true=>exact(hq true hb).elim λc h=>C7 h|false=>
  induction raw with |nil=>exact nomatch (show jn [] way=true by unfold jn;simp only[show(sL []==T "")=true by kernel_rfl,Bool.or_true]).symm.trans hb|cons c r'=>exact(hq false hb).elim λc h=>GN h
theorem rh(raw rest:List Nat)(way:Int):∃left,left.all isWs=true/\GT (wg raw way 0++rest) raw (left++rest):=by
 unfold wg;induction hq:jn raw way with
 |true=>
  obtain⟨left,h1,h2⟩:=KQ (vp way);refine⟨left,h1,?_⟩;obtain this:=tB (tl:=34::(left++rest)) (left:=left) λb hb=>⟨true,by rw[<-hb,hq];exact Gy rfl⟩
  rw[hq] at this;rw[ta,show tailL true way 0=34::left from h2];exact this
 |false=>
  refine(KR (vp way)).elim λw ZC=>?_;refine ZC.elim λleft UH=>?_;obtain h0:=UH.1;obtain h1:=UH.2.1;obtain h2:=UH.2.2
  refine⟨left,h1,?_⟩;obtain this:=tB (left:=left) (r:=left++rest) λb hb=>⟨true,by rw[<-hb,hq];exact Gy h0⟩
  rw[hq] at this;rw[ta,show tailL false way 0=w::left from h2];exact this
theorem KS(raw:List Nat)(way:Int)(e:Nat)(he:e<3):∃left,left.all isWs=true/\GT (wg raw way e) raw left:=by
 match e,he with
 |0,aR=>obtain⟨left,h1,h2⟩:=rh raw [] way;rw[rn,rn] at h2;exact⟨left,h1,h2⟩
 |1,aR=>exact⟨[],rfl,tB (left:=[]) λb a=>⟨false,rfl⟩⟩|2,aR=>exact⟨[],rfl,tB (left:=[]) λb a=>⟨false,by induction b<;>exact IQ rfl⟩⟩
theorem lJ(X left:List Nat)(h:left.all isWs=true)(m:Nat):lexN (m+1) (left++X)=lexN (m+1) X:=by show((gTok (left++X)).1::(lexN m (gTok (left++X)).2.1).1,(lexN m (gTok (left++X)).2.1).2)=((gTok X).1::(lexN m (gTok X).2.1).1,(lexN m (gTok X).2.1).2);rw[q_ X left h]
theorem C8(m:Nat):lexN m []=(t4 m [],[]):=by
 induction m with |zero=>rfl|succ m ih=>show([]::(lexN m []).1,(lexN m []).2)=_;rw[ih];rfl
theorem C9(m:Nat)(left:List Nat)(h:left.all isWs=true):lexN (m+1) left=(t4 (m+1) [],[]):=by obtain e:=lJ [] left h m;rw[rn] at e;simp only[e,C8]
theorem yL{m:Nat}{cs tok rest:List Nat}(h:GT cs tok rest):lexN (m+1) cs=(tok::(lexN m rest).1,(lexN m rest).2):=by show((gTok cs).1::(lexN m (gTok cs).2.1).1,(lexN m (gTok cs).2.1).2)=_;rw[h.1,h.2]
noncomputable def txtL:List (List Nat×Int)->Nat->List Nat|[],aR=>[]|[p],e=>wg p.1 p.2 e|p::q::rest,e=>wg p.1 p.2 0++txtL (q::rest) e
theorem yM(e:Nat)(he:e<3):∀(ws:List (List Nat×Int)),ws≠[]->∀left:List Nat,left.all isWs=true->lexN (ws.length+2) (left++txtL ws e)=(ws.map (·.1)++[[],[]],[])
|[],h,aR,bV=>absurd rfl h|[p],aR,left,hl=>by obtain⟨l2,h2,h3⟩:=KS p.1 p.2 e he;refine(?_:lexN 3 (left++wg p.1 p.2 e)=_);rw[lJ _ _ hl,yL h3,C9 1 l2 h2];rfl
|p::q::rest,aR,left,hl=>by
 refine(rh p.1 (txtL (q::rest) e) p.2).elim λl2 WE=>?_;obtain h2:=WE.1;obtain h3:=WE.2
 refine(?_:lexN ((q::rest).length+2+1) (left++(wg p.1 p.2 0++txtL (q::rest) e))=_);rw[lJ _ _ hl,yL h3,yM e he (q::rest) (List.cons_ne_nil _ _) l2 h2];rfl
noncomputable def fZ:List Nat:=[173,847,6150,6155,6156,6157,8203,8204,8205,8288,65279,65024,65025,65026,65027,65028,65029,65030,65031,65032,65033,65034,65035,65036,65037,65038,65039]
noncomputable def f5:List Nat:=[172,174,846,848,6149,6151,6154,6158,8202,8206,8287,8289,65023,65040,65278,65280,11,12,28,160]
def p_(p:Nat×List Nat):Bool:=Bi p.2.length 3&&(bif cZ.contains (p.1:Int) then p.2.isEmpty else mq p.1==sL p.2)
theorem C_:(fZ.all λu=>p_ (u,[]))=true/\(f5.all λo=>p_ (o,[o]))=true:=⟨by kernel_rfl,by kernel_rfl⟩
theorem vy(H:AH)(l:List Nat)(f:Nat->Int)(m:Nat)(x:Int)(hm:l.length=m)(h0:0<m)(h1:m<100):∃v∈l,item H (.lst (l.map λc=>.int (f c))) (.int (x.fmod m))=some (.int (f v)):=by
 obtain a0:0<=x.fmod m:=Int.fmod_nonneg_of_pos _ (by simp_all);obtain a1:x.fmod m<m:=Int.fmod_lt_of_pos _ (nR (nat_lit 0x709910091101) ae h0)
 revert a0 a1
 generalize x.fmod m=j;intro a0 a1;obtain cF:j.toNat<l.length:=by exact Iz.go (nat_lit 0x1211013107091027a103) [_,_,_] [_] ae (aao (uw (nat_lit 653104087297) ae a0)) a1 hm
 refine⟨l[j.toNat],FC cF,?_⟩;show(dF (l.map λc=>V.int (f c)).length j).bind (λk=>(l.map λc=>V.int (f c))[k]?)=_;rw[tq (k:=j.toNat) (.inl (by exact MG (nat_lit 7740873749777) ae (aao (uw (nat_lit 653104087297) ae a0)))) (by rw[ph];exact cF) (by rw[ph];exact aL (nat_lit 0x1000000000000000100f11164e011012102) ae hm h1)];show(l.map λc=>V.int (f c))[j.toNat]?=_;simp only[x3,sg cF];rfl
theorem Po{H:AH}{i:Int}(h0:0<=i)(h1:i<0x110000):lT "chr" [.int i] H=some (.str ⟨#[i.toNat]⟩,H):=congrArg (λc=>bif c then some (V.str ⟨#[i.toNat]⟩,H) else none) (bX ⟨decide_eq_true h0,decide_eq_true h1⟩)
theorem IT{H:AH}(c:Nat)(h:c<0x110000):lT "chr" [.int c] H=some (.str (yI c),H):=Po (i:=c) (Kb c) (aae.mpr h)
theorem vz:∀(l:List (List Nat)) (acc:Array Nat),(l.map sL).foldl (λacc p=>acc++(T "").cps++p.cps) acc=acc++l.flatten.toArray|[],acc=>(Array.append_empty ..).symm|q::r,acc=>by simp only[xb,Jn,vz r];refine Array.append_assoc.trans ?_;exact congrArg (acc++·) (List.append_toArray ..)
theorem Dc:∀l:List (List Nat),Txt.join (T "") (l.map sL)=sL l.flatten|[]=>rfl|q::r=>(congrArg Str.mk (vz r (sL q).cps)).trans (congrArg Str.mk (List.append_toArray ..))
theorem rj:∀l:List (List Nat),ua (l.map λq=>.str (sL q))=some (l.map sL)|[]=>rfl|q::r=>congrArg (Option.map (sL q::·)) (rj r)
theorem GO(l:List (List Nat)):((l.map sL).map (·.length)).sum=l.flatten.length:=by simp only[tx,List.length_flatten];exact congrArg List.sum (List.map_congr_left λq a=>lH q)
theorem xC{H:AH}{l:List (List Nat)}(h:l.flatten.length<2^20):nH (T "") (T "join") [.lst (l.map λq=>.str (sL q))] H=some (.str (sL l.flatten),H):=by show(ua (l.map λq=>.str (sL q))).bind (λys=>bif sizeOk (ys.map (·.length)).sum&&sizeOk (Txt.join (T "") ys).length then some (V.str (Txt.join (T "") ys),H) else none)=_;rw[rj];show(bif sizeOk ((l.map sL).map (·.length)).sum&&sizeOk (Txt.join (T "") (l.map sL)).length then some (V.str (Txt.join (T "") (l.map sL)),H) else none)=_;simp only[GO,Dc,lH,show sizeOk l.flatten.length=true from decide_eq_true h];rfl
section
variable{d:Nat}{H:AH}
end
section
variable{d:Nat}{H:AH}
noncomputable def yN(u o:Nat):List (List (List Nat)):=
 [[[35,107,112,97],[35,75,80,97],[35,13226],[u,35,107,13225]],
 [[109,o,107],[77,u,o,75],[119820,o,107],[109,o,120026,u]],
 [[102,102,34],[64256,34],[70,u,102,34],[120229,70,34]],
 [[115,116,92],[64262,92],[64261,92],[83,u,84,92]]]
abbrev Dd(r:List (List Nat)):V:=.lst (r.map ao)
abbrev GP(u o:Nat):V:=.lst ((yN u o).map Dd)
theorem xD(x:Int):∃u∈fZ,∃o∈f5,aC (d+2) (.fn 183) [.int x] H (GP u o) H:=by
 refine(vy H fZ (λc=>(c:Int)) 27 x rfl (Sr _) (by simp_all)).elim λu z=>z.elim λhu iu=>?_
 refine(vy H f5 (λc=>(c:Int)) 20 x rfl (Sr _) (by simp_all)).elim λo z=>z.elim λho io=>?_
 obtain uB:=of_decide_eq_true (cj (by kernel_rfl:(fZ.all λu=>decide (u<0x110000))=true) u hu);obtain oB:=of_decide_eq_true (cj (by kernel_rfl:(f5.all λu=>decide (u<0x110000))=true) o ho);obtain c2:=IT (H:=H) u uB;obtain c3:=IT (H:=H) o oB;exact⟨u,hu,o,ho,bD (.val 9 iu (.upd 10 c2 (.val 15 io (.upd 16 c3 .nil))))⟩
end
abbrev my(e:Expr)(i:Nat):Expr:=p8 e (i+1)
theorem aK.all{d:Nat}{aB:te}{g:uj}{T:jO}{α:Type}{env:af}{H:AH}(enc f:α->V)(xs:List α)(hz:xs.length<ai)(h:∀x∈xs,∀vs:List V,vs.length+1<ai->eR d aB g T (enc x) env (.l vs) H env (.l (vs++[f x])) H):aK d aB g T (xs.map enc) env (.l []) H env (.l (xs.map f)) H:=by obtain q:=aK.pick enc f (λa=>true) xs [] (by simp only[tm,FR];exact hz) h;rw[QR.mpr λa a=>rfl,Hm] at q;exact q
noncomputable def SG(u o:Nat):List (Nat×List Nat):=[(35,[35]),(107,[107]),(112,[112]),(97,[97]),(75,[107]),(80,[112]),(13226,[107,112,97]),(13225,[112,97]),(109,[109]),(77,[109]),(119820,[109]),(120026,[107]),(102,[102]),(34,[34]),(64256,[102,102]),(70,[102]),(120229,[102]),(115,[115]),(116,[116]),(92,[92]),(64262,[115,116]),(64261,[115,116]),(83,[115]),(84,[116]),(u,[]),(o,[o])]
theorem QW:((SG 0 0).take 24).all p_=true:=by kernel_rfl
theorem Pp{u o:Nat}(hu:u∈fZ)(ho:o∈f5):(SG u o).all p_=true:=by refine(?_:((SG 0 0).take 24++[(u,[]),(o,[o])]).all p_=true);show(p_ (u,[])&&(p_ (o,[o])&&true))=true;rw[cj C_.1 u hu,cj C_.2 o ho];rfl
noncomputable def DI:List (List (List Nat)):=[[[0,1,2,3],[0,4,5,3],[0,6],[24,0,1,7]],[[8,25,1],[9,24,25,4],[10,25,1],[8,25,11,24]],[[12,12,13],[14,13],[15,24,12,13],[16,15,13]],[[17,18,19],[20,19],[21,19],[22,24,23,19]]]
structure fy(raw fold:List Nat):Prop where
 WG:∃ps:List (Nat×List Nat),ps.length<=4/\ps≠[]/\raw=ps.map (·.1)/\fold=(ps.map (·.2)).flatten/\ps.all p_=true
noncomputable def bU(o:Nat):List (List Nat):=[[35,107,112,97],[109,o,107],[102,102,34],[115,116,92]]
theorem EC{P:Nat->Prop}(h0:P 0)(h1:P 1)(h2:P 2)(h3:P 3):∀i,i<4->P i:=λi h=>by
 rcases Nat.lt_succ_iff_lt_or_eq.mp h with h|rfl
 ·rcases Nat.lt_succ_iff_lt_or_eq.mp h with h|rfl
  ·rcases Nat.lt_succ_iff_lt_or_eq.mp h with h|rfl
   ·rw[Nat.lt_one_iff.mp h];exact h0
   ·exact h1
  ·exact h2
 ·exact h3
theorem De{u o:Nat}(hu:u∈fZ)(ho:o∈f5){i j:Nat}(hi:i<4)(hj:j<4):fy (((yN u o).getD i []).getD j []) ((bU o).getD i []):=by
 obtain hS:=Pp hu ho;obtain hd:DI.all (·.all λl=>l.all (Nat.blt · 26)&&(Bi l.length 4&&!l.isEmpty))=true:=by kernel_rfl
 obtain e1:∀i<4,∀j<4,((DI.getD i []).getD j [])∈DI.flatten:=by decide
 have e2:∀i<4,∀j<4,(((yN u o).getD i []).getD j [])=((DI.getD i []).getD j []).map λk=>((SG u o).getD k (0,[])).1:=EC (EC (by kernel_rfl) (by kernel_rfl) (by kernel_rfl) (by kernel_rfl)) (EC (by kernel_rfl) (by kernel_rfl) (by kernel_rfl) (by kernel_rfl)) (EC (by kernel_rfl) (by kernel_rfl) (by kernel_rfl) (by kernel_rfl)) (EC (by kernel_rfl) (by kernel_rfl) (by kernel_rfl) (by kernel_rfl))
 have e3:∀i<4,∀j<4,(bU o).getD i []=(((DI.getD i []).getD j []).map λk=>((SG u o).getD k (0,[])).2).flatten:=EC (EC (by kernel_rfl) (by kernel_rfl) (by kernel_rfl) (by kernel_rfl)) (EC (by kernel_rfl) (by kernel_rfl) (by kernel_rfl) (by kernel_rfl)) (EC (by kernel_rfl) (by kernel_rfl) (by kernel_rfl) (by kernel_rfl)) (EC (by kernel_rfl) (by kernel_rfl) (by kernel_rfl) (by kernel_rfl));refine(List.mem_flatten.mp (e1 i hi j hj)).elim λr z2=>?_;obtain hr:=z2.1;obtain hl:=z2.2
 obtain q:=cj (cj hd r hr) _ hl;obtain q:=a_ q;have q2:=a_ q.2
 refine⟨((DI.getD i []).getD j []).map λk=>(SG u o).getD k (0,[]),by rw[ph];exact Fh q2.1,λe=>?_,by simp only[e2 i hi j hj,tx];rfl,by simp only[e3 i hi j hj,tx];rfl,SU.mpr λp hp=>?_⟩
 ·have :=aam.mp e;rw[this] at q2;exact bE q2.2
 ·obtain⟨k,hk,rfl⟩:=AY hp;obtain hk:=Fh (cj q.1 k hk);rw[tv,sg hk];exact cj hS _ (FC hk)
theorem Df(o:Nat):(bU o).Nodup:=by unfold bU;simp
end Mine
end
noncomputable section
open PySem PySem.W PySem.Builtin PySem.Builtin.Str PyProof.Rows
namespace Mine
theorem fC{α:Type}{hU:Nat->Nat->Option Bool}{i j:Nat}{k:Bool->KasT α}{b:Bool}(h:hU i j=some b):runK hU (.ask i j k)=runK hU (k b):=by rw[runK,h]
theorem rB{α:Type}{hU:Nat->Nat->Option Bool}{i j:Nat}{k:Bool->KasT α}(h:hU i j=none):runK hU (.ask i j k)=none:=by rw[runK,h]
theorem rC{α β:Type}{hU:Nat->Nat->Option Bool}{f:α->KasT β}:∀t:KasT α,runK hU (t.bind f)=(runK hU t).bind λa=>runK hU (f a)
|.ret a=>rfl|.ask i j k=>by
 refine(show(KasT.ask i j k).bind f=KasT.ask i j λb=>(k b).bind f from rfl)▸?_;induction h:hU i j with |none=>rw[rB h,rB h];rfl|some b=>rw[fC h,fC h];exact rC (k b)
theorem dM{α β:Type}{hU:Nat->Nat->Option Bool}{f:α->KasT β}{t:KasT α}{a:α}(h:runK hU t=some a):runK hU (t.bind f)=runK hU (f a):=by rw[rC,h];rfl
noncomputable def gp(p:Array Nat)(i:Nat):Nat:=p.getD i 0
theorem o6(p:Array Nat)(i:Nat):gp p i=(p[i]?).getD 0:=by simp[gp,Array.getD_eq_getD_getElem?]
theorem fD{p:Array Nat}{i j:Nat}(h:j<=p.size)(k:Nat):gp (kas_rev p i j) k=if i<=k/\k<j then gp p (i+j-1-k) else gp p k:=by rw[o6];unfold kas_rev;rw[getElem?_mirror_all h];split<;>simp only[o6]
theorem Ax{p:Array Nat}{src d:Nat}(hs:src<p.size)(hd:d<=src)(k:Nat):gp (bubble p src d) k=if k=src-d then gp p src else if src-d<k/\k<=src then gp p (k-1) else gp p k:=by
 simp only[o6,getElem?_bubble hs d hd,o6,o6,o6];by_cases h1:k=src-d
 ·rw[if_pos h1,if_pos h1]
 ·rw[if_neg h1,if_neg h1];by_cases h2:src-d<k/\k<=src
  ·rw[if_pos h2,if_pos h2]
  ·rw[if_neg h2,if_neg h2]
structure WH(lt:Nat->Nat->Bool):Prop where
 QX:∀i,lt i i=false
 tr:∀i j k,lt i j=true->lt j k=true->lt i k=true
 nt:∀i j k,lt i j=false->lt j k=false->lt i k=false
section
variable{lt:Nat->Nat->Bool}(O:WH lt){hU:Nat->Nat->Option Bool}{N:Nat}(ha:∀i j,i<N->j<N->hU i j=some (lt i j))
def Dg(lt:Nat->Nat->Bool)(a b:Nat):Prop:=lt a b=true\/(lt b a=false/\a<b)
include O
theorem Pr{i j:Nat}(h:lt i j=true):lt j i=false:=by
 induction e:lt j i with |false=>rfl|true=>have :=O.tr i j i h e;rw[O.QX] at this;exact bE this
theorem kI{i j:Nat}(h:Dg lt i j):lt j i=false:=h.elim (Pr O) (·.1)
theorem KU{i j k:Nat}(h:lt i j=true)(h2:lt k j=false):lt i k=true:=by
 induction e:lt i k with |true=>rfl|false=>have :=O.nt _ _ _ e h2;rw[h] at this;exact nomatch this
theorem UI{i j k:Nat}(h:lt j i=false)(h2:lt j k=true):lt i k=true:=by
 induction e:lt i k with |true=>rfl|false=>have :=O.nt _ _ _ h e;rw[h2] at this;exact nomatch this
omit O
structure Cut(p:Array Nat)(N k:Nat):Prop where
 sz:p.size=N
 le:k<=N
 lo:∀i,i<k->gp p i<k
 hi:∀i,k<=i->i<N->gp p i=i
def jA(lt:Nat->Nat->Bool)(p:Array Nat)(k:Nat):Prop:=∀i j,i<j->j<k->Dg lt (gp p i) (gp p j)
theorem Cut.aT{p:Array Nat}{k i:Nat}(C:Cut p N k)(h:i<N):gp p i<N:=by
 by_cases q:i<k
 ·have :=C.lo i q;have :=C.le;lia
 ·rw[C.hi i (aL (nat_lit 4312813825) ae q) h];exact h
theorem Cut.rev{p:Array Nat}{k i j:Nat}(C:Cut p N k)(h:j<=k):Cut (kas_rev p i j) N k:=by
 have hs:j<=p.size:=by rw[C.sz];obtain this:=C.le;exact aW (nat_lit 5067717828804866) ae h this
 refine⟨by unfold kas_rev;rw[mirror_size];exact C.sz,C.le,λa ha=>?_,λa h1 h2=>?_⟩
 ·rw[fD hs];split
  ·exact C.lo _ (by omega)
  ·exact C.lo _ ha
 ·rw[fD hs,if_neg (λx'=>aW (nat_lit 0x9096102012101101103) ae x'.2 h h1)];exact C.hi a h1 h2
theorem Cut.succ{p:Array Nat}{k:Nat}(C:Cut p N k)(h:k<N):Cut p N (k+1):=by
 refine⟨C.sz,h,λi hi=>?_,λi h1 h2=>C.hi i (aL (nat_lit 281548411109633) ae h1) h2⟩;by_cases q:i<k
 ·obtain this:=C.lo i q;exact aL (nat_lit 441454204817665) ae this
 ·rw[C.hi i (aL (nat_lit 4312813825) ae q) (aW (nat_lit 0x20112111191801102) ae hi h)];exact hi
include O ha
theorem xE{p:Array Nat}:∀(f n:Nat),1<=n->n+f=N->Cut p N n->jA lt p n->∃m,n<=m/\runK hU (kas_asc p f n)=some m/\Cut p N m/\jA lt p m/\(m<N->lt (gp p m) (gp p (m-1))=true)
|0,n,h1,h2,C,S=>⟨n,pd _,rfl,C,S,λh=>by lia⟩|f+1,n,h1,h2,C,S=>by
 obtain e:hU (p.getD n 0) (p.getD (n-1) 0)=some (lt (gp p n) (gp p (n-1))):=ha _ _ (C.aT (by lia)) (C.aT (e9 (nat_lit 0x2311219180821030102) ae (Md (n) (1)) h2));refine(fC e)▸?_;induction hc:lt (gp p n) (gp p (n-1)) with
 |true=>exact⟨n,pd _,rfl,C,S,λa=>hc⟩|false=>
  obtain S':jA lt p (n+1):=λi j iw hj=>by
   by_cases q:j<n
   ·exact S i j iw q
   ·obtain ZD:j=n:=by exact aL (nat_lit 0x10251054191801112) ae hj q
    subst ZD;obtain hn:gp p j=j:=C.hi j (aS (nat_lit 256) ae) (by lia);obtain Ir:=C.lo i iw;refine .inr ⟨?_,aW (nat_lit 9025969084961026) ae Ir hn⟩;by_cases q2:i=j-1
    ·exact q2▸(hc)
    ·exact O.nt _ _ _ hc (kI O (S i (j-1) (aL (nat_lit 69005742337) ae (OK (aW (nat_lit 0x20011928101101102) ae iw (Ln.bI (j) (1))) q2)) (aL (nat_lit 282647922745601) ae (rl (aL (nat_lit 1206903640321) ae Ir:1<=j)))))
  obtain⟨m,h3,h4⟩:=xE f (n+1) (aS (nat_lit 107510038784) ae) (aW (nat_lit 0x21190882521918082511) ae h2) (C.succ (by lia)) S';exact⟨m,aL (nat_lit 281548411109633) ae h3,h4⟩
omit O ha
structure KV(lt:Nat->Nat->Bool)(p:Array Nat)(n q:Nat):Prop where
 hq:q<n
 a:∀i j,i<j->j<n-1-q->Dg lt (gp p j) (gp p i)
 b:∀i j,i<n-1-q->n-1-q<=j->j<n->lt (gp p j) (gp p i)=true
 c:∀i j,n-1-q<=i->i<j->j<n->Dg lt (gp p i) (gp p j)/\lt (gp p i) (gp p j)=false
theorem KV.turned{p:Array Nat}{n q:Nat}(D:KV lt p n q)(hs:n<=p.size):∀i j,i<j->j<n->Dg lt (gp (kas_rev p (n-(q+1)) n) j) (gp (kas_rev p (n-(q+1)) n) i):=by
 intro i j iw hj;simp only[fD hs,fD hs];by_cases h2:n-(q+1)<=j
 ·rw[if_pos ⟨h2,hj⟩];by_cases h1:n-(q+1)<=i
  ·rw[if_pos ⟨h1,aW (nat_lit 5085310283288834) ae iw hj⟩];exact(D.c _ _ (by omega) (by exact Ln.go (nat_lit 0x3211101103840141282103) [_,_,_,_,_,0,0,0] ae (rl (Ln.go (nat_lit 0x2001192813801101102) [_,_,_,_,0] ae hj (Ln.bI (n-(q+1)+n) (1)):j<=n-(q+1)+n-1)) (Ln.bI (n-(q+1)+n-1) (i)) iw) (by exact Ln.go (nat_lit 0x3211100130819582151282103) [_,_,_,_,0,_] ae (rl (Ln.go (nat_lit 0x32011938148011011021103) [_,_,_,_,_,0] ae iw hj (Ln.bI (n-(q+1)+n) (1)):i<=n-(q+1)+n-1)) (rl (aW (nat_lit 325562833834241) ae hj:1<=n-(q+1)+n)) h1)).1
  ·rw[if_neg (by lia)];exact .inl (D.b _ _ (by lia) (by omega) (Ln.go (nat_lit 0x3211100130819582151282103) [_,_,_,_,0,_] ae (rl (Ln.go (nat_lit 0x2001192813801101102) [_,_,_,_,0] ae hj (Ln.bI (n-(q+1)+n) (1)):j<=n-(q+1)+n-1)) (rl (aW (nat_lit 571853438468353) ae h1:1<=n-(q+1)+n)) h2))
 ·rw[if_neg (by lia),if_neg (λx'=>aW (nat_lit 0x9096120412111100103) ae x'.1 iw h2)];exact D.a _ _ iw (by lia)
theorem KV.plain{p:Array Nat}{n:Nat}(D:KV lt p n 0):∀i j,i<j->j<n->Dg lt (gp p j) (gp p i):=by
 intro i j iw hj;by_cases h:j<n-1-0
 ·exact D.a i j iw h
 ·exact .inl (D.b i j (v7 (nat_lit 0x3211093840119481011011021104) ae iw hj (Ln.bI (n) (1)) (Ln.bI (n-1) (0))) (aL (nat_lit 4312813825) ae h) hj)
include O ha
theorem tC:∀(f:Nat) (p:Array Nat) (n q:Nat),1<=n->n+f=N->Cut p N n->KV lt p n q->∃p' n' q',runK hU (kas_desc f p n q)=some (p',n',q')/\1<=n'/\n'<=N/\Cut p' N n'/\KV lt p' n' q'/\p'.Perm p
|0,p,n,q,h1,h2,C,D=>⟨p,n,q,rfl,h1,aL (nat_lit 281548142682369) ae h2,C,D,aaE _⟩|f+1,p,n,q,h1,h2,C,D=>by
 have e:hU (p.getD n 0) (p.getD (n-1) 0)=some (lt (gp p n) (gp p (n-1))):=ha _ _ (C.aT (by exact aW (nat_lit 0x201121918082101) ae h2)) (C.aT (by exact e9 (nat_lit 0x2311219180821030102) ae (Md (n) (1)) h2));have e2:hU (p.getD (n-1) 0) (p.getD n 0)=some (lt (gp p (n-1)) (gp p n)):=ha _ _ (C.aT (by exact e9 (nat_lit 0x2311219180821030102) ae (Md (n) (1)) h2)) (C.aT (by exact aW (nat_lit 0x201121918082101) ae h2))
 have hq:=D.hq;have hs:n<=p.size:=by rw[C.sz];exact aW (nat_lit 0x200121918082101) ae h2
 unfold kas_desc;simp only[fC e];induction hc:lt (gp p n) (gp p (n-1)) with
 |true=>
  obtain low:∀i,i<n->lt (gp p n) (gp p i)=true:=λi hi=>by
   by_cases q1:i=n-1
   ·refine q1▸?_;exact hc
   ·refine KU O hc ?_;by_cases q2:i<n-1-q
    ·exact Pr O (D.b i (n-1) q2 (by simp_all) (by exact aL (nat_lit 282647922745601) ae (rl (aL (nat_lit 1206903640321) ae hi:1<=n))))
    ·exact(D.c i (n-1) (aL (nat_lit 4312813825) ae q2) (by lia) (by exact aL (nat_lit 282647922745601) ae (rl (aL (nat_lit 1206903640321) ae hi:1<=n)))).2
  have mk:∀p':Array Nat,Cut p' N n->p'.Perm p->(∀i j,i<j->j<n->Dg lt (gp p' j) (gp p' i))->(∀i,i<n->∃k,k<n/\gp p' i=gp p k)->∃H7 n' q',runK hU (kas_desc f p' (n+1) 0)=some (H7,n',q')/\1<=n'/\n'<=N/\Cut H7 N n'/\KV lt H7 n' q'/\H7.Perm p:=λp' C' hp hd hk=>by
   obtain e1:gp p' n=gp p n:=by simp only[C'.hi n (pd _) (by exact aW (nat_lit 0x201121918082101) ae h2),C.hi n (pd _) (by exact aW (nat_lit 0x201121918082101) ae h2)]
   obtain⟨H7,n',q',a1,a2,a3,a4,a5,a6⟩:=tC f p' (n+1) 0 (by exact aS (nat_lit 107510038784) ae) (by exact aW (nat_lit 0x21190882521918082511) ae h2) (C'.succ (by exact aW (nat_lit 0x201121918082101) ae h2)) ⟨aS (nat_lit 107508994304) ae,λi j iw hj=>hd i j iw (by assumption),λi j hi hj UJ=>by
    have :j=n:=by exact e9 (nat_lit 0x1025020409283041938191804191801114) ae UJ (Ln.bI (n+1) (1)) (Ln.bI (n+1-1) (0)) hj
    cases this;obtain⟨k,jN,FW⟩:=hk i (by assumption);simp only[e1,FW];exact low k jN,λi j h1 h2 h3=>by lia⟩
   exact⟨H7,n',q',a1,a2,a3,a4,a5,a6.trans hp⟩
  by_cases WI:q>0
  ·refine(if_pos WI)▸?_;refine mk _ (C.rev (pd _)) (mirror_perm _ _ _ _) (D.turned hs) (λi hi=>?_);rw[fD hs];split
   ·exact⟨_,by omega,rfl⟩
   ·exact⟨i,hi,rfl⟩
  ·skip
   obtain UK:q=0:=by exact aS (nat_lit 9905537372433) ae WI
   subst UK;exact mk _ C (aaE _) D.plain (λi hi=>⟨i,hi,rfl⟩)
 |false=>
  rw[if_neg (by decide),fC e2];induction hd:lt (gp p (n-1)) (gp p n) with
  |true=>exact⟨p,n,q,rfl,h1,by exact aW (nat_lit 0x200121918082101) ae h2,C,D,aaE _⟩|false=>
   have hn:gp p n=n:=C.hi n (pd _) (by exact aW (nat_lit 0x201121918082101) ae h2);have UL:∀j,n-1-q<=j->j<n->lt (gp p j) (gp p n)=false/\lt (gp p n) (gp p j)=false:=λj h3 h4=>by
    by_cases q1:j=n-1
    ·exact q1▸(⟨hd,hc⟩)
    ·obtain this:=D.c j (n-1) h3 (by lia) (by lia);exact⟨O.nt _ _ _ this.2 hd,O.nt _ _ _ hc (kI O this.1)⟩
   refine tC f p (n+1) (q+1) (by exact aS (nat_lit 107510038784) ae) (by exact aW (nat_lit 0x21190882521918082511) ae h2) (C.succ (by exact aW (nat_lit 0x201121918082101) ae h2)) ⟨aL (nat_lit 0x1918190811101101) ae hq,λi j iw hj=>D.a i j iw (by lia),λi j h3 h4 h5=>?_,λi j h3 h4 h5=>?_⟩
   ·by_cases q1:j<n
    ·exact D.b i j (by lia) (by lia) q1
    ·have :j=n:=by exact aL (nat_lit 0x10251054191801112) ae h5 q1
     subst this;exact UI O hd (D.b i (j-1) (Ln.go (nat_lit 0x201142850119586011968193821319481821101105) [_,_,_,_,_,_,_] ae h3 (rl (aW (nat_lit 0x21908011928191801101102) ae hq (Ln.bI (j+1) (1)):q+1<=j+1-1)) (rl (aS (nat_lit 107510038784) ae:1<=j+1)) (Ln.bI (j) (1)) (Ln.bI (j-1) (q))) (Ln.go (nat_lit 68737302785) [_,_,0,0] ae (Md (j-1) (q))) (by lia))
   ·by_cases q1:j<n
    ·exact D.c i j (by lia) h4 q1
    ·have :j=n:=by exact aL (nat_lit 0x10251054191801112) ae h5 q1
     cases this;have :=UL i (by lia) h4
     exact⟨.inr ⟨this.2,by obtain this:=C.lo i h4;exact aW (nat_lit 9025969084961026) ae this hn⟩,this.1⟩
theorem vA{p:Array Nat}{n:Nat}(h1:1<=n)(hn:n<=N)(C:Cut p N n)(hd:∀i j,i<j->j<n->Dg lt (gp p j) (gp p i)):∃m p',runK hU (kas_tail3 n N p)=some (m,p')/\1<=m/\Cut p' N m/\jA lt p' m/\p'.Perm p:=by
 obtain hs:n<=p.size:=by exact C.sz▸(hn)
 obtain⟨m,a1,a2,a3,a4,_⟩:=xE O ha (p:=kas_rev p 0 n) (N-n) n h1 (aW (nat_lit 0x21082501820420182112) ae (rl (aL (nat_lit 68737302785) ae hn:n<=N)) (Ln.bI (N) (n))) (C.rev (pd _)) (λi j iw hj=>by rw[fD hs,fD hs,if_pos ⟨by lia,aW (nat_lit 5085310283288834) ae iw hj⟩,if_pos ⟨by lia,by omega⟩];exact hd _ _ (by omega) (Ln.go (nat_lit 0x10111098192821200102) [_,_,_,0] ae (Md (0+n-1) (i)) (rl (aL (nat_lit 4670832786804993) ae hj:1<=0+n))));refine⟨m,kas_rev p 0 n,?_,aL (nat_lit 0x1190110010190102) ae h1 a1,a3,a4,mirror_perm _ _ _ _⟩;refine(dM a2).trans ?_;rfl
theorem mz{p:Array Nat}{n:Nat}(h1:1<=n)(hn:n<N)(C:Cut p N n)(hd:∀i j,i<j->j<n->Dg lt (gp p j) (gp p i))(hl:∀i,i<n->lt (gp p n) (gp p i)=true):∃m p',runK hU (kas_descPart n N p)=some (m,p')/\1<=m/\Cut p' N m/\jA lt p' m/\p'.Perm p:=by
 obtain⟨p',n',q',a1,a2,a3,a4,a5,a6⟩:=tC O ha (N-(n+1)) p (n+1) 0 (aS (nat_lit 107510038784) ae) (by grind) (C.succ hn) ⟨aS (nat_lit 107508994304) ae,λi j iw hj=>hd i j iw (by assumption),λi j hi hj UJ=>by
  have :j=n:=by exact e9 (nat_lit 0x1025020409283041938191804191801114) ae UJ (Ln.bI (n+1) (1)) (Ln.bI (n+1-1) (0)) hj
  cases this;exact hl i (by assumption),λi j h1 h2 h3=>by lia⟩
 unfold kas_descPart;rw[dM a1];obtain hs:n'<=p'.size:=by exact a4.sz▸(a3)
 dsimp only;by_cases hq:q'>0
 ·rw[if_pos hq];refine(vA O ha a2 a3 (a4.rev (i:=n'-(q'+1)) (pd _)) (a5.turned hs)).elim λm QA=>?_;refine QA.elim λp2 FD=>?_;obtain b1:=FD.1;obtain b2:=FD.2.1;obtain b3:=FD.2.2.1;obtain b4:=FD.2.2.2.1;obtain b5:=FD.2.2.2.2
  exact⟨m,p2,b1,b2,b3,b4,b5.trans ((mirror_perm _ _ _ _).trans a6)⟩
 ·rw[if_neg hq];obtain UK:q'=0:=by exact aS (nat_lit 9905537372433) ae hq
  subst UK;refine(vA O ha a2 a3 a4 a5.plain).elim λm UM=>?_;refine UM.elim λp2 Dh=>?_;obtain b1:=Dh.1;obtain b2:=Dh.2.1;obtain b3:=Dh.2.2.1;obtain b4:=Dh.2.2.2.1;obtain b5:=Dh.2.2.2.2
  exact⟨m,p2,b1,b2,b3,b4,b5.trans a6⟩
theorem Di{p:Array Nat}(hN:1<=N)(C:Cut p N 1):∃m p',runK hU (kas_count N p)=some (m,p')/\1<=m/\Cut p' N m/\jA lt p' m/\p'.Perm p:=by
 obtain⟨n,a1,a2,a3,a4,a5⟩:=xE O ha (p:=p) (N-1) 1 (pd _) (by exact aL (nat_lit 0x10198251908104119082112) ae (rl (aS (nat_lit 1718256992513) ae hN:1<=N)) (Ln.bI (N) (1))) C (λi j h1 h2=>by omega);unfold kas_count;simp only[dM a2];by_cases hn:n=N
 ·rw[if_pos (by simpa using hn)];exact⟨n,p,rfl,a1,a3,a4,aaE _⟩
 ·rw[if_neg (by simpa using hn)];obtain Pu:n<N:=by obtain this:=a3.le;exact aL (nat_lit 69005742337) ae (OK (aL (nat_lit 68737302785) ae this) hn)
  obtain hl:=a5 Pu;by_cases h1:n>1
  ·refine(if_pos h1)▸?_;obtain e:hU (p.getD 0 0) (p.getD (n-1) 0)=some (lt (gp p 0) (gp p (n-1))):=ha _ _ (a3.aT (by assumption)) (a3.aT (aW (nat_lit 5085310283284738) ae (Md (n) (1)) Pu));refine(fC e)▸?_;induction hc:lt (gp p 0) (gp p (n-1)) with
   |true=>exact⟨n,p,rfl,a1,a3,a4,aaE _⟩|false=>
    obtain le:∀i j,i<=j->j<n->lt (gp p j) (gp p i)=false:=λi j iw hj=>by
     by_cases q:i=j
     ·refine q▸?_;exact O.QX _
     ·exact kI O (a4 i j (aL (nat_lit 69005742337) ae (OK (aL (nat_lit 68737302785) ae iw) q)) hj)
    obtain hs:n<=p.size:=by refine a3.sz▸?_;exact aL (nat_lit 68737306881) ae Pu
    obtain⟨m,p2,b1,b2,b3,b4,b5⟩:=mz O ha a1 Pu (a3.rev (i:=0) (pd _)) (λi j iw hj=>by
     rw[fD hs,fD hs,if_pos ⟨by lia,by omega⟩,if_pos ⟨by lia,aW (nat_lit 5085310283288834) ae iw hj⟩];exact a4 _ _ (by omega) (Ln.go (nat_lit 0x10111098192821200102) [_,_,_,0] ae (Md (0+n-1) (i)) (rl (aL (nat_lit 4670832786804993) ae hj:1<=0+n)))) (λi hi=>by
     rw[fD hs,fD hs,if_neg (λx'=>aS (nat_lit 9935886749953) ae x'.2),if_pos ⟨by lia,by omega⟩];obtain h2:lt (gp p (0+n-1-i)) (gp p (n-1))=false:=O.nt _ _ _ (le 0 _ (aS (nat_lit 590080) ae) (Ln.go (nat_lit 0x10111098192821200102) [_,_,_,0] ae (Md (0+n-1) (i)) (rl (aL (nat_lit 4670832786804993) ae hi:1<=0+n)))) hc;exact KU O hl h2)
    exact⟨m,p2,b1,b2,b3,b4,b5.trans (mirror_perm _ _ _ _)⟩
  ·skip
   obtain ZE:n=1:=by exact aS (nat_lit 0x19025019040195112) ae h1 a1
   subst ZE;exact mz O ha a1 Pu a3 (λi j h1 h2=>by omega) (λi hi=>by
    have :i=0:=by exact aS (nat_lit 9905562980625) ae hi
    subst this;exact hl)
theorem o7{p:Array Nat}{k:Nat}(hk:k<N)(C:Cut p N k)(S:jA lt p k):∀(f l r:Nat),r-l<=f->l<=r->r<=k->(∀i,i<l->lt (gp p k) (gp p i)=false)->(∀i,r<=i->i<k->lt (gp p k) (gp p i)=true)->
  ∃m,runK hU (kas_place p k f l r)=some m/\m<=k/\(∀i,i<m->lt (gp p k) (gp p i)=false)/\(∀i,m<=i->i<k->lt (gp p k) (gp p i)=true)
 |0,l,r,h1,h2,h3,h4,h5=>⟨l,rfl,aW (nat_lit 5067717828804866) ae h2 h3,h4,λi hi hk=>h5 i (e9 (nat_lit 0x130109201100102830103) ae (Ln.bI (r) (l)) hi h1) hk⟩|f+1,l,r,h1,h2,h3,h4,h5=>by
  unfold kas_place;by_cases q:l≥r
  ·rw[if_pos q];exact⟨l,rfl,aW (nat_lit 5067717828804866) ae h2 h3,h4,λi hi hk=>h5 i (aW (nat_lit 5067717828804866) ae q hi) hk⟩
  ·rw[if_neg q];obtain e:hU (p.getD k 0) (p.getD ((l+r)/2) 0)=some (lt (gp p k) (gp p ((l+r)/2))):=ha _ _ (C.aT hk) (C.aT (Ln.go (nat_lit 0x3412104132122002018542a82104) [_,_,_,_,_,_] ae (QQ (l+r) 2) h3 hk q));refine(fC e)▸?_;induction hc:lt (gp p k) (gp p ((l+r)/2)) with
   |true=>
    refine o7 hk C S f l ((l+r)/2) (Ln.go (nat_lit 0x12021918001408301348652a82154282204) [_,_,_,_,_,_,_] ae (rl (e9 (nat_lit 0x210229311018322a831104103) ae q (QQ (l+r) 2) (Nat.mod_lt (l+r) (by decide:0<2)):l<=(l+r)/2)) (QQ (l+r) 2) (Ln.bI (r) (l)) h1) (e9 (nat_lit 0x210229311018322a831104103) ae q (QQ (l+r) 2) (Nat.mod_lt (l+r) (by decide:0<2))) (v7 (nat_lit 0x230210412002018432a82103) ae (QQ (l+r) 2) h3 q) h4 (λi hi ZF=>?_);by_cases q2:i=(l+r)/2
    ·refine q2▸?_;exact hc
    ·exact KU O hc (kI O (S _ i (aL (nat_lit 4580249857) ae (OK (aL (nat_lit 68737302785) ae hi) (aaJ q2))) ZF))
   |false=>
    refine o7 hk C S f ((l+r)/2+1) r (Ln.go (nat_lit 0x120129611348652a831191800140830131958282205) [_,_,_,_,_,_,_] ae (rl (e9 (nat_lit 0x1928021041018322a82102) ae (QQ (l+r) 2) q:(l+r)/2+1<=r)) (Ln.bI (r) (l)) h1 (QQ (l+r) 2) (Nat.mod_lt (l+r) (by decide:0<2))) (e9 (nat_lit 0x1928021041018322a82102) ae (QQ (l+r) 2) q) h3 (λi hi=>?_) h5;by_cases q2:i=(l+r)/2
    ·exact q2▸(hc)
    ·exact O.nt _ _ _ hc (kI O (S i _ (aL (nat_lit 69005742337) ae (OK (aL (nat_lit 281550432243969) ae hi) q2)) (v7 (nat_lit 0x231210412002018432a82103) ae (QQ (l+r) 2) h3 q)))
theorem Dj:∀(f:Nat) (p:Array Nat) (k:Nat),k+f=N->Cut p N k->jA lt p k->∃p',runK hU (kas_bin f p k)=some p'/\jA lt p' N/\p'.Perm p
|0,p,k,h,C,S=>by
 have :k=N:=by omega
 subst this;exact⟨p,rfl,S,aaE _⟩
|f+1,p,k,h,C,S=>by
 have hk:k<N:=by lia
 obtain⟨l,a1,a2,a3,a4⟩:=o7 O ha hk C S k 0 k (aL (nat_lit 68737302785) ae (Md (k) (0))) (by lia) (pd _) (λi hi=>by lia) (λi h1 h2=>by lia);refine(dM a1)▸?_;obtain hs:k<p.size:=by exact C.sz▸(hk)
 have hb:=λi=>Ax (p:=p) (src:=k) (d:=k-l) hs (Ln.go (nat_lit 68737302785) [_,_,0] ae (Md (k) (l))) i
 have MV:gp p k=k:=C.hi k (pd _) hk;obtain⟨p',b1,b2,b3⟩:=Dj f (bubble p k (k-l)) (k+1) (aW (nat_lit 0x21190882521918082511) ae h) ⟨by rw[bubble_size];exact C.sz,hk,λi hi=>by
   rw[hb];split
   ·rw[MV];exact aS (nat_lit 6719279360) ae
   ·split
    ·have :=C.lo (i-1) (by lia);exact aL (nat_lit 441454204817665) ae this
    ·obtain this:=C.lo i (by lia);exact aL (nat_lit 441454204817665) ae this,λi h1 h2=>by
   rw[hb,if_neg (by exact Ln.go (nat_lit 0x9096121210201119080103) [_,_,_,0,0] ae h1 (Md (k) (k-l))),if_neg (λx'=>aL (nat_lit 0x909610191801100102) ae x'.2 h1)];exact C.hi i (aL (nat_lit 281548411109633) ae h1) h2⟩ (λi j iw hj=>by
  obtain low:∀i,i<l->Dg lt (gp p i) (gp p k):=λi hi=>.inr ⟨a3 i hi,by have :=C.lo i (aW (nat_lit 9026032704164098) ae hi a2);exact aW (nat_lit 9025969084961026) ae this MV⟩
  obtain high:∀i,l<=i->i<k->Dg lt (gp p k) (gp p i):=λi h1 h2=>.inl (a4 i h1 h2)
  simp only[hb,hb];by_cases c1:i=k-(k-l)
  ·rw[if_pos c1,if_neg (by exact aW (nat_lit 0x9096112212011103103) ae c1 iw),if_pos ⟨aW (nat_lit 9307503654351106) ae c1 iw,aL (nat_lit 281550432243969) ae hj⟩];exact high _ (Ln.go (nat_lit 0x430119482012011103161850153682105) [_,_,_,_,_,_,_] ae (rl (aL (nat_lit 68737302785) ae a2:l<=k)) (Ln.bI (k) (k-l)) c1 iw (Ln.bI (j) (1))) (aW (nat_lit 0x12111918011019282102) ae (rl (aL (nat_lit 1206903640321) ae iw:1<=j)) hj)
  ·rw[if_neg c1];by_cases c2:j=k-(k-l)
   ·rw[if_pos c2,if_neg (λx'=>aL (nat_lit 0x909610111101102) ae x'.1 (OK (aW (nat_lit 5067718365679874) ae iw c2) c1))];exact low _ (v7 (nat_lit 0x2011248301341821101103) ae (OK (aW (nat_lit 5067718365679874) ae iw c2) c1) (rl (Ln.go (nat_lit 68737302785) [_,_,0] ae (Md (k) (l)):k-l<=k)) (Ln.bI (k) (l)))
   ·skip
    repeat' split
    all_goals exact S _ _ (by(first|exact e9 (nat_lit 0x321119381011011019282103) ae (rl (Ln.go (nat_lit 2306416316673) [_,0,_] ae ‹_›.1:1<=i)) iw (Ln.bI (j) (1))|exact aW (nat_lit 5085310283284738) ae (Md (i) (1)) iw|exact aL (nat_lit 69005742337) ae iw|lia)) (by lia))
 exact⟨p',b1,b2,b3.trans (bubble_perm _ _ _)⟩
theorem GQ(hN:1<=N):∃p',runK hU (kas_sort N)=some p'/\jA lt p' N/\p'.Perm (w8 N).toArray:=by
 have hg:∀i,i<N->gp (w8 N).toArray i=i:=λi hi=>by simp[gp,hi]
 obtain⟨m,p,a1,a2,a3,a4,a5⟩:=Di O ha (p:=(w8 N).toArray) hN ⟨by simp,hN,λi hi=>by rw[hg i (aL (nat_lit 0x1011119011901102) ae hi hN)];exact hi,λi a h=>hg i h⟩;refine(dM a1)▸?_;dsimp only;by_cases h:m<N
 ·rw[if_pos h,show max m 1=m by lia];refine(Dj O ha (N-m) p m (aW (nat_lit 0x21082501820420182112) ae (rl (aL (nat_lit 68737306881) ae h:m<=N)) (Ln.bI (N) (m))) a3 a4).elim λp' wZ=>?_;obtain b1:=wZ.1;obtain b2:=wZ.2.1;obtain b3:=wZ.2.2
  exact⟨p',b1,b2,b3.trans a5⟩
 ·rw[if_neg h];have :m=N:=by obtain this:=a3.le;exact aL (nat_lit 4544351687409938) ae this h
  subst this;exact⟨p,rfl,a4,a5⟩
end
theorem range_getD{α:Type}(as:List α)(d:α):(w8 as.length).map (λi=>as.getD i d)=as:=by apply List.ext_getElem (by grind);intro i h1 h2;simp[h2]
theorem o8{α κ:Type}(as:List α)(enc:α->V)(key:α->κ)(xF:κ->V)(lt:κ->κ->Bool)(hv:∀a∈as,∀b∈as,LW bj (xF (key a)) (xF (key b))=some (lt (key a) (key b)))
  (QX:∀a,lt a a=false)(tr:∀a b c,lt a b=true->lt b c=true->lt a c=true)(nt:∀a b c,lt a b=false->lt b c=false->lt a c=false)
  (hs:sortable (as.map λa=>xF (key a))=true)(hl:as.length<64):
  ∃bs:List α,bO (as.map λa=>xF (key a)) (as.map enc)=some (.lst (bs.map enc))/\bs.Perm as/\∀R:α->α->Prop,as.Pairwise R->bs.Pairwise (λa b=>lt (key a) (key b)=true\/(lt (key b) (key a)=false/\R a b)):=by
 unfold bO;rw[ph];by_cases h2:as.length<2
 ·rw[if_pos h2];refine⟨as,rfl,List.Perm.refl _,λR d=>?_⟩;induction as using List.casesOn with |nil=>exact .nil|cons a r=>induction r using List.casesOn with |nil=>exact List.pairwise_singleton ..|cons _ _=>exact absurd h2 (vi (Nat.le_add_left ..))
 ·rw[if_neg h2,if_pos (by simp_all)];obtain⟨a0,TG⟩:∃a0,a0∈as:=⟨as[0]'(aS (nat_lit 623081705729) ae h2),FC _⟩;let lt':Nat->Nat->Bool:=λi j=>lt (key (as.getD i a0)) (key (as.getD j a0))
  obtain O:WH lt':=⟨λd=>QX _,λd d d=>tr _ _ _,λd d d=>nt _ _ _⟩;obtain mem:∀i,as.getD i a0∈as:=λi=>by
   rw[tv];cases h:as[i]? with |none=>exact TG|some x=>exact Fn h
  obtain ha:∀i j,i<as.length->j<as.length->sortAns (as.map λa=>xF (key a)) i j=some (lt' i j):=λi j hi hj=>by
   unfold sortAns;rw[x3,x3,sg hi,sg hj];obtain e1:as.getD i a0=as[i]:=by simp[hi]
   obtain e2:as.getD j a0=as[j]:=by simp[hj]
   show LW bj (xF (key as[i])) (xF (key as[j]))=some (lt (key (as.getD i a0)) (key (as.getD j a0)));rw[e1,e2];exact hv _ (FC _) _ (FC _)
  refine(GQ O ha (aS (nat_lit 1718298366209) ae h2)).elim λp z2=>?_;obtain b1:=z2.1;obtain b2:=z2.2.1;obtain b3:=z2.2.2
  obtain hp:p.toList.Perm (w8 as.length):=by exact b3.toList
  have hm:∀i∈p.toList,i<as.length:=λi hi=>by simpa using hp.mem_iff.mp hi
  refine⟨p.toList.map λi=>as.getD i a0,?_,?_,λR hR=>?_⟩
  ·rw[b1];show some (V.lst _)=_;congr 2;rw[tx];refine List.map_congr_left λi hi=>?_
   obtain this:=hm i hi;simp[this]
  ·obtain this:=hp.map λi=>as.getD i a0
   rwa [range_getD] at this
  ·rw[List.pairwise_map,List.pairwise_iff_getElem];intro i j hi hj iw;obtain hz:p.toList.length=as.length:=by simpa using hp.length_eq
   obtain g:∀k (hk:k<p.toList.length),gp p k=p.toList[k]:=λk hk=>by
    rw[o6];have :k<p.size:=by exact hk
    simp[this]
   obtain this:=b2 i j iw (aW (nat_lit 5085310551724290) ae hj hz);rw[g i hi,g j hj] at this;rcases this with h|⟨h,h3⟩
   ·exact .inl h
   ·refine .inr ⟨h,?_⟩;have i1:=hm _ (FC hi);obtain j1:=hm _ (FC hj);obtain this:=List.pairwise_iff_getElem.mp hR _ _ i1 j1 h3;rw[show as.getD (p.toList[i]) a0=as[p.toList[i]] by simp only[tv,sg i1,Option.getD_some],show as.getD (p.toList[j]) a0=as[p.toList[j]] by simp only[tv,sg j1,Option.getD_some]];exact this
theorem e8(a:Str):strLt a a=false:=by unfold strLt;grind [List.lt_irrefl]
theorem kJ(a b c:Str)(h:strLt a b=true)(k:strLt b c=true):strLt a c=true:=by unfold strLt at *;simp only[decide_eq_true_eq] at *;exact List.lt_trans h k
theorem Dk(a b c:Str)(h:strLt a b=false)(k:strLt b c=false):strLt a c=false:=by
 unfold strLt at *;rw[decide_eq_false_iff_not] at *;intro hc;have h':=h
 have k':=k;exact(List.le_trans k' h') hc
theorem lK(a b:Str)(h:strLt a b=false)(k:strLt b a=false):a=b:=by
 unfold strLt at *;simp only[decide_eq_false_iff_not] at *;have h':=h
 have k':=k;obtain e:=List.le_antisymm k' h';induction a;induction b;simpa using e
end Mine
end
noncomputable section
open PySem PySem.W PySem.Builtin PySem.Builtin.Str
namespace Mine
section
variable{X H:AH}{d:Nat}
theorem bM{a b:List Nat}(h:sL a=sL b):a=b:=by simpa [sL] using h
theorem lM(a b:List Nat):(sL a==sL b)=decide (a=b):=by rw[Bool.eq_iff_iff];simp only[beq_iff_eq,decide_eq_true_eq];exact⟨bM,λe=>e▸rfl⟩
theorem gW(x:Str):∀ys:List Str,eqRow (.str x) (ys.map .str)=some (ys.map (·==x))|[]=>rfl|y::r=>congrArg (λo=>match some (y==x),o with |some p,some q=>some (p::q)|_,_=>none) (gW x r)
theorem o9(x:Str)(ys:List Str):(eqRow (.str x) (ys.map .str)).map (·.any id)=some (ys.any (·==x)):=by rw[gW];exact congrArg some List.any_map
theorem tD(x:Str)(ys:List Str):i7 (.str x) (ys.map .str)=ys.findIdx? (·==x):=by unfold i7;rw[gW];exact List.findIdx?_map ..
theorem kK:∀l:List Int,sumInts (l.map .int)=some l.sum|[]=>rfl|i::r=>by refine(?_:(sumInts (r.map .int)).map (i+·)=_);refine(kK r)▸?_;rfl
theorem GR{a b:List V}(h:a.length+b.length<2^20):binop .Add (.lst a) (.lst b)=some (.lst (a++b)):=by refine(?_:(if sizeOk (a.length+b.length) then some (V.lst (a++b)) else none)=_);refine(show sizeOk (a.length+b.length)=true from decide_eq_true h).symm▸?_;rfl
theorem o_{xs:List V}{i:Nat}{v:V}(h:xs[i]?=some v)(hn:xs.length<2^60):item X (.lst xs) (.int i)=some v:=vh (.inl rfl) h hn
theorem KW{β:Type}(f:β->V)(o:Option β)(d:β):(o.map f).getD (f d)=f (o.getD d):=by induction o<;>rfl
theorem vB(n:Nat)(v:V)(h:n<1000):binop .Mult (.lst [v]) (.int n)=some (.lst (t4 n v)):=by obtain e:=bX ⟨decide_eq_true (Kb n),decide_eq_true (aae.mpr h)⟩;refine(?_:(if(decide ((0:Int)<=(n:Int))&&decide ((n:Int)<1000))=true then some (V.lst (t4 (n:Int).toNat v)) else none)=_);refine e.symm▸?_;rfl
theorem tF{xs:List V}{v:V}{n:Nat}(h:eS v xs=some n):x6 xs (T "count") [v] X=some (.int n,X):=congrArg (Option.map λ(n:Nat)=>(V.int n,X)) h
theorem rD(f:V->V->Option Bool):∀l:List V,(∀v∈l,f v v=some true)->veqs f l l=some true|[],aR=>rfl|x::xs,h=>by refine(?_:(match f x x,veqs f xs xs with |some p,some q=>some (p&&q)|_,_=>none)=_);simp only[h x (.head _),rD f xs (λv hv=>h v (.tail _ hv))];rfl
theorem gX(H:AH)(l:List V)(h:∀v∈l,gH 9 H v v=some true):gH bj H (.lst l) (.lst l)=some true:=by refine(?_:alt (bif l.length==l.length then veqs (gH 9 H) l l else none) none=_);simp only[beq_self_eq_true,rD _ l h];rfl
theorem Dl(H:AH)(i:Int):gH 9 H (.int i) (.int i)=some true:=by show some (i==i)=_;simp
theorem Dm(H:AH)(i:Str):gH 9 H (.str i) (.str i)=some true:=by show some (i==i)=_;simp
theorem yO(x:List Nat)(l:List (List Nat)):(l.map sL).any (·==sL x)=decide (x∈l):=by
 rw[Bool.eq_iff_iff];simp only[List.any_eq_true,xt,decide_eq_true_eq];constructor
 ·rintro⟨_,⟨y,hy,rfl⟩,h⟩;rw[lM] at h;refine(of_decide_eq_true h)▸?_;exact hy
 ·intro h;exact⟨sL x,⟨x,h,rfl⟩,by simp⟩
theorem eZ(H:AH)(x:List Nat)(l:List (List Nat)):bG H .In (ao x) (.lst (l.map ao))=some (.bool (decide (x∈l))):=by
 obtain h1:(eqRow (ao x) (l.map ao)).map (·.any id)=some (decide (x∈l)):=by simp only[show l.map ao=(l.map sL).map .str by simp only[tx];rfl,show ao x=.str (sL x) from rfl,o9,yO]
 refine(?_:((eqRow (ao x) (l.map ao)).map (·.any id)).map V.bool=_);rw[h1];rfl
theorem m_{X:AH}{xs:List V}{v:V}{i:Nat}(hi:i7 v xs=some i):x6 xs (T "index") [v] X=some (.int i,X):=congrArg (Option.map λ(n:Nat)=>(V.int n,X)) hi
theorem IU{X:AH}(l:List Int):lT "sum" [.lst (l.map .int)] X=some (.int l.sum,X):=congrArg (Option.map λi=>(V.int i,X)) (kK l)
noncomputable def idxG{β:Type}:Nat->List β->List (Nat×β)|aR,[]=>[]|i,c::r=>(i,c)::idxG (i+1) r
theorem rF{β:Type}(f:β->V):∀(i:Nat) (l:List β),aX (i:Int) (l.map f)=(idxG i l).map λ(p:Nat×β)=>V.tup [.int (p.1:Int),f p.2]|aR,[]=>rfl|i,c::r=>by refine(?_:V.tup [.int i,f c]::aX ((i:Int)+1) (r.map f)=_);obtain this:=rF f (i+1) r;rw[show(((i+1:Nat):Int))=(i:Int)+1 by exact nR (nat_lit 7045127474750736) ae] at this;rw[this];rfl
theorem iT{β:Type}:∀(i:Nat) (l:List β),(idxG i l).length=l.length|aR,[]=>rfl|i,c::r=>by simp[idxG,iT (i+1) r]
theorem pg{β:Type}:∀{i:Nat} {l:List β} {p:Nat×β},p∈idxG i l->i<=p.1/\p.1<i+l.length/\p.2∈l/\l[p.1-i]?=some p.2
|i,c::r,p,h=>by
 rcases bx h with rfl|h
 ·simp
 ·obtain z1:=pg h;obtain h1:=z1.1;obtain h3:=z1.2.2.1;obtain h4:=z1.2.2.2;refine⟨by solve_by_elim [pd,y7,xp,vb,vw,X2],by exact aW (nat_lit 0x19281801121918801101) ae z1.2.1,.tail _ h3,?_⟩;simp only[show p.1-i=(p.1-(i+1))+1 by exact e9 (nat_lit 0x191802530820421938183419381820123082114) ae (rl (aL (nat_lit 281548411109633) ae h1:i<=p.fst)) (Ln.bI (p.fst) (i+1)) (rl (aL (nat_lit 0x1190801119080101) ae h1:i+1<=p.fst)) (Ln.bI (p.fst) (i)),List.getElem?_cons_succ];exact h4
theorem rG(l:List (List Nat)):gH bj H (.lst (l.map ao)) (.lst (l.map ao))=some true:=gX H _ λv hv=>by
 refine(AY hv).elim λx z4=>?_;obtain z5:=z4.2;subst z5
 exact Dm H _
theorem Dp{α:Type}(l:List α)(k:Nat):l.take (min k l.length)=l.take k:=by
 rcases Nat.le_total k l.length with h|h
 ·rw[Nat.min_eq_left h]
 ·simp only[Nat.min_eq_right h,List.take_length,Q1 h]
theorem pn{α:Type}(l:List α)(k:Nat):cut l none (some (k:Int))=l.take k:=by refine(?_:(l.drop 0).take (clipAt l.length (k:Int)-0)=_);simp only[List.drop_zero,Nat.sub_zero,clipAt_nat,Dp]
theorem vC(c6:Int)(e cnt:Nat):∀(ws:List (List Nat×List Nat)) (i:Nat),ws≠[]->i+ws.length=cnt->
  ((idxG i ws).map λp=>wg p.2.1 (c6.fdiv (16^p.1)) (if p.1+1=cnt then e else 0)).flatten=txtL ((idxG i ws).map λp=>(p.2.1,c6.fdiv (16^p.1))) e
 |[],i,h,aR=>absurd rfl h|[p],i,aR,h=>by simp only[idxG,xb,List.map_nil,List.flatten_cons,List.flatten_nil,rn,txtL];exact congrArg _ (if_pos (h))|p::q::r,i,aR,h=>by obtain ih:=vC c6 e cnt (q::r) (i+1) (by simp) (aW (nat_lit 0x21918190882521919188082511) ae h);rw[show idxG i (p::q::r)=(i,p)::idxG (i+1) (q::r) from rfl,xb,List.flatten_cons,ih,if_neg (by exact aW (nat_lit 0x90961219083121919188082102) ae h)];rfl
theorem yP(raw:List Nat)(way:Int)(e:Nat):(wg raw way e).length<=2* raw.length+5:=by
 obtain h1:=o5 (jn raw way) (allB way) raw 0;obtain h2:=vq (jn raw way) way e;unfold wg;simp only[pj,pj];obtain h3:(bif jn raw way then [34] else([]:List Nat)).length<=1:=by induction jn raw way<;>decide
 exact e9 (nat_lit 0x5932a8120880132a201491011900103) ae h3 h2 h1
theorem GS{p:Nat×List Nat}(h:p_ p=true):p.2.length<=3:=Fh (a_ h).1
theorem tG{α:Type}(f:α->List Nat)(m:Nat):∀qs:List α,(∀p∈qs,(f p).length<=m)->((qs.map f).flatten).length<=m* qs.length
|[],aR=>zr _|p::r,h=>by
 obtain h1:=tG f m r λq hq=>h q (.tail _ hq)
 obtain h2:=h p (.head _);simp only[xb,List.flatten_cons,pj,pE,Nat.mul_succ];exact e9 (nat_lit 0x138208013201100102) ae h2 h1
theorem iU{raw fold:List Nat}(W:fy raw fold):raw.length<=4/\fold.length<=12/\raw≠[]:=by
 obtain⟨ps,h1,h0,rfl,rfl,hg⟩:=W.WG;refine⟨by rw[ph];exact h1,?_,λe=>h0 (aam.mp e)⟩;obtain this:=tG (·.2) 3 ps λp hp=>GS (cj hg p hp)
 exact aL (nat_lit 0xc90014910313a00102) ae this h1
abbrev LN(ws:List (List Nat×List Nat))(c6:Int):List (List Nat×Int):=(idxG 0 ws).map λp=>(p.2.1,c6.fdiv (16^p.1))
theorem yQ(e:Nat):∀(l:List (List Nat×Int)),(∀p∈l,p.1.length<=4)->(txtL l e).length<=13* l.length
|[],aR=>by simp[txtL]|[p],h=>by obtain this:=yP p.1 p.2 e;simp[txtL] at *;exact aL (nat_lit 0xd9101490025902a810102) ae this h
|p::q::r,h=>by
 obtain h1:=yQ e (q::r) λq hq=>h q (.tail _ hq)
 obtain h2:=h p (.head _);obtain this:=yP p.1 p.2 0;refine(?_:(wg p.1 p.2 0++txtL (q::r) e).length<=_);exact pj▸(e9 (nat_lit 0x1919388da208011938da201491025912a800103) ae this h2 h1)
theorem yR{ws:List (List Nat×List Nat)}{c6:Int}{e:Nat}(hw:ws.length<=10)(hW:∀p∈ws,fy p.1 p.2):(txtL (LN ws c6) e).length<200:=by
 obtain this:=yQ e (LN ws c6) λq hq=>by obtain⟨p,hp,rfl⟩:=AY hq;exact(iU (hW _ (pg hp).2.2.1)).1
 simp only[ph,iT] at this;omega
theorem GU(ws:List (List Nat×List Nat))(c6:Int):(LN ws c6).map (·.1)=ws.map (·.1):=by
 have :∀i,((idxG i ws).map λp=>(p.2.1,c6.fdiv (16^p.1))).map (·.1)=ws.map (·.1):=by
  induction ws with |nil=>intro i;rfl|cons p r ih=>intro i;simp[idxG,ih (i+1)]
 exact this 0
theorem xG{raw fold:List Nat}(W:fy raw fold):∃fs:List (List Nat),((raw.filter λ(c:Nat)=>!cZ.contains (c:Int)).map λc=>V.str (mq c))=fs.map (λq=>.str (sL q))/\fs.flatten=fold:=by
 obtain⟨ps,_,_,rfl,rfl,hg⟩:=W.WG;obtain key:∀qs:List (Nat×List Nat),qs.all p_=true->∃fs:List (List Nat),(((qs.map (·.1)).filter λ(c:Nat)=>!cZ.contains (c:Int)).map λc=>V.str (mq c))=fs.map (λq=>.str (sL q))/\fs.flatten=(qs.map (·.2)).flatten:=by
  intro qs;induction qs with
  |nil=>intro _;exact⟨[],rfl,rfl⟩|cons p r ih=>
   intro h;obtain h:=a_ h;refine(ih h.2).elim λfs z=>z.elim λh1 h2=>?_
   obtain h3:=(a_ h.1).2;simp only[xb,xb,List.flatten_cons];induction hc:cZ.contains (p.1:Int) with |true=>rw[hc] at h3;rw[List.isEmpty_iff.mp h3,He (by refine hc.symm▸?_;exact wy)];exact⟨fs,h1,h2⟩|false=>rw[hc] at h3;rw[Kj (by refine hc▸?_;rfl)];exact⟨p.2::fs,by rw[xb,xb,h1,eq_of_beq h3],by simp only[List.flatten_cons,h2]⟩
 exact key ps hg
noncomputable abbrev ir(ws:List (List Nat×List Nat)):List (List Nat):=ws.map Prod.fst++[[],[]]
theorem Dq{ws:List (List Nat×List Nat)}(hw:ws.length<=10)(hW:∀p∈ws,fy p.1 p.2):(ir ws).flatten.length<=40:=by
 obtain this:=tG Prod.fst 4 ws λp hp=>(iU (hW p hp)).1
 simp only[List.flatten_append,pj];exact aL (nat_lit 0x28e090801a910414a00102) ae this hw
theorem gC(a b:Int)(h:(small a&&small b)=true):binop .Mult (.int a) (.int b)=some (.int (a* b)):=by show(if small a&&small b then some (V.int (a* b)) else none)=_;refine h.symm▸?_;rfl
abbrev UN(s:B2):Expr:=Gq s
abbrev UO(e:Expr)(i:Nat):Expr:=p8 e i
abbrev Pw(e:Expr):Expr:=p8 e 1
theorem eE{a b:V}(h:gH bj X a b=some true):bG X .NotEq a b=some (.bool false):=by refine(?_:(gH bj X a b).map (λr=>V.bool !r)=_);refine h▸?_;rfl
theorem eq_true{a b:V}(h:gH bj X a b=some true):bG X .Eq a b=some (.bool true):=by show(gH bj X a b).map V.bool=_;rw[h];rfl
theorem vD{k:Nat}{xs ys:List V}(h:X[k]?=some (.lst xs)):gH bj X (.ref k) (.lst ys)=gH bj X (.lst xs) (.lst ys):=congrArg (λv=>alt (dP v λxs=>dP (V.lst ys) λys=>bif xs.length==ys.length then veqs (gH 9 X) xs ys else none) (iB v λkx=>iB (V.lst ys) λky=>bif kx.length==ky.length&&veqd (gH 9 X) ky kx then some true else none)) (kE h)
theorem Dr(x:List Nat):nH (sL x) (T "count") [.str (T "\n")] X=some (.int (eO x),X):=by
 obtain e:∀o,uc (T "\n")=o->nH (sL x) (T "count") [.str (T "\n")] X=(match o with |some c=>pure (V.int (nC c (sL x)))|none=>M.fail:M V) X:=λo h=>by cases h;kernel_rfl
 show some (V.int (nC 10 (sL x)),X)=_;rfl
theorem aK.skip{aB:te}{g:uj}{Tl:jO}{α:Type}{env:af}(enc:α->V):∀(xs:List α),(∀x∈xs,eR d aB g Tl (enc x) env (.l []) H env (.l []) H)->aK d aB g Tl (xs.map enc) env (.l []) H env (.l []) H|[],aR=>.nil|x::xs,h=>(h x (.head _)).go (aK.skip enc xs λy hy=>h y (.tail _ hy))
theorem joinR{k:Nat}{l:List (List Nat)}(hk:X[k]?=some (.lst (l.map ao)))(h:l.flatten.length<2^20):nH (T "") (T "join") [.ref k] X=some (.str (sL l.flatten),X):=(show qw (T "") (.ref k) X=qw (T "") (.lst (l.map ao)) X by unfold qw;refine(kE hk).symm▸?_;rfl).trans (xC h)
abbrev Px(e:Expr):Expr:=p8 e 0
theorem xH{k:Nat}{xs:List V}{lo hi:Option Int}(h:X[k]?=some (.lst xs)):slice X (.ref k) lo hi=some (.lst (cut xs lo hi)):=by unfold slice;simp only[kE h]
noncomputable def ZG(e:Expr):Expr:=by induction e using Expr.casesOn with |Call f as ks p=>exact(ks.head?.map (·.value)).getD f|_=>exact .Constant .none 0 default
theorem rH{xs:List V}{i:Int}{j:Nat}{v:V}(e:i+xs.length=j)(h0:i<0)(h:xs[j]?=some v)(hn:xs.length<2^60):item X (.lst xs) (.int i)=some v:=vh (.inr ⟨e,h0⟩) h hn
end
abbrev mh:te:=jg 22
abbrev lS(i:Nat):B2:=cf (bd 22) i
abbrev LX(d:Nat)(i:Nat)(env:af)(H:AH)(fl:Fl)(aj:af)(H':AH):Prop:=jy (d+8) mh env (lS i) H fl aj H'
abbrev cS(l:List (List Nat)):V:=.lst (l.map ao)
noncomputable abbrev UP(mk:List Nat):V:=.lst (mk.map λ(m:Nat)=>V.int m)
noncomputable abbrev vE(cs:List Int):V:=.lst (cs.map .int)
abbrev QY(ns:List Int):af:=[(T "script",.lst (ns.map .int))]
abbrev UQ(cs:List Int):af:=[(T "cells",vE cs)]
abbrev UR(cs:List Int)(u o:Nat):af:=[(T "cells",vE cs),(T "dresses",GP u o)]
abbrev US(cs:List Int)(u o:Nat):af:=UR cs u o++[(T "plain",cS (bU o))]
abbrev UT(cs:List Int)(u o cnt:Nat):af:=US cs u o++[(T "count",.int cnt)]
abbrev QZ(cs:List Int)(u o cnt:Nat)(wk:List Nat):af:=UT cs u o cnt++[(T "walk",UP wk)]
abbrev WJ(cs:List Int)(u o cnt:Nat)(wk:List Nat)(rs:List (List Nat)):af:=[(T "cells",vE cs),(T "plain",cS (bU o)),(T "count",.int cnt),(T "walk",UP wk),(T "raws",cS rs)]
section
variable{d:Nat}{H:AH}{ns cs:List Int}{u o cnt e:Nat}{wk:List Nat}{rs:List (List Nat)}
theorem UU:∃cs:List Int,cs.length=6/\LX d 0 (QY ns) H .next (UQ cs) (H++[.gone]):=by
 refine(CY (d:=d+6) (ns:=ns) (m:=6) (k:=H.length) (H:=H++[.gone]) (cs:=[5651748,7304918,1220187735329,3613017953,5,5]) (pj▸(BM _)) (Sr _) (by simp_all) rfl).elim λcs z=>z.elim λhl hc=>?_
 simp only[ez,ez] at hc;obtain q:LX d 0 (QY ns) H .next (QY ns++UQ cs) (H++[.gone]):=bL (.call hc .nil);exact⟨cs,hl,q.keep (ks:=[T "cells"]) (by kernel_rfl)⟩
theorem f6(dh:cs.length=6)(k:Nat)(hk:k<6)(X:AH):∃c,cs[k]?=some c/\item X (vE cs) (.int k)=some (.int c):=by obtain h:=dh▸hk;refine⟨cs[k],sg h,o_ ?_ (by simp only[ph,dh];decide)⟩;simp only[x3,sg h];rfl
theorem kL(x:Int)(m:Nat)(h:0<m):∃j:Nat,j<m/\x.fmod m=j:=by obtain h0:=Int.fmod_nonneg_of_pos _ (aae.mpr h);obtain h1:=Int.fmod_lt_of_pos _ (aae.mpr h);exact⟨(x.fmod m).toNat,Iz.go (nat_lit 76850404148093186) [_,_] [_] ae (aao (uw (nat_lit 653104087297) ae h0)) h1,(aao h0).symm⟩
theorem UW(dh:cs.length=6):∃u∈fZ,∃o∈f5,LX d 1 (UQ cs) H .next (UR cs u o) H:=by
 refine(f6 dh 1 (by simp_all) H).elim λc z=>z.elim λa hc=>?_
 refine(xD (d:=d+6) (H:=H) (c.fdiv (4^10))).elim λu ZH=>?_;refine ZH.elim λhu ZI=>?_;refine ZI.elim λo WK=>?_;obtain ho:=WK.1;obtain q:=WK.2
 exact⟨u,hu,o,ho,bL (.val 2 hc (.call q .nil))⟩
theorem UX:LX d 2 (UR cs u o) H .next (US cs u o) H:=by
 obtain lp:bZ (d+8) (cX (lS 2)) ((yN u o).map Dd) [] (.l []) H (.l ((yN u o).map λr=>ao (r.headD []))) H:=
  aK.all Dd _ (yN u o) (show 4<ai by decide) λr hr vs hv=>by
   obtain hn:r≠[]:=by intro e;subst e;simp[yN] at hr
   induction r with
   |nil=>exact absurd rfl hn|cons w r=>
    obtain hl:(w::r).length<100:=by obtain this:=cj (by rfl:(yN u o).all (λr=>Nat.blt r.length 100)=true) _ hr;exact Fh this
    obtain it:item H (Dd (w::r)) (.int 0)=some (ao w):=o_ rfl (by rw[ph];exact aS (nat_lit 0x1000000000000000100f01164e01101) ae hl);exact aM [] (.val 1 it (.no 2 (aP hv) .nil))
 exact bL (.cmp lp .nil)
theorem UY(dh:cs.length=6):∃cnt:Nat,5<=cnt/\cnt<=10/\LX d 3 (US cs u o) H .next (UT cs u o cnt) H:=by
 refine(f6 dh 0 (by decide) H).elim λc z=>z.elim λa hc=>?_
 obtain z3:=kL (c.fdiv (4^10)) 6 (by decide);obtain z4:=z3.choose_spec;generalize z3.choose=q at z4;obtain hq:=z4.1;obtain eq:=z4.2;obtain m2:=congrArg (λi=>some (V.int i)) eq;exact⟨q+5,aS (nat_lit 382392140032) ae,aS (nat_lit 0xa95908016901101) ae hq,bL (.val 1 hc (.val 4 m2 .nil))⟩
theorem GV(i:Nat)(hi:i<16):binop .Pow (.int 4) (.int i)=some (.int (4^i))/\(small (4^i)=true/\(4^i:Int)≠0):=by obtain this:=cj (by decide:(w8 16).all (λi=>decide ((4:Int)^i≠0)&&small (4^i))=true) i (List.mem_range.mpr hi);obtain q:=a_ this;refine⟨?_,q.2,of_decide_eq_true q.1⟩;refine(?_:(if(small 4&&decide ((0:Int)<=(i:Int))&&decide ((i:Int)<100))=true then some (V.int (4^((i:Int)).toNat)) else none)=_);rw[if_pos (bX ⟨bX ⟨by kernel_rfl,decide_eq_true (by exact nR (nat_lit 118063360) ae)⟩,decide_eq_true (by exact nR (nat_lit 0x6402e079110e01101) ae hi)⟩),aad]
theorem KX(c:Int)(i:Nat)(hi:i<16):binop .FloorDiv (.int c) (.int (4^i))=some (.int (c.fdiv (4^i))):=by
 refine(GV i hi).elim λa z=>z.elim λh1 h2=>?_
 refine(?_:(if((4^i:Int)!=0&&small (4^i))=true then some (V.int (c.fdiv (4^i))) else none)=_);exact if_pos (bX ⟨bne_iff_ne.mpr h2,h1⟩)
def LO(c:Int)(i:Nat):Nat:=((c.fdiv (4^i)).fmod 4).toNat
theorem pq(c:Int)(i:Nat):LO c i<4/\(c.fdiv (4^i)).fmod 4=(LO c i:Nat):=by
 refine(kL (c.fdiv (4^i)) 4 (Sr _)).elim λj z=>z.elim λhj ej=>?_
 obtain e:LO c i=j:=by refine(?_:((c.fdiv (4^i)).fmod ((4:Nat):Int)).toNat=j);refine ej▸?_;rfl
 refine e▸?_;exact⟨hj,ej⟩
def Q0(u o:Nat)(c:Int)(p:Nat×Nat):List Nat×List Nat:=(((yN u o).getD p.1 []).getD (LO c p.2) [],(bU o).getD p.1 [])
theorem Ds{i:Nat}(hi:i<4):((yN u o).getD i []).length=4:=Nat.eq_of_beq_eq_true (cj (by rfl:(w8 4).all (λi=>vT ((yN u o).getD i []).length 4)=true) i (List.mem_range.mpr hi))
theorem UZ(dh:cs.length=6)(h6:cnt<=10):∃wk:List Nat,wk.length=cnt/\(∀m∈wk,m<4)/\LX d 4 (UT cs u o cnt) H .next (QZ cs u o cnt wk) H:=by
 refine(f6 dh 0 (by decide) H).elim λc z=>z.elim λa hc=>?_
 obtain lp:bZ (d+8) (cX (lS 4)) ((w8 cnt).map λ(i:Nat)=>.int (0+(i:Int))) [(T "cells",vE cs)] (.l []) H (.l (((w8 cnt).map (LO c)).map λ(m:Nat)=>V.int m)) H:=by simp only[tx];exact aK.all _ _ _ (by refine Kt▸?_;exact aS (nat_lit 0x1000006f011a900101) ae h6) λi hi vs hz=>by obtain hi:=EK hi;obtain md:=congrArg (λi=>some (V.int i)) (pq c i).2;obtain pw:=(GV i (aL (nat_lit 0x10e011a9101101102) ae hi h6)).1;obtain pw:=(aac (i:Int)).symm▸pw;exact aM [T "cells"] (.val 1 hc (.val 3 pw (.val 4 (KX c i (aL (nat_lit 0x10e011a9101101102) ae hi h6)) (.val 5 md (.no 6 (aP hz) .nil)))))
 refine⟨(w8 cnt).map (LO c),by rw[ph,Kt],λm hm=>?_,?_⟩
 ·obtain⟨i,_,rfl⟩:=AY hm;exact(pq c i).1
 ·exact bL (.upd 2 (kH cnt H (aS (nat_lit 0x1000000000000000100f011a900101) ae h6)) (.cmp lp .nil))
theorem ng{X:AH}{ws:List (List Nat)}{i:Nat}(hi:i<ws.length)(hz:ws.length<100):item X (cS ws) (.int i)=some (ao (ws.getD i [])):=by refine o_ ?_ (by rw[ph];exact aS (nat_lit 0x1000000000000000100f01164e01101) ae hz);simp only[x3,sg hi,tv,sg hi];rfl
theorem GW{X:AH}{i:Nat}(hi:i<4):item X (GP u o) (.int i)=some (Dd ((yN u o).getD i [])):=by
 refine o_ ?_ ((by decide:4<2^60));have :i<(yN u o).length:=hi
 simp only[x3,sg this,tv,sg this];rfl
theorem U0(dh:cs.length=6)(h6:cnt<=10)(hu:u∈fZ)(ho:o∈f5)(hl:wk.length=cnt)(hw:∀m∈wk,m<4):
  ∃ws:List (List Nat×List Nat),ws.map (·.2)=wk.map (λs=>(bU o).getD s [])/\(∀p∈ws,fy p.1 p.2)/\LX d 5 (QZ cs u o cnt wk) H .next (WJ cs u o cnt wk (ws.map (·.1))) H:=by
 refine(f6 dh 1 (by decide) H).elim λc z=>z.elim λb hc=>?_
 obtain lp:bZ (d+8) (cX (lS 5)) (aX 0 (wk.map λ(m:Nat)=>V.int m)) [(T "cells",vE cs),(T "dresses",GP u o)] (.l []) H (.l (((wk.zipIdx 0).map λp=>(Q0 u o c p).1).map ao)) H:=by
  rw[show aX 0 (wk.map λ(m:Nat)=>V.int m)=_ from fu (λ(m:Nat)=>V.int m) 0 wk,tx];exact aK.all (λ(p:Nat×Nat)=>.tup [.int p.2,.int p.1]) _ (wk.zipIdx 0) (by rw[Tx];exact aL (nat_lit 0x1000006f011a9101102102) ae hl h6) λp hp vs hz=>by
   obtain hq:=List.mem_zipIdx hp;have h4:p.1<4:=hw _ (by rw[hq.2.2];exact FC _)
   have hi:p.2<10:=by obtain this:=hq.2.1;exact aW (nat_lit 0xa9011a92012121109801103) ae this hl h6
   obtain md:=congrArg (λi=>some (V.int i)) (pq c p.2).2;obtain pw:=(GV p.2 (aS (nat_lit 296872880115969) ae hi)).1;obtain i2:=ng (X:=H) (ws:=(yN u o).getD p.1 []) (by rw[Ds h4];exact(pq c p.2).1) (by rw[Ds h4];decide);exact aM [T "cells",T "dresses"] (.val 2 (GW (X:=H) (u:=u) (o:=o) h4) (.val 4 hc (.val 6 pw (.val 7 (KX c p.2 (aS (nat_lit 296872880115969) ae hi)) (.val 8 md (.val 9 i2 (.no 10 (aP hz) .nil)))))))
 refine⟨(wk.zipIdx 0).map (Q0 u o c),?_,λp hp=>?_,?_⟩
 ·obtain key:∀(wk:List Nat) (i:Nat),((wk.zipIdx i).map (Q0 u o c)).map (·.2)=wk.map λs=>(bU o).getD s []:=λwk=>by
   induction wk with |nil=>intro i;rfl|cons a r ih=>intro i;exact congrArg (_::·) (ih (i+1))
  exact key wk 0
 ·obtain⟨q,hq,rfl⟩:=AY hp;exact De hu ho (hw _ (by rw[(List.mem_zipIdx hq).2.2];exact FC _)) (pq c q.2).1
 ·rw[tx];obtain q:LX d 5 (QZ cs u o cnt wk) H .next (QZ cs u o cnt wk++[(T "raws",cS ((wk.zipIdx 0).map λp=>(Q0 u o c p).1))]) H:=bL (.cmp lp .nil);exact q.keep (ks:=[T "cells",T "plain",T "count",T "walk",T "raws"]) (by kernel_rfl)
end
section
variable{d:Nat}{H X:AH}{ns cs:List Int}{u o cnt e:Nat}{wk:List Nat}{rs:List (List Nat)}{ws:List (List Nat×List Nat)}{t:List Nat}{a:Lx}{kT:Nat}
theorem IV(i:Nat)(hi:i<10):binop .Pow (.int 16) (.int i)=some (.int (16^i))/\(small (16^i)=true/\(16^i:Int)≠0):=by obtain this:=cj (by decide:(w8 10).all (λi=>decide ((16:Int)^i≠0)&&small (16^i))=true) i (List.mem_range.mpr hi);obtain q:=a_ this;refine⟨?_,q.2,of_decide_eq_true q.1⟩;refine(?_:(if(small 16&&decide ((0:Int)<=(i:Int))&&decide ((i:Int)<100))=true then some (V.int (16^((i:Int)).toNat)) else none)=_);rw[if_pos (bX ⟨bX ⟨by kernel_rfl,decide_eq_true (by exact nR (nat_lit 118063360) ae)⟩,decide_eq_true (by exact nR (nat_lit 0x6402e0791a901101) ae hi)⟩),aad]
theorem IW(c:Int)(i:Nat)(hi:i<10):binop .FloorDiv (.int c) (.int (16^i))=some (.int (c.fdiv (16^i))):=by
 refine(IV i hi).elim λa z=>z.elim λh1 h2=>?_
 refine(?_:(if((16^i:Int)!=0&&small (16^i))=true then some (V.int (c.fdiv (16^i))) else none)=_);exact if_pos (bX ⟨bne_iff_ne.mpr h2,h1⟩)
abbrev WL:Expr:=my (cX (lS 6)) 0
abbrev IX(c6:Int)(e cnt:Nat)(p:Nat×(List Nat×List Nat)):List Nat:=wg p.2.1 (c6.fdiv (16^p.1)) (if p.1+1=cnt then e else 0)
abbrev U1(cs:List Int)(o cnt:Nat)(wk:List Nat)(rs:List (List Nat))(t:List Nat):af:=[(T "cells",vE cs),(T "plain",cS (bU o)),(T "count",.int cnt),(T "walk",UP wk),(T "raws",cS rs),(T "text",ao t)]
theorem GX{c:Int}(hc:item H (vE cs) (.int 2)=some (.int c))(he:(c.fdiv (16^10)).fmod 3=(e:Nat))(h3:e<3)(h5:5<=cnt)(h6:cnt<=10)(hw:ws.length=cnt)(hW:∀p∈ws,fy p.1 p.2)(p:Nat×(List Nat×List Nat))(hp:p∈idxG 0 ws)(vs:List V)(hz:vs.length+1<ai):
  GD (d+8) WL (.tup [.int (p.1:Int),ao p.2.1]) [(T "cells",vE cs),(T "count",.int cnt)] (.l vs) H (.l (vs++[ao (IX c e cnt p)])) H:=by
 obtain z1:=pg hp;obtain hm:=z1.2.2.1;obtain cF:p.1<cnt:=by exact aW (nat_lit 0x20112121109801102) ae z1.2.1 hw
 obtain Q2:=iU (hW _ hm);obtain Ci:(if p.1+1=cnt then e else 0)<3:=by split<;>(first|exact aS (nat_lit 62676785959169) ae h3|exact Ln.go (nat_lit 956895488) [] ae)
 obtain Q6:=xB (d:=d+6) (H:=H) (way:=c.fdiv (16^p.1)) Ci (aS (nat_lit 0x3e83f0114900101) ae Q2.1) Q2.2.2;obtain pw:=(IV p.1 (aL (nat_lit 0xa9011a9101101102) ae cF h6)).1;obtain md:=congrArg (λi=>some (V.int i)) he;obtain sm:(small (e:Int)&&small 1)=true/\(small (e:Int)&&small 0)=true:=by have :small (e:Int)=true:=decide_eq_true (by omega);refine this.symm▸?_;exact⟨by kernel_rfl,by kernel_rfl⟩
 by_cases hl:p.1+1=cnt
 ·obtain eq:=eq_int (H:=H) (i:=p.1) (j:=(cnt:Int)-1) (beq_iff_eq.mpr (v9 (nat_lit 0x1917c07a5119082511) ae hl));obtain m:=gC (e:Int) 1 sm.1;rw[Int.mul_one] at m;rw[if_pos hl] at Q6;rw[show IX c e cnt p=wg p.2.1 (c.fdiv (16^p.1)) e by unfold IX;rw[if_pos hl]];exact aM [T "cells",T "count"] (.val 3 hc (.val 5 pw (.val 6 (IW c p.1 (aL (nat_lit 0xa9011a9101119082102) ae hl h6)) (.val 8 hc (.val 11 md (.val 16 eq (.val 18 m (.call Q6 (.no 19 (aP hz) .nil)))))))))
 ·obtain eq:=eq_int (H:=H) (i:=p.1) (j:=(cnt:Int)-1) (beq_false_of_ne (by omega));obtain m:=gC (e:Int) 0 sm.2;rw[if_neg hl] at Q6;rw[show IX c e cnt p=wg p.2.1 (c.fdiv (16^p.1)) 0 by unfold IX;rw[if_neg hl]];exact aM [T "cells",T "count"] (.val 3 hc (.val 5 pw (.val 6 (IW c p.1 (aL (nat_lit 0xa9011a9101101102) ae cF h6)) (.val 8 hc (.val 11 md (.val 16 eq (.val 18 m (.call Q6 (.no 19 (aP hz) .nil)))))))))
theorem U3(dh:cs.length=6)(h5:5<=cnt)(h6:cnt<=10)(hw:ws.length=cnt)(hW:∀p∈ws,fy p.1 p.2):∃(c:Int) (e:Nat),e<3/\LX d 6 (WJ cs u o cnt wk (ws.map (·.1))) H .next (U1 cs o cnt wk (ws.map (·.1)) (txtL (LN ws c) e)) H:=by
 refine(f6 dh 2 (by simp_all) H).elim λc z=>z.elim λa hc=>?_
 refine(kL (c.fdiv (16^10)) 3 (Sr _)).elim λe z=>z.elim λh3 he=>?_
 refine⟨c,e,h3,?_⟩;obtain lp:bZ (d+8) WL (aX ((0:Nat):Int) ((ws.map (·.1)).map ao)) [(T "cells",vE cs),(T "count",.int cnt)] (.l []) H (.l (((idxG 0 ws).map (IX c e cnt)).map ao)) H:=by simp only[rF,tx];exact aK.all _ _ (idxG 0 ws) (by rw[iT];exact aL (nat_lit 0x1000006f011a9101102102) ae hw h6) λp hp vs hz=>GX hc he h3 h5 h6 hw hW p hp vs hz
 obtain fl:=vC c e cnt ws 0 (λh=>by rw[h] at hw;exact absurd hw (by exact aS (nat_lit 0x90961009310590102) ae h5)) (aL (nat_lit 282128433554705) ae hw);obtain j:=xC (H:=H) (by rw[show((idxG 0 ws).map (IX c e cnt)).flatten=_ from fl];exact X2 (yR (aL (nat_lit 0xa9001a9101102102) ae hw h6) hW) (by decide));rw[show((idxG 0 ws).map (IX c e cnt)).flatten=_ from fl] at j;exact bL (.cmp lp (.upd 2 j .nil))
abbrev Py(cs:List Int)(o cnt:Nat)(wk:List Nat)(rs:List (List Nat))(t:List Nat)(a:Lx)(kT:Nat):af:=U1 cs o cnt wk rs t++[(T "lexer",.ref a.k),(T "signs",.ref a.kS),(T "tokens",.ref kT)]
theorem U4(ht:t.length<1000)(hc:cnt<=10):∃(a:Lx) (kT:Nat) (B:AH),jz a B kT/\LX d 7 (U1 cs o cnt wk rs t) H .next (Py cs o cnt wk rs t a kT) (Au a kT (1+eO t) B (lexN (cnt+2) t).1 (lexN (cnt+2) t).2):=by
 refine(C3 (d:=d) (H:=H) (cnt+2) (aS (nat_lit 0x3e83f290811a900101) ae hc) (aS (nat_lit 0x1000006f2908113e83f01101) ae ht)).elim λa z=>z.elim λkT z=>z.elim λB z=>z.elim λhT z=>z.elim λz z=>z.elim λzz q=>?_
 obtain ad:binop .Add (.int cnt) (.int 2)=some (.int ((cnt+2:Nat):Int)):=by rfl
 exact⟨a,kT,B,hT,bL (.val 3 ad (.call q .nil))⟩
theorem U5{B:AH}(hw:ws.length<=10)(hT:jz a B kT):LX d 8 (Py cs o cnt wk (ws.map (·.1)) t a kT) (Au a kT (1+eO t) B (ir ws) []) .next (Py cs o cnt wk (ws.map (·.1)) t a kT) (Au a kT (1+eO t) B (ir ws) []):=by
 let X:AH:=Au a kT (1+eO t) B (ir ws) [];obtain ok:=hT.ok.CK hT.n4;obtain kt:X[kT]?=some (.lst ((ir ws).map ao)):=(Lx.Am hT.n1 hT.n2 hT.n3).trans (tA hT.lt);obtain ks:X[a.kS]?=some (.lst []):=ok.signs;obtain kl:X[a.k]?=some (mV (1+eO t-eO []) a.ks a.kp):=ok.self;obtain ad:=GR (a:=(ws.map Prod.fst).map ao) (b:=[.str (T ""),.str (T "")]) (by simp only[ph,ph];exact aS (nat_lit 0x1000006f290811a900101) ae hw);obtain n1:bG X .NotEq (.ref kT) (.lst ((ws.map Prod.fst).map ao++[.str (T ""),.str (T "")]))=some (.bool false):=by exact(show(ws.map Prod.fst).map ao++[V.str (T ""),.str (T "")]=(ir ws).map ao by simp only[vk];rfl)▸(eE ((vD kt).trans (rG _)))
 obtain n2:bG X .NotEq (.ref a.kS) (.lst [])=some (.bool false):=eE ((vD ks).trans rfl);obtain n3:bG X .NotEq (.int (1+eO t-eO [])) (.int (eO t+1))=some (.bool false):=eE (by show some (1+eO t-eO []==eO t+1)=_;simp only[show 1+eO t-eO []=eO t+1 by exact uw (nat_lit 0x1908090198ca510) ae,beq_self_eq_true]);exact bL (.val 2 ad (.val 3 n1 (.val 6 n2 (.obj kl (.upd 11 (Dr (X:=X) t) (.val 13 n3 .nil))))))
abbrev U6(J:List Nat):V:=.lst (J.map λ(c:Nat)=>.bool (cZ.contains (c:Int)))
abbrev U7(cs:List Int)(o cnt:Nat)(wk:List Nat)(ws:List (List Nat×List Nat))(t:List Nat)(a:Lx)(kT:Nat):af:=Py cs o cnt wk (ws.map (·.1)) t a kT++[(T "flags",U6 (ir ws).flatten)]
abbrev ZJ:Expr:=cX (lS 9)
theorem U8(hw:ws.length<=10)(hW:∀p∈ws,fy p.1 p.2)(kt:X[kT]?=some (.lst ((ir ws).map ao))):LX d 9 (Py cs o cnt wk (ws.map (·.1)) t a kT) X .next (U7 cs o cnt wk ws t a kT) X:=by
 obtain hl:=Dq hw hW;obtain j:=joinR kt (aS (nat_lit 0x1000006f01128e00101) ae hl);obtain lp:bZ (d+8) ZJ ((ir ws).flatten.map kQ) [] (.l []) X (.l ((ir ws).flatten.map λ(c:Nat)=>.bool (cZ.contains (c:Int)))) X:=aK.all kQ _ _ (aS (nat_lit 0x1000006f01128e00101) ae hl) λc b vs hz=>aM [] (.call (IS (d:=d+6) c X) (.no 2 (aP hz) .nil))
 exact bL (.upd 1 j (.cmp lp .nil))
noncomputable abbrev ED(ws:List (List Nat×List Nat)):List (List Nat):=ws.map Prod.snd
abbrev GY(cs:List Int)(o cnt:Nat)(wk:List Nat)(ws:List (List Nat×List Nat))(t:List Nat)(a:Lx)(kT:Nat):af:=U7 cs o cnt wk ws t a kT++[(T "names",cS (ED ws))]
abbrev WM:Expr:=cX (lS 10)
abbrev ZK:Expr:=my (Px WM) 0
theorem GZ{raw fold:List Nat}(W:fy raw fold):bZ (d+8) ZK (raw.map kQ) [] (.l []) X (.l ((raw.filter λ(c:Nat)=>!cZ.contains (c:Int)).map λc=>.str (mq c))) X:=by
 obtain hl:=(iU W).1;refine aK.pick kQ (λc=>.str (mq c)) (λ(c:Nat)=>!cZ.contains (c:Int)) raw [] (aS (nat_lit 0x1000006f0098114900101) ae hl) λc a vs hz=>?_
 obtain q:=IS (d:=d+6) c X;induction hb:cZ.contains (c:Int) with |true=>rw[hb] at q;exact aM [] (.call q .nil)|false=>rw[hb] at q;exact aM [] (.call q (.call (Pb (d:=d+6) c X) (.no 5 (aP hz) .nil)))
theorem Pz(hw:ws.length<=10)(hc:ws.length=cnt)(hW:∀p∈ws,fy p.1 p.2)(kt:X[kT]?=some (.lst ((ir ws).map ao))):LX d 10 (U7 cs o cnt wk ws t a kT) X .next (GY cs o cnt wk ws t a kT) X:=by
 obtain sl:=xH kt;rw[pn,<-List.map_take,List.take_append_of_le_length (by simp only[ph,hc];exact pd _),Q1 (by simp only[ph,hc];exact pd _),tx] at sl;obtain lp:bZ (d+8) WM (ws.map (ao∘Prod.fst)) [] (.l []) X (.l ((ED ws).map ao)) X:=by
  simp only[tx];exact aK.all _ _ ws (aS (nat_lit 0x1000006f011a900101) ae hw) λp hp vs hz=>by
   obtain W:=hW p hp;obtain j:nH (T "") (T "join") [.lst ((p.1.filter λ(c:Nat)=>!cZ.contains (c:Int)).map λc=>.str (mq c))] X=some (.str (sL p.2),X):=by
    refine(xG W).elim λfs z=>z.elim λe1 e2=>?_
    rw[e1,<-e2];exact xC (by refine e2▸?_;obtain this:=(iU W).2;exact aS (nat_lit 0x1000006f011c900101) ae this.1)
   obtain ni:=GZ (d:=d) (X:=X) W;exact aM [] (.cmp ni (.upd 1 j (.no 2 (aP hz) .nil)))
 exact bL (.val 2 sl (.cmp lp .nil))
abbrev Q7(cs:List Int)(o cnt:Nat)(k:Nat)(nm:List (List Nat)):af:=[(T "cells",vE cs),(T "plain",cS (bU o)),(T "count",.int cnt),(T "lexer",.ref k),(T "names",cS nm)]
theorem PA(hw:ws.length<=10)(hl:wk.length<=10)(h4:∀m∈wk,m<4)(hn:ED ws=wk.map λs=>(bU o).getD s []):LX d 11 (GY cs o cnt wk ws t a kT) X .next (Q7 cs o cnt a.k (ED ws)) X:=by
 obtain l1:bZ (d+8) (Pw (UO (UN (lS 11)) 0)) (wk.map λ(m:Nat)=>.int m) [(T "plain",cS (bU o))] (.l []) X (.l ((ED ws).map ao)) X:=by simp only[hn,tx];exact aK.all (λ(m:Nat)=>.int m) _ wk (aS (nat_lit 0x1000006f011a900101) ae hl) λs hs vs hz=>by obtain it:=ng (X:=X) (ws:=bU o) (h4 s hs) (show 4<100 by decide);exact aM [T "plain"] (.val 2 it (.no 3 (aP hz) .nil))
 obtain n1:bG X .NotEq (cS (ED ws)) (cS (ED ws))=some (.bool false):=eE (rG (ED ws));obtain l2:bZ (d+8) (Pg (UO (UN (lS 11)) 1)) ((ir ws).flatten.map λ(c:Nat)=>.bool (cZ.contains (c:Int))) [] (.l []) X (.l []) X:=aK.skip _ _ λc b=>by induction cZ.contains (c:Int)<;>exact aM [] .nil
 obtain q:LX d 11 (GY cs o cnt wk ws t a kT) X .next (GY cs o cnt wk ws t a kT) X:=bL (.cmp l1 (.val 2 n1 (.cmp l2 .nil)));exact q.keep (ks:=[T "cells",T "plain",T "count",T "lexer",T "names"]) (by kernel_rfl)
end
abbrev az:=List Nat×List Nat
abbrev aA(p:az):V:=.tup [ao p.1,ao p.2]
abbrev aZ(l:List az):V:=.lst (l.map aA)
section
variable{d:Nat}{H X:AH}{cs:List Int}{o cnt k:Nat}{nm:List (List Nat)}{x y:az}{l:List az}
theorem G0(x y:az):Lv (aA x) (aA y)=some (decide (x=y)):=by refine(?_:some ((sL x.1==sL y.1)&&(sL x.2==sL y.2))=_);simp only[lM,lM,<-Bool.decide_and];exact congrArg some (decide_eq_decide.mpr ⟨λh=>aaC h.1 h.2,λh=>h▸⟨rfl,rfl⟩⟩)
theorem pA(x:az)(l:List az):eqRow (aA x) (l.map aA)=some (l.map λy=>decide (y=x)):=by
 induction l with |nil=>rfl|cons y r ih=>refine(?_:(match Lv (aA y) (aA x),eqRow (aA x) (r.map aA) with |some p,some q=>some (p::q)|_,_=>none)=_);simp only[G0,ih];rfl
theorem Dt(x:az)(l:List az):(l.map λy=>decide (y=x)).any id=decide (x∈l):=by rw[Bool.eq_iff_iff];simp
theorem mC(x:az)(l:List az):inside H (aA x) (aZ l)=some (decide (x∈l)):=by refine(?_:(eqRow (aA x) (l.map aA)).map (·.any id)=_);rw[pA];exact congrArg some (Dt x l)
theorem G1(x:az)(l:List az):bG H .In (aA x) (aZ l)=some (.bool (decide (x∈l))):=by refine(?_:((inside H (aA x) (aZ l)).map V.bool)=_);rw[mC];rfl
theorem jR(x:az)(l:List az):bG H .NotIn (aA x) (aZ l)=some (.bool !(decide (x∈l))):=by show((inside H (aA x) (aZ l)).map λr=>V.bool !r)=_;rw[mC];rfl
theorem xJ(x:az)(l:List az):eS (aA x) (l.map aA)=some (l.count x):=by unfold eS;rw[pA];refine congrArg some ?_;refine(?_:(l.map λy=>decide (y=x)).countP id=_);simp only[TO,List.count_eq_countP];exact Qb λy a=>by simp
theorem xK(x y:az):bG H .NotEq (aA x) (aA y)=some (.bool (!decide (x=y))):=by refine(?_:some (V.bool !((sL x.1==sL y.1)&&((sL x.2==sL y.2)&&true)))=_);simp only[aaL,lM,lM,<-Bool.decide_and];exact congrArg (λb=>some (V.bool !b)) (decide_eq_decide.mpr ⟨λh=>aaC h.1 h.2,λh=>h▸⟨rfl,rfl⟩⟩)
end
section
variable{d:Nat}{H X:AH}{cs:List Int}{o cnt k:Nat}{nm:List (List Nat)}{x y:List Nat}
theorem tH{w:List Nat}{line:List (List Nat)}(h:w∈line):i7 (ao w) (line.map ao)=some (line.idxOf w):=by
 refine(show line.map ao=(line.map sL).map V.str by simp only[tx];rfl)▸?_;refine(tD (sL w) (line.map sL)).trans ?_;induction line with
 |nil=>exact nomatch h|cons a r ih=>
  simp only[xb,List.findIdx?_cons,lM,List.idxOf_cons];by_cases e:a=w
  ·rw[decide_eq_true e,beq_iff_eq.mpr e];rfl
  ·obtain hr:=(bx h).resolve_left λq=>e q.symm
   rw[decide_eq_false e,beq_false_of_ne e];rw[ih hr];rfl
abbrev wq(cs:List Int)(o:Nat):V:=.r8 [T "one",T "other"] (Ai (cX (lS 12))) (Aj (cX (lS 12))) [(T "cells",vE cs),(T "plain",cS (bU o))]
def kR(cs:List Int)(o:Nat)(x y:List Nat):Int:=(((cs.getD 3 0).fdiv (4^(4* (bU o).idxOf x+(bU o).idxOf y))).fmod 4)-1
theorem lN(cs:List Int)(o:Nat)(x y:List Nat):-1<=kR cs o x y/\kR cs o x y<=2:=by obtain h0:=Int.fmod_nonneg_of_pos ((cs.getD 3 0).fdiv (4^(4* (bU o).idxOf x+(bU o).idxOf y))) (show(0:Int)<4 by decide);obtain h1:=Int.fmod_lt_of_pos ((cs.getD 3 0).fdiv (4^(4* (bU o).idxOf x+(bU o).idxOf y))) (show(0:Int)<4 by decide);exact⟨uw (nat_lit 0x190c19d810098101) ae h0,uw (nat_lit 0x29190c814909101) ae h1⟩
theorem iV(dh:cs.length=6)(hx:x∈bU o)(hy:y∈bU o):aC (d+2) (wq cs o) [ao x,ao y] H (.int (kR cs o x y)) H:=by
 have ix:=m_ (X:=H) (tH hx);have iy:=m_ (X:=H) (tH hy)
 have lx:(bU o).idxOf x<4:=y8.mpr hx;have ly:(bU o).idxOf y<4:=y8.mpr hy
 obtain⟨c,ZL,hc⟩:=f6 dh 3 (by decide) H;have ec:cs.getD 3 0=c:=by rw[tv,ZL];rfl
 unfold kR;rw[ec]
 revert ix iy lx ly
 generalize (bU o).idxOf x=i;generalize (bU o).idxOf y=j;intro ix iy lx ly;have m:binop .Mult (.int 4) (.int i)=some (.int ((4* i:Nat):Int)):=(gC 4 i (bX ⟨by kernel_rfl,decide_eq_true (by omega)⟩)).trans (congrArg (λi=>some (V.int i)) (nR (nat_lit 5115428381968) ae))
 have a1:binop .Add (.int ((4* i:Nat):Int)) (.int j)=some (.int ((4* i+j:Nat):Int)):=rfl;have pw:=(GV (4* i+j) (by exact aL (nat_lit 0x10e014a811491144901102) ae ly lx)).1
 have dv:=KX c (4* i+j) (by exact aL (nat_lit 0x10e014a811491144901102) ae ly lx);have q:bY (d+1) (f9 (Aj (cX (lS 12)))) ([T "one",T "other"].zip [ao x,ao y]++[(T "cells",vE cs),(T "plain",cS (bU o))]) (Ai (cX (lS 12))) H (.int ((c.fdiv (4^(4* i+j))).fmod 4-1)) H:=oW (.val 1 hc (.upd 4 ix (.val 5 m (.upd 8 iy (.val 9 a1 (.val 10 pw (.val 11 dv .nil)))))))
 exact Cq (by kernel_rfl) (by kernel_rfl) q
abbrev Q_(cs:List Int)(o cnt k:Nat)(nm:List (List Nat)):af:=Q7 cs o cnt k nm++[(T "price",wq cs o)]
theorem PB:LX d 12 (Q7 cs o cnt k nm) X .next (Q_ cs o cnt k nm) X:=bL .nil
noncomputable def cD(nm:List (List Nat)):List az:=(nm.getLastD []::nm).zip nm
theorem KY{i:Nat}(hi:i<nm.length):(cD nm).getD i ([],[])=((nm.getLastD []::nm).getD i [],nm.getD i []):=by obtain h1:=Mo hi;obtain e:(cD nm)[i]?=some ((nm.getLastD []::nm)[i],nm[i]):=List.getElem?_zip_eq_some.mpr ⟨sg h1,sg hi⟩;rw[tv,e,tv,tv,sg hi,sg h1];rfl
theorem f7:(cD nm).length=nm.length:=by unfold cD;simp only[List.length_zip,pE];lia
theorem Ay:(w8 nm.length).map (λi=>(cD nm).getD i ([],[]))=cD nm:=by apply List.ext_getElem (by simp only[ph,Kt,f7]);intro i h1 h2;rw[List.getElem_map,List.getElem_range,tv,sg h2];rfl
abbrev U9(cs:List Int)(o k:Nat)(nm:List (List Nat)):af:=[(T "cells",vE cs),(T "plain",cS (bU o)),(T "lexer",.ref k),(T "names",cS nm),(T "price",wq cs o),(T "steps",aZ (cD nm))]
theorem PC(h0:nm≠[])(hn:nm.length=cnt)(h6:cnt<=10):LX d 13 (Q_ cs o cnt k nm) X .next (U9 cs o k nm) X:=by
 obtain lp:bZ (d+8) (cX (lS 13)) ((w8 cnt).map λ(i:Nat)=>.int (0+(i:Int))) [(T "names",cS nm)] (.l []) X (.l ((cD nm).map aA)) X:=by
  rw[<-Ay,hn,tx];exact aK.all _ _ (w8 cnt) (by rw[Kt];exact aS (nat_lit 0x1000006f011a900101) ae h6) λi hi vs hz=>by
   obtain hi:=EK hi;obtain i2:item X (cS nm) (.int (0+(i:Int)))=some (ao (nm.getD i [])):=by rw[aac];exact ng (aW (nat_lit 9025969084961026) ae hi hn) (aL (nat_lit 0x64e111a9001012102) ae hn h6)
   obtain i1:item X (cS nm) (.int (0+(i:Int)-1))=some (ao ((nm.getLastD []::nm).getD i [])):=by
    induction i with
    |zero=>obtain hz:=List.length_pos_iff.mpr h0;refine rH (j:=nm.length-1) (by rw[ph];exact v9 (nat_lit 0x170719097098c8a50191834191800112) ae (Ln.bI (nm.length) (1)) (rl (Ln.go (nat_lit 1718255948033) [_,0,0] ae hz:1<=nm.length))) (Iz.go (nat_lit 0x919097098c9100) [] [] ae) ?_ (by rw[ph];exact aL (nat_lit 0x1000000000000000100f111a9001012102) ae hn h6);rw[x3,<-List.getLast?_eq_getElem?,Fs h0];refine congrArg (λw=>some (ao w)) ?_;show _=nm.getLastD [];rw[NM,Fs h0];rfl
    |succ i=>rw[show(0:Int)+((i+1:Nat):Int)-1=(i:Int) by exact nR (nat_lit 0x71919087098ca510) ae];exact ng (aW (nat_lit 0x20111231119081102) ae hi hn) (aL (nat_lit 0x64e111a9001012102) ae hn h6)
   show GD (d+8) _ _ _ _ _ (.l (vs++[aA ((cD nm).getD i ([],[]))])) _;rw[KY (by exact aW (nat_lit 9025969084961026) ae hi hn)];exact aM [T "names"] (.val 3 i1 (.val 6 i2 (.no 7 (aP hz) .nil)))
 obtain q:LX d 13 (Q_ cs o cnt k nm) X .next (Q_ cs o cnt k nm++[(T "steps",aZ (cD nm))]) X:=bL (.upd 2 (kH cnt X (aS (nat_lit 0x1000000000000000100f011a900101) ae h6)) (.cmp lp .nil));exact q.keep (ks:=[T "cells",T "plain",T "lexer",T "names",T "price",T "steps"]) (by kernel_rfl)
noncomputable def arG:List az->List az->List az|aR,[]=>[]|pre,x::r=>if x∈pre then arG (pre++[x]) r else x::arG (pre++[x]) r
theorem vF(pre:List az)(x:az)(r:List az):arG pre (x::r)=if x∈pre then arG (pre++[x]) r else x::arG (pre++[x]) r:=rfl
def mW(nm:List (List Nat)):List az:=arG [] (cD nm)
theorem rI{l:List az}(j:Nat):slice X (aZ l) none (some (j:Int))=some (aZ (l.take j)):=by refine(?_:some (V.lst (cut (l.map aA) none (some (j:Int))))=_);rw[pn,<-List.map_take]
abbrev U_(cs:List Int)(o k:Nat)(nm:List (List Nat)):af:=U9 cs o k nm++[(T "arcs",aZ (mW nm))]
theorem Az(pre l:List az):arG pre l=((l.zipIdx pre.length).filter λp=>!decide (p.1∈(pre++l).take p.2)).map λp=>p.1:=by
 induction l generalizing pre with
 |nil=>rfl|cons x r ih=>
  obtain ih:=ih (pre++[x]);rw[pj,ta] at ih;simp only[List.zipIdx_cons,Bn];obtain e:(pre++x::r).take pre.length=pre:=by rw[List.take_append_of_le_length (pd _),List.take_length]
  refine(?_:(if x∈pre then _ else _)=_);rw[e];by_cases h:x∈pre
  ·rw[if_pos h,decide_eq_true h];exact ih
  ·rw[if_neg h,decide_eq_false h];exact congrArg (x::·) ih
theorem PD(h6:nm.length<=10):LX d 14 (U9 cs o k nm) X .next (U_ cs o k nm) X:=by
 obtain lp:bZ (d+8) (cX (lS 14)) (aX 0 ((cD nm).map aA)) [(T "steps",aZ (cD nm))] (.l []) X (.l ((mW nm).map aA)) X:=by
  unfold mW;simp only[Az,tx,show aX 0 ((cD nm).map aA)=_ from fu aA 0 (cD nm)];exact aK.pick (λ(p:az×Nat)=>.tup [.int p.2,aA p.1]) _ _ ((cD nm).zipIdx 0) [] (by simp only[Tx,tm,f7];exact aS (nat_lit 0x1000006f009811a900101) ae h6) λp hp vs hv=>by
   obtain sl:=rI (X:=X) (l:=cD nm) p.2;obtain ni:=jR (H:=X) p.1 ((cD nm).take p.2);refine(?_:GD (d+8) _ _ _ _ _ (.l (bif !decide (p.1∈(cD nm).take p.2) then _ else _)) _);induction hb:!decide (p.1∈(cD nm).take p.2) with |false=>rw[hb] at ni;exact aM [T "steps"] (.val 3 sl (.val 4 ni .nil))|true=>rw[hb] at ni;exact aM [T "steps"] (.val 3 sl (.val 4 ni (.no 7 (aP hv) .nil)))
 exact bL (.cmp lp .nil)
end
section
variable{d:Nat}{H X:AH}{us vs:List V}{cs:List Int}{o k:Nat}{nm:List (List Nat)}
structure Ra(H:AH)(us vs:List V)(p:Nat×Int×Bool×Bool):Prop where
 at':∃a b,item H (.tup us) (.int p.1)=some a/\item H (.tup vs) (.int p.1)=some b/\bG H .Lt a b=some (.bool p.2.2.1)/\bG H .Gt a b=some (.bool p.2.2.2)
noncomputable def cmpG:List (Nat×Int×Bool×Bool)->Int|[]=>0|p::r=>bif p.2.2.1 then -p.2.1 else bif p.2.2.2 then p.2.1 else cmpG r
theorem AA(p:Nat×Int×Bool×Bool)(r:List (Nat×Int×Bool×Bool)):cmpG (p::r)=bif p.2.2.1 then -p.2.1 else bif p.2.2.2 then p.2.1 else cmpG r:=rfl
noncomputable abbrev ZM(ks:List (Nat×Int×Bool×Bool)):V:=.lst (ks.map λp=>.tup [.int p.1,.int p.2.1])
theorem AB{k:Nat}(ks:List (Nat×Int×Bool×Bool))(hk:∀p∈ks,Ra H us vs p):
  cz (d+1) (QJ 3 1) Uw Ux (ks.map λp=>.tup [.int p.1,.int p.2.1]) (cE k us vs) H (.ret (.int (cmpG ks))) (cE k us vs) H\/(cmpG ks=0/\cz (d+1) (QJ 3 1) Uw Ux (ks.map λp=>.tup [.int p.1,.int p.2.1]) (cE k us vs) H .next (cE k us vs) H):=by
 induction ks with
 |nil=>exact .inr ⟨rfl,.nil⟩|cons p r ih=>
  refine((hk p (.head _)).at').elim λa z=>z.elim λb z=>z.elim λu0 z=>z.elim λv0 z=>z.elim λl0 g0=>?_
  rw[AA];induction h1:p.2.2.1 with
  |true=>obtain l0:=h1▸l0;exact .inl (Turn.ret (au cK (.val 2 u0 (.val 5 v0 (.val 8 l0 .nil)))))
  |false=>
   rw[h1] at l0;induction h2:p.2.2.2 with
   |true=>rw[h2] at g0;exact .inl (Turn.ret (au cK (.val 2 u0 (.val 5 v0 (.val 8 l0 (.val 12 g0 .nil))))))|false=>
    rw[h2] at g0;have n1:Turn (d+1) (QJ 3 1) Uw Ux (.tup [.int p.1,.int p.2.1]) (cE k us vs) H .next (cE k us vs) H:=au cK (.val 2 u0 (.val 5 v0 (.val 8 l0 (.val 12 g0 .nil))))
    rcases ih (λp hp=>hk p (.tail _ hp)) with h|⟨h0,h⟩
    ·exact .inl (n1.next (.inl rfl) h)
    ·exact .inr ⟨h0,n1.next (.inl rfl) h⟩
theorem mE{k:Nat}{v:V}(ks:List (Nat×Int×Bool×Bool))(hv:v=ZM ks)(h:H[k]?=some (.inst 80 [(T "comp_select_list",v)]))(hk:∀p∈ks,Ra H us vs p):
  aC (d+2) (.fn 77) [.ref k,.tup us,.tup vs] H (.int (cmpG ks)) H:=by
 subst hv;rcases AB (d:=d) (k:=k) ks hk with q|⟨h0,q⟩
 ·exact bD (.obj h (.loop q .nil))
 ·refine h0▸?_;exact bD (.obj h (.loop q .nil))
theorem G2(v:V)(hv:nG v=true):aC (d+3) (.cls 80) [v] X (.ref X.length) (X++[aF.inst 80 [(T "comp_select_list",v)]]):=by obtain q:=CZ hv fj;simp only[ez] at q;exact IC (cd:=((G.C.gG.lookup 80).getD ⟨[],[]⟩)) (by kernel_rfl) (by kernel_rfl) q
abbrev Row:=az×Int
abbrev fK(r:Row):V:=.tup [ao r.1.1,ao r.1.2,.int r.2]
structure cI where
 a:Int
 b:Int
 c:Int
noncomputable abbrev qa(D:cI):V:=.lst [.tup [.int 2,.int D.a],.tup [.int 0,.int D.b],.tup [.int 1,.int D.c]]
def Du(D:cI)(x y:Row):List (Nat×Int×Bool×Bool):=[(2,D.a,decide (x.2<y.2),decide (y.2<x.2)),(0,D.b,strLt (sL x.1.1) (sL y.1.1),strLt (sL y.1.1) (sL x.1.1)),(1,D.c,strLt (sL x.1.2) (sL y.1.2),strLt (sL y.1.2) (sL x.1.2))]
theorem G3(D:cI)(x y:Row):∀p∈Du D x y,Ra H [ao x.1.1,ao x.1.2,.int x.2] [ao y.1.1,ao y.1.2,.int y.2] p:=λp hp=>by
 simp only[Du,y3,Oy,or_false] at hp;rcases hp with rfl|rfl|rfl
 ·exact⟨.int x.2,.int y.2,by kernel_rfl,by kernel_rfl,rfl,rfl⟩
 ·exact⟨ao x.1.1,ao y.1.1,by kernel_rfl,by kernel_rfl,rfl,rfl⟩
 ·exact⟨ao x.1.2,ao y.1.2,by kernel_rfl,by kernel_rfl,rfl,rfl⟩
theorem KZ(D:cI)(x y:Row):∀p∈Du D x y,Ra H [ao x.1.1,ao x.1.2,.int x.2,.str (T "")] [ao y.1.1,ao y.1.2,.int y.2] p:=λp hp=>by
 simp only[Du,y3,Oy,or_false] at hp;rcases hp with rfl|rfl|rfl
 ·exact⟨.int x.2,.int y.2,by kernel_rfl,by kernel_rfl,rfl,rfl⟩
 ·exact⟨ao x.1.1,ao y.1.1,by kernel_rfl,by kernel_rfl,rfl,rfl⟩
 ·exact⟨ao x.1.2,ao y.1.2,by kernel_rfl,by kernel_rfl,rfl,rfl⟩
theorem Dv{k:Nat}(D:cI)(x y:Row)(h:H[k]?=some (.inst 80 [(T "comp_select_list",qa D)])):aC (d+2) (.fn 77) [.ref k,fK x,fK y] H (.int (cmpG (Du D x y))) H:=mE (Du D x y) rfl h (G3 D x y)
theorem Dw{k:Nat}(D:cI)(x y:Row)(h:H[k]?=some (.inst 80 [(T "comp_select_list",qa D)])):aC (d+2) (.fn 77) [.ref k,.tup [ao x.1.1,ao x.1.2,.int x.2,.str (T "")],fK y] H (.int (cmpG (Du D x y))) H:=mE (Du D x y) rfl h (KZ D x y)
end
section
variable{d:Nat}{H X:AH}{cs:List Int}{o k:Nat}{nm:List (List Nat)}{D:cI}{W:Row->Int}{A B L:List Row}{r:Row}
theorem xM(x:Int)(ys:List Int):eqRow (.int x) (ys.map .int)=some (ys.map (·==x)):=by
 induction ys with |nil=>rfl|cons y r ih=>exact congrArg (λo=>match some (y==x),o with |some p,some q=>some (p::q)|_,_=>none) ih
theorem tI(x:Int)(ys:List Int):eS (.int x) (ys.map .int)=some ((ys.filter (·==x)).length):=by unfold eS;rw[xM,<-QP];exact congrArg some TO
theorem AD(l:List Int):gH bj H (.lst (l.map .int)) (.lst (l.map .int))=some true:=gX H _ λv hv=>by obtain⟨i,_,rfl⟩:=AY hv;exact Dl H i
theorem Dy{k:Nat}{i:Int}{v:V}{xs:List V}{H:AH}:kX k (T "insert") [.int i,v] (.lst xs) H=bif Bb i xs.length then some (.none,H.set k (.lst (xs.take i.toNat++v::xs.drop i.toNat))) else none:=by kernel_rfl
theorem U'{k i:Nat}{v:V}{xs:List V}{H H':AH}(hz:xs.length+1<2^20)(hi:i<2^60)(e:H.set k (.lst (xs.take i++v::xs.drop i))=H'):kX k (T "insert") [.int i,v] (.lst xs) H=some (.none,H'):=by obtain e1:Bb (i:Int) xs.length=true:=bX ⟨bX ⟨decide_eq_true (Kb i),decide_eq_true (nR (nat_lit 0x800000000000000010e07911000000000000000100f01101) ae hi)⟩,decide_eq_true hz⟩;simp only[Dy,e1,aad,e];rfl
def LP(D:cI)(W:Row->Int)(x y:Row):Prop:=cmpG (Du D x y)=if W x<W y then -1 else if W y<W x then 1 else 0
abbrev EE(D:cI):aF:=.inst 80 [(T "comp_select_list",qa D)]
abbrev sH(X:AH)(D:cI)(L:List Row):AH:=X++[.lst (L.map fK),EE D]
abbrev sF:B2:=cf (bd 18) 1
abbrev sE(X:AH)(rv:V)(D:cI):af:=[(T "rows",rv),(T "keys",qa D),(T "line",.ref X.length),(T "comparer",.ref (X.length+1))]
abbrev sK:List Str:=[T "rows",T "keys",T "line",T "comparer"]
theorem K0{a b:aF}:(X++[a,b])[X.length]?=some a:=by rw[zt (pd _),X1];rfl
theorem G4{a b:aF}:(X++[a,b])[X.length+1]?=some b:=by rw[zt (Ee _),show X.length+1-X.length=1 by exact aL (nat_lit 0x1902510819180419181082112) ae (rl (aS (nat_lit 6719275264) ae:PH X<=PH X+1)) (Ln.bI (PH X+1) (PH X))];rfl
theorem ji{a b c:aF}:(X++[a,b]).set X.length c=X++[c,b]:=by rw[aay _ _ (pd _),X1];rfl
abbrev WN:Expr:=cX (cf (b_ sF) 0)
theorem G5(L:List Row)(r:Row)(hz:L.length<100):bZ (d+4) WN (L.map fK) [(T "comparer",.ref (X.length+1)),(T "row",fK r)] (.l []) (X++[.gone,EE D]) (.l ((L.map λx=>cmpG (Du D x r)).map .int)) (X++[.gone,EE D]):=by simp only[tx];exact aK.all _ _ L (aS (nat_lit 0x1000006f01164e01101) ae hz) λx hx vs hv=>by obtain q:=Dv (d:=d+2) (H:=X++[.gone,EE D]) D x r G4;obtain k1:(X++[.gone,EE D])[X.length+1]?=some (EE D):=G4;exact aM [T "comparer",T "row"] (.obj k1 (.call q (.no 3 (aP hv) .nil)))
theorem yS{α:Type}(f:α->Int)(v:Int)(l:List α)(h:∀x∈l,f x=v):l.map f=t4 l.length v:=by rw[List.eq_replicate_iff,ph];exact⟨rfl,λy hy=>by obtain⟨x,hx,rfl⟩:=AY hy;exact h x hx⟩
theorem G6{rv:V}(hA:∀x∈A,LP D W x r/\W x<W r)(hB:∀x∈B,LP D W x r/\W r<W x)(hr:LP D W r r)(hz:A.length+B.length<90):
  Turn (d+4) (jg 18) (cW sF) (b_ sF) (fK r) (sE X rv D) (sH X D (A++B)) .next (sE X rv D) (sH X D (A++r::B)):=by
 obtain eA:=yS _ _ _ λx hx=>(hA x hx).1.trans (if_pos (hA x hx).2)
 obtain eB:=yS _ _ _ λx hx=>(hB x hx).1.trans ((if_neg (aaw.mpr (Int.le_of_lt (hB x hx).2))).trans (if_pos (hB x hx).2))
 obtain lp:=G5 (d:=d) (X:=X) (D:=D) (A++B) r (by rw[pj];exact aL (nat_lit 0x64e108115ae1081101) ae hz);rw[show(A++B).map (λx=>cmpG (Du D x r))=t4 A.length (-1)++t4 B.length 1 by rw[vk,eA,eB]] at lp;let Y:AH:=((sH X D (A++B)).set X.length .gone).set X.length (.lst ((A++B).map fK))
 obtain eY:Y=sH X D (A++B):=by show((sH X D (A++B)).set X.length .gone).set X.length (.lst ((A++B).map fK))=_;rw[ji,ji]
 obtain cn:=tF (X:=Y) (tI (-1) (t4 A.length (-1)++t4 B.length 1));obtain cl:((t4 A.length (-1:Int)++t4 B.length 1).filter (·==-1)).length=A.length:=by rw[aar,List.filter_replicate_of_pos (by rfl),List.filter_replicate_of_neg (by decide),rn,List.length_replicate]
 rw[cl] at cn;obtain m1:=vB A.length (.int (-1)) (aL (nat_lit 0x3e83f0115ae1081101) ae hz);obtain sb:binop .Sub (.int (((A++B).map fK).length:Nat)) (.int (A.length:Nat))=some (.int (B.length:Nat)):=by show some (V.int ((((A++B).map fK).length:Nat)-(A.length:Int)))=_;rw[ph,pj];exact congrArg (λi=>some (V.int i)) (by omega)
 obtain m2:=vB B.length (.int 1) (aL (nat_lit 0x3e83f1115ae1081101) ae hz);obtain ad:=GR (a:=t4 A.length (.int (-1))) (b:=t4 B.length (.int 1)) (by rw[List.length_replicate,List.length_replicate];show _<1048576;exact aL (nat_lit 0x1000006f108115ae1081101) ae hz);obtain n1:bG Y .NotEq (.lst ((t4 A.length (-1:Int)++t4 B.length 1).map .int)) (.lst (t4 A.length (.int (-1))++t4 B.length (.int 1)))=some (.bool false):=by
  obtain e:(t4 A.length (-1:Int)++t4 B.length 1).map V.int=t4 A.length (.int (-1))++t4 B.length (.int 1):=by rw[vk,List.map_replicate,List.map_replicate]
  rw[<-e];exact eE (AD _)
 obtain c4:=Dw (d:=d+2) (H:=Y) D r r (by rw[eY];exact G4);rw[hr.trans ((if_neg (Int.lt_irrefl _)).trans (if_neg (Int.lt_irrefl _)))] at c4;obtain ins:kX X.length (T "insert") [.int (A.length:Nat),fK r] (.lst ((A++B).map fK)) Y=some (.none,sH X D (A++r::B)):=U' (by rw[ph,pj];exact aL (nat_lit 0x1000006f191088115ae1081101) ae hz) (aL (nat_lit 0x1000000000000000100f0115ae1081101) ae hz) (by rw[eY,ji,vk,List.take_left' (ph _),List.drop_left' (ph _)];show X++[.lst (A.map fK++fK r::B.map fK),EE D]=X++[.lst ((A++r::B).map fK),EE D];rw[vk];rfl);obtain k0:(sH X D (A++B))[X.length]?=some (.lst ((A++B).map fK)):=K0;obtain k2:Y[X.length]?=some (.lst ((A++B).map fK)):=by rw[eY];exact K0
 obtain ln:lT "len" [.ref X.length] Y=some (.int (((A++B).map fK).length:Nat),Y):=by show(Jc (deref Y (.ref X.length))).map (λ(n:Nat)=>(V.int n,Y))=_;rw[kE k2];rfl
 obtain k1:Y[X.length+1]?=some (EE D):=by rw[eY];exact G4
 obtain ZN:bZ (d+4) WN ((A++B).map fK) [(T "comparer",.ref (X.length+1)),(T "row",fK r)] (.l []) ((sH X D (A++B)).set X.length .gone) (.l ((t4 A.length (-1)++t4 B.length 1).map .int)) ((sH X D (A++B)).set X.length .gone):=by rw[ji];exact lp
 exact au sK (.obj k0 (.cmp ZN (.upd 2 cn (.val 5 m1 (.upd 8 ln (.val 10 sb (.val 11 m2 (.val 12 ad (.val 13 n1 (.obj k1 (.call c4 (.obj k2 (.obj k2 (.upd 25 ins .nil))))))))))))))
end
section
variable{d:Nat}{H X:AH}{cs:List Int}{o k:Nat}{nm:List (List Nat)}{D:cI}{W:Row->Int}{A B L:List Row}{r:Row}
theorem AE(L:List Row)(hs:L.Pairwise λa b=>W a<W b)(hr:∀x∈L,W x≠W r):∃A B,L=A++B/\(∀x∈A,W x<W r)/\∀x∈B,W r<W x:=by
 induction L with
 |nil=>exact⟨[],[],rfl,λc h=>(nomatch h),λc h=>nomatch h⟩|cons a L ih=>
  obtain⟨h1,h2⟩:=List.pairwise_cons.mp hs;by_cases h:W a<W r
  ·obtain⟨A,B,rfl,hA,hB⟩:=ih h2 λx hx=>hr x (.tail _ hx)
   exact⟨a::A,B,rfl,λx hx=>(bx hx).elim (λe=>e▸h) (hA x),hB⟩
  ·obtain ha:W r<W a:=by obtain this:=hr a (.head _);lia
   exact⟨[],a::L,rfl,λc h=>(nomatch h),λx hx=>(bx hx).elim (λe=>e▸ha) λhx=>Int.lt_trans ha (h1 x hx)⟩
theorem G7{rv:V}(rows L:List Row)(hf:∀x∈L++rows,∀y∈L++rows,LP D W x y)(hs:L.Pairwise λa b=>W a<W b)(hn:(L++rows).Pairwise λa b=>W a≠W b)(hz:L.length+rows.length<90):
  ∃L',L'.Perm (L++rows)/\L'.Pairwise (λa b=>W a<W b)/\cz (d+4) (jg 18) (cW sF) (b_ sF) (rows.map fK) (sE X rv D) (sH X D L) .next (sE X rv D) (sH X D L'):=by
 induction rows generalizing L with
 |nil=>exact⟨L,by rw[rn],hs,.nil⟩|cons r rows ih=>
  have hr:=λx hx=>(List.pairwise_append.mp hn).2.2 x hx r (.head _)
  obtain⟨A,B,rfl,hA,hB⟩:=AE L hs hr;obtain mA:=λx hx=>y2 _ (y2 _ hx)
  obtain mB:=λx hx=>y2 _ (y4 _ hx)
  obtain mr:=y4 _ (.head _);obtain tn:=G6 (λx hx=>⟨hf x (mA x hx) r mr,hA x hx⟩) (λx hx=>⟨hf x (mB x hx) r mr,hB x hx⟩) (hf r mr r mr) (by obtain hz:=pj▸hz;exact aW (nat_lit 0x5ae108115ae192810881101) ae hz);have pm:((A++r::B)++rows).Perm ((A++B)++r::rows):=by simp only[ta,ta];refine List.Perm.append_left A ?_;exact(List.perm_middle).symm
  obtain sr:(A++r::B).Pairwise λa b=>W a<W b:=by
   refine(List.pairwise_append.mp hs).elim λp1 z=>z.elim λp2 p3=>?_
   exact List.pairwise_append.mpr ⟨p1,List.pairwise_cons.mpr ⟨hB,p2⟩,λx hx y hy=>(bx hy).elim (λe=>e▸hA x hx) (p3 x hx y)⟩
  refine(ih (A++r::B) (λx hx y hy=>hf x (pm.mem_iff.mp hx) y (pm.mem_iff.mp hy)) sr (pm.symm.pairwise hn λh=>h.symm) (by simp only[pj,pE];obtain hz:=pj▸hz;exact aW (nat_lit 0x5ae21918088115ae192810881101) ae hz)).elim λL' xm=>?_;obtain h1:=xm.1;obtain h2:=xm.2.1;obtain lp:=xm.2.2
  exact⟨L',h1.trans pm,h2,tn.next (.inl rfl) lp⟩
theorem G8(r:Row):slice H (fK r) none (some ((2:Nat):Int))=some (aA r.1):=by kernel_rfl
abbrev ZO:Expr:=KI (cf (bd 18) 2)
theorem AF(rows:List Row)(hf:∀x∈rows,∀y∈rows,LP D W x y)(hn:rows.Pairwise λa b=>W a≠W b)(hz:rows.length<90):
  ∃L':List Row,L'.Perm rows/\L'.Pairwise (λa b=>W a<W b)/\aC (d+5) (.fn 209) [.lst (rows.map fK),qa D] X (aZ (L'.map (·.1))) (sH X D L'):=by
 refine(G7 (d:=d) (X:=X) (rv:=.lst (rows.map fK)) rows [] hf .nil hn (aS (nat_lit 0x5ae0098115ae01101) ae hz)).elim λL' z=>z.elim λh1 z=>z.elim λh2 lp=>?_
 obtain c0:=G2 (d:=d+1) (X:=X++[.lst []]) (qa D) rfl;simp only[pj,ta] at c0;obtain k0:(sH X D L')[X.length]?=some (.lst (L'.map fK)):=K0;obtain ll:=h1.length_eq▸hz;obtain l2:bZ (d+4) ZO (L'.map fK) [] (.l []) ((sH X D L').set X.length .gone) (.l ((L'.map (·.1)).map aA)) ((sH X D L').set X.length .gone):=by simp only[tx];exact aK.all fK _ L' (aS (nat_lit 0x1000006f0115ae01101) ae ll) λr c vs hv=>by exact aM [] (.val 1 (G8 (H:=(sH X D L').set X.length .gone) r) (.no 2 (aP hv) .nil))
 obtain e:((sH X D L').set X.length .gone).set X.length (.lst (L'.map fK))=sH X D L':=by rw[ji,ji]
 obtain q:=bD (.call c0 (.loop lp (.obj k0 (.cmp l2 .nil))));exact⟨L',h1,h2,q.hp e⟩
end
section
variable{d:Nat}{H X:AH}{cs:List Int}{o k:Nat}{nm:List (List Nat)}{D:cI}{rk:List (List Nat)}{line:List az}
theorem AG(X:List (List Nat))(hn:X.Nodup)(hl:X.length<64):∃ev:List (List Nat),bO (X.map ao) (X.map ao)=some (.lst (ev.map ao))/\ev.Perm X/\ev.Pairwise (λa b=>strLt (sL a) (sL b)=true):=by
 obtain⟨bs,h1,h2,h3⟩:=o8 X ao sL (λs=>V.str s) strLt (λa c b c=>rfl) e8 kJ Dk (by
  have :(X.map λa=>V.str (sL a)).all EP=true:=by refine List.all_map.trans ?_;exact SU.mpr λc c=>rfl
  unfold sortable;refine this.symm▸?_
  grind) hl
 refine⟨bs,h1,h2,(h3 (·≠·) hn).imp λ{a b} h=>?_⟩;rcases h with h|⟨h4,h5⟩
 ·exact h
 ·induction h6:strLt (sL a) (sL b) with |true=>rfl|false=>exact absurd (bM (lK _ _ h6 h4)) h5
theorem G9{a b:List Nat}(hs:rk.Pairwise (λa b=>strLt (sL a) (sL b)=true))(ha:a∈rk)(hb:b∈rk):strLt (sL a) (sL b)=decide (rk.idxOf a<rk.idxOf b):=by
 obtain la:=y8.mpr ha;obtain lb:=y8.mpr hb;obtain ga:=List.getElem_idxOf la;obtain gb:=List.getElem_idxOf lb;obtain P:=List.pairwise_iff_getElem.mp hs;by_cases h:rk.idxOf a<rk.idxOf b
 ·obtain q:=P _ _ la lb h;rw[ga,gb] at q;simp only[q,decide_eq_true h]
 ·refine(decide_eq_false h)▸?_;by_cases e:rk.idxOf a=rk.idxOf b
  ·have :a=b:=by rw[<-ga,<-gb];simp only[e]
   simp only[this,e8]
  ·obtain q:=P _ _ lb la (aL (nat_lit 4580249857) ae (OK (aL (nat_lit 4312813825) ae h) (aaJ e)));simp only[ga,gb] at q;induction h6:strLt (sL a) (sL b) with |false=>rfl|true=>obtain this:=kJ _ _ _ q h6;rw[e8] at this;exact bE this
noncomputable def xN(D:cI)(rk:List (List Nat))(r:Row):Int:=(D.a* r.2* 8+D.b* (rk.idxOf r.1.1:Nat))* 8+D.c* (rk.idxOf r.1.2:Nat)
structure pB(D:cI):Prop where
 a:D.a=1\/D.a=-1
 b:D.b=1\/D.b=-1
 c:D.c=1\/D.c=-1
theorem tJ{D:Int}(hD:D=1\/D=-1)(x y n:Int){b c:Bool}(hb:b=decide (x<y))(hc:c=decide (y<x)):(bif b then -D else bif c then D else n)=if D* x<D* y then -1 else if D* y<D* x then 1 else n:=by
 subst hb hc;simp only[cond_eq_ite,cond_eq_ite];simp only[decide_eq_true_eq];rcases hD with rfl|rfl
 ·simp only[Int.one_mul,Int.one_mul]
 ·by_cases h1:x<y
  ·rw[if_pos h1,if_neg (by lia),if_pos (by simp_all)];rfl
  ·refine(if_neg h1).trans ?_;by_cases h2:y<x
   ·rw[if_pos h2,if_pos (by simp_all)]
   ·rw[if_neg h2,if_neg (by simp_all),if_neg (by lia)]
theorem iW{D i:Int}(hD:D=1\/D=-1)(h0:0<=i)(h:i<=3):-3<=D* i/\D* i<=3:=by rcases hD with rfl|rfl<;>lia
theorem PE{a b p q K:Int}(h1:-3<=b/\b<=3)(h3:-3<=q/\q<=3):(if a<p then -1 else if p<a then 1 else if b<q then -1 else if q<b then 1 else K)=if a* 8+b<p* 8+q then -1 else if p* 8+q<a* 8+b then 1 else K:=by
 refine h1.elim λb1 b2=>h3.elim λq1 q2=>?_
 rcases Int.lt_trichotomy a p with h|h|h
 ·rw[if_pos h,if_pos (by exact Iz.go (nat_lit 0x218b8308b89139381239d81109803) [] [_,_,_,_] ae h q1 b2)]
 ·subst h;rw[if_neg (Int.lt_irrefl a),if_neg (Int.lt_irrefl a)];simp only[Int.add_lt_add_iff_left]
 ·rw[if_neg (Int.lt_asymm h),if_pos h,if_neg (by lia),if_pos (by exact Iz.go (nat_lit 0x318b8208b891339d8139281109803) [] [_,_,_,_] ae h q2 b1)]
theorem Va{a b c p q r:Int}(h1:-3<=b/\b<=3)(h2:-3<=c/\c<=3)(h3:-3<=q/\q<=3)(h4:-3<=r/\r<=3):(if a<p then -1 else if p<a then 1 else if b<q then -1 else if q<b then 1 else if c<r then -1 else if r<c then 1 else(0:Int))=if(a* 8+b)* 8+c<(p* 8+q)* 8+r then -1 else if(p* 8+q)* 8+r<(a* 8+b)* 8+c then 1 else 0:=(PE h1 h3).trans (PE h2 h4)
theorem part8{A P c r:Int}(h:A* 8+c=P* 8+r)(h2:-3<=c/\c<=3)(h4:-3<=r/\r<=3):A=P/\c=r:=by
 refine h2.elim λb1 b2=>h4.elim λq1 q2=>?_
 obtain e:A=P:=by omega
 exact⟨e,Int.add_left_cancel (a:=P* 8) (by rw[e] at h;exact h)⟩
structure vG(rk:List (List Nat))(x:Row):Prop where
 a:x.1.1∈rk
 b:x.1.2∈rk
theorem K1(hD:pB D)(hs:rk.Pairwise (λa b=>strLt (sL a) (sL b)=true))(hl:rk.length<=4){x y:Row}(hx:vG rk x)(hy:vG rk y):LP D (xN D rk) x y:=by
 obtain bd:∀a,a∈rk->0<=((rk.idxOf a:Nat):Int)/\((rk.idxOf a:Nat):Int)<=3:=λa h=>by obtain this:=y8.mpr h;exact⟨nR (nat_lit 118063360) ae,v9 (nat_lit 0x39078149101101102) ae this hl⟩
 obtain lt:∀a b,a∈rk->b∈rk->strLt (sL a) (sL b)=decide (((rk.idxOf a:Nat):Int)<((rk.idxOf b:Nat):Int)):=λa b ha hb=>(G9 hs ha hb).trans (decide_eq_decide.mpr (by simp_all))
 obtain e3:=tJ hD.c (rk.idxOf x.1.2:Nat) (rk.idxOf y.1.2:Nat) 0 (lt _ _ hx.b hy.b) (lt _ _ hy.b hx.b);obtain e2:=tJ hD.b (rk.idxOf x.1.1:Nat) (rk.idxOf y.1.1:Nat) (cmpG [(1,D.c,strLt (sL x.1.2) (sL y.1.2),strLt (sL y.1.2) (sL x.1.2))]) (lt _ _ hx.a hy.a) (lt _ _ hy.a hx.a);obtain e1:=tJ hD.a x.2 y.2 (cmpG ((0,D.b,strLt (sL x.1.1) (sL y.1.1),strLt (sL y.1.1) (sL x.1.1))::[(1,D.c,strLt (sL x.1.2) (sL y.1.2),strLt (sL y.1.2) (sL x.1.2))])) rfl rfl;refine Eq.trans e1 ?_;rw[show cmpG ((0,D.b,strLt (sL x.1.1) (sL y.1.1),strLt (sL y.1.1) (sL x.1.1))::[(1,D.c,strLt (sL x.1.2) (sL y.1.2),strLt (sL y.1.2) (sL x.1.2))])=_ from e2,show cmpG [(1,D.c,strLt (sL x.1.2) (sL y.1.2),strLt (sL y.1.2) (sL x.1.2))]=_ from e3];obtain i1:=bd _ hx.a;obtain i2:=bd _ hx.b;obtain i3:=bd _ hy.a;obtain i4:=bd _ hy.b;exact Va (iW hD.b i1.1 i1.2) (iW hD.c i2.1 i2.2) (iW hD.b i3.1 i3.2) (iW hD.c i4.1 i4.2)
theorem yT{D x y:Int}(hD:D=1\/D=-1)(h:D* x=D* y):x=y:=by rcases hD with rfl|rfl<;>lia
theorem G_(hD:pB D)(hl:rk.length<=4){x y:Row}(hx:vG rk x)(hy:vG rk y)(h:xN D rk x=xN D rk y):x.1=y.1:=by
 obtain key:∀a b:List Nat,a∈rk->b∈rk->((rk.idxOf a:Nat):Int)=((rk.idxOf b:Nat):Int)->a=b:=λa b ha hb e=>by
  obtain ga:rk[rk.idxOf a]'(y8.mpr ha)=a:=List.getElem_idxOf _;obtain gb:rk[rk.idxOf b]'(y8.mpr hb)=b:=List.getElem_idxOf _;obtain e:rk.idxOf a=rk.idxOf b:=by exact v9 (nat_lit 17751486211345) ae e
  rw[<-ga,<-gb];simp only[e]
 obtain bd:∀a,a∈rk->0<=((rk.idxOf a:Nat):Int)/\((rk.idxOf a:Nat):Int)<=3:=λa h=>by obtain this:=y8.mpr h;exact⟨nR (nat_lit 118063360) ae,v9 (nat_lit 0x39078149101101102) ae this hl⟩
 obtain i1:=iW hD.b (bd _ hx.a).1 (bd _ hx.a).2;obtain i2:=iW hD.c (bd _ hx.b).1 (bd _ hx.b).2;obtain i3:=iW hD.b (bd _ hy.a).1 (bd _ hy.a).2;obtain i4:=iW hD.c (bd _ hy.b).1 (bd _ hy.b).2;refine(part8 h i2 i4).elim λe1 e2=>?_
 exact aaC (key _ _ hx.a hy.a (yT hD.b (part8 e1 i1 i3).2)) (key _ _ hx.b hy.b (yT hD.c e2))
end
section
variable{d:Nat}{H X:AH}{cs:List Int}{o k:Nat}{nm:List (List Nat)}{D:cI}{rk:List (List Nat)}{line:List az}
theorem Hg(i:Nat)(hi:i<16):binop .Pow (.int 2) (.int i)=some (.int (2^i))/\(small (2^i)=true/\(2^i:Int)≠0):=by obtain this:=cj (by decide:(w8 16).all (λi=>decide ((2:Int)^i≠0)&&small (2^i))=true) i (List.mem_range.mpr hi);obtain q:=a_ this;refine⟨?_,q.2,of_decide_eq_true q.1⟩;refine(?_:(if(small 2&&decide ((0:Int)<=(i:Int))&&decide ((i:Int)<100))=true then some (V.int (2^((i:Int)).toNat)) else none)=_);rw[if_pos (bX ⟨bX ⟨by kernel_rfl,decide_eq_true (by exact nR (nat_lit 118063360) ae)⟩,decide_eq_true (by omega)⟩),aad]
theorem K2(c:Int)(i:Nat)(hi:i<16):binop .FloorDiv (.int c) (.int (2^i))=some (.int (c.fdiv (2^i))):=by
 refine(Hg i hi).elim λa z=>z.elim λh1 h2=>?_
 refine(?_:(if((2^i:Int)!=0&&small (2^i))=true then some (V.int (c.fdiv (2^i))) else none)=_);exact if_pos (bX ⟨bne_iff_ne.mpr h2,h1⟩)
abbrev Vb(cs:List Int)(o k:Nat)(nm:List (List Nat))(D:cI):af:=U_ cs o k nm++[(T "keys",qa D)]
theorem PF(dh:cs.length=6):∃D,pB D/\LX d 15 (U_ cs o k nm) X .next (Vb cs o k nm D) X:=by
 refine(f6 dh 4 (by decide) X).elim λc z=>z.elim λa hc=>?_
 let f:Nat->Int:=λi=>1-((c.fdiv (2^i)).fmod 2)* 2
 obtain hf:∀i,f i=1\/f i=-1:=λi=>by obtain⟨j,hj,ej⟩:=kL (c.fdiv (2^i)) 2 (by decide);refine(?_:(1-((c.fdiv (2^i)).fmod ((2:Nat):Int))* 2=1)\/(1-((c.fdiv (2^i)).fmod ((2:Nat):Int))* 2=-1));omega
 obtain tn:∀(cl i:Nat) (vs:List V),i<3->vs.length+1<ai->GD (d+8) (cX (lS 15)) (.tup [.int i,.int cl]) [(T "cells",vE cs)] (.l vs) X (.l (vs++[.tup [.int cl,.int (f i)]])) X:=λcl i vs hi hv=>by obtain⟨j,hj,ej⟩:=kL (c.fdiv (2^i)) 2 (by decide);obtain md:binop .Mod (.int (c.fdiv (2^i))) (.int 2)=some (.int ((c.fdiv (2^i)).fmod 2)):=rfl;obtain ej':(c.fdiv (2^i)).fmod 2=j:=ej;obtain m:=gC ((c.fdiv (2^i)).fmod 2) 2 (bX ⟨decide_eq_true (by omega),by kernel_rfl⟩);exact aM [T "cells"] (.val 2 hc (.val 4 (Hg i (aS (nat_lit 296872762675457) ae hi)).1 (.val 5 (K2 c i (aS (nat_lit 296872762675457) ae hi)) (.val 6 md (.val 7 m (.no 9 (aP hv) .nil))))))
 obtain lp:bZ (d+8) (cX (lS 15)) [.tup [.int 0,.int 2],.tup [.int 1,.int 0],.tup [.int 2,.int 1]] [(T "cells",vE cs)] (.l []) X (.l [.tup [.int 2,.int (f 0)],.tup [.int 0,.int (f 1)],.tup [.int 1,.int (f 2)]]) X:=(tn 2 0 [] (by decide) (by decide)).go ((tn 0 1 [.tup [.int 2,.int (f 0)]] (by decide) (show 2<ai by decide)).go ((tn 1 2 [.tup [.int 2,.int (f 0)],.tup [.int 0,.int (f 1)]] (by decide) (show 3<ai by decide)).go .nil));exact⟨⟨f 0,f 1,f 2⟩,⟨hf 0,hf 1,hf 2⟩,bL (.cmp lp .nil)⟩
abbrev wh(cs:List Int)(o:Nat)(a:az):Row:=(a,kR cs o a.1 a.2)
theorem gY{a:az}(hn:∀w∈nm,w∈bU o)(h0:nm≠[])(h:a∈cD nm):a.1∈bU o/\a.2∈bU o:=by obtain this:=aaM h;refine⟨(bx this.1).elim (λe=>?_) (hn _),hn _ this.2⟩;simp only[e,NM,Fs h0];exact hn _ (List.getLast_mem h0)
theorem yU(pre l:List az)(x:az):x∈arG pre l↔x∈l/\x∉pre:=by
 induction l generalizing pre with
 |nil=>exact⟨λh=>(nomatch h),λh=>nomatch h.1⟩|cons a r ih=>
  rw[vF];by_cases h:a∈pre
  ·rw[if_pos h,ih,Fm,vu,y3];exact⟨λ⟨h1,h2⟩=>⟨.inr h1,λq=>h2 (.inl q)⟩,λ⟨h1,h2⟩=>⟨h1.resolve_left λe=>h2 (e▸h),λq=>q.elim h2 λe=>h2 (e▸h)⟩⟩
  ·rw[if_neg h,y3,ih,Fm,vu,y3];refine⟨λq=>q.elim (λe=>by subst e;exact⟨.inl rfl,h⟩) λ⟨h1,h2⟩=>⟨.inr h1,λq=>h2 (.inl q)⟩,λ⟨h1,h2⟩=>?_⟩;by_cases e:x=a
   ·exact .inl e
   ·exact .inr ⟨h1.resolve_left e,λq=>q.elim h2 e⟩
theorem K3(pre l:List az):(arG pre l).Nodup:=by
 induction l generalizing pre with
 |nil=>exact Iy|cons a r ih=>
  rw[vF];by_cases h:a∈pre
  ·rw[if_pos h];exact ih _
  ·rw[if_neg h];exact Hk.mpr ⟨λq=>((yU _ _ _).mp q).2 (y4 _ (.head _)),ih _⟩
theorem d8{a:az}:a∈mW nm↔a∈cD nm:=by unfold mW;rw[yU];exact⟨λh=>h.1,λh=>⟨h,Oy⟩⟩
theorem tL:(mW nm).Nodup:=K3 _ _
theorem nh:(mW nm).length<=nm.length:=by refine f7▸?_;exact tL.length_le_of_subset λa h=>d8.mp h
abbrev Vc(cs:List Int)(o k:Nat)(nm:List (List Nat))(D:cI)(line:List az):af:=Vb cs o k nm D++[(T "line",aZ line)]
abbrev ZP:Expr:=my (cX (lS 16)) 0
theorem PG(dh:cs.length=6)(hn:∀w∈nm,w∈bU o)(h0:nm≠[])(hz:nm.length<=10)(hD:pB D)(hp:rk.Perm (bU o))(hs:rk.Pairwise (λa b=>strLt (sL a) (sL b)=true)):
  ∃(line:List az) (Y:AH),line.Perm (mW nm)/\line.Pairwise (λa b=>xN D rk (wh cs o a)<xN D rk (wh cs o b))/\LX d 16 (Vb cs o k nm D) X .next (Vc cs o k nm D line) (X++Y):=by
 obtain hl:=Fu hp.length_eq;have ok:∀a∈mW nm,vG rk (wh cs o a):=λa ha=>by obtain this:=gY hn h0 (d8.mp ha);exact⟨hp.mem_iff.mpr this.1,hp.mem_iff.mpr this.2⟩
 obtain la:=nh;obtain lp:bZ (d+8) ZP ((mW nm).map aA) [(T "price",wq cs o)] (.l []) X (.l (((mW nm).map (wh cs o)).map fK)) X:=by rw[tx];exact aK.all aA _ (mW nm) (by exact aL (nat_lit 0x1000006f011a9101100102) ae la hz) λa ha vs hv=>by have m:=gY hn h0 (d8.mp ha);obtain q:=iV (d:=d+6) (H:=X) dh m.1 m.2;exact aM [T "price"] (.call q (.no 5 (aP hv) .nil))
 obtain⟨L',h1,h2,q⟩:=AF (d:=d+3) (X:=X) ((mW nm).map (wh cs o)) (λx hx y hy=>by
  refine(AY hx).elim λa WO=>?_;obtain ha:=WO.1;obtain ZQ:=WO.2;subst ZQ
  obtain⟨b,hb,rfl⟩:=AY hy;exact K1 hD hs hl (ok a ha) (ok b hb)) (List.pairwise_map.mpr (List.Pairwise.imp_of_mem (λ{a b} ha hb ne e=>ne (G_ hD hl (ok a ha) (ok b hb) e)) tL)) (by rw[ph];exact aL (nat_lit 0x5ae011a9101100102) ae la hz)
 have hL:∀x∈L',x=wh cs o x.1:=λx hx=>by obtain⟨a,_,rfl⟩:=AY (h1.mem_iff.mp hx);rfl
 refine⟨L'.map (·.1),[.lst (L'.map fK),EE D],?_,List.pairwise_map.mpr (List.Pairwise.imp_of_mem (λ{a b} ha hb k=>?_) h2),bL (.cmp lp (.call q .nil))⟩
 ·obtain this:=h1.map (·.1);rw[tx] at this;obtain e:(mW nm).map ((λr:Row=>r.1)∘wh cs o)=mW nm:=List.map_id _;rw[e] at this;exact this
 ·rw[<-hL a ha,<-hL b hb];exact k
end
section
variable{d:Nat}{H X:AH}{cs:List Int}{o k:Nat}{nm:List (List Nat)}{D:cI}{rk:List (List Nat)}{line:List az}
abbrev Vd(cs:List Int)(o k:Nat)(nm:List (List Nat))(D:cI)(line:List az)(rk:List (List Nat)):af:=Vc cs o k nm D line++[(T "ranks",cS rk)]
theorem PI(h:bO ((bU o).map ao) ((bU o).map ao)=some (cS rk)):LX d 17 (Vc cs o k nm D line) X .next (Vd cs o k nm D line rk) X:=by
 obtain so:fN [cS (bU o)] X=some (cS rk,X):=by refine(?_:(opt (bO ((bU o).map ao) ((bU o).map ao)):M V) X=_);refine h▸?_;rfl
 exact bL (.upd 2 so .nil)
abbrev Rb(cs:List Int)(o:Nat)(D:cI)(rk:List (List Nat)):V:=.r8 [T "arc"] (Ai (cX (lS 18))) (Aj (cX (lS 18))) [(T "keys",qa D),(T "price",wq cs o),(T "ranks",cS rk)]
abbrev IY(cs:List Int)(o k:Nat)(nm:List (List Nat))(D:cI)(line:List az)(rk:List (List Nat)):af:=Vd cs o k nm D line rk++[(T "worth",Rb cs o D rk)]
theorem PJ:LX d 18 (Vd cs o k nm D line rk) X .next (IY cs o k nm D line rk) X:=bL .nil
theorem jB{i:Int}(h:-10000<=i/\i<=10000):small i=true:=decide_eq_true (by omega)
theorem IZ{D i:Int}(hD:D=1\/D=-1)(h:-3<=i/\i<=3):-3<=D* i/\D* i<=3:=by rcases hD with rfl|rfl<;>lia
theorem Dz(dh:cs.length=6)(hD:pB D)(hp:rk.Perm (bU o)){a:az}(h1:a.1∈bU o)(h2:a.2∈bU o):aC (d+4) (Rb cs o D rk) [aA a] H (.int (xN D rk (wh cs o a))) H:=by
 have hl:rk.length<=4:=Fu hp.length_eq;have q:=iV (d:=d+1) (H:=H) dh h1 h2
 have ix:=m_ (X:=H) (tH (hp.mem_iff.mpr h1));have iy:=m_ (X:=H) (tH (hp.mem_iff.mpr h2))
 have l1:=y8.mpr (hp.mem_iff.mpr h1);have l2:=y8.mpr (hp.mem_iff.mpr h2)
 have pr:=lN cs o a.1 a.2;unfold xN;show aC (d+4) _ _ _ (.int ((D.a* kR cs o a.1 a.2* 8+D.b* (rk.idxOf a.1:Nat))* 8+D.c* (rk.idxOf a.2:Nat))) _
 revert q ix iy l1 l2 pr
 generalize kR cs o a.1 a.2=p;generalize rk.idxOf a.1=i;generalize rk.idxOf a.2=j;intro q ix iy l1 l2 pr;have ba:=IZ hD.a (i:=p) (⟨uw (nat_lit 0x39d81019d8101) ae pr.1,uw (nat_lit 62706833981697) ae pr.2⟩)
 have bb:=IZ hD.b (i:=(i:Int)) (⟨nR (nat_lit 1939702016) ae,v9 (nat_lit 0x39078149101101102) ae l1 hl⟩);have s1:small D.a=true/\small D.b=true/\small D.c=true:=⟨jB (by have :=hD.a;omega),jB (by have :=hD.b;omega),jB (by have :=hD.c;omega)⟩
 have m1:=gC D.a p (bX ⟨s1.1,jB (⟨uw (nat_lit 0x271004ed81019d8101) ae pr.1,uw (nat_lit 0x271004e0812908101) ae pr.2⟩)⟩);have m2:=gC (D.a* p) 8 (bX ⟨jB (⟨uw (nat_lit 0x271004ed81039d8101) ae ba.1,uw (nat_lit 0x271004e0813908101) ae ba.2⟩),by kernel_rfl⟩)
 have m3:=gC D.b i (bX ⟨s1.2.1,jB (⟨nR (nat_lit 0x7271004ed8100) ae,v9 (nat_lit 0x271004e078149101101102) ae l1 hl⟩)⟩);have m4:=gC (D.a* p* 8+D.b* i) 8 (bX ⟨jB (⟨MH (nat_lit 0x18b8271004ed81139d88039d8102) ae bb.1 ba.1,MH (nat_lit 0x271004e018b881391883908102) ae bb.2 ba.2⟩),by kernel_rfl⟩)
 have m5:=gC D.c j (bX ⟨s1.2.2,jB (⟨nR (nat_lit 0x7271004ed8100) ae,v9 (nat_lit 0x271004e078149101101102) ae l2 hl⟩)⟩);have e:bY (d+3) (f9 (Aj (cX (lS 18)))) ([T "arc"].zip [aA a]++[(T "keys",qa D),(T "price",wq cs o),(T "ranks",cS rk)]) (Ai (cX (lS 18))) H (.int ((D.a* p* 8+D.b* i)* 8+D.c* j)) H:=oW (.call q (.val 8 m1 (.val 9 m2 (.upd 16 ix (.val 17 m3 (.val 19 m4 (.upd 26 iy (.val 27 m5 .nil))))))))
 exact Cq (by kernel_rfl) (by kernel_rfl) e
theorem K4(dh:cs.length=6)(hD:pB D)(hp:rk.Perm (bU o))(l:List az)(h:∀a∈l,a.1∈bU o/\a.2∈bU o):lF (d+4) (Rb cs o D rk) (l.map aA) X (l.map λa=>.int (xN D rk (wh cs o a))) X:=by
 induction l with |nil=>exact .nil|cons a l ih=>exact .cons (Dz dh hD hp (h a (.head _)).1 (h a (.head _)).2) (ih λb hb=>h b (.tail _ hb))
theorem DA{α:Type}(as:List α)(enc:α->V)(key:α->Int)(hl:as.length<64):
  ∃bs:List α,bO (as.map λa=>.int (key a)) (as.map enc)=some (.lst (bs.map enc))/\bs.Perm as/\bs.Pairwise λa b=>key a<=key b:=by
 obtain⟨bs,h1,h2,h3⟩:=o8 as enc key V.int (λa b=>decide (a<b)) (λa d b d=>rfl) (by simp) (by intro a b c h k;simp only[decide_eq_true_eq] at *;exact Iz.go (nat_lit 5225989790535938) [] [_,_,_] ae k h) (by intro a b c h k;simp only[decide_eq_false_iff_not] at *;exact Iz.go (nat_lit 0x90961129102d110d103) [] [_,_,_] ae k h) (by
  have :(as.map λa=>V.int (key a)).all EO=true:=by refine List.all_map.trans ?_;exact SU.mpr λd d=>rfl
  unfold sortable;refine this.symm▸?_;rfl) hl
 refine⟨bs,h1,h2,(h3 (λd d=>True) (List.pairwise_of_forall λd d=>trivial)).imp λ{a b} h=>?_⟩;rcases h with h|⟨h4,h5⟩
 ·obtain this:=of_decide_eq_true h;exact MH (nat_lit 70884823297) ae this
 ·obtain this:=of_decide_eq_false h4;exact MH (nat_lit 6460330241) ae this
theorem rJ(l:List az):gH bj H (aZ l) (aZ l)=some true:=gX H _ λv hv=>by obtain⟨a,_,rfl⟩:=AY hv;refine(?_:some ((sL a.1==sL a.1)&&((sL a.2==sL a.2)&&true))=some true);simp only[beq_self_eq_true,beq_self_eq_true];rfl
abbrev WQ:Expr:=Pw (UN (lS 19))
theorem PK(dh:cs.length=6)(hn:∀w∈nm,w∈bU o)(h0:nm≠[])(hz:nm.length<=10)(hD:pB D)(hp:rk.Perm (bU o))(h1:line.Perm (mW nm))(h2:line.Pairwise (λa b=>xN D rk (wh cs o a)<xN D rk (wh cs o b))):
  LX d 19 (IY cs o k nm D line rk) X .next (IY cs o k nm D line rk) X:=by
 obtain la:=nh (nm:=nm);refine(DA (mW nm) aA (λa=>xN D rk (wh cs o a)) (aL (nat_lit 0x40e011a9101100102) ae la hz)).elim λbs z=>z.elim λb1 z=>z.elim λb2 b3=>?_
 have inj:∀l:List az,l.Pairwise (λa b=>xN D rk (wh cs o a)<xN D rk (wh cs o b))->∀a∈l,∀b∈l,xN D rk (wh cs o a)=xN D rk (wh cs o b)->a=b:=λl=>by
  induction l with
  |nil=>intro _ a h;exact nomatch h|cons v l ih=>
   intro h a ha b hb e;refine(List.pairwise_cons.mp h).elim λp1 p2=>?_
   rcases bx ha with ea|ka<;>refine(bx hb).elim (λeb=>?_) λkb=>?_
   ·exact ea.trans eb.symm
   ·have :=p1 b kb;simp only[ea] at e;omega
   ·have :=p1 a ka;simp only[eb] at e;omega
   ·exact ih p2 a ka b kb e
 obtain eb:=List.Perm.eq_of_pairwise (λa b ha hb e1 e2=>inj line h2 a (h1.mem_iff.mpr (b2.mem_iff.mp ha)) b hb (MH (nat_lit 462965329461522) ae e1 e2)) b3 (h2.imp λh=>Int.le_of_lt h) (b2.trans h1.symm);subst eb;obtain arg:bY (d+7) mh (IY cs o k nm D bs rk) (my WQ 0) X (aZ (mW nm)) X:=oW .nil;obtain ZR:bY (d+7) mh (IY cs o k nm D bs rk) (.Name (T "sorted") ⟨191,15,191,21⟩) X (.blt "sorted") X:=oW .nil;obtain kf:bY (d+7) mh (IY cs o k nm D bs rk) (ZG WQ) X (Rb cs o D rk) X:=oW .nil;obtain so:=Gj (kp:=⟨191,28,191,37⟩) (p:=⟨191,15,191,38⟩) (by kernel_rfl) ZR arg kf rfl rfl (K4 dh hD hp (mW nm) λa ha=>gY hn h0 (d8.mp ha)) b1;exact bL (.ev so (.val 1 (eE (rJ (H:=X) bs)) .nil))
end
section
variable{d:Nat}{H X:AH}{x:List Nat}{l:List az}{met:List (List Nat)}
noncomputable def jo(met:List (List Nat))(a:az):List (List Nat):=if decide (a.1∈met)=decide (a.2∈met) then met else met++[a.1,a.2]
def c_(l:List az)(met:List (List Nat)):List (List Nat):=l.foldl jo met
def aD(x:List Nat)(l:List az):List (List Nat):=c_ l (c_ l (c_ l [x]))
abbrev PM:B2:=cf (bd 19) 1
abbrev Rc:B2:=cf (b_ PM) 0
abbrev Hh(x:List Nat)(l:List az)(met:List (List Nat)):af:=[(T "one",ao x),(T "arcs",aZ l),(T "met",cS met)]
abbrev Rd:List Str:=[T "one",T "arcs",T "met"]
theorem Hi(a:az)(hz:met.length<1000):Turn (d+1) (jg 19) (cW Rc) (b_ Rc) (aA a) (Hh x l met) H .next (Hh x l (jo met a)) H:=by
 obtain i1:=eZ H a.1 met;obtain i2:=eZ H a.2 met;obtain ad:=GR (a:=met.map ao) (b:=[ao a.1,ao a.2]) (by rw[ph];refine(?_:_+2<1048576);lia);obtain ad:=(show met.map ao++[ao a.1,ao a.2]=(met++[a.1,a.2]).map ao by rw[vk];rfl)▸ad;have ne:∀p q:Bool,bG H .NotEq (.bool p) (.bool q)=some (.bool !(p==q)):=λc c=>rfl
 have ne:=ne (decide (a.1∈met)) (decide (a.2∈met));unfold jo;by_cases h:decide (a.1∈met)=decide (a.2∈met)
 ·rw[if_pos h];rw[beq_iff_eq.mpr h] at ne;exact au Rd (.val 2 i1 (.val 5 i2 (.val 6 ne .nil)))
 ·rw[if_neg h];rw[beq_false_of_ne h] at ne;exact au Rd (.val 2 i1 (.val 5 i2 (.val 6 ne (.val 11 ad .nil))))
theorem vH(met:List (List Nat))(a:az):(jo met a).length<=met.length+2:=by
 unfold jo;split
 ·exact aS (nat_lit 11014242560) ae
 ·rw[pj];exact pd _
theorem iX(l:List az)(met:List (List Nat)):(c_ l met).length<=met.length+2* l.length:=by
 induction l generalizing met with |nil=>exact pd _|cons a r ih=>obtain h1:=ih (jo met a);obtain h2:=vH met a;exact e9 (nat_lit 0x19382a18201291800132a0820102) ae h1 h2
theorem Hj(met:List (List Nat))(hz:met.length+2* l.length<900):cz (d+1) (jg 19) (cW Rc) (b_ Rc) (l.map aA) (Hh x l met) H .next (Hh x l (c_ l met)) H:=
 cz.fold aA (λmet=>Hh x l met) (λb=>H) jo (λxs s=>s.length+2* xs.length<900)
  (λa xs s h=>by obtain this:=vH s a;exact aW (nat_lit 0x3843f22a08113843f19282a1811291800102) ae this h)
  (λa xs s h=>Hi a (aL (nat_lit 0x3e83f0113843f12a081101) ae h)) l met hz
theorem DB(hz:l.length<100):aC (d+2) (.fn 216) [ao x,aZ l] X (cS (aD x l)) X:=by
 have g1:=iX l [x];have g2:=iX l (c_ l [x])
 rw[aaz] at g1;have tn:∀(i:Nat) (met:List (List Nat)),met.length+2* l.length<900->Turn (d+1) (jg 19) (cW PM) (b_ PM) (.int (0+(i:Int))) (Hh x l met) X .next (Hh x l (c_ l met)) X:=λi met h=>au Rd (.ks Rd (.loop (Hj (d:=d) (H:=X) (x:=x) met h) .nil))
 have lp:cz (d+1) (jg 19) (cW PM) (b_ PM) ((w8 3).map λ(i:Nat)=>.int (0+(i:Int))) (Hh x l [x]) X .next (Hh x l (aD x l)) X:=(tn 0 [x] (by rw[aaz];exact aS (nat_lit 0x3843f02a1981164e01201) ae hz)).next (.inl rfl) ((tn 1 (c_ l [x]) (aL (nat_lit 0x3843f12a081164e11412a19800102) ae g1 hz)).next (.inl rfl) ((tn 2 (c_ l (c_ l [x])) (aW (nat_lit 0x3843f22a081164e21622a19810122a1800103) ae g2 g1 hz)).next (.inl rfl) .nil));exact bD (.loop lp .nil)
variable{cs:List Int}{o k:Nat}{nm:List (List Nat)}{D:cI}{rk:List (List Nat)}{line:List az}
def eF(line:List az):List az:=((line.zipIdx 0).filter λp=>decide (p.1.2∈aD p.1.1 (line.take p.2))).map λp=>p.1
abbrev Hl(cs:List Int)(o k:Nat)(nm:List (List Nat))(D:cI)(line:List az)(rk:List (List Nat)):af:=IY cs o k nm D line rk++[(T "must",aZ (eF line))]
theorem vI(a:az):item H (aA a) (.int 0)=some (ao a.1):=by kernel_rfl
theorem vJ(a:az):item H (aA a) (.int 1)=some (ao a.2):=by kernel_rfl
theorem PN(hz:line.length<=10):LX d 20 (IY cs o k nm D line rk) X .next (Hl cs o k nm D line rk) X:=by
 obtain lp:bZ (d+8) (cX (lS 20)) (aX 0 (line.map aA)) [(T "line",aZ line)] (.l []) X (.l ((eF line).map aA)) X:=by
  unfold eF;simp only[tx,show aX 0 (line.map aA)=_ from fu aA 0 line];exact aK.pick (λ(p:az×Nat)=>.tup [.int p.2,aA p.1]) _ _ (line.zipIdx 0) [] (by simp only[Tx,tm];exact aS (nat_lit 0x1000006f009811a900101) ae hz) λp hp vs hv=>by
   obtain sl:=rI (X:=X) (l:=line) p.2;obtain q:=DB (d:=d+6) (X:=X) (x:=p.1.1) (by rw[List.length_take];exact aL (nat_lit 0x64e111a9001010102) ae (Nat.min_le_right (p.snd) (line.length)) hz);obtain i:=eZ X p.1.2 (aD p.1.1 (line.take p.2));induction hb:decide (p.1.2∈aD p.1.1 (line.take p.2)) with |false=>rw[hb] at i;exact aM [T "line"] (.val 1 (vJ (H:=X) p.1) (.val 4 (vI (H:=X) p.1) (.val 7 sl (.call q (.val 8 i .nil)))))|true=>rw[hb] at i;exact aM [T "line"] (.val 1 (vJ (H:=X) p.1) (.val 4 (vI (H:=X) p.1) (.val 7 sl (.call q (.val 8 i (.no 11 (aP hv) .nil))))))
 exact bL (.cmp lp .nil)
end
section
variable{d:Nat}{H X:AH}{x:List Nat}{a:az}{l:List az}{met:List (List Nat)}
theorem vK(x:List Nat)(l:List (List Nat)):inside H (ao x) (cS l)=some (decide (x∈l)):=by refine(?_:(eqRow (ao x) (l.map ao)).map (·.any id)=_);simp only[show l.map ao=(l.map sL).map .str by rw[tx];rfl,show ao x=.str (sL x) from rfl,o9,yO]
theorem xO(x:List Nat)(l:List (List Nat)):bG H .NotIn (ao x) (cS l)=some (.bool !(decide (x∈l))):=by refine(?_:((inside H (ao x) (cS l)).map λr=>V.bool !r)=_);rw[vK];rfl
theorem DC{l:List (List Nat)}(j:Nat):slice X (cS l) none (some (j:Int))=some (cS (l.take j)):=by refine(?_:some (V.lst (cut (l.map ao) none (some (j:Int))))=_);rw[pn,<-List.map_take]
noncomputable def ak(a:az)(l:List az):List az:=l.filter λb=>!decide (b=a)
noncomputable def fE(met:List (List Nat)):List (List Nat):=((met.zipIdx 0).filter λp=>!decide (p.1∈met.take p.2)).map λp=>p.1
noncomputable def mX(l:List az)(met:List (List Nat)):List az:=l.filter λb=>decide (b.1∈met)
def fF(l:List az)(met:List (List Nat)):Bool:=decide ((fE met).length<=(mX l met).length)
def eG(a:az)(l:List az):Bool:=decide (a.2∈aD a.1 (ak a l))||(fF (ak a l) (aD a.1 (ak a l))&&fF (ak a l) (aD a.2 (ak a l)))
noncomputable abbrev EX(i:Nat):Expr:=cX (cf (bd 20) i)
theorem Ve(hz:l.length<100):bZ (d+1) (EX 0) (l.map aA) [(T "arc",aA a)] (.l []) H (.l ((ak a l).map aA)) H:=
 aK.pick aA aA (λb=>!decide (b=a)) l [] (aS (nat_lit 0x1000006f00981164e01101) ae hz) λb c vs hv=>by
  obtain n:=xK (H:=H) b a;induction hb:!decide (b=a) with |false=>rw[hb] at n;exact aM [T "arc"] (.val 2 n .nil)|true=>rw[hb] at n;exact aM [T "arc"] (.val 2 n (.no 5 (aP hv) .nil))
theorem Vf(hz:l.length<100):bZ (d+1) (my (p8 (Px (EX 2)) 0) 0) (l.map aA) [(T "met",cS met)] (.l []) H (.l ((mX l met).map aA)) H:=
 aK.pick aA aA (λb=>decide (b.1∈met)) l [] (aS (nat_lit 0x1000006f00981164e01101) ae hz) λb a vs hv=>by
  obtain n:=eZ H b.1 met;induction hb:decide (b.1∈met) with |false=>rw[hb] at n;exact aM [T "met"] (.val 1 (vI (H:=H) b) (.val 3 n .nil))|true=>rw[hb] at n;exact aM [T "met"] (.val 1 (vI (H:=H) b) (.val 3 n (.no 6 (aP hv) .nil)))
theorem Vg(hz:met.length<900):bZ (d+1) (my (p8 (Px (EX 2)) 1) 0) (aX 0 (met.map ao)) [(T "met",cS met)] (.l []) H (.l ((fE met).map ao)) H:=by
 unfold fE;simp only[tx,show aX 0 (met.map ao)=_ from fu ao 0 met];exact aK.pick (λ(p:List Nat×Nat)=>.tup [.int p.2,ao p.1]) _ _ (met.zipIdx 0) [] (by simp only[Tx,tm];exact aS (nat_lit 0x1000006f0098113843f01101) ae hz) λp hp vs hv=>by
  obtain sl:=DC (X:=H) (l:=met) p.2;obtain n:=xO (H:=H) p.1 (met.take p.2);induction hb:!decide (p.1∈met.take p.2) with |false=>rw[hb] at n;exact aM [T "met"] (.val 3 sl (.val 4 n .nil))|true=>rw[hb] at n;exact aM [T "met"] (.val 3 sl (.val 4 n (.no 7 (aP hv) .nil)))
theorem vL(x:List Nat)(l:List az)(hz:l.length<100):(aD x l).length<900:=by
 have g1:=iX l [x];have g2:=iX l (c_ l [x])
 have g3:=iX l (c_ l (c_ l [x]));rw[aaz] at g1;show(c_ l (c_ l (c_ l [x]))).length<900;exact e9 (nat_lit 0x3843f01122a19830164e21622a3810122a1800104) ae g3 g2 hz g1
theorem PO(hz:l.length<100)(hm:met.length<900)(vs:List V)(hv:vs.length+1<ai):GD (d+1) (EX 2) (cS met) [(T "rest",aZ l)] (.l vs) H (.l (vs++[.bool (fF l met)])) H:=by
 obtain c1:=Vf (d:=d) (H:=H) (met:=met) hz;obtain c2:=Vg (d:=d) (H:=H) hm;obtain ge:bG H .GtE (.int (((mX l met).map aA).length:Nat)) (.int (((fE met).map ao).length:Nat))=some (.bool (fF l met)):=by exact congrArg (λb=>some (V.bool b)) (decide_eq_decide.mpr (by simp_all))
 exact aM [T "rest"] (.cmp c1 (.cmp c2 (.val 7 ge (.no 8 (aP hv) .nil))))
theorem Ho(hz:l.length<100):aC (d+4) (.fn 221) [aA a,aZ l] X (.bool (eG a l)) X:=by
 obtain hr:(ak a l).length<100:=vw (D1 ..) hz;obtain l0:=Ve (d:=d+2) (H:=X) (a:=a) hz;obtain t1:∀(w:List Nat) (vs:List V),vs.length+1<ai->GD (d+3) (EX 1) (ao w) [(T "rest",aZ (ak a l))] (.l vs) X (.l (vs++[cS (aD w (ak a l))])) X:=λw vs hv=>by obtain q:=DB (d:=d+1) (X:=X) (x:=w) hr;exact aM [T "rest"] (.call q (.no 3 (aP hv) .nil))
 obtain l1:=(t1 a.1 [] (by decide)).go ((t1 a.2 [cS (aD a.1 (ak a l))] (show 2<ai by decide)).go .nil);obtain l2:bZ (d+3) (EX 2) [cS (aD a.1 (ak a l)),cS (aD a.2 (ak a l))] [(T "rest",aZ (ak a l))] (.l []) X (.l [.bool (fF (ak a l) (aD a.1 (ak a l))),.bool (fF (ak a l) (aD a.2 (ak a l)))]) X:=(PO hr (vL _ _ hr) [] (by decide)).go ((PO hr (vL _ _ hr) [.bool (fF (ak a l) (aD a.1 (ak a l)))] (show 2<ai by decide)).go .nil);obtain i:=eZ X a.2 (aD a.1 (ak a l));obtain i0:item X (.lst [cS (aD a.1 (ak a l)),cS (aD a.2 (ak a l))]) (.int 0)=some (cS (aD a.1 (ak a l))):=o_ rfl ((by decide:2<2^60));obtain e:∀p q:Bool,bG X .Eq (.lst [.bool p,.bool q]) (.lst [.bool true,.bool true])=some (.bool (p&&q)):=λp q=>by induction p<;>induction q<;>rfl
 obtain e:=e (fF (ak a l) (aD a.1 (ak a l))) (fF (ak a l) (aD a.2 (ak a l)));unfold eG;induction hb:decide (a.2∈aD a.1 (ak a l)) with |true=>rw[hb] at i;exact bD (.cmp l0 (.cmp l1 (.cmp l2 (.val 4 (vJ (H:=X) a) (.val 6 i0 (.val 7 i .nil))))))|false=>rw[hb] at i;exact bD (.cmp l0 (.cmp l1 (.cmp l2 (.val 4 (vJ (H:=X) a) (.val 6 i0 (.val 7 i (.val 10 e .nil)))))))
end
abbrev Lx.bh(a:Lx)(B:AH)(av:Int)(p:List V)(t:AH):AH:=a.hp (B++t) av p []
section
variable{d:Nat}{a:Lx}{B t X:AH}{av:Int}{p:List V}{o:aF}
theorem Lx.Ok.rows(h:a.Ok B)(t:AH):a.Ok (B++t):=by
 obtain e:∀{i:Nat},i<B.length->i<(B++t).length:=λq=>by simp only[pj];exact xp q (Kk ..)
 refine h.Al.elim λg hg=>?_
 exact⟨e h.lk,e h.lp,e h.lS,⟨g,by refine(vl (eI hg).1).trans ?_;exact hg⟩,h.d1,h.d2,h.d3,h.d4,h.d5,h.d6⟩
theorem fG(h:a.Ok B)(i:Nat):(a.bh B av p t)[B.length+i]?=t[i]?:=by
 obtain e:∀{j:Nat},j<B.length->j≠B.length+i:=λq=>by exact aW (nat_lit 0x90961218031101102) ae q
 rw[Lx.Am (e h.lk) (e h.lp) (e h.lS),zt (Kk ..),Nat.add_sub_cancel_left]
theorem tM(h:a.Ok B)(i:Nat)(o:aF):(a.bh B av p t).set (B.length+i) o=a.bh B av p (t.set i o):=by
 obtain e:∀{j:Nat},j<B.length->j≠B.length+i:=λq=>by exact aW (nat_lit 0x90961218031101102) ae q
 rw[Lx.C0 (e h.lk) (e h.lp) (e h.lS),aay _ _ (Kk ..),Nat.add_sub_cancel_left]
theorem tN(h:a.Ok B):a.bh B av p t++[o]=a.bh B av p (t++[o]):=by rw[Lx.app (h.rows t),ta]
abbrev DD:=List (Str×List (Str×Int))
def br(D:DD):List (Str×V):=aI (λm=>.aE (aI V.int m)) D
def ig(pl:List (List Nat)):DD:=pl.foldl (λD w=>aH D (sL w) []) []
variable{pl nm:List (List Nat)}{ct fr wt:List az}{la:List Nat}{idl L k:Nat}
abbrev nj(k:Nat)(pl nm:List (List Nat))(ct fr:List az)(L:Nat)(wt:List az)(la:List Nat)(idl:Nat):af:=[(T "lexer",.ref k),(T "plain",cS pl),(T "names",cS nm),(T "counted",aZ ct),(T "free",aZ fr),(T "into",.ref L),(T "out",.ref (L+1)),(T "waiting",aZ wt),(T "last",ao la),(T "idle",.int idl)]
abbrev Hq:List Str:=[T "lexer",T "plain",T "names",T "counted",T "free",T "into",T "out",T "waiting",T "last",T "idle"]
abbrev K5(k:Nat)(pl nm:List (List Nat))(ct fr:List az):af:=[(T "lexer",.ref k),(T "plain",cS pl),(T "names",cS nm),(T "counted",aZ ct),(T "free",aZ fr)]
abbrev rK(i:Nat):B2:=cf (bd 21) i
abbrev LQ(i:Nat):Expr:=p9 (cX (rK 0)) i
theorem yV(i:Nat)(hi:i=0\/i=1)(hz:pl.length<100):bZ (d+1) (LQ i) (pl.map ao) [] (.d []) X (.d (br (ig pl))) X:=by
 obtain lp:=aK.fold (d:=d+1) (aB:=jW (LQ i)) (g:=GC (LQ i)) (T:=bT (d+1) (jW (LQ i)) (vd (LQ i)) (iS (LQ i)).tail) (env:=[]) ao (λs=>.d (br s)) (λa=>X) (λD w=>aH D (sL w) []) (λxs s=>s.length+xs.length<200)
  (λw xs s h=>by obtain this:=bP s (sL w) [];exact aW (nat_lit 0xc8e20811c8e19281811191800102) ae this h)
  (λw xs s h=>by
   obtain e:br (aH s (sL w) [])=aH (br s) (sL w) (.aE []):=(gK (λm=>.aE (aI V.int m)) s (sL w) []).symm;refine e▸?_;rcases hi with rfl|rfl
   ·exact aM [] (.no 1 (aP (show(br s).length+1<ai by unfold br;rw[bz];unfold ai;exact aL (nat_lit 0x1000006f190811c8e1918081101) ae h)) .nil)
   ·exact aM [] (.no 1 (aP (show(br s).length+1<ai by unfold br;rw[bz];unfold ai;exact aL (nat_lit 0x1000006f190811c8e1918081101) ae h)) .nil)) pl [] (aS (nat_lit 0xc8e00981164e01101) ae hz)
 exact lp
theorem Vh(h0:nm≠[])(hn:nm.length<100)(hp:pl.length<100)(hf:fr.length<100):
  jy (d+1) (jg 21) (K5 k pl nm ct fr) (rK 0) X .next (nj k pl nm ct fr X.length fr (nm.getLastD []) 0) (X++[.aE (br (ig pl)),.aE (br (ig pl))]):=by
 obtain l1:=yV (d:=d) (X:=X) 0 (.inl rfl) hp;obtain l2:=yV (d:=d) (X:=X++[.aE (br (ig pl))]) 1 (.inr rfl) hp;obtain ls:jE false "list" [aZ fr] (X++[.aE (br (ig pl))]++[.aE (br (ig pl))])=some (aZ fr,X++[.aE (br (ig pl))]++[.aE (br (ig pl))]):=by show(bif sizeOk (fr.map aA).length then(pure (.lst (fr.map aA)):M V) (X++[.aE (br (ig pl))]++[.aE (br (ig pl))]) else none)=_;rw[show sizeOk (fr.map aA).length=true from decide_eq_true (by rw[ph];exact aS (nat_lit 0x1000006f01164e01101) ae hf)];rfl
 obtain it:item (X++[.aE (br (ig pl))]++[.aE (br (ig pl))]) (cS nm) (.int (-1))=some (ao (nm.getLastD [])):=by obtain hz:=List.length_pos_iff.mpr h0;refine rH (j:=nm.length-1) (by rw[ph];exact v9 (nat_lit 0x170719d8a50191834191800112) ae (Ln.bI (nm.length) (1)) (rl (aS (nat_lit 1718255948033) ae hz:1<=nm.length))) (by decide) ?_ (by rw[ph];exact aS (nat_lit 0x1000000000000000100f01164e01101) ae hn);rw[x3,<-List.getLast?_eq_getElem?,Fs h0];refine congrArg (λw=>some (ao w)) ?_;rw[NM,Fs h0];rfl
 obtain e:(X++[aF.aE (br (ig pl))]).length=X.length+1:=by rw[pj];rfl
 obtain q:jy (d+1) (jg 21) (K5 k pl nm ct fr) (rK 0) X .next ([(T "lexer",.ref k),(T "plain",cS pl),(T "names",cS nm),(T "counted",aZ ct),(T "free",aZ fr),(T "into",.ref X.length),(T "out",.ref (X++[aF.aE (br (ig pl))]).length),(T "waiting",aZ fr),(T "last",ao (nm.getLastD [])),(T "idle",.int (0:Nat))]) (X++[.aE (br (ig pl))]++[.aE (br (ig pl))]):=bL (.cmp l1 (.cmp l2 (.upd 4 ls (.val 6 it .nil))));rw[e,ta] at q;exact q
end
section
variable{d:Nat}{a:Lx}{B t X:AH}{av:Int}{p:List V}{o:aF}{pl nm ws:List (List Nat)}{ct fr wt:List az}{la:List Nat}{idl L k:Nat}
noncomputable def aV(l:List az):List (List Nat):=l.flatMap λa=>[a.1,a.2]
theorem AI(l:List az)(s:List (List Nat)):l.foldl (λs a=>s++[a.1,a.2]) s=s++aV l:=by
 induction l generalizing s with |nil=>exact(rn s).symm|cons a r ih=>exact(ih _).trans (ta ..)
abbrev kM:Expr:=p8 ((CQ (rK 1)).1.getD 1 (.Constant .none 0 default)) 1
theorem Hr(hf:fr.length<100):bZ (d+1) kM (fr.map aA) [] (.l []) X (.l ((aV fr).map ao)) X:=by
 have lp:=aK.fold (d:=d+1) (aB:=jW kM) (g:=GC kM) (T:=bT (d+1) (jW kM) (vd kM) (iS kM).tail) (env:=[]) (σ:=List (List Nat)) aA (λs=>.l (s.map ao)) (λb=>X) (λs a=>s++[a.1,a.2]) (λxs s=>s.length+2* xs.length<300)
  (λa xs s h=>by rw[pj];rw[pE] at h;show s.length+2+_<_;omega)
  (λa xs s h=>by
   rw[pE] at h;have tn:∀(w:List Nat) (vs:List V),vs.length+1<ai->eR (d+1) (jW kM) ((iS kM).tail.headD default) (bT (d+1) (jW kM) (vd kM) []) (ao w) [(T "arc",aA a)] (.l vs) X [(T "arc",aA a)] (.l (vs++[ao w])) X:=λw vs hv=>aM [T "arc"] (.no 1 (aP hv) .nil)
   have q:aK (d+1) (jW kM) ((iS kM).tail.headD default) (bT (d+1) (jW kM) (vd kM) []) [ao a.1,ao a.2] [(T "arc",aA a)] (.l (s.map ao)) X [(T "arc",aA a)] (.l (s.map ao++[ao a.1]++[ao a.2])) X:=(tn a.1 _ (by rw[ph];unfold ai;exact aL (nat_lit 0x1000006f19081112c3f19182a081101) ae h)).go ((tn a.2 _ (by rw[pj,ph];show s.length+1+1<ai;unfold ai;exact aL (nat_lit 0x1000006f19190881112c3f19182a081101) ae h)).go .nil);have e:s.map ao++[ao a.1]++[ao a.2]=(s++[a.1,a.2]).map ao:=by rw[vk,ta];rfl
   rw[e] at q;exact aM [] (.cmp q .nil)) fr [] (by rw[tm];exact aS (nat_lit 0x12c3f02a0981164e01201) ae hf)
 rw[AI,Hm] at lp;exact lp
theorem Hs(h:a.Ok (B++t))(hz:ws.length<100):cz (d+4) (jg 21) (cW (rK 1)) (b_ (rK 1)) (ws.map ao) (nj a.k pl nm ct fr L wt la idl) (a.bh B av [] t) .next (nj a.k pl nm ct fr L wt la idl) (a.bh B av (ws.map ao) t):=by
 obtain q:=cz.fold (d:=d+4) (sc:=jg 21) (t:=cW (rK 1)) (body:=b_ (rK 1)) ao (λb:List (List Nat)=>nj a.k pl nm ct fr L wt la idl) (λs=>a.bh B av (s.map ao) t) (λs w=>s++[w]) (λxs s=>s.length+xs.length<100)
  (λw xs s hh=>by rw[pj];rw[pE] at hh;show s.length+1+_<_;exact aL (nat_lit 0x64e1190881164e1918081101) ae hh)
  (λw xs s hh=>by obtain p:=m9 (d:=d+2) (v:=ao w) (push:=s.map ao) (cs:=[]) (l:=av) h (by rw[ph];rw[pE] at hh;exact aL (nat_lit 0x1000006f19081164e1918081101) ae hh);obtain p:=p.hp (show _=a.bh B av ((s++[w]).map ao) t by rw[vk];rfl);exact au Hq (.obj (h.self (av:=av) (push:=s.map ao) (cs:=[])) (.call p .nil))) ws [] (by rw[tm];exact aS (nat_lit 0x64e00981164e01101) ae hz)
 obtain e:∀(ws s:List (List Nat)),ws.foldl (λs w=>s++[w]) s=s++ws:=λws=>by
  induction ws with |nil=>intro s;exact(rn s).symm|cons w ws ih=>intro s;exact(ih _).trans (ta ..)
 rw[e] at q;exact q
theorem lO(l:List az):(aV l).length=2* l.length:=by
 unfold aV;induction l with |nil=>rfl|cons a r ih=>simp only[List.flatMap_cons,pj,ih];refine(?_:2+2* r.length=2* (r.length+1));lia
theorem Vi(h:a.Ok (B++t))(hn:nm.length<=10)(hf:fr.length<=16):jy (d+4) (jg 21) (nj a.k pl nm ct fr L wt la idl) (rK 1) (a.bh B av [] t) .next (nj a.k pl nm ct fr L wt la idl) (a.bh B av ((nm++aV fr).map ao) t):=by obtain fl:=lO fr;obtain l1:=Hr (d:=d+3) (X:=a.bh B av [] t) (aS (nat_lit 0x64e01110e00101) ae hf);obtain ad:=GR (a:=nm.map ao) (b:=(aV fr).map ao) (by simp only[ph,ph];exact aW (nat_lit 0x1000006f0281110e102a920112a02103) ae fl hn hf);rw[<-vk] at ad;obtain lp:=Hs (d:=d) (pl:=pl) (nm:=nm) (ct:=ct) (fr:=fr) (wt:=wt) (la:=la) (idl:=idl) (L:=L) (av:=av) h (by rw[pj];exact aW (nat_lit 0x64e0281110e102a920112a02103) ae fl hn hf);obtain q:=bL (.cmp l1 (.val 2 ad (.loop lp .nil)));exact q
def gD(D:DD×DD)(a:az)(n:Int):DD×DD:=(aH D.1 (sL a.2) (eK ((D.1.lookup (sL a.2)).getD []) [(sL a.1,n)]),aH D.2 (sL a.1) (eK ((D.2.lookup (sL a.1)).getD []) [(sL a.2,n)]))
abbrev cJ(D:DD×DD)(r:AH):AH:=.aE (br D.1)::.aE (br D.2)::r
end
section
variable{d:Nat}{a:Lx}{B t X r:AH}{av:Int}{p:List V}{o:aF}{pl nm ws:List (List Nat)}{ct fr wt:List az}{la w x y:List Nat}{idl k:Nat}{D:DD×DD}{m:List (Str×Int)}{n:Int}
structure tZ(pl:List (List Nat))(b:Nat)(D:DD×DD):Prop where
 i:∀w∈pl,∃m,D.1.lookup (sL w)=some m/\m.length<=b
 o:∀w∈pl,∃m,D.2.lookup (sL w)=some m/\m.length<=b
 li:D.1.length<=4
 lo:D.2.length<=4
theorem pC(t s:List (Str×Int)):(eK t s).length<=t.length+s.length:=by obtain h1:=kG (λd a=>bP d a.1 a.2) t [];obtain h2:=kG (λd a=>bP d a.1 _) s (t.foldl u9 []);exact e9 (nat_lit 0x238001309810121800102) ae h2 h1
theorem yW{β:Type}(D:List (Str×β))(x:Str)(v m:β)(h:D.lookup x=some m):(aH D x v).length=D.length:=by rw[<-ph,ue,h];exact ph ..
theorem tZ.inc(h:tZ pl k D)(hx:x∈pl)(hy:y∈pl):tZ pl (k+1) (gD D (x,y) n):=by
 refine(h.i y hy).elim λmi z=>z.elim λei li=>?_
 refine(h.o x hx).elim λmo z=>z.elim λeo lo=>?_
 refine⟨λw hw=>?_,λw hw=>?_,?_,?_⟩
 ·refine(?_:∃m,(aH D.1 (sL y) _).lookup (sL w)=some m/\_);rw[cN];by_cases e:(sL w==sL y)=true
  ·rw[if_pos e];refine⟨_,rfl,?_⟩;rw[ei];exact vb (pC _ _) (Nat.succ_le_succ li)
  ·rw[if_neg e];refine(h.i w hw).elim λm z=>z.elim λh1 h2=>?_
   exact⟨m,h1,w3 h2⟩
 ·refine(?_:∃m,(aH D.2 (sL x) _).lookup (sL w)=some m/\_);rw[cN];by_cases e:(sL w==sL x)=true
  ·rw[if_pos e];refine⟨_,rfl,?_⟩;rw[eo];exact vb (pC _ _) (Nat.succ_le_succ lo)
  ·rw[if_neg e];refine(h.o w hw).elim λm z=>z.elim λh1 h2=>?_
   exact⟨m,h1,w3 h2⟩
 ·exact(yW _ _ _ _ ei).symm▸h.li
 ·exact(yW _ _ _ _ eo).symm▸h.lo
abbrev Rf:B2:=rK 2
theorem DE{D:DD}{w:List Nat}{m:List (Str×Int)}(h:D.lookup (sL w)=some m):mj (some (.aE (br D))) (ao w)=some (.aE (aI V.int m)):=by refine(?_:(br D).lookup (sL w)=_);unfold br;simp only[jG,h];rfl
theorem rL(h:a.Ok B)(hD:tZ pl k D)(hk:k<1000)(hx:x∈pl)(hy:y∈pl):
  ∃mi mo,mj (some (.aE (br D.1))) (ao y)=some (.aE (aI V.int mi))/\mj (some (.aE (br D.2))) (ao x)=some (.aE (aI V.int mo))/\
   aC (d+4) (.fn 98) [.aE (aI V.int mi),.aE [(sL x,.int n)]] (a.bh B av p (cJ D r)) (.aE (aI V.int (eK mi [(sL x,n)]))) (a.bh B av p (cJ D (r++[.gone])))/\
   qq B.length (sL y) (.aE (aI V.int (eK mi [(sL x,n)]))) (.aE (br D.1)) (a.bh B av p (cJ D (r++[.gone])))=some ((),a.bh B av p (cJ ((gD D (x,y) n).1,D.2) (r++[.gone])))/\
   aC (d+4) (.fn 98) [.aE (aI V.int mo),.aE [(sL y,.int n)]] (a.bh B av p (cJ ((gD D (x,y) n).1,D.2) (r++[.gone]))) (.aE (aI V.int (eK mo [(sL y,n)]))) (a.bh B av p (cJ ((gD D (x,y) n).1,D.2) (r++[.gone,.gone])))/\
   qq (B.length+1) (sL x) (.aE (aI V.int (eK mo [(sL y,n)]))) (.aE (br D.2)) (a.bh B av p (cJ ((gD D (x,y) n).1,D.2) (r++[.gone,.gone])))=some ((),a.bh B av p (cJ (gD D (x,y) n) (r++[.gone,.gone]))):=by
 obtain⟨mi,ei,li⟩:=hD.i y hy;obtain⟨mo,eo,lo⟩:=hD.o x hx;have g:∀(D:DD) (w:List Nat) (m:List (Str×Int)),aH (br D) (sL w) (.aE (aI V.int m))=br (aH D (sL w) m):=λD w m=>gK (λm=>.aE (aI V.int m)) D (sL w) m
 have ap:∀t:AH,a.bh B av p t++[.gone]=a.bh B av p (t++[.gone]):=λt=>tN h
 have c1:=fm (d:=d+2) (s:=[(sL x,n)]) (a.bh B av p (cJ D r)) (by show mi.length+1+1<_;omega);rw[ap] at c1;have c2:=fm (d:=d+2) (t:=mo) (s:=[(sL y,n)]) (a.bh B av p (cJ ((gD D (x,y) n).1,D.2) (r++[.gone]))) (by show mo.length+1+1<_;omega)
 rw[ap] at c2;have e1:(r++[aF.gone])++[.gone]=r++[.gone,.gone]:=ta ..
 refine⟨mi,mo,DE ei,DE eo,c1,Gu (by unfold br;rw[bz];have :=hD.li;exact aS (nat_lit 0x1000006f1908114900101) ae this) ?_,?_,Gu (by unfold br;rw[bz];have :=hD.lo;exact aS (nat_lit 0x1000006f1908114900101) ae this) ?_⟩
 ·rw[g];have s:=tM (av:=av) (p:=p) (t:=cJ D (r++[.gone])) h 0 (.aE (br (aH D.1 (sL y) (eK mi [(sL x,n)]))));refine s.trans ?_;show a.bh B av p (.aE (br (aH D.1 (sL y) (eK mi [(sL x,n)])))::.aE (br D.2)::(r++[.gone]))=a.bh B av p (.aE (br (aH D.1 (sL y) (eK ((D.1.lookup (sL y)).getD []) [(sL x,n)])))::.aE (br D.2)::(r++[.gone]));rw[ei];rfl
 ·have :=c2;rw[show cJ ((gD D (x,y) n).1,D.2) (r++[.gone])++[.gone]=cJ ((gD D (x,y) n).1,D.2) (r++[.gone,.gone]) from congrArg (λz=>aF.aE _::aF.aE _::z) e1] at this;exact this
 ·rw[g];have s:=tM (av:=av) (p:=p) (t:=cJ ((gD D (x,y) n).1,D.2) (r++[.gone,.gone])) h 1 (.aE (br (aH D.2 (sL x) (eK mo [(sL y,n)]))));refine s.trans ?_;show a.bh B av p (.aE (br (gD D (x,y) n).1)::.aE (br (aH D.2 (sL x) (eK mo [(sL y,n)])))::(r++[.gone,.gone]))=a.bh B av p (.aE (br (gD D (x,y) n).1)::.aE (br (aH D.2 (sL x) (eK ((D.2.lookup (sL x)).getD []) [(sL y,n)])))::(r++[.gone,.gone]));rw[eo];rfl
def iY(ct:List az)(D:DD×DD)(s:az):DD×DD:=if s∈ct then gD D s 1 else D
theorem Ht(h:a.Ok B)(hD:tZ pl k D)(hk:k<1000)(hl:la∈pl)(hw:w∈pl)(i:Int)(rest:List V):
  ∃r',Turn (d+4) (jg 21) (cW Rf) (b_ Rf) (.int i) (nj a.k pl nm ct fr B.length wt la idl) (a.bh B av (ao w::rest) (cJ D r)) .next (nj a.k pl nm ct fr B.length wt w idl) (a.bh B av rest (cJ (iY ct D (la,w)) r')):=by
 obtain DF:=(h.rows (cJ D r)).self (av:=av) (push:=ao w::rest) (cs:=[]);obtain g:=cR (d:=d+2) (x:=ao w) (p:=rest) (cs:=[]) (l:=av) (h.rows (cJ D r));obtain i0:=G1 (H:=a.bh B av rest (cJ D r)) (la,w) ct;unfold iY;by_cases hc:(la,w)∈ct
 ·rw[if_pos hc];rw[decide_eq_true hc] at i0;obtain⟨mi,mo,t1,t2,c1,s1,c2,s2⟩:=rL (d:=d) (av:=av) (p:=rest) (r:=r) (n:=1) h hD hk hl hw;obtain k1:(a.bh B av rest (cJ D r))[B.length]?=some (.aE (br D.1)):=fG h 0;obtain k2:(a.bh B av rest (cJ D (r++[.gone])))[B.length]?=some (.aE (br D.1)):=fG h 0;obtain k3:(a.bh B av rest (cJ ((gD D (la,w) 1).1,D.2) (r++[.gone])))[B.length+1]?=some (.aE (br D.2)):=fG h 1;obtain k4:(a.bh B av rest (cJ ((gD D (la,w) 1).1,D.2) (r++[.gone,.gone])))[B.length+1]?=some (.aE (br D.2)):=fG h 1;exact⟨r++[.gone,.gone],au Hq (.obj DF (.call g (.val 4 i0 (.obj k1 (.val 9 t1 (.call c1 (.obj k2 (.lG 13 s1 (.obj k3 (.val 17 t2 (.call c2 (.obj k4 (.lG 21 s2 .nil)))))))))))))⟩
 ·rw[if_neg hc];rw[decide_eq_false hc] at i0;exact⟨r,au Hq (.obj DF (.call g (.val 4 i0 .nil)))⟩
end
section
variable{d:Nat}{a:Lx}{B t X r:AH}{av:Int}{p q:List V}{o:aF}{pl nm ws:List (List Nat)}{ct fr wt:List az}{la w x y:List Nat}{idl k:Nat}{D:DD×DD}{m:List (Str×Int)}{n:Int}
theorem tZ.step(h:tZ pl k D)(hx:x∈pl)(hy:y∈pl):tZ pl (k+1) (iY ct D (x,y)):=by
 unfold iY;split
 ·exact h.inc hx hy
 ·exact⟨λw hw=>(h.i w hw).elim λm hm=>⟨m,hm.1,w3 hm.2⟩,λw hw=>(h.o w hw).elim λm hm=>⟨m,hm.1,w3 hm.2⟩,h.li,h.lo⟩
noncomputable def jS:List Nat->List (List Nat)->List az|aR,[]=>[]|la,w::ws=>(la,w)::jS w ws
theorem Hu(h:a.Ok B)(ws:List (List Nat)):∀(is:List Int) (la:List Nat) (k:Nat) (D:DD×DD) (r:AH),is.length=ws.length->tZ pl k D->k+ws.length<1000->la∈pl->(∀w∈ws,w∈pl)->
  ∃r' PR,cz (d+4) (jg 21) (cW Rf) (b_ Rf) (is.map .int) (nj a.k pl nm ct fr B.length wt la idl) (a.bh B av (ws.map ao++q) (cJ D r)) .next (nj a.k pl nm ct fr B.length wt PR idl) (a.bh B av q (cJ ((jS la ws).foldl (iY ct) D) r'))/\tZ pl (k+ws.length) ((jS la ws).foldl (iY ct) D):=by
 induction ws with
 |nil=>
  intro is la k D r hl hD hk Js hw;induction is with |nil=>exact⟨r,la,.nil,hD⟩|cons i is=>exact nomatch hl
 |cons w ws ih=>
  intro is la k D r hl hD hk Js hw;induction is with
  |nil=>exact nomatch hl|cons i is=>
   obtain Vj:=hw w (wx ..);obtain⟨r1,t1⟩:=Ht h hD (aL (nat_lit 0x3e83f0113e83f1918081101) ae hk) Js Vj i (ws.map ao++q);refine(ih is w (k+1) (iY ct D (la,w)) r1 (Nat.succ.inj hl) (hD.step Js Vj) (aL (nat_lit 0x3e83f119088113e83f1918081101) ae hk) Vj λv hv=>hw v (y0 _ hv)).elim λr2 z=>z.elim λVk z=>z.elim λl2 ZS=>?_
   refine⟨r2,Vk,t1.next (.inl rfl) l2,?_⟩;simp only[pE,show k+(ws.length+1)=k+1+ws.length by exact aL (nat_lit 0x1190881918082510) ae];exact ZS
abbrev EF:B2:=rK 3
abbrev t6:Expr:=cX (cf (Uy (cf (b_ EF) 0)) 1)
end
section
variable{d:Nat}{a:Lx}{B t X r:AH}{av:Int}{p q:List V}{o:aF}{pl nm ws:List (List Nat)}{ct fr wt:List az}{la w x y:List Nat}{idl k:Nat}{D:DD×DD}{m:List (Str×Int)}{n:Int}
theorem DG(c:az)(e:af)(he:e=[(T "one",ao x),(T "other",ao y),(T "arc",aA c)])(vs:List V)(hv:vs.length+2<ai):
  aK (d+1) (jW t6) ((iS t6).tail.headD default) (bT (d+1) (jW t6) (vd t6) []) [ao c.1,ao c.2] e (.l vs) X e (.l (vs++(if c=(x,y) then [] else [ao c.1,ao c.2]))) X:=by
 subst he;have n:=xK (H:=X) c (x,y)
 by_cases hc:c=(x,y)
 ·rw[if_pos hc,rn];rw[decide_eq_true hc] at n;have tn:∀(w:List Nat),eR (d+1) (jW t6) ((iS t6).tail.headD default) (bT (d+1) (jW t6) (vd t6) []) (ao w) [(T "one",ao x),(T "other",ao y),(T "arc",aA c)] (.l vs) X [(T "one",ao x),(T "other",ao y),(T "arc",aA c)] (.l vs) X:=λw=>aM [T "one",T "other",T "arc"] (.val 3 n .nil)
  exact(tn c.1).go ((tn c.2).go .nil)
 ·rw[if_neg hc];rw[decide_eq_false hc] at n;have tn:∀(w:List Nat) (vs:List V),vs.length+1<ai->eR (d+1) (jW t6) ((iS t6).tail.headD default) (bT (d+1) (jW t6) (vd t6) []) (ao w) [(T "one",ao x),(T "other",ao y),(T "arc",aA c)] (.l vs) X [(T "one",ao x),(T "other",ao y),(T "arc",aA c)] (.l (vs++[ao w])) X:=λw vs hv=>aM [T "one",T "other",T "arc"] (.val 3 n (.no 6 (aP hv) .nil))
  have q:=(tn c.1 vs (aL (nat_lit 0x1190811129081101) ae hv)).go ((tn c.2 (vs++[ao c.1]) (by rw[pj];show vs.length+1+1<_;omega)).go .nil);rw[ta] at q;exact q
theorem yX(hz:wt.length<100):bZ (d+1) t6 (wt.map aA) [(T "one",ao x),(T "other",ao y)] (.l []) X (.l ((aV (ak (x,y) wt)).map ao)) X:=by
 have lp:=aK.fold (d:=d+1) (aB:=jW t6) (g:=GC t6) (T:=bT (d+1) (jW t6) (vd t6) (iS t6).tail) (env:=[(T "one",ao x),(T "other",ao y)]) (σ:=List V) aA (λs=>.l s) (λa=>X) (λs c=>s++(if c=(x,y) then [] else [ao c.1,ao c.2])) (λxs s=>s.length+2* xs.length<300)
  (λc xs s h=>by
   rw[pj];rw[pE] at h;split
   ·show s.length+0+_<_;exact aL (nat_lit 0x12c3f12a090881112c3f19182a081101) ae h
   ·show s.length+2+_<_;omega)
  (λc xs s h=>by
   rw[pE] at h;have q:=DG (d:=d) (X:=X) (x:=x) (y:=y) c _ rfl s (by unfold ai;exact aL (nat_lit 0x1000006f29081112c3f19182a081101) ae h)
   exact aM [T "one",T "other"] (.cmp q .nil)) wt [] (by rw[tm];exact aS (nat_lit 0x12c3f02a0981164e01201) ae hz)
 have e:∀(l:List az) (s:List V),l.foldl (λs c=>s++(if c=(x,y) then [] else [ao c.1,ao c.2])) s=s++(aV (ak (x,y) l)).map ao:=λl=>by
  induction l with
  |nil=>intro s;exact(rn s).symm|cons c l ih=>
   intro s;refine(ih _).trans ?_;rw[ta];refine congrArg (s++·) ?_;unfold ak;rw[Bn];by_cases hc:c=(x,y)
   ·rw[if_pos hc,decide_eq_true hc];rfl
   ·rw[if_neg hc,decide_eq_false hc];rfl
 rw[e,Hm] at lp;exact lp
end
section
variable{d:Nat}{a:Lx}{B t X r:AH}{av:Int}{p q rest:List V}{o:aF}{pl nm ws:List (List Nat)}{ct fr wt:List az}{la w x y:List Nat}{idl k:Nat}{D:DD×DD}{m:List (Str×Int)}{n:Int}
theorem kN(x y:List Nat):bG X .Eq (ao x) (ao y)=some (.bool (decide (x=y))):=by
 refine eq_str ?_;by_cases h:x=y
 ·rw[decide_eq_true h,h];exact beq_self_eq_true _
 ·rw[decide_eq_false h];exact beq_eq_false_iff_ne.mpr λe=>h (bM e)
theorem xP(i j:Nat):bG X .Lt (.int i) (.int j)=some (.bool (decide (i<j))):=congrArg (λb=>some (V.bool b)) (decide_eq_decide.mpr (by simp_all))
def gq(x y:List Nat)(wt:List az):List (List Nat):=aV (ak (x,y) wt)
theorem Hv(hi:wt.length<=idl)(i:Int):Turn (d+4) (jg 21) (cW EF) (b_ EF) (.int i) (nj k pl nm ct fr B.length wt la idl) X .next (nj k pl nm ct fr B.length wt la idl) X:=by obtain l:=xP (X:=X) idl (wt.map aA).length;rw[decide_eq_false (by rw[ph];exact aL (nat_lit 0x909610111100102) ae hi)] at l;exact au Hq (.val 4 l .nil)
theorem Hw(h:a.Ok B)(hi:idl<wt.length)(hz:wt.length<100)(hr:rest.length<900)(hs:x=y\/(x∈gq x y wt/\y∈gq x y wt))(i:Int):
  Turn (d+4) (jg 21) (cW EF) (b_ EF) (.int i) (nj a.k pl nm ct fr B.length wt la idl) (a.bh B av (ao x::ao y::rest) (cJ D r)) .next (nj a.k pl nm ct fr B.length wt la (idl+1)) (a.bh B av (rest++[ao x,ao y]) (cJ D r)):=by
 obtain DF:=(h.rows (cJ D r)).self (av:=av) (push:=ao x::ao y::rest) (cs:=[]);obtain jN:=(h.rows (cJ D r)).self (av:=av) (push:=ao y::rest) (cs:=[]);obtain FW:=(h.rows (cJ D r)).self (av:=av) (push:=rest) (cs:=[]);obtain WR:=(h.rows (cJ D r)).self (av:=av) (push:=rest++[ao x]) (cs:=[]);obtain g0:=cR (d:=d+2) (x:=ao x) (p:=ao y::rest) (cs:=[]) (l:=av) (h.rows (cJ D r));obtain g1:=cR (d:=d+2) (x:=ao y) (p:=rest) (cs:=[]) (l:=av) (h.rows (cJ D r));obtain p0:=m9 (d:=d+2) (v:=ao x) (cs:=[]) (l:=av) (h.rows (cJ D r)) (aS (nat_lit 0x1000006f1908113843f01101) ae hr);obtain p1:=m9 (d:=d+2) (v:=ao y) (push:=rest++[ao x]) (cs:=[]) (l:=av) (h.rows (cJ D r)) (by rw[pj];refine(?_:rest.length+1+1<_);omega);rw[ta] at p1;obtain l:=xP (X:=a.bh B av (ao x::ao y::rest) (cJ D r)) idl (wt.map aA).length;rw[decide_eq_true (by rw[ph];omega)] at l;obtain en:=yX (d:=d+3) (X:=a.bh B av rest (cJ D r)) (x:=x) (y:=y) hz;obtain ad:binop .Add (.int idl) (.int 1)=some (.int ((idl+1:Nat):Int)):=rfl;obtain e:=kN (X:=a.bh B av rest (cJ D r)) x y;by_cases DH:x=y
 ·rw[decide_eq_true DH] at e;exact au Hq (.val 4 l (.obj DF (.call g0 (.obj jN (.call g1 (.cmp en (.val 10 ad (.val 13 e (.obj FW (.call p0 (.obj WR (.call p1 .nil))))))))))))
 ·rw[decide_eq_false DH] at e;refine(hs.resolve_left DH).elim λh1 h2=>?_
  obtain i1:=eZ (a.bh B av rest (cJ D r)) x (gq x y wt);obtain i2:=eZ (a.bh B av rest (cJ D r)) y (gq x y wt);rw[decide_eq_true h1] at i1;rw[decide_eq_true h2] at i2;exact au Hq (.val 4 l (.obj DF (.call g0 (.obj jN (.call g1 (.cmp en (.val 10 ad (.val 13 e (.val 17 i1 (.val 21 i2 (.obj FW (.call p0 (.obj WR (.call p1 .nil))))))))))))))
end
section
variable{d:Nat}{a:Lx}{B t X r:AH}{av:Int}{p q rest:List V}{o:aF}{pl nm ws:List (List Nat)}{ct fr wt:List az}{la w x y:List Nat}{idl k:Nat}{D:DD×DD}{m:List (Str×Int)}{n s:Int}
def dz(E:DD)(w:List Nat):Int:=(((E.lookup (sL w)).getD []).map (·.2)).sum
def ZT:Expr:=p9 (cX (cf (WC (cf (Uy (cf (b_ EF) 0)) 3)) 4)) 0
theorem Hx(hz:wt.length<100):bZ (d+1) ZT (wt.map aA) [(T "one",ao x),(T "other",ao y)] (.l []) X (.l ((ak (x,y) wt).map aA)) X:=
 aK.pick aA aA (λb=>!decide (b=(x,y))) wt [] (aS (nat_lit 0x1000006f00981164e01101) ae hz) λb a vs hv=>by
  obtain n:=xK (H:=X) b (x,y);induction hb:!decide (b=(x,y)) with |false=>rw[hb] at n;exact aM [T "one",T "other"] (.val 3 n .nil)|true=>rw[hb] at n;exact aM [T "one",T "other"] (.val 3 n (.no 6 (aP hv) .nil))
theorem DJ(h:a.Ok B)(hD:tZ pl k D)(hw:w∈pl):∃mi mo,mj (some (.aE (br D.1))) (ao w)=some (.aE (aI V.int mi))/\mj (some (.aE (br D.2))) (ao w)=some (.aE (aI V.int mo))/\aC (d+4) (.fn 105) [.aE (aI V.int mo)] X (.int (dz D.2 w)) X/\aC (d+4) (.fn 105) [.aE (aI V.int mi)] X (.int (dz D.1 w)) X:=by
 refine(hD.i w hw).elim λmi z=>z.elim λei li=>?_
 refine(hD.o w hw).elim λmo z=>z.elim λeo lo=>?_
 obtain c1:=iR mo;obtain c2:=iR mi;unfold dz;rw[ei,eo];exact⟨mi,mo,DE ei,DE eo,c1,c2⟩
def tO(D:DD×DD)(x y:List Nat)(wt:List az):Int:=if y∈gq x y wt then(-1)* (dz D.2 x-dz D.1 x) else 1* (dz D.2 y-dz D.1 y)
theorem I0(h:small s=true)(q:small n=true):binop .Mult (.int s) (.int n)=some (.int (s* n)):=gC s n (bX ⟨h,q⟩)
abbrev ZU(d:Nat)(i:Int)(a:Lx)(B:AH)(av:Int)(pl nm:List (List Nat))(ct fr wt:List az)(la:List Nat)(idl:Nat)(x y:List Nat)(rest:List V)(D:DD×DD)(r:AH):Prop:=∃r',Turn (d+4) (jg 21) (cW EF) (b_ EF) (.int i) (nj a.k pl nm ct fr B.length wt la idl) (a.bh B av (ao x::ao y::rest) (cJ D r)) .next (nj a.k pl nm ct fr B.length (ak (x,y) wt) la 0) (a.bh B av rest (cJ (gD D (x,y) (tO D x y wt)) r'))
theorem Hy(h:a.Ok B)(hD:tZ pl k D)(hk:k<1000)(hi:idl<wt.length)(hz:wt.length<100)(hx:x∈pl)(hy:y∈pl)(cG:x≠y)(hs:¬(x∈gq x y wt/\y∈gq x y wt))(hm:∀w∈pl,small (dz D.2 w-dz D.1 w)=true)(i:Int):ZU d i a B av pl nm ct fr wt la idl x y rest D r:=by
 obtain DF:=(h.rows (cJ D r)).self (av:=av) (push:=ao x::ao y::rest) (cs:=[]);obtain jN:=(h.rows (cJ D r)).self (av:=av) (push:=ao y::rest) (cs:=[]);obtain g0:=cR (d:=d+2) (x:=ao x) (p:=ao y::rest) (cs:=[]) (l:=av) (h.rows (cJ D r));obtain g1:=cR (d:=d+2) (x:=ao y) (p:=rest) (cs:=[]) (l:=av) (h.rows (cJ D r));obtain l:=xP (X:=a.bh B av (ao x::ao y::rest) (cJ D r)) idl (wt.map aA).length;rw[decide_eq_true (by rw[ph];omega)] at l;obtain en:=yX (d:=d+3) (X:=a.bh B av rest (cJ D r)) (x:=x) (y:=y) hz;obtain ad:binop .Add (.int idl) (.int 1)=some (.int ((idl+1:Nat):Int)):=rfl;obtain e:=kN (X:=a.bh B av rest (cJ D r)) x y;rw[decide_eq_false cG] at e;obtain i1:=eZ (a.bh B av rest (cJ D r)) x (gq x y wt);obtain i2:=eZ (a.bh B av rest (cJ D r)) y (gq x y wt);obtain⟨mi,mo,t1,t2,c1,s1,c2,s2⟩:=rL (d:=d) (av:=av) (p:=rest) (r:=r) (n:=tO D x y wt) h hD hk hx hy;obtain k0:(a.bh B av rest (cJ D r))[B.length+1]?=some (.aE (br D.2)):=fG h 1;obtain k1:(a.bh B av rest (cJ D r))[B.length]?=some (.aE (br D.1)):=fG h 0;obtain k2:(a.bh B av rest (cJ D (r++[.gone])))[B.length]?=some (.aE (br D.1)):=fG h 0;obtain k3:(a.bh B av rest (cJ ((gD D (x,y) (tO D x y wt)).1,D.2) (r++[.gone])))[B.length+1]?=some (.aE (br D.2)):=fG h 1;obtain k4:(a.bh B av rest (cJ ((gD D (x,y) (tO D x y wt)).1,D.2) (r++[.gone,.gone])))[B.length+1]?=some (.aE (br D.2)):=fG h 1;obtain fr:=Hx (d:=d+3) (X:=a.bh B av rest (cJ (gD D (x,y) (tO D x y wt)) (r++[.gone,.gone]))) (x:=x) (y:=y) hz;obtain⟨ui,uo,v1,v2,b2,b1⟩:=DJ (d:=d) (X:=a.bh B av rest (cJ D r)) h hD hx;obtain⟨zi,zo,w1,w2,f2,f1⟩:=DJ (d:=d) (X:=a.bh B av rest (cJ D r)) h hD hy;obtain m1:=I0 (s:=-1) (by decide) (hm x hx);obtain m2:=I0 (s:=1) (by decide) (hm y hy);obtain su:binop .Sub (.int (dz D.2 x)) (.int (dz D.1 x))=some (.int (dz D.2 x-dz D.1 x)):=rfl;obtain sv:binop .Sub (.int (dz D.2 y)) (.int (dz D.1 y))=some (.int (dz D.2 y-dz D.1 y)):=rfl;refine⟨r++[.gone,.gone],?_⟩;by_cases h2:y∈gq x y wt
 ·obtain h1:x∉gq x y wt:=λq=>hs ⟨q,h2⟩
  obtain on:tO D x y wt=(-1)* (dz D.2 x-dz D.1 x):=if_pos h2;rw[decide_eq_true h2] at i2;rw[decide_eq_false h1] at i1;rw[<-on] at m1;exact au Hq (.val 4 l (.obj DF (.call g0 (.obj jN (.call g1 (.cmp en (.val 10 ad (.val 13 e (.val 17 i1 (.val 23 i2 (.obj k0 (.val 30 v2 (.call b2 (.obj k1 (.val 34 v1 (.call b1 (.val 35 su (.val 36 m1 (.obj k1 (.val 40 t1 (.call c1 (.obj k2 (.lG 45 s1 (.obj k3 (.val 49 t2 (.call c2 (.obj k4 (.lG 54 s2 (.cmp fr .nil)))))))))))))))))))))))))))))
 ·obtain on:tO D x y wt=1* (dz D.2 y-dz D.1 y):=if_neg h2;rw[decide_eq_false h2] at i2;rw[<-on] at m2;by_cases h1:x∈gq x y wt
  ·rw[decide_eq_true h1] at i1;exact au Hq (.val 4 l (.obj DF (.call g0 (.obj jN (.call g1 (.cmp en (.val 10 ad (.val 13 e (.val 17 i1 (.val 21 i2 (.val 27 i2 (.obj k0 (.val 34 w2 (.call f2 (.obj k1 (.val 38 w1 (.call f1 (.val 39 sv (.val 40 m2 (.obj k1 (.val 44 t1 (.call c1 (.obj k2 (.lG 49 s1 (.obj k3 (.val 53 t2 (.call c2 (.obj k4 (.lG 58 s2 (.cmp fr .nil))))))))))))))))))))))))))))))
  ·rw[decide_eq_false h1] at i1;exact au Hq (.val 4 l (.obj DF (.call g0 (.obj jN (.call g1 (.cmp en (.val 10 ad (.val 13 e (.val 17 i1 (.val 23 i2 (.obj k0 (.val 30 w2 (.call f2 (.obj k1 (.val 34 w1 (.call f1 (.val 35 sv (.val 36 m2 (.obj k1 (.val 40 t1 (.call c1 (.obj k2 (.lG 45 s1 (.obj k3 (.val 49 t2 (.call c2 (.obj k4 (.lG 54 s2 (.cmp fr .nil)))))))))))))))))))))))))))))
end
section
variable{t:List (Str×Int)}{T S:List az}{D:DD×DD}{a:az}{n:Nat}{x z:Str}{i:Int}
theorem DK{β:Type}(d:List (Str×β))(x:Str)(v:β)(h:(d.map (·.1)).Nodup):((aH d x v).map (·.1)).Nodup:=by
 rw[ue];induction hl:d.lookup x with |some u=>exact h|none=>have :=(dQ d x).mp hl;exact List.nodup_append.mpr ⟨h,by simp,λa ha b hb=>by rw[vu] at hb;subst hb;exact λe=>this (e▸ha)⟩
theorem K6{β:Type}(d:List (Str×β)){x:Str}(h:x∉d.map (·.1))(v:β):aH d x v=d++[(x,v)]:=by
 induction d with |nil=>rfl|cons p r ih=>refine(?_:(bif x==p.1 then(p.1,v)::r else p::aH r x v)=_);rw[beq_false_of_ne λe:x=p.1=>h (y3.mpr (.inl e))];exact congrArg (p::·) (ih λq=>h (.tail _ q))
theorem PS(t acc:List (Str×Int))(h:((acc++t).map (·.1)).Nodup):t.foldl u9 acc=acc++t:=by
 induction t generalizing acc with
 |nil=>exact(rn acc).symm|cons p r ih=>
  have hy:p.1∉acc.map (·.1):=by rw[vk] at h;exact λhm=>(rZ h).2.2 p.1 hm p.1 (.head _) rfl
  refine(?_:r.foldl u9 (aH acc p.1 p.2)=_);rw[K6 acc hy,ih _ (by simpa using h)];simp
theorem DL(ht:(t.map (·.1)).Nodup):eK t [(x,i)]=aH t x ((t.lookup x).getD 0+i):=by
 unfold eK;simp only[PS t [] ht,Hm];refine(?_:aH t x (match t.lookup x with |some v=>v+i|none=>i)=_);induction t.lookup x with |some v=>rfl|none=>refine(?_:aH t x i=aH t x (0+i));rw[aac]
noncomputable def lP(t:List (Str×Int)):Int:=(t.map (·.2)).sum
theorem K7(d:List (Str×Int))(x:Str)(v:Int):lP (aH d x v)=lP d+v-(d.lookup x).getD 0:=by
 induction d with
 |nil=>exact uw (nat_lit 0x90098c0908a510) ae|cons p r ih=>
  rw[sT];refine(?_:lP (bif x==p.1 then(p.1,v)::r else p::aH r x v)=(p.2+lP r)+v-_);induction hb:x==p.1 with |true=>refine(?_:v+lP r=p.2+lP r+v-p.2);lia|false=>refine(?_:p.2+lP (aH r x v)=p.2+lP r+v-(r.lookup x).getD 0);exact ih▸(Iz.go (nat_lit 0x321088c3218c08a510) [] [_,_,_,_] ae)
theorem K8(ht:(t.map (·.1)).Nodup):lP (eK t [(x,i)])=lP t+i:=by rw[DL ht,K7];lia
theorem yY(ht:(t.map (·.1)).Nodup):(eK t [(x,i)]).lookup z=if z=x then some ((t.lookup x).getD 0+i) else t.lookup z:=by
 rw[DL ht,cN];by_cases e:z=x
 ·rw[if_pos e,if_pos (beq_iff_eq.mpr e)]
 ·rw[if_neg e,if_neg λq=>e (eq_of_beq q)]
theorem I1(ht:(t.map (·.1)).Nodup):((eK t [(x,i)]).map (·.1)).Nodup:=by rw[DL ht];exact DK _ _ _ ht
structure LR(T:List (List Nat×List Nat))(E:DD):Prop where
 nd:∀w,(((E.lookup (sL w)).getD []).map (·.1)).Nodup
 at_:∀w x,((E.lookup (sL w)).getD []).lookup (sL x)=if(w,x)∈T then some (T.count (w,x):Int) else none
 sm:∀w,dz E w=(T.countP λs=>decide (s.1=w):Nat)
theorem LR.inc{E:DD}(h:LR T E)(hn:0<n)(u v:List Nat):LR (T++t4 n (u,v)) (aH E (sL u) (eK ((E.lookup (sL u)).getD []) [(sL v,(n:Int))])):=by
 have lk:∀w,((aH E (sL u) (eK ((E.lookup (sL u)).getD []) [(sL v,(n:Int))])).lookup (sL w)).getD []=if w=u then eK ((E.lookup (sL u)).getD []) [(sL v,(n:Int))] else(E.lookup (sL w)).getD []:=λw=>by
  rw[cN];by_cases e:w=u
  ·rw[if_pos e,if_pos (beq_iff_eq.mpr (congrArg sL e))];rfl
  ·rw[if_neg e,if_neg λq=>e (bM (eq_of_beq q))]
 refine⟨λw=>?_,λw x=>?_,λw=>?_⟩
 ·rw[lk];split
  ·exact I1 (h.nd u)
  ·exact h.nd w
 ·simp only[lk]
  have cn:(T++t4 n (u,v)).count (w,x)=T.count (w,x)+if(w,x)=(u,v) then n else 0:=by
   simp only[List.count_append,List.count_replicate];by_cases e:(w,x)=(u,v)
   ·rw[if_pos e,if_pos (beq_iff_eq.mpr e.symm)]
   ·rw[if_neg e,if_neg λq=>e (eq_of_beq q).symm]
  have mm:(w,x)∈T++t4 n (u,v)↔(w,x)∈T\/(w,x)=(u,v):=by rw[Fm,List.mem_replicate];exact or_congr_right ⟨λq=>q.2,λq=>⟨aS (nat_lit 0x90961090210091102) ae hn,q⟩⟩
  by_cases e:w=u
  ·subst e;rw[if_pos rfl,yY (h.nd w)];by_cases e2:x=v
   ·subst e2;rw[if_pos rfl,if_pos (mm.mpr (.inr rfl)),cn,if_pos rfl,h.at_];by_cases m:(w,x)∈T
    ·rw[if_pos m];refine(?_:some ((T.count (w,x):Int)+n)=_);rw[Int.natCast_add]
    ·rw[if_neg m,List.count_eq_zero.mpr m];refine(?_:some ((0:Int)+n)=_);rw[FR,aac]
   ·have ne:¬(w,x)=(w,v):=λq=>e2 (yA q).2
    rw[if_neg λq=>e2 (bM q),h.at_,cn,if_neg ne,aab];by_cases m:(w,x)∈T
    ·rw[if_pos m,if_pos (mm.mpr (.inl m))]
    ·rw[if_neg m,if_neg λq=>(mm.mp q).elim m ne]
  ·have ne:¬(w,x)=(u,v):=λq=>e (yA q).1
   rw[if_neg e,h.at_,cn,if_neg ne,aab];by_cases m:(w,x)∈T
   ·rw[if_pos m,if_pos (mm.mpr (.inl m))]
   ·rw[if_neg m,if_neg λq=>(mm.mp q).elim m ne]
 ·refine(?_:lP _=_);rw[lk,List.countP_append,List.countP_replicate];by_cases e:w=u
  ·subst e;rw[if_pos rfl,K8 (h.nd w),if_pos (decide_eq_true rfl),show lP ((E.lookup (sL w)).getD [])=dz E w from rfl,h.sm,Int.natCast_add]
  ·rw[if_neg e,if_neg (by rw[decide_eq_false λq=>e q.symm];exact wy),show lP ((E.lookup (sL w)).getD [])=dz E w from rfl,h.sm,aab]
structure Told(T:List az)(D:DD×DD):Prop where
 i:LR (T.map λs=>(s.2,s.1)) D.1
 o:LR T D.2
theorem Told.inc(h:Told T D)(hn:0<n)(a:az):Told (T++t4 n a) (gD D a n):=by refine⟨?_,h.o.inc hn a.1 a.2⟩;simp only[vk,List.map_replicate];exact h.i.inc hn a.2 a.1
end
section
variable{T steps wt ct:List az}{D:DD×DD}{a:az}{n:Nat}{x y w:List Nat}
abbrev DM(steps T wt:List az):Prop:=T.Perm (steps.filter λs=>!decide (s∈wt))
theorem rM(P:az->Bool)(l wt:List az):l.countP P=(l.filter λs=>!decide (s∈wt)).countP P+l.countP λs=>P s&&decide (s∈wt):=by
 induction l with
 |nil=>rfl|cons s r ih=>
  simp only[Bz,Bz,Bn,ih];induction hw:decide (s∈wt) with |true=>rw[aaL];exact aW (nat_lit 9429970342913296) ae|false=>refine(?_:List.countP P (List.filter _ r)+_+_=List.countP P (s::List.filter _ r)+(_+_));rw[Bz,Bool.and_false];exact aW (nat_lit 0x9182088210882510) ae
theorem nq(hs:a∈wt)(hn:a≠(x,y)):a.1∈gq x y wt/\a.2∈gq x y wt:=by obtain m:a∈ak (x,y) wt:=wi.mpr ⟨hs,by refine(decide_eq_false hn)▸?_;rfl⟩;exact⟨List.mem_flatMap.mpr ⟨a,m,.head _⟩,List.mem_flatMap.mpr ⟨a,m,.tail _ (.head _)⟩⟩
theorem yZ(h:∀s∈steps,s∈wt->((x,y)=s↔w=(if n=0 then s.1 else s.2)))(hm:(x,y)∈wt):(steps.countP λs=>decide ((if n=0 then s.1 else s.2)=w)&&decide (s∈wt))=steps.count (x,y):=by
 refine Qb λs hs=>?_
 simp only[vr,decide_eq_true_iff,decide_eq_true_iff,beq_iff_eq];refine⟨λq=>((h s hs q.2).mpr q.1.symm).symm,λq=>?_⟩;obtain hw:=q▸hm;exact⟨((h s hs hw).mp q.symm).symm,hw⟩
theorem cnt_none(h:∀s∈steps,s∈wt->¬(if n=0 then s.1 else s.2)=w):(steps.countP λs=>decide ((if n=0 then s.1 else s.2)=w)&&decide (s∈wt))=0:=by
 refine List.countP_eq_zero.mpr λs hs=>?_
 simp only[vr,decide_eq_true_iff,decide_eq_true_iff];exact λq=>h s hs q.2 q.1
theorem rN(h:Told T D)(hs:DM steps T wt)(w:List Nat):
  dz D.2 w+((steps.countP λs=>decide (s.1=w)&&decide (s∈wt):Nat):Int)=(steps.countP λs=>decide (s.1=w):Nat)/\
  dz D.1 w+((steps.countP λs=>decide (s.2=w)&&decide (s∈wt):Nat):Int)=(steps.countP λs=>decide (s.2=w):Nat):=by
 obtain o:=h.o.sm w;obtain i:=h.i.sm w;obtain i:=TO▸i;have p1:=hs.countP_eq λs=>decide (s.1=w)
 have p2:=hs.countP_eq λs=>decide (s.2=w)
 obtain c1:=rM (λs=>decide (s.1=w)) steps wt;obtain c2:=rM (λs=>decide (s.2=w)) steps wt;obtain i:dz D.1 w=(T.countP λs=>decide (s.2=w):Nat):=i;simp only[o,i,p1,p2,c1,c2];constructor<;>exact v9 (nat_lit 290758287992080) ae
theorem K9(h:Told T D)(hs:DM steps T wt)(hb:∀w,(steps.countP λs=>decide (s.1=w))=steps.countP λs=>decide (s.2=w))(hm:(x,y)∈wt)(cG:x≠y)(hl:¬(x∈gq x y wt/\y∈gq x y wt)):tO D x y wt=(steps.count (x,y):Nat):=by
 unfold tO;by_cases hy:y∈gq x y wt
 ·obtain hx:=λq=>hl ⟨q,hy⟩
  refine(if_pos hy).trans ?_;refine(rN h hs x).elim λe1 e2=>?_
  have c1:(steps.countP λs=>decide (s.1=x)&&decide (s∈wt))=steps.count (x,y):=yZ (n:=0) (λs a hw=>⟨λq=>by refine q▸?_;rfl,λq=>xf λne=>hx (by have :=(nq hw λe=>ne e.symm).1;rw[show s.1=x from q.symm] at this;exact this)⟩) hm;have c2:(steps.countP λs=>decide (s.2=x)&&decide (s∈wt))=0:=cnt_none (n:=1) λs a hw q=>by
   have q:s.2=x:=q;by_cases e:s=(x,y)
   ·obtain q:=e▸q;exact cG q.symm
   ·obtain this:=(nq hw e).2;rw[q] at this;exact hx this
  obtain b:=hb x;rw[c1] at e1;rw[c2] at e2;omega
 ·refine(if_neg hy).trans ?_;refine(rN h hs y).elim λe1 e2=>?_
  have c1:(steps.countP λs=>decide (s.2=y)&&decide (s∈wt))=steps.count (x,y):=yZ (n:=1) (λs a hw=>⟨λq=>by refine q▸?_;rfl,λq=>xf λne=>hy (by have :=(nq hw λe=>ne e.symm).2;rw[show s.2=y from q.symm] at this;exact this)⟩) hm;have c2:(steps.countP λs=>decide (s.1=y)&&decide (s∈wt))=0:=cnt_none (n:=0) λs a hw q=>by
   have q:s.1=y:=q;by_cases e:s=(x,y)
   ·obtain q:=e▸q;exact cG q
   ·obtain this:=(nq hw e).1;rw[q] at this;exact hy this
  obtain b:=hb y;rw[c1] at e2;rw[c2] at e1;exact Iz.go (nat_lit 0x2701c1aa510250709718a5172708b513) [_,_,_] [_,_] ae e2 e1 b
end
def kO(c:az)(wt:List az):Prop:=c.1≠c.2/\¬(c.1∈gq c.1 c.2 wt/\c.2∈gq c.1 c.2 wt)
inductive Peel:List az->List az->Prop where
|nil{wt:List az}:Peel wt wt|cons{c:az}{wt iz:List az}(m:c∈wt)(l:kO c wt)(k:Peel (ak c wt) iz):Peel wt iz
section
variable{d:Nat}{a:Lx}{B r:AH}{av:Int}{pl nm:List (List Nat)}{steps ct fr:List az}{la:List Nat}{c:az}
theorem bQ{b c:az}{wt:List az}:b∈ak c wt↔b∈wt/\b≠c:=by
 refine wi.trans ?_;refine and_congr_right λa=>?_
 by_cases e:b=c
 ·rw[decide_eq_true e];exact⟨λq=>absurd q (by decide),λq=>absurd e q⟩
 ·rw[decide_eq_false e];exact⟨λa=>e,λa=>rfl⟩
theorem K_(p:az->Bool)(l:List az)(b:az):(l.filter p).count b=if p b=true then l.count b else 0:=by
 by_cases h:p b=true
 ·rw[if_pos h,List.count_filter h]
 ·rw[if_neg h];exact List.count_eq_zero.mpr λq=>h (wi.mp q).2
theorem DM.take{T wt:List az}(h:DM steps T wt)(hm:c∈wt):DM steps (T++t4 (steps.count c) c) (ak c wt):=by
 refine List.perm_iff_count.mpr λb=>?_
 simp only[List.count_append,h.count_eq b,K_,K_,List.count_replicate];by_cases e:b=c
 ·subst e;rw[if_neg (by rw[decide_eq_true hm];decide),if_pos (beq_self_eq_true _),if_pos (by refine(decide_eq_false λq=>(bQ.mp q).2 rfl)▸?_;rfl),FR]
 ·rw[if_neg λq=>e (eq_of_beq q).symm,aab];by_cases m:b∈wt
  ·rw[if_neg (by rw[decide_eq_true m];decide),if_neg (by refine(decide_eq_true (bQ.mpr ⟨m,e⟩)).symm▸?_;decide)]
  ·rw[if_pos (by refine(decide_eq_false m)▸?_;rfl),if_pos (by refine(decide_eq_false λq=>m (bQ.mp q).1)▸?_;rfl)]
theorem AJ{q wt:List az}(h:(c::q).Perm wt)(hn:wt.Nodup):q.Perm (ak c wt):=by
 obtain hq:=h.nodup_iff.mpr hn;obtain f:=h.filter λb=>!decide (b=c)
 rw[Bn,if_neg (by rw[decide_eq_true rfl];decide)] at f;obtain e:q.filter (λb=>!decide (b=c))=q:=QR.mpr λb hb=>by refine(decide_eq_false λe:b=c=>(nA hq).1 (e▸hb))▸?_;rfl
 rw[e] at f;exact f
theorem DN(l m:List az):aV (l++m)=aV l++aV m:=List.flatMap_append
theorem xQ{T:List az}{D:DD×DD}(h:Told T D)(hz:T.length<1000)(w:List Nat):small (dz D.2 w-dz D.1 w)=true:=by
 obtain o:=h.o.sm w;obtain i:=h.i.sm w;obtain z1:=List.countP_le_length;obtain z2:=List.countP_le_length (p:=λs:az=>decide (s.1=w)) (l:=T.map λs=>(s.2,s.1));simp only[ph] at z2;refine decide_eq_true ?_;simp only[o,i]
 revert z1 z2
 generalize T.countP (λs=>decide (s.1=w))=m;generalize (T.map λs=>(s.2,s.1)).countP (λs=>decide (s.1=w))=n;intro z1 z2;have :((m:Int)-n).natAbs<=999:=by lia
 exact vw this (by simp_all)
structure DO(pl:List (List Nat))(steps:List az)(k:Nat)(wt q1 q2 T:List az)(D:DD×DD):Prop where
 dk:tZ pl k D
 td:Told T D
 sp:DM steps T wt
 pm:(q1++q2).Perm wt
 nd:wt.Nodup
 sub:∀c∈wt,c∈steps
 fin:∀c∈q2,¬kO c wt
inductive WS(d:Nat)(a:Lx)(B:AH)(av:Int)(pl nm:List (List Nat))(steps ct fr:List az)(la:List Nat)(is:List Int)(wt q:List az)(n:Nat)(D:DD×DD)(r:AH)(k:Nat):Prop where
|mk{iz q' T':List az}{D':DD×DD}{r':AH}{xR:Nat}(l:cz (d+4) (jg 21) (cW EF) (b_ EF) (is.map .int) (nj a.k pl nm ct fr B.length wt la n) (a.bh B av ((aV q).map ao) (cJ D r)) .next (nj a.k pl nm ct fr B.length iz la xR) (a.bh B av ((aV q').map ao) (cJ D' r')))
 (p:Peel wt iz) (J:DO pl steps k iz [] q' T' D'):WS d a B av pl nm steps ct fr la is wt q n D r k
theorem Hz(h:a.Ok B)(hb:∀w,(steps.countP λs=>decide (s.1=w))=steps.countP λs=>decide (s.2=w))(hz:steps.length<1000)(hp:∀s∈steps,s.1∈pl/\s.2∈pl)(is:List Int):∀(wt q1 q2 T:List az) (D:DD×DD) (k:Nat) (r:AH),DO pl steps k wt q1 q2 T D->wt.length<100->k+is.length<1000->(q1=[]\/wt.length* wt.length<=q2.length+is.length)->
  WS d a B av pl nm steps ct fr la is wt (q1++q2) q2.length D r (k+is.length):=by
 induction is with
 |nil=>
  intro wt q1 q2 T D k r I hw hk hm;have hl:=I.pm.length_eq
  rw[pj] at hl;have h1:q1.length=0:=by
   refine(hm).elim (λhm=>?_) λhm=>?_
   ·rw[hm];rfl
   refine(Nat.eq_zero_or_pos q1.length).elim (λe=>?_) λe=>?_
   ·exact e
   ·have :wt.length* 1<=wt.length* wt.length:=Nat.mul_le_mul_left _ (aW (nat_lit 0x219012108210091102) ae e hl);exact e9 (nat_lit 0x93250928101101b0102382113) ae hl this hm
  have h1:=List.eq_nil_of_length_eq_zero h1;subst h1;exact .mk .nil .nil I
 |cons i is ih=>
  intro wt q1 q2 T D k r I hw hk hm;obtain hl:=I.pm.length_eq;rw[pj] at hl;rw[pE] at hk hm;have WT:∀{k:Nat} {D:DD×DD},tZ pl k D->tZ pl (k+1) D:=λh=>⟨λw hw=>(h.i w hw).elim λm hm=>⟨m,hm.1,w3 hm.2⟩,λw hw=>(h.o w hw).elim λm hm=>⟨m,hm.1,w3 hm.2⟩,h.li,h.lo⟩
  rw[pE,show k+(is.length+1)=k+1+is.length by exact aL (nat_lit 0x1190881918082510) ae]
  match q1,hl,I,hm with
  |[],hl,I,hm=>rw[tm] at hl;obtain⟨l,p,J⟩:=ih wt [] q2 T D (k+1) r ⟨WT I.dk,I.td,I.sp,I.pm,I.nd,I.sub,I.fin⟩ hw (aL (nat_lit 0x3e83f119088113e83f1918081101) ae hk) (.inl rfl);exact .mk ((Hv (Ln.go (nat_lit 17665210462465) [_,_,0] ae hl) i).next (.inl rfl) l) p J
  |(x,y)::q1,hl,I,hm=>
   obtain hm:=hm.resolve_left nofun
   rw[pE] at hl;have DH:=I.pm.mem_iff.mp (.head _)
   refine(hp _ (I.sub _ DH)).elim λhx hy=>?_
   by_cases lf:kO (x,y) wt
   ·have oe:=K9 I.td I.sp hb DH lf.1 lf.2;obtain⟨r1,t⟩:=Hy (rest:=(aV (q1++q2)).map ao) h I.dk (aL (nat_lit 0x3e83f0113e83f1918081101) ae hk) (show q2.length<wt.length by exact Ln.go (nat_lit 0x211121190882101) [_,_,_,0] ae hl) hw hx hy lf.1 lf.2 (λw b=>xQ I.td (by obtain this:=I.sp.length_eq;obtain z:=D1 (λs=>!decide (s∈wt)) steps;exact aW (nat_lit 0x3e83f2113e83f1111001022103) ae this z hz) w) i;rw[oe] at t;have pm:(q1++q2).Perm (ak (x,y) wt):=AJ I.pm I.nd
    have ln:=pm.length_eq;rw[pj] at ln;obtain⟨l,p,J⟩:=ih (ak (x,y) wt) (q1++q2) [] _ _ (k+1) r1 ⟨I.dk.inc hx hy,I.td.inc (List.count_pos_iff.mpr (I.sub _ DH)) (x,y),I.sp.take DH,by rw[rn];exact pm,I.nd.filter _,λc hc=>I.sub c (bQ.mp hc).1,λc hc=>nomatch hc⟩ (Ln.go (nat_lit 0x64e21164e31131190882121083103) [_,_,_,_,0] ae ln hl hw) (aL (nat_lit 0x3e83f119088113e83f1918081101) ae hk) (.inr<|by
     rw[<-ln];have e:wt.length=q1.length+q2.length+1:=by exact Ln.go (nat_lit 0x19108822521190883511) [_,_,_,0] ae hl
     rw[e] at hm;have :(q1.length+q2.length+1)* (q1.length+q2.length+1)=(q1.length+q2.length)* (q1.length+q2.length)+2* (q1.length+q2.length)+1:=by rw[Nat.add_mul,Nat.mul_add];exact aW (nat_lit 0x192182a0881921881a2181b0882510) ae
     show _<=0+is.length;exact v7 (nat_lit 0x4098101194838001193282a18803102) ae this hm)
    rw[rn] at l;exact .mk (t.next (.inl rfl) l) (.cons DH lf p) J
   ·have hs:x=y\/(x∈gq x y wt/\y∈gq x y wt):=xf λq=>lf ⟨λe=>q (.inl e),λe=>q (.inr e)⟩
    have fl:=lO (q1++q2);rw[pj] at fl;have t:=Hw (d:=d) (av:=av) (r:=r) (pl:=pl) (D:=D) (nm:=nm) (ct:=ct) (fr:=fr) (la:=la) (rest:=(aV (q1++q2)).map ao) h (show q2.length<wt.length by exact Ln.go (nat_lit 0x211121190882101) [_,_,_,0] ae hl) hw (by rw[ph];exact Ln.go (nat_lit 0x3843f01164e3123219188222182a02103) [_,_,_,_,0] ae fl hl hw) hs i
    have e:(aV (q1++q2)).map ao++[ao x,ao y]=(aV (q1++(q2++[(x,y)]))).map ao:=by rw[<-ta,DN _ [(x,y)],vk];rfl
    rw[e] at t;have ll:(q2++[(x,y)]).length=q2.length+1:=by rw[pj];rfl
    obtain⟨l,p,J⟩:=ih wt q1 (q2++[(x,y)]) T D (k+1) r ⟨WT I.dk,I.td,I.sp,by rw[<-ta];exact List.perm_append_comm.trans I.pm,I.nd,I.sub,λc hc=>by
     rcases Fm.mp hc with q|q
     ·exact I.fin c q
     ·rw[vu.mp q];exact lf⟩ hw (aL (nat_lit 0x3e83f119088113e83f1918081101) ae hk) (.inr (e9 (nat_lit 0x308201191803119381820102) ae hm ll))
    rw[ll] at l;exact .mk (t.next (.inl rfl) l) p J
end
section
variable{d L:Nat}{a:Lx}{B r t H X:AH}{av:Int}{pl nm:List (List Nat)}{steps ct fr q wt:List az}{la:List Nat}{c:az}{D:DD×DD}{idl k:Nat}{vs:List V}{env:af}
theorem jT(m:Nat)(H:AH):∀E:DD,eV (freeze (m+3)) (br E) H=some (br E,H)|[]=>rfl|(y,u)::r=>by exact s8 rfl (jT m H r)
theorem AK(hb:H[L]?=some (.aE (br D.1)))(ho:(H.set L .gone)[L+1]?=some (.aE (br D.2))):freeze bj (.tup [.ref L,.ref (L+1),.lst vs]) H=some (.tup [.aE (br D.1),.aE (br D.2),.lst vs],(H.set L .gone).set (L+1) .gone):=by obtain e1:freeze 9 (.ref L) H=some (.aE (br D.1),H.set L .gone):=fX hb rfl (bS rfl (bS (jT 5 _ D.1) rfl));obtain e2:freeze 9 (.ref (L+1)) (H.set L .gone)=some (.aE (br D.2),(H.set L .gone).set (L+1) .gone):=fX ho rfl (bS rfl (bS (jT 5 _ D.2) rfl));obtain z:=rfl;obtain y:eU (freeze 9) [.ref (L+1),.lst vs] (H.set L .gone)=some ([.aE (br D.2),.lst vs],(H.set L .gone).set (L+1) .gone):=bS e2 (bS z rfl);exact bS (bS e1 (bS y rfl)) rfl
abbrev EG:Expr:=p9 (KI (rK 4)) 2
theorem HA(h:a.Ok (B++t))(ws:List az):∀(q:List az) (vs:List V),q.length=ws.length->vs.length+ws.length<1000->
  aK (d+4) (jW EG) (GC EG) (bT (d+4) (jW EG) (vd EG) (iS EG).tail) (ws.map aA) [(T "lexer",.ref a.k)] (.l vs) (a.bh B av ((aV q).map ao) t) [(T "lexer",.ref a.k)] (.l (vs++q.map aA)) (a.bh B av [] t):=by
 induction ws with
 |nil=>intro q vs hq hz;obtain e:=List.eq_nil_of_length_eq_zero hq;subst e;rw[show vs++List.map aA []=vs from rn vs];exact .nil
 |cons w ws ih=>
  intro q vs hq hz
  match q,hq with |(x,y)::q,hq=>rw[pE] at hz hq;obtain DF:=h.self (av:=av) (push:=ao x::ao y::(aV q).map ao) (cs:=[]);obtain jN:=h.self (av:=av) (push:=ao y::(aV q).map ao) (cs:=[]);obtain g0:=cR (d:=d+2) (x:=ao x) (p:=ao y::(aV q).map ao) (cs:=[]) (l:=av) h;obtain g1:=cR (d:=d+2) (x:=ao y) (p:=(aV q).map ao) (cs:=[]) (l:=av) h;obtain r:=ih q (vs++[aA (x,y)]) (Nat.succ.inj hq) (by refine pj▸?_;refine(?_:vs.length+1+_<_);lia);simp only[ta] at r;obtain tn:eR (d+4) (jW EG) (GC EG) (bT (d+4) (jW EG) (vd EG) (iS EG).tail) (aA w) [(T "lexer",.ref a.k)] (.l vs) (a.bh B av (ao x::ao y::(aV q).map ao) t) [(T "lexer",.ref a.k)] (.l (vs++[aA (x,y)])) (a.bh B av ((aV q).map ao) t):=aM [T "lexer"] (.obj DF (.call g0 (.obj jN (.call g1 (.no 2 (aP (show vs.length+1<ai by exact aL (nat_lit 0x1000006f1908113e83f1918081101) ae hz)) .nil)))));exact tn.go r
theorem Vl(h:a.Ok (B++t))(hq:q.length=wt.length)(hz:wt.length<100):jy (d+4) (jg 21) (nj a.k pl nm ct fr L wt la idl) (rK 4) (a.bh B av ((aV q).map ao) t) (.ret (.tup [.ref L,.ref (L+1),aZ q])) (nj a.k pl nm ct fr L wt la idl) (a.bh B av [] t):=by obtain c:=HA (d:=d) (av:=av) h wt q [] hq (aS (nat_lit 0x3e83f00981164e01101) ae hz);exact bL (.cmp c .nil)
end
section
variable{d L:Nat}{a:Lx}{B r t H X:AH}{av:Int}{pl nm:List (List Nat)}{steps ct fr q wt:List az}{la:List Nat}{c:az}{D:DD×DD}{idl k:Nat}{vs p:List V}{env:af}
theorem Vm(n:Nat)(hn:n<100):binop .Pow (.int n) (.int 2)=some (.int ((n* n:Nat):Int)):=by
 refine(?_:(if small n&&decide ((0:Int)<=2)&&decide ((2:Int)<100) then some (V.int ((n:Int)^2)) else none)=_);obtain s:small n=true:=decide_eq_true (by
  have :((n:Int)).natAbs<=99:=by solve_by_elim [Nat.le_of_lt_succ,Nat.lt_succ_of_le,Nat.succ_le_of_lt,w3,Nat.not_lt.mp,Nat.le_antisymm]
  exact vw this (by simp_all))
 rw[s,if_pos (by decide),Int.pow_succ,Int.pow_succ,Int.pow_zero,Int.one_mul,Int.natCast_mul]
noncomputable abbrev PU(n:Nat):List Int:=(w8 (((n:Nat):Int)-0).toNat).map λ(i:Nat)=>0+(i:Int)
theorem DP(n:Nat):(PU n).length=n:=by simp only[ph,Kt,Int.sub_zero,aad]
theorem DQ(n:Nat):(PU n).map V.int=(w8 (((n:Nat):Int)-0).toNat).map λ(i:Nat)=>V.int (0+(i:Int)):=by rw[tx];rfl
theorem Vn(h:a.Ok B)(hD:tZ pl k D)(hk:k+nm.length<1000)(Js:la∈pl)(hw:∀w∈nm,w∈pl)(hn:nm.length<=10):
  ∃r' PR,jy (d+4) (jg 21) (nj a.k pl nm ct fr B.length wt la idl) (rK 2) (a.bh B av (nm.map ao++p) (cJ D r)) .next (nj a.k pl nm ct fr B.length wt PR idl) (a.bh B av p (cJ ((jS la nm).foldl (iY ct) D) r'))/\tZ pl (k+nm.length) ((jS la nm).foldl (iY ct) D):=by
 obtain⟨r',PR,l,Ug⟩:=Hu (d:=d) (av:=av) (nm:=nm) (fr:=fr) (wt:=wt) (idl:=idl) (q:=p) h nm (PU (nm.map ao).length) la k D r (by rw[DP,ph]) hD hk Js hw;rw[DQ] at l;obtain r0:=kH (nm.map ao).length (a.bh B av (nm.map ao++p) (cJ D r)) (by rw[ph];exact aS (nat_lit 0x1000000000000000100f011a900101) ae hn);refine⟨r',PR,?_,Ug⟩;exact bL (.upd 4 r0 (.loop l .nil))
abbrev ZV(d:Nat)(a:Lx)(B:AH)(av:Int)(pl nm:List (List Nat))(steps ct fr:List az)(la:List Nat)(D:DD×DD)(r:AH):Prop:=∃iz q' T' D' r' xR,jy (d+4) (jg 21) (nj a.k pl nm ct fr B.length fr la 0) (rK 3) (a.bh B av ((aV fr).map ao) (cJ D r)) .next (nj a.k pl nm ct fr B.length iz la xR) (a.bh B av ((aV q').map ao) (cJ D' r'))/\Peel fr iz/\(∃k',DO pl steps k' iz [] q' T' D')
theorem Vo(h:a.Ok B)(hb:∀w,(steps.countP λs=>decide (s.1=w))=steps.countP λs=>decide (s.2=w))(hz:steps.length<1000)(hp:∀s∈steps,s.1∈pl/\s.2∈pl){T:List az}(I:DO pl steps k fr fr [] T D)(hk:k<=100)(hf:fr.length<=16):ZV d a B av pl nm steps ct fr la D r:=by
 obtain sq:(fr.map aA).length* (fr.map aA).length<=256:=by rw[ph];exact Nat.mul_le_mul hf hf
 obtain e:(PU ((fr.map aA).length* (fr.map aA).length)).length=(fr.map aA).length* (fr.map aA).length:=DP _;obtain @⟨iz,q',T',D',r',xR,l,p,J⟩:=Hz (d:=d) (av:=av) (nm:=nm) (ct:=ct) (fr:=fr) (la:=la) h hb hz hp (PU ((fr.map aA).length* (fr.map aA).length)) fr fr [] T D k r I (aS (nat_lit 0x64e01110e00101) ae hf) (aW (nat_lit 0x3e83f028111003f10164e201102103) ae e hk sq) (.inr (by rw[e,ph];exact Nat.le_add_left ..));rw[DQ,rn] at l;obtain pw:=Vm (fr.map aA).length (by rw[ph];exact aS (nat_lit 0x64e01110e00101) ae hf);obtain r0:=kH ((fr.map aA).length* (fr.map aA).length) (a.bh B av ((aV fr).map ao) (cJ D r)) (aS (nat_lit 0x1000000000000000100f0111003f00101) ae sq);refine⟨iz,q',T',D',r',xR,?_,p,_,J⟩;exact bL (.val 4 pw (.upd 5 r0 (.loop l .nil)))
end
section
variable{d L:Nat}{a:Lx}{B r t H X:AH}{av:Int}{pl nm ws:List (List Nat)}{steps ct fr q wt T:List az}{la:List Nat}{c:az}{D:DD×DD}{idl k:Nat}{vs p:List V}{env:af}
theorem DR(pl:List (List Nat))(E:DD)(w:List Nat):(pl.foldl (λD w=>aH D (sL w) []) E).lookup (sL w)=if w∈pl then some [] else E.lookup (sL w):=by
 induction pl generalizing E with
 |nil=>rfl|cons x r ih=>
  simp only[Jn,ih,cN];by_cases e:w=x
  ·rw[if_pos (beq_iff_eq.mpr (congrArg sL e)),if_pos (c:=w∈x::r) (e▸wx ..),ite_self]
  ·rw[if_neg λq=>e (bM (eq_of_beq q))];by_cases m:w∈r
   ·rw[if_pos m,if_pos (.tail _ m)]
   ·rw[if_neg m,if_neg λq=>(bx q).elim e m]
theorem pD(w:List Nat):(ig pl).lookup (sL w)=if w∈pl then some [] else none:=DR pl [] w
theorem xS(w:List Nat):((ig pl).lookup (sL w)).getD []=[]:=by rw[pD];split<;>rfl
theorem y9(pl:List (List Nat))(E:DD):(pl.foldl (λD w=>aH D (sL w) []) E).length<=E.length+pl.length:=by
 induction pl generalizing E with |nil=>exact pd _|cons x r ih=>obtain h1:=ih (aH E (sL x) []);obtain h2:=bP E (sL x) ([]:List (Str×Int));exact e9 (nat_lit 0x193818201191800130820102) ae h1 h2
theorem La(hp:pl.length<=4):tZ pl 0 (ig pl,ig pl):=by exact⟨λw hw=>⟨[],by refine(?_:(ig pl).lookup (sL w)=_);rw[pD,if_pos hw],pd _⟩,λw hw=>⟨[],by refine(?_:(ig pl).lookup (sL w)=_);rw[pD,if_pos hw],pd _⟩,vb (y9 pl []) (aS (nat_lit 0x490098014900101) ae hp),vb (y9 pl []) (aS (nat_lit 0x490098014900101) ae hp)⟩
theorem PV:LR [] (ig pl):=⟨λw=>by rw[xS];exact Iy,λw x=>by rw[xS];rfl,λw=>by unfold dz;rw[xS];rfl⟩
theorem PW:Told [] (ig pl,ig pl):=⟨PV,PV⟩
theorem xT(ct l:List az):∀(T:List az) (D:DD×DD),Told T D->Told (T++l.filter λs=>decide (s∈ct)) (l.foldl (iY ct) D):=by
 induction l with
 |nil=>intro T D h;simp only[List.filter_nil,rn];exact h|cons s l ih=>
  intro T D h;simp only[Jn,Bn];unfold iY;by_cases m:s∈ct
  ·rw[if_pos m,if_pos (decide_eq_true m)];obtain q:=ih (T++[s]) _ (h.inc (n:=1) (Ln.go (nat_lit 420024576) [] ae) s);simp only[ta] at q;exact q
  ·rw[if_neg m,if_neg (by refine(decide_eq_false m)▸?_;exact wy)];exact ih T D h
theorem PY{v:V}{aj:af}{W:AH}(h:pP (d+4) (jg 21) (K5 k pl nm ct fr) [rK 0,rK 1,rK 2,rK 3,rK 4] X (.ret v) aj W):aC (d+5) (.fn 226) [.ref k,cS pl,cS nm,aZ ct,aZ fr] X v W:=
 by
 exact J5 (fl:=.ret v) (by kernel_rfl) (by kernel_rfl) h
theorem DS{wt iz:List az}(h:Peel wt iz):iz.length<=wt.length:=by
 induction h with |nil=>exact pd _|cons m l k ih=>exact vb ih (D1 ..)
abbrev Vp(d:Nat)(a:Lx)(B:AH)(av:Int)(pl nm:List (List Nat))(steps ct fr:List az):Prop:=∃iz q' T' D' r',aC (d+5) (.fn 226) [.ref a.k,cS pl,cS nm,aZ ct,aZ fr] (a.bh B av [] []) (.tup [.aE (br D'.1),.aE (br D'.2),aZ q']) (a.bh B av [] r')/\Peel fr iz/\(∃k',DO pl steps k' iz [] q' T' D')
theorem AL(h:a.Ok B)(hp:pl.length<=4)(h0:nm≠[])(hn:nm.length<=10)(hw:∀w∈nm,w∈pl)(he:steps=jS (nm.getLastD []) nm)(hb:∀w,(steps.countP λs=>decide (s.1=w))=steps.countP λs=>decide (s.2=w))(hz:steps.length<1000)(hs:∀s∈steps,s.1∈pl/\s.2∈pl)(hd:fr.Nodup)(hf:fr.length<=16)(Ly:∀c∈fr,c∈steps)(WU:∀s∈steps,s∈ct↔s∉fr):Vp d a B av pl nm steps ct fr:=by
 obtain hl:nm.getLastD []∈pl:=by rw[NM,Fs h0];exact hw _ (List.getLast_mem h0)
 obtain s0:=Vh (d:=d+3) (X:=a.bh B av [] []) (k:=a.k) (ct:=ct) h0 (aS (nat_lit 0x64e011a900101) ae hn) (aS (nat_lit 0x64e0114900101) ae hp) (aS (nat_lit 0x64e01110e00101) ae hf);obtain xl:(a.bh B av [] []).length=B.length:=by rw[Lx.len,rn]
 obtain xa:a.bh B av [] []++[.aE (br (ig pl)),.aE (br (ig pl))]=a.bh B av [] (cJ (ig pl,ig pl) []):=by obtain e1:=tN (av:=av) (p:=[]) (t:=[]) (o:=.aE (br (ig pl))) h;obtain e2:=tN (av:=av) (p:=[]) (t:=[.aE (br (ig pl))]) (o:=.aE (br (ig pl))) h;rw[show a.bh B av [] []++[aF.aE (br (ig pl)),.aE (br (ig pl))]=(a.bh B av [] []++[.aE (br (ig pl))])++[.aE (br (ig pl))] from by rw[ta];rfl,e1];exact e2
 rw[xl,xa] at s0;obtain s1:=Vi (d:=d) (av:=av) (pl:=pl) (ct:=ct) (wt:=fr) (la:=nm.getLastD []) (idl:=0) (L:=B.length) (h.rows (cJ (ig pl,ig pl) [])) hn hf;rw[vk] at s1;obtain⟨r2,Vk,s2,WV⟩:=Vn h (La hp) (aS (nat_lit 0x3e83f009811a900101) ae hn) hl hw hn;rw[<-he] at s2 WV;obtain WW:=xT ct steps [] _ (PW (pl:=pl));rw[Hm] at WW;obtain ZW:DM steps (steps.filter λs=>decide (s∈ct)) fr:=by
  obtain e:(steps.filter λs=>decide (s∈ct))=steps.filter λs=>!decide (s∈fr):=List.filter_congr λs hs=>by
   by_cases m:s∈fr
   ·rw[decide_eq_true m,decide_eq_false λq=>(WU s hs).mp q m];rfl
   ·rw[decide_eq_false m,decide_eq_true ((WU s hs).mpr m)];rfl
  rw[e]
 obtain⟨iz,q',T',D',r',xR,s3,pe,k',J⟩:=Vo h hb hz hs (fr:=fr) ⟨WV,WW,ZW,by rw[rn],hd,Ly,λc hc=>nomatch hc⟩ (aS (nat_lit 0x64e009801a900101) ae hn) hf;obtain ql:=J.pm.length_eq;rw[Hm] at ql;obtain ZX:=DS pe;obtain s4:=Vl (d:=d) (av:=av) (pl:=pl) (nm:=nm) (ct:=ct) (fr:=fr) (la:=Vk) (idl:=xR) (L:=B.length) (q:=q') (wt:=iz) (h.rows (cJ D' r')) ql (aL (nat_lit 0x64e01110e101100102) ae ZX hf);obtain g0:(a.bh B av [] (cJ D' r'))[B.length]?=some (.aE (br D'.1)):=fG h 0;obtain g1:(a.bh B av [] (cJ D' r')).set B.length .gone=a.bh B av [] (.gone::.aE (br D'.2)::r'):=tM h 0 .gone;obtain g2:(a.bh B av [] (.gone::.aE (br D'.2)::r'))[B.length+1]?=some (.aE (br D'.2)):=fG h 1;obtain g3:(a.bh B av [] (.gone::.aE (br D'.2)::r')).set (B.length+1) .gone=a.bh B av [] (.gone::.gone::r'):=tM h 1 .gone;obtain fz:=AK (D:=D') (vs:=q'.map aA) g0 (by rw[g1];exact g2);rw[g1,g3] at fz;exact⟨iz,q',T',D',.gone::.gone::r',yE (PY (bq s0 (bq s1 (bq s2 (bq s3 (Co s4)))))) fz,pe,k',J⟩
end
section
variable{la w:List Nat}{nm ws:List (List Nat)}
theorem y_(w:List Nat):∀(ws:List (List Nat)) (la:List Nat),((jS la ws).countP λs=>decide (s.1=w))+(if(la::ws).getLastD []=w then 1 else 0)=((jS la ws).countP λs=>decide (s.2=w))+(if la=w then 1 else 0)
|[],la=>by rfl|v::ws,la=>by
 obtain ih:=y_ w ws v;refine(?_:List.countP _ ((la,v)::jS v ws)+_=List.countP _ ((la,v)::jS v ws)+_);simp only[Bz,Bz];obtain d1:(if decide ((la,v).1=w)=true then 1 else 0)=if la=w then 1 else 0:=by by_cases q:la=w<;>simp[q]
 obtain d2:(if decide ((la,v).2=w)=true then 1 else 0)=if v=w then 1 else 0:=by by_cases q:v=w<;>simp[q]
 simp only[d1,d2];exact v7 (nat_lit 0x4328814088253281082511) ae ih
theorem DT(h0:nm≠[])(w:List Nat):((jS (nm.getLastD []) nm).countP λs=>decide (s.1=w))=(jS (nm.getLastD []) nm).countP λs=>decide (s.2=w):=by
 obtain h:=y_ w nm (nm.getLastD []);obtain e:((nm.getLastD [])::nm).getLastD ([]:List Nat)=nm.getLastD []:=by rw[NM,NM,List.getLast?_cons,Fs h0];rfl
 obtain h:=e▸h;exact aW (nat_lit 9047960659174673) ae h
theorem HB(ws:List (List Nat)):∀la,jS la ws=(la::ws).zip ws:=by
 induction ws with |nil=>intro la;rfl|cons w ws ih=>intro la;exact congrArg ((la,w)::·) (ih w)
theorem tQ:cD nm=jS (nm.getLastD []) nm:=(HB nm _).symm
end
section
variable{x y z w:List Nat}{pl met:List (List Nat)}{l:List az}{a b c:az}
def Cl(l:List az)(S:List Nat->Prop):Prop:=∀a∈l,S a.1↔S a.2
theorem DU(h:z∈met)(a:az):z∈jo met a:=by
 unfold jo;split
 ·exact h
 ·exact y2 _ h
theorem gE(l:List az):∀met:List (List Nat),z∈met->z∈c_ l met:=by
 induction l with |nil=>intro met h;exact h|cons a r ih=>intro met h;exact ih _ (DU h a)
set_option tactic.hygienic true in
theorem DV{S:List Nat->Prop}(ha:S a.1↔S a.2)(h:∀z∈met,S z):∀z∈jo met a,S z:=by
 intro z hz;unfold jo at hz;split at hz
 ·exact h z hz
 ·rename_i ne
  obtain s:S a.1:=by
   by_cases m1:a.1∈met
   ·exact h _ m1
   ·by_cases m2:a.2∈met
    ·exact ha.mpr (h _ m2)
    ·exact absurd (by simp only[decide_eq_false m1,decide_eq_false m2]) ne
  rcases Fm.mp hz with q|q
  ·exact h z q
  ·rcases bx q with e|q
   ·exact e▸s
   ·refine(vu.mp q)▸?_;exact ha.mp s
theorem pF{S:List Nat->Prop}(l:List az):∀met:List (List Nat),Cl l S->(∀z∈met,S z)->∀z∈c_ l met,S z:=by
 induction l with |nil=>intro met _ h;exact h|cons a r ih=>intro met hc h;exact ih _ (λb hb=>hc b (.tail _ hb)) (DV (hc a (.head _)) h)
theorem cT{S:List Nat->Prop}(hc:Cl l S)(hx:S x):∀z∈aD x l,S z:=pF l _ hc (pF l _ hc (pF l _ hc λz hz=>by exact(vu.mp hz)▸(hx)))
theorem bH:x∈aD x l:=gE l _ (gE l _ (gE l _ (.head _)))
theorem DW(l:List az)(h:Cl l (·∈met)):c_ l met=met:=by
 induction l with |nil=>rfl|cons a r ih=>refine(?_:c_ r (jo met a)=met);obtain e:jo met a=met:=if_pos (decide_eq_decide.mpr (h a (.head _)));refine e.symm▸?_;exact ih λb hb=>h b (.tail _ hb)
theorem AM(l:List az)(h:¬Cl l (·∈met)):∃z,(∃a∈l,z=a.1\/z=a.2)/\z∉met/\z∈c_ l met:=by
 induction l with
 |nil=>exact absurd (λa ha=>nomatch ha) h|cons a r ih=>
  by_cases e:a.1∈met↔a.2∈met
  ·obtain e1:jo met a=met:=if_pos (decide_eq_decide.mpr e);obtain⟨z,⟨b,hb,hz⟩,n,m⟩:=ih λq=>h λb hb=>(bx hb).elim (λi=>i▸e) (q b)
   exact⟨z,⟨b,.tail _ hb,hz⟩,n,by refine(?_:z∈c_ r (jo met a));refine e1.symm▸?_;exact m⟩
  ·obtain e1:jo met a=met++[a.1,a.2]:=if_neg λq=>e (decide_eq_decide.mp q)
   obtain m1:a.1∈c_ (a::r) met:=gE r _ (by rw[e1];exact y4 _ (.head _));obtain m2:a.2∈c_ (a::r) met:=gE r _ (by rw[e1];exact y4 _ (.tail _ (.head _)));by_cases i:a.1∈met
   ·exact⟨a.2,⟨a,.head _,.inr rfl⟩,λq=>e ⟨λc=>q,λc=>i⟩,m2⟩
   ·exact⟨a.1,⟨a,.head _,.inl rfl⟩,i,m1⟩
theorem DX{p q:List Nat->Bool}(h:∀w,p w=true->q w=true):∀l:List (List Nat),l.countP p<=l.countP q/\(∀z∈l,p z=false->q z=true->l.countP p<l.countP q)
|[]=>⟨pd _,λz hz=>nomatch hz⟩|w::r=>by
 refine(DX h r).elim λi1 i2=>?_
 rw[Bz,Bz];have k:(if p w=true then 1 else 0)<=if q w=true then 1 else 0:=by
  by_cases e:p w=true
  ·rw[if_pos e,if_pos (h w e)];exact pd _
  ·rw[if_neg e];exact zr _
 refine⟨e9 (nat_lit 0x138028013201100102) ae k i1,λz hz pz qz=>?_⟩;refine(bx hz).elim (λe=>?_) λm=>?_
 ·subst e;rw[if_neg (by refine pz▸?_;exact wy),if_pos qz];exact aL (nat_lit 0x1918090811100101) ae i1
 ·obtain this:=i2 z m pz qz;exact e9 (nat_lit 0x318208113201101102) ae this k
theorem dN(hp:pl.length<=4)(hl:∀a∈l,a.1∈pl/\a.2∈pl)(hx:x∈pl):Cl l (·∈aD x l):=by
 obtain up:∀met:List (List Nat),¬Cl l (·∈met)->(pl.countP λw=>decide (w∈met))<pl.countP λw=>decide (w∈c_ l met):=λmet h=>by obtain⟨z,⟨a,ha,hz⟩,n,m⟩:=AM l h;exact(DX (λw q=>decide_eq_true (gE l _ (of_decide_eq_true q))) pl).2 z (hz.elim (λe=>e▸(hl a ha).1) λe=>e▸(hl a ha).2) (decide_eq_false n) (decide_eq_true m)
 have st:∀met:List (List Nat),Cl l (·∈met)->Cl l (·∈c_ l met):=λmet h=>by rw[DW l h];exact h
 by_cases c0:Cl l (·∈[x])
 ·exact st _ (st _ (st _ c0))
 by_cases c1:Cl l (·∈c_ l [x])
 ·exact st _ (st _ c1)
 by_cases c2:Cl l (·∈c_ l (c_ l [x]))
 ·exact st _ c2
 obtain u0:=up _ c0;obtain u1:=up _ c1;obtain u2:=up _ c2;obtain p0:0<pl.countP λw=>decide (w∈[x]):=List.countP_pos_iff.mpr ⟨x,hx,decide_eq_true (.head _)⟩
 obtain al:pl.countP (λw=>decide (w∈aD x l))=pl.length:=by
  obtain this:=List.countP_le_length;obtain e:(pl.countP λw=>decide (w∈aD x l))=pl.countP λw=>decide (w∈c_ l (c_ l (c_ l [x]))):=rfl
  exact Ln.go (nat_lit 0x202510241414451453143091449204200117) [_,_,_,_,_,_] ae this hp p0 u0 u1 u2 e
 obtain al:=List.countP_eq_length.mp al;exact λa ha=>⟨λb=>of_decide_eq_true (al _ (hl a ha).2),λb=>of_decide_eq_true (al _ (hl a ha).1)⟩
end
section
variable{x y z w u p q:List Nat}{pl met:List (List Nat)}{l g:List az}{a b c:az}
noncomputable def dedG:List (List Nat)->List (List Nat)->List (List Nat)|aR,[]=>[]|pre,a::r=>if a∈pre then dedG (pre++[a]) r else a::dedG (pre++[a]) r
theorem rO(pre:List (List Nat))(a:List Nat)(r:List (List Nat)):dedG pre (a::r)=if a∈pre then dedG (pre++[a]) r else a::dedG (pre++[a]) r:=rfl
theorem DY(l:List (List Nat)):∀pre:List (List Nat),((l.zipIdx pre.length).filter λp=>!decide (p.1∈(pre++l).take p.2)).map (λp=>p.1)=dedG pre l:=by
 induction l with
 |nil=>intro pre;rfl|cons a r ih=>
  intro pre;obtain h:=ih (pre++[a]);rw[pj,ta] at h;simp only[List.zipIdx_cons,Bn];obtain t:=List.take_left;refine(?_:List.map _ (if(!decide (a∈(pre++a::r).take pre.length))=true then _ else _)=if a∈pre then dedG (pre++[a]) r else a::dedG (pre++[a]) r);refine t.symm▸?_;by_cases m:a∈pre
  ·rw[if_pos m,if_neg (by rw[decide_eq_true m];decide)];exact h
  ·rw[if_neg m,if_pos (by rw[decide_eq_false m];rfl)];exact congrArg (a::·) h
theorem DZ:fE met=dedG [] met:=DY met []
theorem vM(l:List (List Nat)):∀pre,z∈dedG pre l↔z∈l/\z∉pre:=by
 induction l with
 |nil=>intro pre;exact⟨λh=>(nomatch h),λh=>nomatch h.1⟩|cons a r ih=>
  intro pre;rw[rO];by_cases h:a∈pre
  ·rw[if_pos h,ih,Fm,vu,y3];exact⟨λ⟨h1,h2⟩=>⟨.inr h1,λq=>h2 (.inl q)⟩,λ⟨h1,h2⟩=>⟨h1.resolve_left λe=>h2 (e▸h),λq=>q.elim h2 λe=>h2 (e▸h)⟩⟩
  ·rw[if_neg h,y3,ih,Fm,vu,y3];refine⟨λq=>q.elim (λe=>by subst e;exact⟨.inl rfl,h⟩) λ⟨h1,h2⟩=>⟨.inr h1,λq=>h2 (.inl q)⟩,λ⟨h1,h2⟩=>?_⟩;by_cases e:z=a
   ·exact .inl e
   ·exact .inr ⟨h1.resolve_left e,λq=>q.elim h2 e⟩
theorem HC(l:List (List Nat)):∀pre,(dedG pre l).Nodup:=by
 induction l with
 |nil=>intro pre;exact Iy|cons a r ih=>
  intro pre;rw[rO];by_cases h:a∈pre
  ·rw[if_pos h];exact ih _
  ·rw[if_neg h];exact Hk.mpr ⟨λq=>((vM _ _).mp q).2 (y4 _ (.head _)),ih _⟩
theorem bK:z∈fE met↔z∈met:=by rw[DZ,vM];exact⟨λh=>h.1,λh=>⟨h,Oy⟩⟩
theorem dg:(fE met).Nodup:=by rw[DZ];exact HC _ _
theorem pG{A B:List (List Nat)}(ha:A.Nodup)(hb:B.Nodup)(h:∀z,z∈A↔z∈B):A.length=B.length:=Nat.le_antisymm (ha.length_le_of_subset λz hz=>(h z).mp hz) (hb.length_le_of_subset λz hz=>(h z).mpr hz)
theorem bW:z∈aV l↔∃a∈l,z=a.1\/z=a.2:=by refine List.mem_flatMap.trans ?_;exact⟨λ⟨a,ha,hz⟩=>⟨a,ha,(bx hz).imp id λq=>vu.mp q⟩,λ⟨a,ha,hz⟩=>⟨a,ha,hz.elim (λe=>e▸.head _) λe=>e▸.tail _ (.head _)⟩⟩
theorem tR(h:y∉aV l):z∈aD y l↔z=y:=⟨λm=>cT (S:=(·=y)) (λa ha=>⟨λe=>absurd (bW.mpr ⟨a,ha,.inl e.symm⟩) h,λe=>absurd (bW.mpr ⟨a,ha,.inr e.symm⟩) h⟩) rfl z m,λe=>e▸bH⟩
theorem nu(h:q∉aV l)(hu:u≠q):q∉aD u l:=λm=>cT (S:=(·≠q)) (λa ha=>⟨λb e=>h (bW.mpr ⟨a,ha,.inr e.symm⟩),λb e=>h (bW.mpr ⟨a,ha,.inl e.symm⟩)⟩) hu q m rfl
abbrev pH(pl:List (List Nat))(l:List az):Prop:=∀a∈l,a.1∈pl/\a.2∈pl
theorem pH.rest(h:pH pl l)(a:az):pH pl (ak a l):=λb hb=>h b (bQ.mp hb).1
theorem iZ{l m:List az}(hp:pl.length<=4)(hm:pH pl m)(hs:∀a∈l,a∈m)(hu:u∈pl):∀z∈aD u l,z∈aD u m:=cT (λa ha=>dN hp hm hu a (hs a ha)) bH
theorem vN(hp:pl.length<=4)(hg:pH pl g)(ha:a∈g)(wj:(a.1=p/\a.2=q)\/(a.1=q/\a.2=p))(hq:q∉aV (ak a g))(cG:p≠q)(hu:u≠q)(PZ:u∈pl):
  z∈aD u g↔z∈aD u (ak a g)\/(z=q/\p∈aD u (ak a g)):=by
 obtain Am:=nu hq hu;obtain cl:=dN hp (hg.rest a) PZ;obtain WX:=dN hp hg PZ;constructor
 ·refine cT (S:=λz=>z∈aD u (ak a g)\/(z=q/\p∈aD u (ak a g))) (λc hc=>?_) (.inl bH) z;by_cases e:c=a
  ·obtain k:(p∈aD u (ak a g)\/(p=q/\p∈aD u (ak a g)))↔(q∈aD u (ak a g)\/(q=q/\p∈aD u (ak a g))):=
    ⟨λh=>.inr ⟨rfl,h.elim id λh=>h.2⟩,λh=>h.elim (λm=>absurd m Am) λh=>.inl h.2⟩
   cases e;rcases wj with ⟨e1,e2⟩|⟨e1,e2⟩
   ·rw[e1,e2];exact k
   ·rw[e1,e2];exact k.symm
  ·obtain Rg:=bQ.mpr ⟨hc,e⟩;obtain n1:c.1≠q:=λi=>hq (bW.mpr ⟨c,Rg,.inl i.symm⟩)
   obtain n2:c.2≠q:=λi=>hq (bW.mpr ⟨c,Rg,.inr i.symm⟩)
   exact⟨λh=>h.elim (λm=>.inl ((cl c Rg).mp m)) λh=>absurd h.1 n1,λh=>h.elim (λm=>.inl ((cl c Rg).mpr m)) λh=>absurd h.1 n2⟩
 ·obtain sub:=iZ hp hg (λb hb=>(bQ.mp hb).1) PZ;rintro(m|⟨e,m⟩)
  ·exact sub z m
  ·simp only[e];obtain pm:=sub p m;rcases wj with ⟨e1,e2⟩|⟨e1,e2⟩
   ·obtain this:=(WX a ha).mp (by rw[e1];exact pm);rw[e2] at this;exact this
   ·obtain this:=(WX a ha).mpr (by rw[e2];exact pm);rw[e1] at this;exact this
end
section
variable{x y z w u p q:List Nat}{pl met:List (List Nat)}{l g:List az}{a b c:az}
theorem rP(c:az)(r:List az):ak a (c::r)=if c=a then ak a r else c::ak a r:=by
 refine Bn.trans ?_;by_cases e:c=a
 ·rw[if_pos e,decide_eq_true e];rfl
 ·rw[if_neg e,decide_eq_false e];rfl
theorem rQ(h:a∉l):ak a l=l:=QR.mpr λb hb=>by refine(decide_eq_false λe:b=a=>h (e▸hb))▸?_;rfl
theorem D0(P:az->Bool)(hn:g.Nodup)(ha:a∈g):g.countP P=(ak a g).countP P+if P a=true then 1 else 0:=by
 induction g with
 |nil=>exact nomatch ha|cons c r ih=>
  refine(nA hn).elim λn1 n2=>?_
  rw[rP];by_cases e:c=a
  ·subst e;rw[if_pos rfl,rQ n1,Bz]
  ·obtain i:=ih n2 ((bx ha).resolve_left λi=>e i.symm);simp only[if_neg e,Bz,Bz,i];exact aW (nat_lit 5075904296920336) ae
theorem gZ(l:List az)(met:List (List Nat)):(mX l met).length=l.countP λb=>decide (b.1∈met):=(QP ..).symm
theorem rR(hp:pl.length<=4)(hg:pH pl g)(hn:g.Nodup)(ha:a∈g)(wj:(a.1=p/\a.2=q)\/(a.1=q/\a.2=p))(hq:q∉aV (ak a g))(cG:p≠q)(hu:u≠q)(PZ:u∈pl):
  fF g (aD u g)=fF (ak a g) (aD u (ak a g)):=by
 obtain m:∀z,z∈aD u g↔z∈aD u (ak a g)\/(z=q/\p∈aD u (ak a g)):=λz=>vN hp hg ha wj hq cG hu PZ
 obtain Am:=nu hq hu;unfold fF;simp only[gZ,gZ,D0 _ hn ha];obtain cc:((ak a g).countP λb=>decide (b.1∈aD u g))=(ak a g).countP λb=>decide (b.1∈aD u (ak a g)):=Qb λc hc=>by simp only[decide_eq_true_iff,decide_eq_true_iff,m];exact⟨λh=>h.elim id λh=>absurd (bW.mpr ⟨c,hc,.inl h.1.symm⟩) hq,.inl⟩
 rw[cc];by_cases pm:p∈aD u (ak a g)
 ·obtain a1:a.1∈aD u g:=by
   rcases wj with ⟨e1,_⟩|⟨e1,_⟩
   ·simp only[e1,m];exact .inl pm
   ·rw[e1,m];exact .inr ⟨rfl,pm⟩
  obtain ln:(fE (aD u g)).length=(q::fE (aD u (ak a g))).length:=pG dg (Hk.mpr ⟨λh=>Am (bK.mp h),dg⟩) λz=>by simp only[bK,y3,bK,m];exact⟨λh=>h.elim .inr λh=>.inl h.1,λh=>h.elim (λe=>.inr ⟨e,pm⟩) .inl⟩
  rw[ln,pE,if_pos (decide_eq_true a1)];exact decide_eq_decide.mpr (by lia)
 ·obtain mm:=λz=>(m z).trans ⟨λh=>h.elim id λh=>absurd h.2 pm,.inl⟩
  obtain a1:a.1∉aD u g:=by
   rcases wj with ⟨e1,_⟩|⟨e1,_⟩
   ·rw[e1,mm];exact pm
   ·rw[e1,mm];exact Am
  obtain ln:(fE (aD u g)).length=(fE (aD u (ak a g))).length:=pG dg dg λz=>by simp only[bK,bK,mm]
  rw[ln,if_neg (by refine(decide_eq_false a1)▸?_;exact wy),aab]
theorem vO(h:kO a l):∃p q,((a.1=p/\a.2=q)\/(a.1=q/\a.2=p))/\q∉aV (ak a l)/\p≠q:=by
 obtain h2:=h.2;by_cases m:a.1∈aV (ak a l)
 ·exact⟨a.1,a.2,.inl ⟨rfl,rfl⟩,λq=>h2 ⟨m,q⟩,h.1⟩
 ·exact⟨a.2,a.1,.inr ⟨rfl,rfl⟩,m,λe=>h.1 e.symm⟩
theorem rS(a b:az)(l:List az):ak b (ak a l)=ak a (ak b l):=by unfold ak;rw[List.filter_filter,List.filter_filter];exact List.filter_congr λc d=>Bool.and_comm ..
theorem AN(hp:pl.length<=4)(hl:pH pl l)(hn:l.Nodup)(ha:a∈l)(hb:b∈l)(WY:b≠a)(h:kO a l):eG b l=eG b (ak a l):=by
 refine(vO h).elim λp z=>z.elim λq z=>z.elim λwj z=>z.elim λhq cG=>?_
 obtain WZ:=bQ.mpr ⟨hb,WY⟩;obtain Vq:=bQ.mpr ⟨ha,λe=>WY e.symm⟩;obtain n1:b.1≠q:=λi=>hq (bW.mpr ⟨b,WZ,.inl i.symm⟩)
 obtain n2:b.2≠q:=λi=>hq (bW.mpr ⟨b,WZ,.inr i.symm⟩)
 obtain Vr:q∉aV (ak a (ak b l)):=λi=>by
  refine(bW.mp i).elim λc W2=>?_;obtain hc:=W2.1;obtain hz:=W2.2
  rw[<-rS] at hc;exact hq (bW.mpr ⟨c,(bQ.mp hc).1,hz⟩)
 obtain hg:=hl.rest b;obtain W3:(ak b l).Nodup:=hn.filter _;refine(hl b hb).elim λp1 p2=>?_
 unfold eG;refine(rS a b l)▸?_;simp only[rR hp hg W3 Vq wj Vr cG n1 p1,rR hp hg W3 Vq wj Vr cG n2 p2];obtain e:decide (b.2∈aD b.1 (ak b l))=decide (b.2∈aD b.1 (ak a (ak b l))):=decide_eq_decide.mpr ((vN hp hg Vq wj Vr cG n1 p1).trans ⟨λh=>h.elim id λh=>absurd h.1 n2,.inl⟩);simp only[e]
theorem vP(hq:q∉aV l):fF l (aD q l)=false:=by
 unfold fF;obtain ln:(fE (aD q l)).length=[q].length:=pG dg (by simp) λz=>by rw[bK,tR hq,vu]
 obtain en:(l.countP λb=>decide (b.1∈aD q l))=0:=List.countP_eq_zero.mpr λb hb=>by rw[decide_eq_true_iff,tR hq];exact λe=>hq (bW.mpr ⟨b,hb,.inl e.symm⟩)
 simp only[gZ,en,ln];rfl
theorem AO(h:kO a l):eG a l=false:=by
 refine(vO h).elim λp z=>z.elim λq z=>z.elim λwj z=>z.elim λhq cG=>?_
 unfold eG;rcases wj with ⟨e1,e2⟩|⟨e1,e2⟩
 ·simp only[e1,e2,decide_eq_false (nu hq cG),vP hq,Bool.and_false];rfl
 ·simp only[e1,e2,decide_eq_false (λm=>cG ((tR hq).mp m)),vP hq];rfl
theorem AP{wt iz:List az}(h:Peel wt iz)(hp:pl.length<=4)(hl:pH pl wt)(hn:wt.Nodup):wt.filter (λc=>eG c wt)=iz.filter λc=>eG c iz:=by
 induction h with
 |nil=>rfl|@cons c wt iz m lf k ih=>
  rw[<-ih (hl.rest c) (hn.filter _)];unfold ak;rw[List.filter_filter];refine List.filter_congr λb hb=>?_
  by_cases e:b=c
  ·subst e;simp only[AO lf,decide_eq_true rfl];exact(Bool.and_false _).symm
  ·simp only[decide_eq_false e];exact(AN hp hl hn m hb e lf).trans (aaL _).symm
end
section
variable{x y z w u p q:List Nat}{pl met V:List (List Nat)}{l g wt E:List az}{a b c:az}
theorem HD(V:List (List Nat)):∀L:List (List Nat),V.Nodup->(V.map λz=>L.count z).sum<=L.length:=by
 induction V with
 |nil=>intro L _;exact zr _|cons z r ih=>
  intro L hn;refine(nA hn).elim λn1 n2=>?_
  obtain h:=ih (L.filter λw=>!(w==z)) n2;obtain e:(r.map λw=>(L.filter λw=>!(w==z)).count w)=r.map λw=>L.count w:=List.map_congr_left λw hw=>by refine List.count_filter ?_;refine(beq_false_of_ne λe:w=z=>n1 (e▸hw))▸?_;rfl
  rw[e] at h;obtain s:=List.length_eq_countP_add_countP (λw:List Nat=>w==z);obtain f:(L.filter λw=>!(w==z)).length=L.countP λw=>decide ¬((w==z)=true):=by simp only[QP];exact congrArg PH (List.filter_congr λw a=>by induction w==z<;>rfl)
  simp only[f] at h;exact e9 (nat_lit 0x31801230121803102) ae s h
theorem za(f:List Nat->Nat)(x:List Nat):∀V:List (List Nat),V.Nodup->(∀z∈V,2<=f z+if z=x then 1 else 0)->2* V.length<=(V.map f).sum+if x∈V then 1 else 0
|[],aR,bV=>zr _|z::r,hn,h=>by
 refine(nA hn).elim λn1 n2=>?_
 obtain i:=za f x r n2 λw hw=>h w (.tail _ hw)
 obtain k:=h z (.head _);by_cases e:z=x
 ·subst e;obtain i:=(if_neg n1)▸i;rw[if_pos rfl] at k;refine(if_pos (wx ..))▸?_;exact aW (nat_lit 0x19208819182a0119082901092812a0102) ae i k
 ·rw[if_neg e] at k;by_cases m:x∈r
  ·rw[if_pos m] at i;rw[if_pos (.tail _ m)];exact aW (nat_lit 0x19208819182a0109082901192812a0102) ae i k
  ·rw[if_neg m] at i;exact e9 (nat_lit 0x3208819182a0109082901092812a0102) ae i k
theorem HE(z:List Nat)(E:List az):(E.countP λc=>decide (z=c.1\/z=c.2))<=(aV E).count z/\(∀c∈E,z=c.1->z=c.2->2<=(aV E).count z):=by
 induction E with
 |nil=>exact⟨pd _,λc hc=>nomatch hc⟩|cons d r ih=>
  obtain f:aV (d::r)=d.1::d.2::aV r:=rfl;rw[f,List.count_cons,List.count_cons,Bz];refine⟨?_,λc hc e1 e2=>?_⟩
  ·obtain k:(if decide (z=d.1\/z=d.2)=true then 1 else 0)<=(if(d.2==z)=true then 1 else 0)+if(d.1==z)=true then 1 else 0:=by
    by_cases e1:z=d.1
    ·refine(if_pos (beq_iff_eq.mpr e1.symm))▸?_;split<;>(first|exact aS (nat_lit 107510038784) ae|exact aS (nat_lit 107508990208) ae)
    ·by_cases e2:z=d.2
     ·rw[if_pos (beq_iff_eq.mpr e2.symm)];split<;>(first|exact aS (nat_lit 6846742784) ae|exact aS (nat_lit 6845694208) ae)
     ·rw[if_neg (by rw[decide_eq_false λh=>h.elim e1 e2];exact wy)];exact zr _
   obtain this:=ih.1;exact v7 (nat_lit 0x4318820801438201100102) ae this k
  ·refine(bx hc).elim (λe=>?_) λm=>?_
   ·subst e;rw[if_pos (beq_iff_eq.mpr e2.symm),if_pos (beq_iff_eq.mpr e1.symm)];exact aS (nat_lit 441524922417408) ae
   ·obtain this:=ih.2 c m e1 e2;exact aW (nat_lit 0x2108829010290101) ae this
theorem HF{P:az->Bool}(hb:b∈E)(hc:c∈E)(h:b≠c)(pb:P b=true)(pc:P c=true):2<=E.countP P:=by
 simp only[QP];obtain n:[b,c].Nodup:=by simp[h]
 exact n.length_le_of_subset λd hd=>(bx hd).elim (λe=>e▸wi.mpr ⟨hb,pb⟩) λm=>vu.mp m▸wi.mpr ⟨hc,pc⟩
theorem zd(hp:pl.length<=4)(hl:pH pl wt)(hf:∀c∈wt,¬kO c wt)(ha:a∈wt)(DH:(a.1=x/\a.2=y)\/(a.1=y/\a.2=x))(hx:x∈pl)(he:x∈aV (ak a wt))(hy:y∉aD x (ak a wt)):fF (ak a wt) (aD x (ak a wt))=true:=by
 obtain cl:=dN hp (hl.rest a) hx;have mem:∀{c z},c∈ak a wt->z∈aD x (ak a wt)->(z=c.1\/z=c.2)->c∈mX (ak a wt) (aD x (ak a wt)):=λ{c z} hc hz e=>by
  refine wi.mpr ⟨hc,decide_eq_true ?_⟩;refine(e).elim (λe=>?_) λe=>?_
  ·exact e▸hz
  ·exact(cl c hc).mpr (e▸hz)
 obtain lo:=za (λz=>(aV (mX (ak a wt) (aD x (ak a wt)))).count z) x (fE (aD x (ak a wt))) dg λz hz=>by
  have hz:=bK.mp hz;obtain ec:=(HE z (mX (ak a wt) (aD x (ak a wt))));by_cases e:z=x
  ·cases e;refine(bW.mp he).elim λc LJ=>?_;obtain hc:=LJ.1;obtain q:=LJ.2
   obtain p:=List.count_pos_iff.mpr (bW.mpr ⟨c,mem hc hz q,q⟩);refine(if_pos rfl)▸?_;exact aS (nat_lit 0x190829010091101) ae p
  ·refine(if_neg e)▸?_;have ZY:=xf λn=>nu n (λi=>e i.symm) hz
   refine(bW.mp ZY).elim λc z2=>?_;obtain hc:=z2.1;obtain q:=z2.2
   obtain ZZ:=(bQ.mp hc).1;by_cases lp:c.1=c.2
   ·exact ec.2 c (mem hc hz q) (q.elim id λe=>e.trans lp.symm) (q.elim (λe=>e.trans lp) id)
   ·obtain two:c.1∈aV (ak c wt)/\c.2∈aV (ak c wt):=xf λn=>hf c ZZ ⟨lp,n⟩
    refine(bW.mp (q.elim (λe=>e▸two.1) λe=>e▸two.2)).elim λb P0=>?_;obtain hb:=P0.1;obtain k:=P0.2
    obtain Z1:=(bQ.mp hb).1;obtain Z2:=(bQ.mp hb).2;obtain Z3:b≠a:=λi=>by
     cases i;obtain zy:z=y:=by
      rcases DH with ⟨e1,e2⟩|⟨e1,e2⟩
      ·exact k.elim (λi=>absurd (i.trans e1) e) λi=>i.trans e2
      ·exact k.elim (λi=>i.trans e1) λi=>absurd (i.trans e2) e
     exact hy (zy▸hz)
    obtain JL:=bQ.mpr ⟨Z1,Z3⟩;obtain t:=HF (P:=λc=>decide (z=c.1\/z=c.2)) (mem hc hz q) (mem JL hz k) (λi=>Z2 i.symm) (decide_eq_true q) (decide_eq_true k);obtain this:=ec.1;exact aL (nat_lit 0x918290110010290102) ae t this
 obtain hi:=HD (fE (aD x (ak a wt))) (aV (mX (ak a wt) (aD x (ak a wt)))) dg;simp only[lO] at hi;obtain lo:=(if_pos (bK.mpr bH))▸lo;refine decide_eq_true ?_;exact aW (nat_lit 0x120212a001190822a0102) ae lo hi
theorem kP(hp:pl.length<=4)(hl:pH pl l)(hx:x∈pl)(h:z∈aD x l):x∈aD z l:=by refine cT (S:=λw=>x∈aD w l) (λc hc=>?_) bH z h;obtain c1:=dN hp hl (hl c hc).1;obtain c2:=dN hp hl (hl c hc).2;exact⟨λh=>cT c2 ((c2 c hc).mpr bH) x h,λh=>cT c1 ((c1 c hc).mp bH) x h⟩
theorem vQ(hp:pl.length<=4)(hl:pH pl wt)(hf:∀c∈wt,¬kO c wt)(ha:a∈wt):eG a wt=true:=by
 refine(hl a ha).elim λh1 h2=>?_
 unfold eG;by_cases m:a.2∈aD a.1 (ak a wt)
 ·simp only[decide_eq_true m];rfl
 ·obtain ne:a.1≠a.2:=λe=>m (e▸bH)
  obtain two:=xf λn=>hf a ha ⟨ne,n⟩
  simp only[zd hp hl hf ha (.inl ⟨rfl,rfl⟩) h1 two.1 m,zd hp hl hf ha (.inr ⟨rfl,rfl⟩) h2 two.2 λk=>m (kP hp (hl.rest a) h2 k)];exact Bool.or_true _
end
section
variable{x y z w u p q:List Nat}{pl met V:List (List Nat)}{l g wt E:List az}{a b c:az}
inductive For:List az->Prop where
|nil:For []|snoc{l:List az}{a:az}(k:For l)(h:a.2∉aD a.1 l):For (l++[a])
theorem Lb{P Q R:az->Bool}(l:List az)(h:∀b∈l,R b=(P b||Q b)/\¬(P b=true/\Q b=true)):l.countP R=l.countP P+l.countP Q:=by
 induction l with
 |nil=>rfl|cons b r ih=>
  refine(h b (.head _)).elim λe n=>?_
  obtain i:=ih λc hc=>h c (.tail _ hc)
  simp only[Bz,Bz,Bz,i,e];induction hp:P b<;>induction hq:Q b
  ·rfl
  ·exact aL (nat_lit 0x1918081910882510) ae
  ·exact aL (nat_lit 0x1190881910882510) ae
  ·exact absurd ⟨hp,hq⟩ n
theorem D3(hp:pl.length<=4)(hl:pH pl l)(hu:u∈pl)(h:z∈aD u l):∀w∈aD z l,w∈aD u l:=cT (dN hp hl hu) h
theorem rU(hp:pl.length<=4)(hl:pH pl (l++[a]))(hu:u∈pl)(wj:(a.1=p/\a.2=q)\/(a.1=q/\a.2=p))(hP:p∈pl)(hQ:q∈pl)(hn:q∉aD p l)(hm:p∈aD u l)
  (i1:(fE (aD u l)).length=(mX l (aD u l)).length+1)(i2:(fE (aD q l)).length=(mX l (aD q l)).length+1):(fE (aD u (l++[a]))).length=(mX (l++[a]) (aD u (l++[a]))).length+1:=by
 have tS:=λc hc=>hl c (y2 _ hc)
 have ha:a∈l++[a]:=y4 _ (.head _);have cu:=dN hp tS hu
 have cq:=dN hp tS hQ;have cM:=dN hp hl hu
 have sub:=iZ hp hl (λc hc=>y2 _ hc) hu;have qM:q∈aD u (l++[a]):=by
  have pM:=sub p hm;rcases wj with ⟨e1,e2⟩|⟨e1,e2⟩
  ·have :=(cM a ha).mp (by rw[e1];exact pM);rw[e2] at this;exact this
  ·have :=(cM a ha).mpr (by rw[e2];exact pM);rw[e1] at this;exact this
 obtain W4:∀z,z∈aD u l->z∉aD q l:=λz h1 h2=>by obtain k:=D3 hp tS hu h1 q (kP hp tS hQ h2);exact hn (D3 hp tS hP (kP hp tS hu hm) q k)
 have m:∀z,z∈aD u (l++[a])↔z∈aD u l\/z∈aD q l:=λz=>by
  constructor
  ·refine cT (S:=λz=>z∈aD u l\/z∈aD q l) (λc hc=>?_) (.inl bH) z;rcases Fm.mp hc with hc|hc
   ·exact or_congr (cu c hc) (cq c hc)
   ·refine(vu.mp hc)▸?_;rcases wj with ⟨e1,e2⟩|⟨e1,e2⟩
    ·rw[e1,e2];exact⟨λd=>.inr bH,λd=>.inl hm⟩
    ·rw[e1,e2];exact⟨λd=>.inl hm,λd=>.inr bH⟩
  ·rintro(h|h)
   ·exact sub z h
   ·exact cT (λc hc=>cM c (y2 _ hc)) qM z h
 have ln:(fE (aD u (l++[a]))).length=(fE (aD u l)++fE (aD q l)).length:=pG dg (List.nodup_append.mpr ⟨dg,dg,λz h1 w h2 e=>W4 z (bK.mp h1) (bK.mp (e▸h2))⟩) λz=>by simp only[Fm,bK,bK,bK,m]
 have a1:a.1∈aD u (l++[a]):=by
  simp only[m];rcases wj with ⟨e1,_⟩|⟨e1,_⟩
  ·rw[e1];exact .inl hm
  ·rw[e1];exact .inr bH
 obtain en:l.countP (λb=>decide (b.1∈aD u (l++[a])))=l.countP (λb=>decide (b.1∈aD u l))+l.countP λb=>decide (b.1∈aD q l):=Lb l λb d=>by refine⟨?_,λh=>W4 b.1 (of_decide_eq_true h.1) (of_decide_eq_true h.2)⟩;rw[<-Bool.decide_or];exact decide_eq_decide.mpr (m b.1)
 rw[gZ] at i1 i2;simp only[ln,pj,gZ,List.countP_append,en,List.countP_singleton,if_pos (decide_eq_true a1)];exact e9 (nat_lit 0x191913888028251938225191802512) ae i2 i1
theorem D4(hp:pl.length<=4)(h:For l):pH pl l->∀u∈pl,(fE (aD u l)).length=(mX l (aD u l)).length+1:=by
 induction h with
 |nil=>intro _ u _;rfl|@snoc l a k hn ih=>
  intro hl u hu;obtain tS:=λc hc=>hl c (y2 _ hc)
  refine(hl a (y4 _ (.head _))).elim λh1 h2=>?_
  by_cases m1:a.1∈aD u l
  ·exact rU hp hl hu (.inl ⟨rfl,rfl⟩) h1 h2 hn m1 (ih tS u hu) (ih tS _ h2)
  by_cases m2:a.2∈aD u l
  ·exact rU hp hl hu (.inr ⟨rfl,rfl⟩) h2 h1 (λq=>hn (kP hp tS h2 q)) m2 (ih tS u hu) (ih tS _ h1)
  obtain cu:=dN hp tS hu;have m:∀z,z∈aD u (l++[a])↔z∈aD u l:=λz=>⟨cT (λc hc=>by
   rcases Fm.mp hc with hc|hc
   ·exact cu c hc
   ·exact(vu.mp hc)▸(⟨λq=>absurd q m1,λq=>absurd q m2⟩)) bH z,iZ hp hl (λc hc=>y2 _ hc) hu z⟩
  obtain i:=ih tS u hu;rw[gZ] at i;obtain ln:(fE (aD u (l++[a]))).length=(fE (aD u l)).length:=pG dg dg λz=>by simp only[bK,bK,m]
  obtain en:l.countP (λb=>decide (b.1∈aD u (l++[a])))=l.countP λb=>decide (b.1∈aD u l):=Qb λb d=>by simp only[decide_eq_true_iff,decide_eq_true_iff,m]
  rw[ln,gZ,List.countP_append,en,List.countP_singleton,if_neg (by refine(decide_eq_false λq=>m1 ((m _).mp q))▸?_;exact wy),i]
theorem D5(hp:pl.length<=4)(hl:pH pl wt)(hn:wt.Nodup)(hf:∀c∈wt,¬kO c wt)(h:For wt):wt=[]:=by
 induction h with
 |nil=>rfl|@snoc l a k nm _=>
  obtain ha:=y4 _ (.head _);obtain r:ak a (l++[a])=l:=by
   obtain n:=λq=>(rZ hn).2.2 a q a (.head _) rfl
   obtain f:ak a (l++[a])=ak a l++ak a [a]:=aar ..;obtain e:ak a [a]=[]:=by rw[rP,if_pos rfl];rfl
   simp only[f,e,rn,rQ n]
  obtain c:=vQ hp hl hf ha;obtain tS:=λc hc=>hl c (y2 _ hc)
  obtain t:=D4 hp k tS a.1 (hl a ha).1;unfold eG at c;rw[r,decide_eq_false nm] at c;obtain c:=of_decide_eq_true (a_ c).1;lia
end
section
variable{pl:List (List Nat)}{l line wt iz free post:List az}{a:az}
theorem D8(e:line=l++a::post)(h:a.2∈aD a.1 l):a∈eF line:=by
 refine xt.mpr ⟨(a,l.length),wi.mpr ⟨List.mk_mem_zipIdx_iff_getElem?.mpr ?_,?_⟩,rfl⟩
 ·rw[e,zt (pd _),X1];rfl
 ·refine decide_eq_true ?_;simp only[e,List.take_left];exact h
theorem For.sub(hp:pl.length<=4)(h:For l):pH pl l->∀wt,wt.Sublist l->For wt:=by
 induction h with
 |nil=>intro _ wt s;refine(List.sublist_nil.mp s)▸?_;exact .nil|@snoc l a k hn ih=>
  intro hl wt s;obtain tS:=λc hc=>hl c (y2 _ hc)
  obtain⟨l1,l2,e,s1,s2⟩:=List.sublist_append_iff.mp s;obtain f:=ih tS l1 s1;refine e▸?_;cases s2 with |cons _ s3=>simp only[List.sublist_nil.mp s3,rn];exact f|cons_cons _ s3=>refine(List.sublist_nil.mp s3)▸?_;exact f.snoc λq=>hn (iZ hp tS (λb hb=>s1.subset hb) (hl a (y4 _ (.head _))).1 _ q)
theorem HG(hp:pl.length<=4)(hl:pH pl line):∀post l:List az,line=l.reverse++post->For (l.reverse.filter λc=>!decide (c∈eF line)):=by
 intro post l;induction l generalizing post with
 |nil=>intro _;exact .nil|cons a l ih=>
  intro e;rw[List.reverse_cons,ta] at e;obtain f:=ih (a::post) e;simp only[List.reverse_cons,aar];by_cases m:a∈eF line
  ·simp only[show [a].filter (λc=>!decide (c∈eF line))=[] by rw[Bn,decide_eq_true m];rfl,rn];exact f
  ·rw[show [a].filter (λc=>!decide (c∈eF line))=[a] by rw[Bn,decide_eq_false m];rfl];obtain sub:∀b∈l.reverse,b∈line:=λb hb=>by rw[e];exact y2 _ hb
   obtain al:a∈line:=by rw[e];exact y4 _ (.head _)
   exact f.snoc λq=>m (D8 e (iZ hp (λb hb=>hl b (sub b hb)) (λb hb=>(wi.mp hb).1) (hl a al).1 _ q))
theorem D9(hp:pl.length<=4)(hl:pH pl line):For (line.filter λc=>!decide (c∈eF line)):=by obtain h:=HG hp hl [] line.reverse (by rw[List.reverse_reverse,rn]);simp only[List.reverse_reverse] at h;exact h
theorem Peel.sub(h:Peel wt iz):iz.Sublist wt:=by
 induction h with |nil=>exact List.Sublist.refl _|cons m l k ih=>exact ih.trans List.filter_sublist
theorem AQ{Vs:List (List Nat)}{steps q T:List az}{D:DD×DD}{k:Nat}(hp:pl.length<=4)(hl:pH pl free)(hn:free.Nodup)(h:Peel free iz)(J:DO Vs steps k iz [] q T D):iz=free.filter (λc=>eG c free)/\q.Perm (free.filter λc=>eG c free):=by
 obtain pm:q.Perm iz:=J.pm;obtain e:=AP h hp hl hn;obtain al:=QR.mpr λc hc=>vQ hp (λb hb=>hl b (h.sub.subset hb)) (λb hb=>J.fin b (pm.mem_iff.mpr hb)) hc
 simp only[al] at e;exact⟨e.symm,e.symm▸pm⟩
theorem AR{Vs:List (List Nat)}{steps q T:List az}{D:DD×DD}{k:Nat}(hp:pl.length<=4)(hl:pH pl free)(hn:free.Nodup)(hf:For free)(h:Peel free iz)(J:DO Vs steps k iz [] q T D):iz=[]:=D5 hp (λb hb=>hl b (h.sub.subset hb)) J.nd (λb hb=>J.fin b (J.pm.mem_iff.mpr hb)) (hf.sub hp hl _ h.sub)
end
section
variable{d:Nat}{X:AH}{mu line free ct:List az}{mk:Int}
abbrev Rh(i:Nat):B2:=cf (b_ (lS 21)) i
noncomputable def mG(mk:Int)(mu:List az):List az:=((mu.zipIdx 0).filter λp=>decide ((mk.fdiv (2^p.2)).fmod 2=0)).map λp=>p.1
noncomputable def vR(line ct:List az):List az:=line.filter λc=>!decide (c∈ct)
def I2(free:List az):List az:=free.filter λc=>eG c free
theorem Vt(hz:mu.length<=10):bZ (d+1) (cX (Rh 0)) (aX 0 (mu.map aA)) [(T "mask",.int mk)] (.l []) X (.l ((mG mk mu).map aA)) X:=by
 unfold mG;simp only[tx,show aX 0 (mu.map aA)=_ from fu aA 0 mu];exact aK.pick (λ(p:az×Nat)=>.tup [.int p.2,aA p.1]) _ _ (mu.zipIdx 0) [] (by rw[Tx,tm];unfold ai;omega) λp hp vs hv=>by
  have hi:p.2<16:=by have :=(List.mem_zipIdx hp).2.1;exact aL (nat_lit 0x10e011a9101109801102) ae this hz
  have md:binop .Mod (.int (mk.fdiv (2^p.2))) (.int 2)=some (.int ((mk.fdiv (2^p.2)).fmod 2)):=rfl;have eq:bG X .Eq (.int ((mk.fdiv (2^p.2)).fmod 2)) (.int 0)=some (.bool (decide ((mk.fdiv (2^p.2)).fmod 2=0))):=by
   refine eq_int ?_;by_cases e:(mk.fdiv (2^p.2)).fmod 2=0
   ·rw[decide_eq_true e];exact beq_iff_eq.mpr e
   ·rw[decide_eq_false e];exact beq_eq_false_iff_ne.mpr e
  induction hb:decide ((mk.fdiv (2^p.2)).fmod 2=0) with |false=>rw[hb] at eq;exact aM [T "mask"] (.val 2 (Hg p.2 hi).1 (.val 3 (K2 mk p.2 hi) (.val 4 md (.val 5 eq .nil))))|true=>rw[hb] at eq;exact aM [T "mask"] (.val 2 (Hg p.2 hi).1 (.val 3 (K2 mk p.2 hi) (.val 4 md (.val 5 eq (.no 8 (aP hv) .nil)))))
theorem Vu(hz:line.length<=10):bZ (d+1) (cX (Rh 1)) (line.map aA) [(T "counted",aZ ct)] (.l []) X (.l ((vR line ct).map aA)) X:=
 aK.pick aA aA (λb=>!decide (b∈ct)) line [] (by rw[tm];unfold ai;omega) λb a vs hv=>by
  have n:=jR (H:=X) b ct;induction hb:!decide (b∈ct) with |false=>rw[hb] at n;exact aM [T "counted"] (.val 2 n .nil)|true=>rw[hb] at n;exact aM [T "counted"] (.val 2 n (.no 5 (aP hv) .nil))
theorem Vv(hz:free.length<=10):bZ (d+8) (cX (Rh 2)) (free.map aA) [(T "free",aZ free)] (.l []) X (.l ((I2 free).map aA)) X:=
 aK.pick aA aA (λb=>eG b free) free [] (by rw[tm];unfold ai;omega) λb e vs hv=>by
  have c:=Ho (d:=d+4) (X:=X) (a:=b) (aS (nat_lit 0x64e011a900101) ae hz);induction hb:eG b free with |false=>rw[hb] at c;exact aM [T "free"] (.call c .nil)|true=>rw[hb] at c;exact aM [T "free"] (.call c (.no 5 (aP hv) .nil))
end
section
variable{pl:List (List Nat)}{mu line free ct steps:List az}{mk:Int}{a:az}
theorem HH(l:List az):∀n:Nat,(l.zipIdx n).map (λp=>p.1)=l:=by
 induction l with |nil=>intro n;rfl|cons a r ih=>intro n;exact congrArg (a::·) (ih (n+1))
theorem P1(n:Nat):((0:Int).fdiv (2^n)).fmod 2=0:=by rw[Int.zero_fdiv];rfl
theorem P4:mG 0 mu=mu:=by unfold mG;rw[QR.mpr λp a=>decide_eq_true (P1 p.2),HH]
theorem D_(h:∀s∈steps,s∈line):∀s∈steps,s∈ct↔s∉vR line ct:=λs hs=>by
 unfold vR;rw[wi];by_cases m:s∈ct
 ·rw[decide_eq_true m];exact⟨λa h=>absurd h.2 (by decide),λa=>m⟩
 ·rw[decide_eq_false m];exact⟨λq=>absurd q m,λq=>absurd ⟨h s hs,rfl⟩ q⟩
end
section
variable{d:Nat}{X:AH}{pl:List (List Nat)}{c5 free co steps:List az}{a:az}{w:List Nat}
abbrev Ri:Expr:=cX (Rh 4)
noncomputable def EH(i:Nat)(c:az):List Nat:=if i=0 then c.1 else c.2
theorem I3(i:Nat)(hi:i=0\/i=1)(c:az):item X (aA c) (.int (i:Nat))=some (ao (EH i c)):=by
 rcases hi with rfl|rfl
 ·exact vI c
 ·exact vJ c
def pI(i:Nat)(co steps:List az)(w:List Nat)(D:List (Str×Int))(c:az):List (Str×Int):=if EH i c=w/\c∉co then aH D (sL (EH (1-i) c)) (steps.count c:Nat) else D
def g_(i:Nat)(c5 co steps:List az)(w:List Nat):List (Str×Int):=c5.foldl (pI i co steps w) []
end
section
variable{d:Nat}{X:AH}{pl:List (List Nat)}{c5 free co steps:List az}{a:az}{w:List Nat}
def I4(e:Expr):Expr:=match vd e with |.kv _ v=>v|.e x=>x
abbrev W5:Expr:=I4 (Px Ri)
abbrev W6(steps co:List az)(i:Nat)(w:List Nat):af:=[(T "core",aZ co),(T "name",ao w),(T "side",.int i),(T "steps",aZ steps)]
theorem Ea(i:Nat)(hi:i=0\/i=1)(c:az)(D:List (Str×Int))(hD:D.length<100):GD (d+1) W5 (aA c) (W6 steps co i w) (.d (aI V.int D)) X (.d (aI V.int (pI i co steps w D c))) X:=by
 obtain t1:=I3 (X:=X) i hi c;obtain e:=kN (X:=X) (EH i c) w;obtain n:=jR (H:=X) c co;obtain sb:binop .Sub (.int 1) (.int i)=some (.int ((1-i:Nat):Int)):=by rcases hi with rfl|rfl<;>rfl
 obtain t2:=I3 (X:=X) (1-i) (by omega) c;obtain cn:=tF (X:=X) (xJ c steps);unfold pI;by_cases h1:EH i c=w
 ·rw[decide_eq_true h1] at e;by_cases h2:c∈co
  ·rw[if_neg λh=>h.2 h2];rw[decide_eq_true h2] at n;exact aM [T "core",T "name",T "side",T "steps"] (.val 2 t1 (.val 4 e (.val 8 n .nil)))
  ·rw[if_pos ⟨h1,h2⟩];rw[decide_eq_false h2] at n;obtain g:aI V.int (aH D (sL (EH (1-i) c)) (steps.count c:Nat))=aH (aI V.int D) (sL (EH (1-i) c)) (.int (steps.count c:Nat)):=(gK V.int D _ _).symm;rw[g];exact aM [T "core",T "name",T "side",T "steps"] (.val 2 t1 (.val 4 e (.val 8 n (.val 13 sb (.val 14 t2 (.upd 17 cn (.no 18 (aP (show(aI V.int D).length+1<ai by rw[bz];exact aS (nat_lit 0x1000006f19081164e01101) ae hD)) .nil)))))))
 ·rw[if_neg λh=>h1 h.1];obtain e:=(decide_eq_false h1)▸e;exact aM [T "core",T "name",T "side",T "steps"] (.val 2 t1 (.val 4 e .nil))
end
section
variable{d:Nat}{X:AH}{pl:List (List Nat)}{c5 free co steps:List az}{a:az}{w:List Nat}
theorem Eb(i:Nat)(D:List (Str×Int))(c:az):(pI i co steps w D c).length<=D.length+1:=by
 unfold pI;split
 ·exact bP D _ _
 ·exact aS (nat_lit 6719275264) ae
theorem HJ(i:Nat)(hi:i=0\/i=1)(hz:c5.length<=10):bZ (d+1) W5 (c5.map aA) (W6 steps co i w) (.d []) X (.d (aI V.int (g_ i c5 co steps w))) X:=
 aK.fold aA (λD=>.d (aI V.int D)) (λa=>X) (pI i co steps w) (λxs D=>D.length+xs.length<100)
  (λc xs D h=>by obtain this:=Eb i D c;exact aW (nat_lit 0x64e2081164e19281811191800102) ae this h)
  (λc xs D h=>Ea i hi c D (aL (nat_lit 0x64e01164e1081101) ae h)) c5 [] (aS (nat_lit 0x64e009811a900101) ae hz)
end
section
variable{d:Nat}{X:AH}{pl:List (List Nat)}{c5 free co steps:List az}{a:az}{w:List Nat}
abbrev Z4:Expr:=Px Ri
abbrev Vw(steps c5 co:List az)(i:Nat):af:=[(T "arcs",aZ c5),(T "core",aZ co),(T "side",.int i),(T "steps",aZ steps)]
def lQ(i:Nat)(pl:List (List Nat))(c5 co steps:List az):DD:=pl.foldl (λE w=>aH E (sL w) (g_ i c5 co steps w)) []
theorem Lc(i:Nat)(hi:i=0\/i=1)(hz:c5.length<=10)(hp:pl.length<=4):bZ (d+1) Z4 (pl.map ao) (Vw steps c5 co i) (.d []) X (.d (br (lQ i pl c5 co steps))) X:=
 aK.fold ao (λE=>.d (br E)) (λa=>X) (λE w=>aH E (sL w) (g_ i c5 co steps w)) (λxs E=>E.length+xs.length<100)
  (λw xs E h=>by obtain this:=bP E (sL w) (g_ i c5 co steps w);exact aW (nat_lit 0x64e2081164e19281811191800102) ae this h)
  (λw xs E h=>by obtain c:=HJ (d:=d) (X:=X) (co:=co) (steps:=steps) (w:=w) i hi hz;obtain e:br (aH E (sL w) (g_ i c5 co steps w))=aH (br E) (sL w) (.aE (aI V.int (g_ i c5 co steps w))):=(gK (λm=>.aE (aI V.int m)) E _ _).symm;refine e▸?_;exact aM [T "arcs",T "core",T "side",T "steps"] (.cmp c (.no 2 (aP (show(br E).length+1<ai by unfold br;rw[bz];exact aL (nat_lit 0x1000006f19081164e1081101) ae h)) .nil))) pl [] (aS (nat_lit 0x64e0098114900101) ae hp)
end
section
variable{d:Nat}{X:AH}{pl:List (List Nat)}{c5 free co steps:List az}{a:az}{w:List Nat}
abbrev P5(pl:List (List Nat))(steps c5 co:List az):af:=[(T "arcs",aZ c5),(T "core",aZ co),(T "plain",cS pl),(T "steps",aZ steps)]
theorem vS(i:Nat)(hi:i=0\/i=1)(hz:c5.length<=10)(hp:pl.length<=4)(vs:List V)(hv:vs.length+1<ai):GD (d+1) Ri (.int i) (P5 pl steps c5 co) (.l vs) X (.l (vs++[.aE (br (lQ i pl c5 co steps))])) X:=by obtain c:=Lc (d:=d) (X:=X) (co:=co) (steps:=steps) i hi hz hp;exact aM [T "arcs",T "core",T "plain",T "steps"] (.cmp c (.no 1 (aP hv) .nil))
theorem Ld(hz:c5.length<=10)(hp:pl.length<=4):bZ (d+1) Ri [.int 1,.int 0] (P5 pl steps c5 co) (.l []) X (.l [.aE (br (lQ 1 pl c5 co steps)),.aE (br (lQ 0 pl c5 co steps))]) X:=(vS 1 (.inr rfl) hz hp [] (by decide)).go ((vS 0 (.inl rfl) hz hp [.aE (br (lQ 1 pl c5 co steps))] (show 2<ai by decide)).go .nil)
end
section
variable{X:AH}{n:Nat}
theorem vc{f:V->V->Option Bool}{x y:V}{xs ys:List V}(h:f x y=some true)(k:veqs f xs ys=some true):veqs f (x::xs) (y::ys)=some true:=by show(match f x y,veqs f xs ys with |some p,some q=>some (p&&q)|_,_=>none)=_;rw[h,k];rfl
theorem tT{xs ys:List (Str×V)}(hl:xs.length=ys.length)(h:∀p∈xs,∃u,ys.lookup p.1=some u/\gH n X p.2 u=some true):gH (n+1) X (.aE xs) (.aE ys)=some true:=by refine(?_:(bif xs.length==ys.length&&veqd (gH n X) ys xs then some true else none)=_);rw[hl,beq_self_eq_true,show veqd (gH n X) ys xs=true from SU.mpr λp hp=>by obtain⟨u,h1,h2⟩:=h p hp;rw[h1];show(gH n X p.2 u==some true)=true;rw[h2];rfl];rfl
end
section
variable{c5 co steps:List az}{w x:List Nat}{i:Nat}{b:az}
noncomputable def HK(i:Nat)(w x:List Nat):az:=if i=0 then(w,x) else(x,w)
theorem ze(hi:i=0\/i=1):b=HK i w x↔EH i b=w/\EH (1-i) b=x:=by
 rcases hi with rfl|rfl
 ·exact⟨λe=>by subst e;exact⟨rfl,rfl⟩,λh=>aaC h.1 h.2⟩
 ·exact⟨λe=>by subst e;exact⟨rfl,rfl⟩,λh=>aaC h.2 h.1⟩
theorem pJ(hi:i=0\/i=1)(c5:List az):∀D:List (Str×Int),(c5.foldl (pI i co steps w) D).lookup (sL x)=if HK i w x∈c5/\HK i w x∉co then some (steps.count (HK i w x):Int) else D.lookup (sL x):=by
 induction c5 with
 |nil=>intro D;rfl|cons b r ih=>
  intro D;simp only[Jn,ih];by_cases m:HK i w x∈r/\HK i w x∉co
  ·rw[if_pos m,if_pos ⟨.tail _ m.1,m.2⟩]
  refine(if_neg m).trans ?_;by_cases e:b=HK i w x
  ·obtain k:=(ze hi).mp e;unfold pI;by_cases c:b∈co
   ·rw[if_neg λh=>h.2 c,if_neg λh=>h.2 (e▸c)]
   ·rw[if_pos ⟨k.1,c⟩,cN,if_pos (by refine k.2▸?_;exact beq_self_eq_true _),if_pos ⟨e▸.head _,e▸c⟩,e]
  ·obtain g:¬(HK i w x∈b::r/\HK i w x∉co):=λh=>(bx h.1).elim (λq=>e q.symm) λq=>m ⟨q,h.2⟩
   rw[if_neg g];unfold pI;by_cases c:EH i b=w/\b∉co
   ·rw[if_pos c,cN,if_neg λq=>e ((ze hi).mpr ⟨c.1,(bM (eq_of_beq q)).symm⟩)]
   ·exact congrArg _ (if_neg c)
theorem Lf(c5:List az):∀D:List (Str×Int),(D.map (·.1)).Nodup->((c5.foldl (pI i co steps w) D).map (·.1)).Nodup:=by
 induction c5 with
 |nil=>intro D h;exact h|cons b r ih=>
  intro D h;refine ih _ ?_;unfold pI;split
  ·exact DK _ _ _ h
  ·exact h
end
section
variable{T wt c5 co steps:List az}{D:DD×DD}{w x:List Nat}{i:Nat}{c:az}
theorem nv(h:DM steps T wt):c∈T↔c∈steps/\c∉wt:=by
 rw[h.mem_iff,wi];refine and_congr_right λa=>?_
 by_cases m:c∈wt
 ·rw[decide_eq_true m];exact⟨λq=>absurd q (by decide),λq=>absurd m q⟩
 ·rw[decide_eq_false m];exact⟨λa=>m,λa=>rfl⟩
theorem zf(h:DM steps T wt)(hc:c∉wt):T.count c=steps.count c:=by rw[h.count_eq,K_,if_pos (by refine(decide_eq_false hc)▸?_;rfl)]
theorem Lg(h:Told T D)(s:DM steps T wt)(ha:∀c,c∈c5↔c∈steps)(hw:∀c,c∈wt↔c∈co):((D.2.lookup (sL w)).getD []).lookup (sL x)=(g_ 0 c5 co steps w).lookup (sL x):=by
 unfold g_;rw[h.o.at_,pJ (.inl rfl)];refine(?_:_=if(w,x)∈c5/\(w,x)∉co then some (steps.count (w,x):Int) else none);have e:(w,x)∈T↔(w,x)∈c5/\(w,x)∉co:=by simp only[nv s,ha,hw]
 by_cases m:(w,x)∈T
 ·rw[if_pos m,if_pos (e.mp m),zf s ((nv s).mp m).2]
 ·rw[if_neg m,if_neg λq=>m (e.mpr q)]
theorem Ec(h:Told T D)(s:DM steps T wt)(ha:∀c,c∈c5↔c∈steps)(hw:∀c,c∈wt↔c∈co):((D.1.lookup (sL w)).getD []).lookup (sL x)=(g_ 1 c5 co steps w).lookup (sL x):=by
 unfold g_;rw[h.i.at_,pJ (.inr rfl)];refine(?_:_=if(x,w)∈c5/\(x,w)∉co then some (steps.count (x,w):Int) else none);have sw:(w,x)∈(T.map λs:az=>(s.2,s.1))↔(x,w)∈T:=by refine xt.trans ?_;exact⟨λ⟨s,hs,e⟩=>by simp only[show(x,w)=s from aaC (yA e).2.symm (yA e).1.symm];exact hs,λm=>⟨(x,w),m,rfl⟩⟩
 have cn:(T.map λs:az=>(s.2,s.1)).count (w,x)=T.count (x,w):=by
  unfold List.count;simp only[TO];refine Qb λs a=>?_
  refine(?_:((s.2,s.1)==(w,x))=true↔(s==(x,w))=true);simp only[beq_iff_eq,beq_iff_eq];exact⟨λe=>aaC (yA e).2 (yA e).1,λe=>by rw[e]⟩
 have e:(x,w)∈T↔(x,w)∈c5/\(x,w)∉co:=by simp only[nv s,ha,hw]
 by_cases m:(x,w)∈T
 ·rw[if_pos (sw.mpr m),if_pos (e.mp m),cn,zf s ((nv s).mp m).2]
 ·rw[if_neg λq=>m (sw.mp q),if_neg λq=>m (e.mpr q)]
end
theorem jU{α:Type}[DecidableEq α]{a b:List α}(ha:a.Nodup)(hb:b.Nodup)(h:∀x,x∈a↔x∈b):a.Perm b:=by
 induction a generalizing b with
 |nil=>induction b with |nil=>exact .refl _|cons x r=>exact nomatch (h x).mpr (.head _)
 |cons x a ih=>obtain hx:=(h x).mp (.head _);refine(List.Perm.cons x (ih (nA ha).2 (hb.erase x) λy=>?_)).trans (List.perm_cons_erase hx).symm;rw[hb.mem_erase_iff,<-h y,y3];exact⟨λhy=>⟨λe=>(nA ha).1 (e▸hy),.inr hy⟩,λhy=>hy.2.resolve_left hy.1⟩
section
variable{X:AH}{n:Nat}{a b:List (Str×Int)}
theorem vU(ha:(a.map (·.1)).Nodup)(hb:(b.map (·.1)).Nodup)(h:∀y,a.lookup (sL y)=b.lookup (sL y)):gH (n+2) X (.aE (aI V.int a)) (.aE (aI V.int b))=some true:=by
 have h':∀y:Str,a.lookup y=b.lookup y:=λy=>h y.cps.toList
 refine tT ?_ λp hp=>?_
 ·rw[bz,bz,<-ph (f:=(·.1)) (as:=a),<-ph (f:=(·.1)) (as:=b)];exact(jU ha hb λy=>Decidable.not_iff_not.mp ((dQ a y).symm.trans (h' y▸dQ b y))).length_eq
 ·obtain⟨q,hq,rfl⟩:=xt.mp hp;refine⟨.int q.2,?_,by show some (q.2==q.2)=_;rw[beq_self_eq_true]⟩;show(aI V.int b).lookup q.1=_;rw[jG,<-h',b8 ha hq];rfl
end
section
variable{X:AH}{n i:Nat}{pl:List (List Nat)}{c5 co steps:List az}{E:DD}{w:List Nat}
theorem Ed(pl:List (List Nat))(E:DD):(pl.foldl (λE w=>aH E (sL w) (g_ i c5 co steps w)) E).lookup (sL w)=if w∈pl then some (g_ i c5 co steps w) else E.lookup (sL w):=by
 induction pl generalizing E with
 |nil=>rfl|cons x r ih=>
  simp only[Jn,ih,cN];by_cases e:w=x
  ·subst e;rw[if_pos (beq_self_eq_true _),if_pos (wx ..),ite_self]
  ·rw[if_neg λq=>e (bM (eq_of_beq q))];by_cases m:w∈r
   ·rw[if_pos m,if_pos (.tail _ m)]
   ·rw[if_neg m,if_neg λq=>(bx q).elim e m]
theorem mH{α:Type}[BEq α][LawfulBEq α]:∀(A B:List α),A.Nodup->(∀x∈A,x∈B)->B.length<=A.length->A.Perm B
|[],B,aR,bV,h=>by rw[List.eq_nil_of_length_eq_zero (Nat.le_zero.mp h)]|a::r,B,hn,hs,h=>by
 refine(nA hn).elim λn1 n2=>?_
 obtain ha:=hs a (.head _);obtain p:=List.perm_cons_erase ha;obtain l:=p.length_eq;refine(List.Perm.cons a (mH r (B.erase a) n2 (λx hx=>?_) (aW (nat_lit 0x21011928001191803102) ae l h))).trans p.symm;exact(List.mem_erase_of_ne λe:x=a=>n1 (e▸hx)).mpr (hs x (.tail _ hx))
theorem zg(hp:pl.Nodup)(hl:E.length<=pl.length)(h:∀w∈pl,∃m,E.lookup (sL w)=some m):(E.map (·.1)).Nodup/\∀x,x∈E.map (·.1)↔x∈pl.map sL:=by
 obtain sub:∀x∈pl.map sL,x∈E.map (·.1):=λx hx=>by
  refine(xt.mp hx).elim λw z=>z.elim λhw e=>?_
  refine(h w hw).elim λm hm=>?_
  refine xf λq=>?_
  obtain this:=(dQ E (sL w)).mpr (e▸q);obtain hm:=this▸hm;exact nE hm
 obtain nd:(pl.map sL).Nodup:=List.Pairwise.map sL (λa b h e=>h (bM e)) hp;have pm:=mH _ _ nd sub (by simp only[ph,ph];exact hl)
 exact⟨pm.nodup_iff.mp nd,λx=>pm.symm.mem_iff⟩
end
section
variable{X:AH}{n i k:Nat}{pl:List (List Nat)}{c5 co steps wt q T:List az}{E:DD}{D:DD×DD}{w:List Nat}
theorem vV(h:w∈pl):(lQ i pl c5 co steps).lookup (sL w)=some (g_ i c5 co steps w):=(Ed pl []).trans (if_pos h)
theorem Ef(pl:List (List Nat)):∀E:DD,(pl.foldl (λE w=>aH E (sL w) (g_ i c5 co steps w)) E).length<=E.length+pl.length:=by
 induction pl with |nil=>intro E;exact pd _|cons x r ih=>intro E;obtain h1:=ih (aH E (sL x) (g_ i c5 co steps x));obtain h2:=bP E (sL x) (g_ i c5 co steps x);exact e9 (nat_lit 0x193818201191800130820102) ae h1 h2
theorem HM:(lQ i pl c5 co steps).length<=pl.length:=by obtain this:=Ef pl [];simp only[tm,FR] at this;exact this
theorem vW(hp:pl.Nodup)(hl:E.length<=pl.length)(h:∀w∈pl,∃m,E.lookup (sL w)=some m)(hn:∀w,(((E.lookup (sL w)).getD []).map (·.1)).Nodup)
  (he:∀w x,((E.lookup (sL w)).getD []).lookup (sL x)=(g_ i c5 co steps w).lookup (sL x)):gH (n+3) X (.aE (br E)) (.aE (br (lQ i pl c5 co steps)))=some true:=by
 refine(zg hp hl h).elim λk1 k2=>?_
 obtain⟨b1,b2⟩:=zg hp HM λw hw=>⟨_,vV hw⟩
 obtain ln:E.length=(lQ i pl c5 co steps).length:=by obtain this:=(jU k1 b1 λx=>(k2 x).trans (b2 x).symm).length_eq;simp only[ph,ph] at this;exact this
 refine tT (by unfold br;simp only[bz,bz,ln]) λp hp=>?_
 unfold br aI at hp;obtain⟨r,hr,e⟩:=xt.mp hp;subst e;refine(xt.mp ((k2 r.1).mp (xt.mpr ⟨r,hr,rfl⟩))).elim λw QG=>?_;obtain hw:=QG.1;obtain ew:=QG.2
 obtain lr:=b8 k1 hr;obtain lr:=(ew).symm▸lr;refine⟨.aE (aI V.int (g_ i c5 co steps w)),?_,vU ?_ (Lf c5 [] Iy) λy=>?_⟩
 ·skip
  unfold br;rw[jG,<-ew,vV hw];rfl
 ·obtain this:=hn w;obtain this:=lr▸this;exact this
 ·obtain this:=he w y;obtain this:=lr▸this;exact this
theorem Eg(hp:pl.Nodup)(h4:pl.length=4)(J:DO pl steps k wt [] q T D)(ha:∀c,c∈c5↔c∈steps)(Fy:∀c,c∈wt↔c∈co):
  bG X .NotEq (.lst [.aE (br D.1),.aE (br D.2)]) (.lst [.aE (br (lQ 1 pl c5 co steps)),.aE (br (lQ 0 pl c5 co steps))])=some (.bool false):=by
 obtain v1:=vW hp (h4▸J.dk.li) (λw hw=>(J.dk.i w hw).elim λm h=>⟨m,h.1⟩) J.td.i.nd λw x=>Ec J.td J.sp ha Fy
 obtain v2:=vW hp (h4▸J.dk.lo) (λw hw=>(J.dk.o w hw).elim λm h=>⟨m,h.1⟩) J.td.o.nd λw x=>Lg J.td J.sp ha Fy
 exact eE (congrArg (λx=>alt x none) (vc v1 (vc v2 rfl)))
end
section
variable{H X:AH}
def jq(a b:az):Bool:=bif sL a.1==sL b.1 then bif sL a.2==sL b.2 then false else strLt (sL a.2) (sL b.2) else strLt (sL a.1) (sL b.1)
theorem pK{a b:az}:jq a b=true↔strLt (sL a.1) (sL b.1)=true\/(a.1=b.1/\strLt (sL a.2) (sL b.2)=true):=by
 unfold jq;by_cases h:sL a.1=sL b.1
 ·obtain h':=bM h;rw[beq_iff_eq.mpr h];by_cases k:sL a.2=sL b.2
  ·rw[beq_iff_eq.mpr k,h',k,e8,e8];simp
  ·rw[beq_eq_false_iff_ne.mpr k,h',e8];simp
 ·rw[beq_eq_false_iff_ne.mpr h];exact⟨.inl,λq=>q.elim id λq=>absurd (congrArg sL q.1) h⟩
theorem vX(a:az):jq a a=false:=by unfold jq;rw[beq_self_eq_true,beq_self_eq_true];rfl
theorem tU(a b c:az)(h:jq a b=true)(k:jq b c=true):jq a c=true:=by
 simp only[pK] at *;rcases h with h|⟨h1,h2⟩<;>rcases k with k|⟨k1,k2⟩
 ·exact .inl (kJ _ _ _ h k)
 ·exact .inl (k1▸h)
 ·exact .inl (h1▸k)
 ·exact .inr ⟨h1.trans k1,kJ _ _ _ h2 k2⟩
theorem vY{a b:az}(h:jq a b=false)(k:jq b a=false):a=b:=by
 have h:=λq=>H5.mp h (pK.mpr q)
 have k:=λq=>H5.mp k (pK.mpr q)
 have e1:=bM (lK _ _ (H5.mpr λq=>h (.inl q)) (H5.mpr λq=>k (.inl q)));exact aaC e1 (bM (lK _ _ (H5.mpr λq=>h (.inr ⟨e1,q⟩)) (H5.mpr λq=>k (.inr ⟨e1.symm,q⟩))))
theorem HN(a b c:az)(h:jq a b=false)(k:jq b c=false):jq a c=false:=by
 refine H5.mpr λq=>?_
 induction e:jq b a with |true=>exact H5.mp k (tU _ _ _ e q)|false=>obtain q:=(vY h e)▸q;exact H5.mp k q
theorem rV(l:List az)(hn:l.Nodup)(hl:l.length<64):∃bs:List az,bO (l.map aA) (l.map aA)=some (aZ bs)/\bs.Perm l/\bs.Pairwise (λa b=>jq a b=true):=by
 obtain⟨bs,h1,h2,h3⟩:=o8 l aA id aA jq (λa c b c=>rfl) vX tU HN (by
  have :(l.map λa=>aA (id a)).all ER=true:=by refine List.all_map.trans ?_;exact SU.mpr λc c=>rfl
  unfold sortable;refine this.symm▸?_;simp) hl
 refine⟨bs,h1,h2,(h3 (·≠·) hn).imp λ{a b} h=>?_⟩;rcases h with h|⟨h4,h5⟩
 ·exact h
 ·induction e:jq a b with |true=>exact e.symm▸rfl|false=>exact absurd (vY e h4) h5
theorem AS{l m:List az}(hn:l.Nodup)(hl:l.length<64)(hp:l.Perm m):∃bs,fN [aZ l] X=some (aZ bs,X)/\fN [aZ m] X=some (aZ bs,X):=by
 refine(rV l hn hl).elim λb1 z=>z.elim λe1 z=>z.elim λp1 s1=>?_
 refine(rV m (hp.nodup_iff.mp hn) (hp.length_eq▸hl)).elim λb2 NB=>?_;obtain e2:=NB.1;obtain p2:=NB.2.1;obtain s2:=NB.2.2
 obtain e:=List.Perm.eq_of_pairwise (λa b c c h k=>absurd (tU _ _ _ h k) (by rw[vX];exact wy)) s1 s2 (p1.trans (hp.trans p2.symm));subst e;refine⟨b1,?_,?_⟩
 ·refine(?_:(opt (bO (l.map aA) (l.map aA)):M V) X=_);rw[e1];rfl
 ·refine(?_:(opt (bO (m.map aA) (m.map aA)):M V) X=_);rw[e2];rfl
end
section
variable{d:Nat}{a:Lx}{B t X X' r:AH}{av:Int}{cs:List Int}{o k:Nat}{nm:List (List Nat)}{D:cI}{rk:List (List Nat)}{line:List az}{mk:Int}{E:DD×DD}{q:List az}
abbrev W7:List Str:=[T "cells",T "plain",T "lexer",T "names",T "price",T "steps",T "arcs",T "keys",T "line",T "ranks",T "worth",T "must"]
abbrev EI(line:List az)(mk:Int):List az:=vR line (mG mk (eF line))
abbrev Lh(line:List az)(mk:Int):List az:=I2 (EI line mk)
abbrev LS(cs:List Int)(o k:Nat)(nm:List (List Nat))(D:cI)(line:List az)(rk:List (List Nat))(E:DD):af:=Hl cs o k nm D line rk++[(T "into",.aE (br E))]
theorem Li(hm:(eF line).length<=10)(hl:line.length<=10)(hf:(EI line mk).length<=10)(ha:(mW nm).length<=10)
  (hs:aC (d+8) (.fn 226) [.ref k,cS (bU o),cS nm,aZ (mG mk (eF line)),aZ (EI line mk)] X (.tup [.aE (br E.1),.aE (br E.2),aZ q]) X')
  (hw:bG X' .NotEq (.lst [.aE (br E.1),.aE (br E.2)]) (.lst [.aE (br (lQ 1 (bU o) (mW nm) (Lh line mk) (cD nm))),.aE (br (lQ 0 (bU o) (mW nm) (Lh line mk) (cD nm)))])=some (.bool false))
  {bs:List az}(s1:fN [aZ q] X'=some (aZ bs,X'))(s2:fN [aZ (Lh line mk)] X'=some (aZ bs,X')):
  Turn (d+8) mh (cW (lS 21)) (b_ (lS 21)) (.int mk) (Hl cs o k nm D line rk) X .next (Hl cs o k nm D line rk) X'/\Turn (d+8) mh (cW (lS 21)) (b_ (lS 21)) (.int mk) (Hl cs o k nm D line rk) X .next (LS cs o k nm D line rk E.1) X':=by
 obtain c0:=Vt (d:=d+7) (X:=X) (mk:=mk) hm;obtain c1:=Vu (d:=d+7) (X:=X) (ct:=mG mk (eF line)) hl;obtain c2:=Vv (d:=d) (X:=X) hf;obtain c4:=Ld (d:=d+7) (X:=X') (co:=Lh line mk) (steps:=cD nm) ha (show(bU o).length<=4 from pd 4);obtain n2:bG X' .NotEq (aZ bs) (aZ bs)=some (.bool false):=eE (rJ bs);exact⟨au W7 (.cmp c0 (.cmp c1 (.cmp c2 (.call hs (.cmp c4 (.val 13 hw (.upd 17 s1 (.upd 20 s2 (.val 21 n2 .nil))))))))),au (W7++[T "into"]) (.cmp c0 (.cmp c1 (.cmp c2 (.call hs (.cmp c4 (.val 13 hw (.upd 17 s1 (.upd 20 s2 (.val 21 n2 .nil)))))))))⟩
end
section
variable{d:Nat}{a:Lx}{B t X X' r:AH}{av:Int}{cs:List Int}{o k:Nat}{nm:List (List Nat)}{D:cI}{rk:List (List Nat)}{line:List az}{mk:Int}{E:DD×DD}{q:List az}
theorem zh(hn:∀w∈nm,w∈bU o)(h0:nm≠[])(hp:line.Perm (mW nm)):pH (bU o) line:=λa ha=>gY hn h0 (d8.mp (hp.mem_iff.mp ha))
abbrev Z5(d:Nat)(a:Lx)(B:AH)(av:Int)(cs:List Int)(o:Nat)(nm:List (List Nat))(D:cI)(line:List az)(rk:List (List Nat))(mk:Int):Prop:=∃(E:DD×DD) (q wt T:List az) (k':Nat) (r:AH),(Turn (d+8) mh (cW (lS 21)) (b_ (lS 21)) (.int mk) (Hl cs o a.k nm D line rk) (a.bh B av [] []) .next (Hl cs o a.k nm D line rk) (a.bh B av [] r)/\Turn (d+8) mh (cW (lS 21)) (b_ (lS 21)) (.int mk) (Hl cs o a.k nm D line rk) (a.bh B av [] []) .next (LS cs o a.k nm D line rk E.1) (a.bh B av [] r))/\Peel (EI line mk) wt/\DO (bU o) (cD nm) k' wt [] q T E
theorem Eh(h:a.Ok B)(hn:∀w∈nm,w∈bU o)(h0:nm≠[])(hz:nm.length<=10)(hp:line.Perm (mW nm))(mk:Int):Z5 d a B av cs o nm D line rk mk:=by
 obtain la:=nh (nm:=nm);obtain ll:=hp.length_eq;obtain Vx:=zh hn h0 hp;obtain nl:=hp.nodup_iff.mpr tL;obtain nf:(EI line mk).Nodup:=nl.sublist List.filter_sublist;obtain fl:(EI line mk).length<=line.length:=D1 ..;obtain fi:pH (bU o) (EI line mk):=λc hc=>Vx c (wi.mp hc).1
 obtain sl:∀s,s∈line↔s∈cD nm:=λs=>hp.mem_iff.trans d8
 obtain ml:(eF line).length<=line.length:=by unfold eF;rw[ph];exact vb (D1 ..) (Fu (Tx ..))
 obtain⟨wt,q,T,E,r,hs,pe,k',J⟩:=AL (pl:=bU o) h (pd 4) h0 hz hn tQ
  (λw=>by rw[tQ];exact DT h0 w) (by rw[f7];exact aS (nat_lit 0x3e83f011a900101) ae hz) (λs hs=>gY hn h0 hs) nf (e9 (nat_lit 0x10e001a930132012121100104) ae fl ll la hz) (λc hc=>(sl c).mp (wi.mp hc).1) (D_ λs hs=>(sl s).mpr hs)
 obtain⟨e,pm⟩:=AQ (pl:=bU o) (pd 4) fi nf pe J;obtain pm:q.Perm (Lh line mk):=pm;obtain qn:=pm.nodup_iff.mpr (nf.sublist List.filter_sublist);obtain ql:q.length<64:=by obtain h1:=pm.length_eq;obtain h2:(Lh line mk).length<=(EI line mk).length:=D1 ..;exact Ln.go (nat_lit 0x40e211a95015401432131011001022106) [_,_,_,_,_,_] ae h1 h2 fl ll la hz
 obtain⟨bs,s1,s2⟩:=AS qn ql pm;obtain hw:=Eg (X:=a.bh B av [] r) (co:=Lh line mk) (Df o) rfl J (λc=>d8) (λc=>by rw[e];exact Iff.rfl);exact⟨E,q,wt,T,k',r,Li (e9 (nat_lit 0xa9001a930132012121100104) ae ml ll la hz) (aW (nat_lit 0xa9001a92012101102103) ae ll la hz) (e9 (nat_lit 0xa9001a930132012121100104) ae fl ll la hz) (aL (nat_lit 0xa9001a9101100102) ae la hz) hs hw s1 s2,pe,J⟩
abbrev Z6(d:Nat)(a:Lx)(B:AH)(av:Int)(cs:List Int)(o:Nat)(nm:List (List Nat))(D:cI)(line:List az)(rk:List (List Nat)):Prop:=∃(E:DD×DD) (q T:List az) (k':Nat) (Y:AH),LX d 21 (Hl cs o a.k nm D line rk) (a.bh B av [] []) .next (LS cs o a.k nm D line rk E.1) (a.bh (B++Y) av [] [])/\DO (bU o) (cD nm) k' [] [] q T E
theorem P6(dh:cs.length=6)(h:a.Ok B)(hn:∀w∈nm,w∈bU o)(h0:nm≠[])(hz:nm.length<=10)(hp:line.Perm (mW nm)):Z6 d a B av cs o nm D line rk:=by
 refine(f6 dh 5 (by decide) (a.bh B av [] [])).elim λc z=>z.elim λb hc=>?_
 obtain⟨E1,q1,wt1,T1,k1,r1,t1,_,_⟩:=Eh h hn h0 hz hp c;obtain⟨E2,q2,wt2,T2,k2,r2,t2,pe,J⟩:=Eh (d:=d) (cs:=cs) (D:=D) (rk:=rk) (h.rows r1) hn h0 hz hp 0;obtain e:EI line 0=line.filter λc=>!decide (c∈eF line):=by show vR line (mG 0 (eF line))=_;rw[P4];rfl
 obtain nl:=hp.nodup_iff.mpr tL;obtain li:=zh hn h0 hp;obtain w:=AR (pl:=bU o) (pd 4) (λc hc=>li c (wi.mp hc).1:pH (bU o) (EI line 0)) (nl.sublist List.filter_sublist) (e▸D9 (pl:=bU o) (pd 4) li) pe J;subst w;obtain x1:a.bh (B++r1) av [] []=a.bh B av [] r1:=by show a.hp (B++r1++[]) av [] []=_;rw[rn]
 obtain x2:a.bh (B++r1) av [] r2=a.bh (B++(r1++r2)) av [] []:=by show a.hp (B++r1++r2) av [] []=a.hp (B++(r1++r2)++[]) av [] [];rw[rn,ta]
 obtain W8:=t2.2;rw[x1,x2] at W8;obtain lp:=t1.1.next (.inl rfl) (W8.next (.inl rfl) .nil);exact⟨E2,q2,T2,k2,r1++r2,bL (.val 1 hc (.loop lp .nil)),J⟩
end
section
variable{d:Nat}{X H:AH}{cs:List Int}{o k:Nat}{nm:List (List Nat)}{D:cI}{rk:List (List Nat)}{line steps:List az}{E:DD}{w:List Nat}
noncomputable def dB(steps:List az)(w:List Nat):List (List Nat):=(steps.filter λs=>decide (s.2=w)).map (·.1)
noncomputable def qb(nm:List (List Nat)):List (List Nat):=nm.foldl (λK w=>if w∈K then K else K++[w]) []
def jX{β:Type}(f:List Nat->β)(K:List (List Nat)):List (Str×β):=K.map λw=>(sL w,f w)
theorem Lj{β:Type}(f:List Nat->β)(K:List (List Nat))(w:List Nat):aH (jX f K) (sL w) (f w)=jX f (if w∈K then K else K++[w]):=by
 by_cases h:w∈K
 ·rw[if_pos h];induction K with
  |nil=>exact nomatch h|cons x r ih=>
   refine(?_:(bif sL w==sL x then(sL x,f w)::jX f r else(sL x,f x)::aH (jX f r) (sL w) (f w))=(sL x,f x)::jX f r);by_cases e:w=x
   ·subst e;rw[beq_self_eq_true];rfl
   ·simp only[beq_false_of_ne λq:sL w=sL x=>e (bM q),ih ((bx h).resolve_left e)];rfl
 ·rw[if_neg h,EU]
  ·unfold jX;simp only[vk];rfl
  ·intro q;obtain⟨p,hp,e⟩:=xt.mp q;obtain⟨v,hv,rfl⟩:=xt.mp hp;exact h (bM e▸hv)
theorem tV{β:Type}(f:List Nat->β)(nm:List (List Nat)):∀K:List (List Nat),nm.foldl (λD w=>aH D (sL w) (f w)) (jX f K)=jX f (nm.foldl (λK w=>if w∈K then K else K++[w]) K):=by
 induction nm with |nil=>intro K;rfl|cons x r ih=>intro K;simp only[Jn,Jn,Lj,ih]
theorem tW{β:Type}(f:List Nat->β)(K:List (List Nat))(w:List Nat):(jX f K).lookup (sL w)=if w∈K then some (f w) else none:=by
 induction K with
 |nil=>rfl|cons x r ih=>
  refine(?_:((sL x,f x)::jX f r).lookup (sL w)=_);simp only[sT];by_cases e:w=x
  ·subst e;rw[beq_self_eq_true,if_pos (.head _)]
  ·refine(beq_false_of_ne λq:sL w=sL x=>e (bM q))▸?_;refine ih.trans ?_;by_cases m:w∈r
   ·rw[if_pos m,if_pos (.tail _ m)]
   ·rw[if_neg m,if_neg λq=>(bx q).elim e m]
theorem Ei(nm:List (List Nat)):∀K:List (List Nat),K.Nodup->(nm.foldl (λK w=>if w∈K then K else K++[w]) K).Nodup/\∀w,w∈nm.foldl (λK w=>if w∈K then K else K++[w]) K↔w∈K\/w∈nm:=by
 induction nm with
 |nil=>intro K h;exact⟨h,λw=>⟨.inl,λq=>q.elim id λq=>nomatch q⟩⟩|cons x r ih=>
  intro K h;simp only[Jn];by_cases m:x∈K
  ·rw[if_pos m];refine(ih K h).elim λh1 h2=>?_
   exact⟨h1,λw=>(h2 w).trans ⟨λq=>q.imp id (.tail _),λq=>q.elim .inl λq=>(bx q).elim (λe=>.inl (e▸m)) .inr⟩⟩
  ·rw[if_neg m];refine(ih (K++[x]) (List.nodup_append.mpr ⟨h,Hk.mpr ⟨Oy,Iy⟩,λa ha b hb e=>m ((vu.mp hb)▸e▸ha)⟩)).elim λh1 h2=>?_
   refine⟨h1,λw=>(h2 w).trans ?_⟩;rw[Fm,vu,y3,or_assoc]
theorem gr:w∈qb nm↔w∈nm:=((Ei nm [] Iy).2 w).trans ⟨λq=>q.elim (λq=>nomatch q) id,.inr⟩
theorem Ej:(qb nm).Nodup:=(Ei nm [] Iy).1
theorem Lk{pl:List (List Nat)}(h:∀w∈nm,w∈pl):(qb nm).length<=pl.length:=Ej.length_le_of_subset λw hw=>h w (gr.mp hw)
theorem Ll:(dB steps w).length<=steps.length:=by unfold dB;rw[ph];exact D1 ..
abbrev W9(nm:List (List Nat)):V:=.aE (aI cS (jX (dB (cD nm)) (qb nm)))
abbrev Vy(cs:List Int)(o:Nat)(nm:List (List Nat))(D:cI)(rk:List (List Nat))(E:DD):af:=[(T "cells",vE cs),(T "plain",cS (bU o)),(T "price",wq cs o),(T "steps",aZ (cD nm)),(T "keys",qa D),(T "ranks",cS rk),(T "into",.aE (br E)),(T "come",W9 nm)]
abbrev Z7:Expr:=I4 (cX (lS 22))
theorem P7(hz:steps.length<=10):bZ (d+1) Z7 (steps.map aA) [(T "name",ao w)] (.l []) H (.l ((dB steps w).map ao)) H:=by
 unfold dB;simp only[tx];exact aK.pick aA (λs=>ao s.1) (λs=>decide (s.2=w)) steps [] (by rw[tm];unfold ai;omega) λs a vs hv=>by
  obtain e:=kN (X:=H) s.2 w;induction hb:decide (s.2=w) with |false=>rw[hb] at e;exact aM [T "name"] (.val 2 e .nil)|true=>rw[hb] at e;exact aM [T "name"] (.val 2 e (.no 5 (aP hv) .nil))
theorem P8(hz:nm.length<=10):LX d 22 (LS cs o k nm D line rk E) X .next (Vy cs o nm D rk E) X:=by
 obtain sl:(cD nm).length<=10:=by rw[f7];exact hz
 obtain lp:bZ (d+8) (cX (lS 22)) (nm.map ao) [(T "steps",aZ (cD nm))] (.d []) X (.d (aI cS (nm.foldl (λD w=>aH D (sL w) (dB (cD nm) w)) []))) X:=
  aK.fold ao (λs=>.d (aI cS s)) (λa=>X) (λD w=>aH D (sL w) (dB (cD nm) w)) (λxs s=>s.length+xs.length<100)
   (λw xs s h=>by have :=bP s (sL w) (dB (cD nm) w);exact aW (nat_lit 0x64e2081164e19281811191800102) ae this h)
   (λw xs s h=>by have c:=P7 (d:=d+7) (H:=X) (w:=w) sl;rw[<-gK];exact aM [T "steps"] (.cmp c (.no 2 (aP (show(aI cS s).length+1<ai by rw[bz];exact aL (nat_lit 0x1000006f19081164e1081101) ae h)) .nil))) nm [] (by exact aS (nat_lit 0x64e009811a900101) ae hz)
 have f:=tV (dB (cD nm)) nm [];rw[show jX (dB (cD nm)) []=[] from rfl] at f;rw[f] at lp;have q:LX d 22 (LS cs o k nm D line rk E) X .next (LS cs o k nm D line rk E++[(T "come",W9 nm)]) X:=bL (.cmp lp .nil)
 exact q.keep (ks:=[T "cells",T "plain",T "price",T "steps",T "keys",T "ranks",T "into",T "come"]) (by kernel_rfl)
end
section
variable{d:Nat}{X H:AH}{cs:List Int}{o k:Nat}{nm:List (List Nat)}{D:cI}{rk:List (List Nat)}{steps:List az}{E:DD}{w x:List Nat}{l:List (List Nat)}
theorem zj(x y:List Nat):bG X .NotEq (ao x) (ao y)=some (.bool !decide (x=y)):=by
 obtain h:=kN (X:=X) x y;obtain h:(gH bj X (ao x) (ao y)).map V.bool=some (.bool (decide (x=y))):=h;refine(Option.map_eq_some_iff.mp h).elim λb z=>z.elim λh1 h2=>?_
 refine(?_:(gH bj X (ao x) (ao y)).map (λr=>V.bool !r)=_);rw[h1,<-V.bool.inj h2];rfl
theorem p4{P:Int->Prop}(a:P (-1))(b:P 0)(c:P 1)(f:P 2){p:Int}(h:-1<=p/\p<=2):P p:=by
 obtain e|e|e|e:p=-1\/p=0\/p=1\/p=2:=by omega
 all_goals (rw[e];assumption)
theorem P9{p:Int}(h:-1<=p/\p<=2):binop .Pow (.int p) (.int 2)=some (.int (p* p)):=p4 (P:=λp=>binop .Pow (.int p) (.int 2)=some (.int (p* p))) (by kernel_rfl) (by kernel_rfl) (by kernel_rfl) (by kernel_rfl) h
theorem xU(x:List Nat)(l:List (List Nat)):eS (ao x) (l.map ao)=some (l.count x):=by unfold eS;simp only[show l.map ao=(l.map sL).map .str by rw[tx];rfl,show ao x=.str (sL x) from rfl,gW];refine congrArg some ?_;refine(?_:(List.map (·==sL x) (l.map sL)).countP id=_);simp only[TO,TO,List.count_eq_countP];exact Qb λy a=>⟨λh=>beq_iff_eq.mpr (bM (eq_of_beq h)),λh=>beq_iff_eq.mpr (congrArg sL (eq_of_beq h))⟩
def pL(cs:List Int)(o:Nat)(l:List (List Nat))(w:List Nat):St:=⟨((l.filter λx=>!decide (x=w)).length:Nat),(l.length:Nat),(l.map λx=>kR cs o x w).sum,(l.map λx=>kR cs o x w* kR cs o x w).sum,jX (λx=>(l.count x:Int)) (qb l)⟩
abbrev AU:Expr:=cX (lS 23)
abbrev Vz(i:Nat):Expr:=my (p9 (I4 AU) i) 0
theorem VA(hz:l.length<=10):bZ (d+1) (Vz 0) (l.map ao) [(T "name",ao w)] (.l []) H (.l ((l.filter λx=>!decide (x=w)).map ao)) H:=
 aK.pick ao ao (λx=>!decide (x=w)) l [] (by rw[tm];unfold ai;omega) λx a vs hv=>by
  have e:=zj (X:=H) x w;induction hb:!decide (x=w) with |false=>rw[hb] at e;exact aM [T "name"] (.val 2 e .nil)|true=>rw[hb] at e;exact aM [T "name"] (.val 2 e (.no 5 (aP hv) .nil))
theorem VB(dh:cs.length=6)(hz:l.length<=10)(hl:∀x∈l,x∈bU o)(hw:w∈bU o):bZ (d+8) (Vz 2) (l.map ao) [(T "name",ao w),(T "price",wq cs o)] (.l []) H (.l ((l.map λx=>kR cs o x w).map .int)) H:=by simp only[tx];exact aK.all ao _ l (aS (nat_lit 0x1000006f011a900101) ae hz) λx hx vs hv=>by obtain q:=iV (d:=d+6) (H:=H) dh (hl x hx) hw;exact aM [T "name",T "price"] (.call q (.no 3 (aP hv) .nil))
theorem VC(dh:cs.length=6)(hz:l.length<=10)(hl:∀x∈l,x∈bU o)(hw:w∈bU o):bZ (d+8) (Vz 3) (l.map ao) [(T "name",ao w),(T "price",wq cs o)] (.l []) H (.l ((l.map λx=>kR cs o x w* kR cs o x w).map .int)) H:=by simp only[tx];exact aK.all ao _ l (aS (nat_lit 0x1000006f011a900101) ae hz) λx hx vs hv=>by obtain q:=iV (d:=d+6) (H:=H) dh (hl x hx) hw;obtain s:=P9 (lN cs o x w);exact aM [T "name",T "price"] (.call q (.val 3 s (.no 4 (aP hv) .nil)))
theorem zl{K:List (List Nat)}(h:w∈K):item X (.aE (aI cS (jX (dB steps) K))) (ao w)=some (cS (dB steps w)):=by refine(?_:(aI cS (jX (dB steps) K)).lookup (sL w)=_);rw[jG,tW,if_pos h];rfl
theorem VD(hz:(dB steps w).length<=10){K:List (List Nat)}(hw:w∈K):bZ (d+1) (p9 (I4 AU) 4) ((dB steps w).map ao) [(T "come",.aE (aI cS (jX (dB steps) K))),(T "name",ao w)] (.d []) H (.d (aI V.int (jX (λx=>((dB steps w).count x:Int)) (qb (dB steps w))))) H:=by
 obtain lp:=aK.fold (g:=GC (p9 (I4 AU) 4)) (T:=bT (d+1) (jW (p9 (I4 AU) 4)) (vd (p9 (I4 AU) 4)) (iS (p9 (I4 AU) 4)).tail) (env:=[(T "come",.aE (aI cS (jX (dB steps) K))),(T "name",ao w)]) ao (λs=>.d (aI V.int s)) (λa=>H) (λD x=>aH D (sL x) ((dB steps w).count x:Int)) (λxs s=>s.length+xs.length<100)
  (λx xs s h=>by obtain this:=bP s (sL x) ((dB steps w).count x:Int);exact aW (nat_lit 0x64e2081164e19281811191800102) ae this h)
  (λx xs s h=>by obtain it:=zl (X:=H) (steps:=steps) hw;obtain cn:=tF (X:=H) (xU x (dB steps w));rw[<-gK];exact aM [T "come",T "name"] (.val 3 it (.upd 5 cn (.no 6 (aP (show(aI V.int s).length+1<ai by rw[bz];exact aL (nat_lit 0x1000006f19081164e1081101) ae h)) .nil)))) (dB steps w) [] (aS (nat_lit 0x64e009811a900101) ae hz)
 obtain f:=tV (λx=>((dB steps w).count x:Int)) (dB steps w) [];rw[show jX (λx=>((dB steps w).count x:Int)) []=[] from rfl] at f;simp only[f] at lp;exact lp
end
section
variable{d:Nat}{X H:AH}{cs:List Int}{o k:Nat}{nm:List (List Nat)}{D:cI}{rk:List (List Nat)}{steps:List az}{E:DD}{w x:List Nat}{l K:List (List Nat)}
abbrev Rj(K:List (Str×St)):V:=.aE (aI St.enc K)
abbrev VE(cs:List Int)(o:Nat)(steps:List az)(K:List (List Nat)):af:=[(T "come",.aE (aI cS (jX (dB steps) K))),(T "price",wq cs o)]
theorem HO(dh:cs.length=6)(hz:steps.length<=10)(hp:∀s∈steps,s.1∈bU o/\s.2∈bU o)(hw:w∈K)(W_:w∈bU o)(s:List (Str×St))(hs:s.length<100):
  GD (d+8) AU (ao w) (VE cs o steps K) (.d (aI St.enc s)) H (.d (aI St.enc (aH s (sL w) (pL cs o (dB steps w) w)))) H:=by
 obtain cl:(dB steps w).length<=10:=vb Ll hz;obtain cp:∀x∈dB steps w,x∈bU o:=λx hx=>by obtain⟨s,h1,rfl⟩:=AY hx;exact(hp s (wi.mp h1).1).1
 obtain it:=zl (X:=H) (steps:=steps) hw;obtain c0:=VA (d:=d+7) (H:=H) (w:=w) cl;obtain c2:=VB (d:=d) (H:=H) dh cl cp W_;obtain c3:=VC (d:=d) (H:=H) dh cl cp W_;obtain c4:=VD (d:=d+7) (H:=H) cl hw;obtain s2:=IU (X:=H) ((dB steps w).map λx=>kR cs o x w);obtain s3:=IU (X:=H) ((dB steps w).map λx=>kR cs o x w* kR cs o x w);obtain e:(pL cs o (dB steps w) w).enc=.tup [.int ((((dB steps w).filter λx=>!decide (x=w)).map ao).length:Nat),.int (((dB steps w).map ao).length:Nat),.int ((dB steps w).map λx=>kR cs o x w).sum,.int ((dB steps w).map λx=>kR cs o x w* kR cs o x w).sum,.aE (aI V.int (jX (λx=>((dB steps w).count x:Int)) (qb (dB steps w))))]:=by simp only[ph,ph];rfl
 rw[<-gK,e];exact aM [T "come",T "price"] (.val 4 it (.cmp c0 (.val 9 it (.val 14 it (.cmp c2 (.upd 15 s2 (.val 19 it (.cmp c3 (.upd 20 s3 (.val 23 it (.cmp c4 (.no 24 (aP (show(aI St.enc s).length+1<ai by rw[bz];exact aS (nat_lit 0x1000006f19081164e01101) ae hs)) .nil))))))))))))
end
section
variable{d:Nat}{X H:AH}{cs:List Int}{o k:Nat}{nm:List (List Nat)}{D:cI}{rk:List (List Nat)}{steps:List az}{E:DD}{w x:List Nat}{l K:List (List Nat)}
abbrev Rl(cs:List Int)(o:Nat)(nm:List (List Nat)):List (Str×St):=jX (λw=>pL cs o (dB (cD nm) w) w) (qb (qb nm))
abbrev VF(cs:List Int)(o:Nat)(nm:List (List Nat))(D:cI)(rk:List (List Nat))(E:DD):af:=Vy cs o nm D rk E++[(T "due",Rj (Rl cs o nm))]
theorem P_(dh:cs.length=6)(hn:∀w∈nm,w∈bU o)(h0:nm≠[])(hz:nm.length<=10):LX d 23 (Vy cs o nm D rk E) X .next (VF cs o nm D rk E) X:=by
 have sl:(cD nm).length<=10:=by rw[f7];exact hz
 have kl:(qb nm).length<=4:=Lk hn;have lp:bZ (d+8) AU ((aI cS (jX (dB (cD nm)) (qb nm))).map λkv=>.str kv.1) (VE cs o (cD nm) (qb nm)) (.d []) X (.d (aI St.enc ((qb nm).foldl (λD w=>aH D (sL w) (pL cs o (dB (cD nm) w) w)) []))) X:=by
  have e:((aI cS (jX (dB (cD nm)) (qb nm))).map λkv=>V.str kv.1)=(qb nm).attach.map λw=>ao w.1:=by unfold aI jX;rw[tx,tx,List.attach_map_val (f:=ao)];rfl
  rw[e]
  have q:=aK.fold (d:=d+8) (aB:=jW AU) (g:=GC AU) (T:=bT (d+8) (jW AU) (vd AU) (iS AU).tail) (env:=VE cs o (cD nm) (qb nm)) (σ:=List (Str×St)) (λw:{w//w∈qb nm}=>ao w.1) (λs=>.d (aI St.enc s)) (λa=>X) (λD w=>aH D (sL w.1) (pL cs o (dB (cD nm) w.1) w.1)) (λxs s=>s.length+xs.length<90)
   (λw xs s h=>by have :=bP s (sL w.1) (pL cs o (dB (cD nm) w.1) w.1);rw[pE] at h;exact aW (nat_lit 0x5ae208115ae19281811191800102) ae this h)
   (λw xs s h=>HO (d:=d) dh sl (λs hs=>gY hn h0 hs) w.2 (hn _ (gr.mp w.2)) s (aL (nat_lit 0x64e0115ae1081101) ae h)) (qb nm).attach [] (by rw[tm,List.length_attach];exact aS (nat_lit 0x5ae0098114900101) ae kl)
  rw[List.foldl_subtype (g:=λD w=>aH D (sL w) (pL cs o (dB (cD nm) w) w)) (hf:=λa a a=>rfl),List.unattach_attach] at q;exact q
 have f:=tV (λw=>pL cs o (dB (cD nm) w) w) (qb nm) [];rw[show jX (λw=>pL cs o (dB (cD nm) w) w) []=[] from rfl] at f;rw[f] at lp;exact bL (.cmp lp .nil)
end
section
variable{d:Nat}{X H:AH}{cs:List Int}{o k:Nat}{r:Row}{K:List (Str×St)}{CV:V}
noncomputable def eM:St:=⟨0,0,0,0,[]⟩
noncomputable abbrev rW(b:Bool):Int:=if b then 1 else 0
def HP(cs:List Int)(o:Nat)(r:Row):St:=⟨r.2* rW (!decide (r.1.1=r.1.2)),r.2,r.2* kR cs o r.1.1 r.1.2,r.2* (kR cs o r.1.1 r.1.2* kR cs o r.1.1 r.1.2),[(sL r.1.1,r.2)]⟩
def zp(cs:List Int)(o:Nat)(K:List (Str×St))(r:Row):List (Str×St):=aH K (sL r.1.2) (((K.lookup (sL r.1.2)).getD eM).add (HP cs o r))
abbrev qj(X:AH)(s:List (Str×St)×AH):AH:=X++.aE (aI St.enc s.1)::s.2
theorem tX(s:List (Str×St)×AH):(qj X s)[X.length]?=some (.aE (aI St.enc s.1)):=by rw[zt (pd _),X1];rfl
theorem vZ(s:List (Str×St)×AH):qj X s++[.gone]=qj X (s.1,s.2++[.gone]):=ta ..
theorem HQ(s:List (Str×St)×AH)(K:List (Str×St)):(qj X s).set X.length (.aE (aI St.enc K))=qj X (K,s.2):=by rw[aay _ _ (pd _),X1];rfl
abbrev Rm:B2:=cf (bd 17) 1
abbrev Rn(CV:V)(cs:List Int)(o:Nat)(k:Nat):af:=[(T "calls",CV),(T "price",wq cs o),(T "book",.ref k)]
structure Ek(o:Nat)(r:Row):Prop where
 h1:r.1.1∈bU o
 h2:r.1.2∈bU o
 lo:0<=r.2
 hi:r.2<=1000
theorem HS(dh:cs.length=6)(hr:Ek o r)(K:List (Str×St))(T':AH)(hK:K.length<500)(hS:∀x s,K.lookup x=some s->s.cs.length<500):
  Turn (d+3) (jg 17) (cW Rm) (b_ Rm) (fK r) (Rn CV cs o X.length) (qj X (K,T')) .next (Rn CV cs o X.length) (qj X (zp cs o K r,T'++[.gone])):=by
 let old:=(K.lookup (sL r.1.2)).getD eM;have k0:=tX (X:=X) (K,T')
 have pr:=iV (d:=d+1) (H:=qj X (K,T')) dh hr.h1 hr.h2;have pb:=lN cs o r.1.1 r.1.2
 have ne:=zj (X:=qj X (K,T')) r.1.1 r.1.2;have g0:qx (aI St.enc K) "get" [ao r.1.2,eM.enc] (qj X (K,T'))=some (old.enc,qj X (K,T')):=by show some (((aI St.enc K).lookup (sL r.1.2)).getD eM.enc,qj X (K,T'))=_;rw[jG,KW]
 have sr:small r.2=true:=jB (by have :=hr.lo;have :=hr.hi;omega);have m2:=gC r.2 (kR cs o r.1.1 r.1.2) (bX ⟨sr,jB (⟨uw (nat_lit 0x271004ed81019d8101) ae pb.1,uw (nat_lit 0x271004e0812908101) ae pb.2⟩)⟩)
 have sq:=P9 pb;have pp:=p4 (P:=λp=>small (p* p)=true) (by kernel_rfl) (by kernel_rfl) (by kernel_rfl) (by kernel_rfl) pb
 have m3:=gC r.2 (kR cs o r.1.1 r.1.2* kR cs o r.1.1 r.1.2) (bX ⟨sr,pp⟩);have hold:old.cs.length<500:=by
  show((K.lookup (sL r.1.2)).getD eM).cs.length<500;induction e:K.lookup (sL r.1.2) with |none=>exact Nat.zero_lt_succ _|some s=>exact hS _ s e
 have st:=s9 (d:=d) (qj X (K,T')) old (HP cs o r) (by show old.cs.length+1+1<_;omega);have k4:(qj X (K,T')++[.gone])[X.length]?=some (.aE (aI St.enc K)):=by rw[vZ];exact tX _
 have s2:qq X.length (sL r.1.2) (old.add (HP cs o r)).enc (.aE (aI St.enc K)) (qj X (K,T')++[.gone])=some ((),qj X (zp cs o K r,T'++[.gone])):=Gu (by rw[bz];exact aS (nat_lit 0x1000006f1908111f43f01101) ae hK) (by rw[vZ,gK];exact HQ _ _);unfold HP at st s2;have m1:=gC r.2 (rW (!decide (r.1.1=r.1.2))) (bX ⟨sr,by induction !decide (r.1.1=r.1.2)<;>kernel_rfl⟩)
 exact au [T "calls",T "price",T "book"] (.val 4 ne (.val 6 m1 (.call pr (.val 12 m2 (.call pr (.val 17 sq (.val 18 m3 (.obj k0 (.obj k0 (.upd 24 g0 (.call st (.obj k4 (.lG 28 s2 .nil)))))))))))))
end
section
variable{d:Nat}{X H:AH}{cs:List Int}{o k m:Nat}{r:Row}{K:List (Str×St)}{CV:V}{rows:List Row}
def Bd(m:Nat)(K:List (Str×St)):Prop:=∀x s,K.lookup x=some s->s.cs.length<m
theorem Bd.step(h:Bd m K)(hm:0<m)(r:Row):Bd (m+1) (zp cs o K r):=λx s e=>by
 unfold zp at e;rw[cN] at e;by_cases hx:(x==sL r.1.2)=true
 ·rw[if_pos hx] at e
  have e:=oy e;subst e;have ho:((K.lookup (sL r.1.2)).getD eM).cs.length<m:=by
   induction e2:K.lookup (sL r.1.2) with |none=>exact hm|some s=>exact h _ s e2
  have :=pC ((K.lookup (sL r.1.2)).getD eM).cs (HP cs o r).cs;show(eK _ _).length<m+1;have h1:(HP cs o r).cs.length=1:=rfl
  exact e9 (nat_lit 0x193811132111902102810103) ae this h1 ho
 ·rw[if_neg hx] at e;exact Mo (h x s e)
abbrev Ro(cs:List Int)(o:Nat)(s:List (Str×St)×AH)(r:Row):List (Str×St)×AH:=(zp cs o s.1 r,s.2++[.gone])
theorem HT(dh:cs.length=6)(rows:List Row):∀(s:List (Str×St)×AH) (m:Nat),(∀r∈rows,Ek o r)->s.1.length+rows.length<400->0<m->m+rows.length<400->Bd m s.1->
  cz (d+3) (jg 17) (cW Rm) (b_ Rm) (rows.map fK) (Rn CV cs o X.length) (qj X s) .next (Rn CV cs o X.length) (qj X (rows.foldl (Ro cs o) s)):=by
 induction rows with
 |nil=>intro s m _ _ _ _ _;exact .nil|cons r rs ih=>
  intro s m hr h1 h0 h2 hB;obtain hl:=bP s.1 (sL r.1.2) (((s.1.lookup (sL r.1.2)).getD eM).add (HP cs o r));obtain t:=HS dh (hr r (.head _)) s.1 s.2 (aL (nat_lit 0x1f43f0111903f1918081101) ae h1) λx t e=>xp (hB x t e) (aL (nat_lit 0x1f43f0011903f1918081101) ae h2)
  exact t.next (.inl rfl) (ih (Ro cs o s r) (m+1) (λq hq=>hr q (.tail _ hq)) (aW (nat_lit 0x1903f208111903f19281811191800102) ae hl h1) (Sr _) (aL (nat_lit 0x1903f119088111903f1918081101) ae h2) (hB.step h0 r))
theorem xV(m:Nat)(H:AH)(B:List (Str×St)):eV (freeze (m+3)) (aI St.enc B) H=some (aI St.enc B,H):=by
 induction B with |nil=>rfl|cons p r ih=>obtain e1:freeze (m+3) p.2.enc H=some (p.2.enc,H):=rfl;exact s8 e1 ih
def mJ(cs:List Int)(o:Nat)(rows:List Row):List (Str×St):=rows.foldl (zp cs o) []
theorem HU(rows:List Row):∀s:List (Str×St)×AH,(rows.foldl (Ro cs o) s).1=rows.foldl (zp cs o) s.1:=by
 induction rows with |nil=>intro s;rfl|cons r rs ih=>intro s;exact ih _
theorem zq(dh:cs.length=6)(hr:∀r∈rows,Ek o r)(hz:rows.length<300):∃Y,aC (d+4) (.fn 204) [.lst (rows.map fK),wq cs o] X (Rj (mJ cs o rows)) (X++Y):=by
 obtain lp:=HT (d:=d) (X:=X) (CV:=.lst (rows.map fK)) dh rows ([],[]) 1 hr (aS (nat_lit 0x1903f00981112c3f01101) ae hz) (Ln.go (nat_lit 420024576) [] ae) (aS (nat_lit 0x1903f01981112c3f01101) ae hz) (λx s e=>nE e);let s:=rows.foldl (Ro cs o) ([],[])
 obtain hs:s.1=mJ cs o rows:=HU rows ([],[]);obtain hk:=tX s;obtain fz:freeze bj (.ref X.length) (qj X s)=some (.aE (aI St.enc s.1),(qj X s).set X.length .gone):=fX hk rfl (bS rfl (bS (xV 6 _ s.1) rfl));refine⟨aF.gone::s.2,?_⟩;obtain c:=bD (.loop lp .nil);obtain q:=yE c fz;rw[hs] at q;obtain e:(qj X s).set X.length .gone=X++aF.gone::s.2:=by rw[aay _ _ (pd _),X1];rfl
 simp only[e] at q;exact q
end
section
variable{cs:List Int}{o k m:Nat}{r:Row}{K:List (Str×St)}{rows hs:List Row}{w x:List Nat}{s:St}{l:List (List Nat)}
noncomputable def AV(hs:List Row)(g:List Nat->Int):Int:=(hs.map λr=>r.2* g r.1.1).sum
theorem i5(hs:List Row)(r:Row)(g:List Nat->Int):AV (hs++[r]) g=r.2* g r.1.1+AV hs g:=by unfold AV;rw[vk,List.sum_append,Int.add_comm];show _+0+_=_;rw[aaf]
structure Ent(cs:List Int)(o:Nat)(w:List Nat)(hs:List Row)(s:St):Prop where
 cc:s.cc=AV hs λx=>rW (!decide (x=w))
 nc:s.nc=AV hs λa=>1
 tt:s.tt=AV hs λx=>kR cs o x w
 ct:s.ct=AV hs λx=>kR cs o x w* kR cs o x w
 nd:(s.cs.map (·.1)).Nodup
 lk:∀x,s.cs.lookup (sL x)=if x∈hs.map (·.1.1) then some (AV hs λy=>rW (decide (y=x))) else none
theorem El(h:x∉hs.map (·.1.1)):AV hs (λy=>rW (decide (y=x)))=0:=by
 unfold AV;induction hs with |nil=>rfl|cons r rs ih=>simp only[xb,List.sum_cons,ih λq=>h (.tail _ q)];refine(decide_eq_false λe:r.1.1=x=>h (e▸.head _))▸?_;exact congrArg (·+0) (Int.mul_zero _)
theorem Ent.step(h:Ent cs o w hs s)(hr:r.1.2=w):Ent cs o w (hs++[r]) (s.add (HP cs o r)):=by
 refine⟨?_,?_,?_,?_,I1 h.nd,λx=>?_⟩
 ·rw[i5,<-h.cc,<-hr];rfl
 ·simp only[i5,<-h.nc,Int.mul_one];rfl
 ·rw[i5,<-h.tt,<-hr];rfl
 ·rw[i5,<-h.ct,<-hr];rfl
 ·refine(?_:(eK s.cs [(sL r.1.1,r.2)]).lookup (sL x)=_);simp only[yY h.nd,i5,vk,h.lk,h.lk,show [r].map (·.1.1)=[r.1.1] from rfl];by_cases e:x=r.1.1
  ·subst e;rw[if_pos rfl,if_pos (y4 _ (.head _)),decide_eq_true (rfl:r.1.1=r.1.1)];refine(?_:_=some (r.2* 1+_));rw[Int.mul_one];by_cases m:r.1.1∈hs.map (·.1.1)
   ·rw[if_pos m];exact congrArg some (Int.add_comm _ _)
   ·rw[if_neg m,El m];exact congrArg some (Int.add_comm _ _)
  ·rw[if_neg λq=>e (bM q),decide_eq_false λq:r.1.1=x=>e q.symm];show _=if _ then some (r.2* 0+_) else _
   rw[Int.mul_zero,aac];by_cases m:x∈hs.map (·.1.1)
   ·rw[if_pos m,if_pos (y2 _ m)]
   ·rw[if_neg m,if_neg λq=>(Fm.mp q).elim m λq=>e (vu.mp q)]
theorem VG:Ent cs o w [] eM:=⟨rfl,rfl,rfl,rfl,Iy,λa=>rfl⟩
noncomputable abbrev qm(w:List Nat)(rows:List Row):List Row:=rows.filter λr=>decide (r.1.2=w)
theorem Em(w:List Nat)(rows:List Row):∀(pre:List Row) (K:List (Str×St)),Ent cs o w (qm w pre) ((K.lookup (sL w)).getD eM)->(K.lookup (sL w)=none↔qm w pre=[])->
  Ent cs o w (qm w (pre++rows)) (((rows.foldl (zp cs o) K).lookup (sL w)).getD eM)/\((rows.foldl (zp cs o) K).lookup (sL w)=none↔qm w (pre++rows)=[]):=by
 induction rows with
 |nil=>intro pre K h1 h2;rw[rn];exact⟨h1,h2⟩|cons r rs ih=>
  intro pre K h1 h2;obtain q:=ih (pre++[r]) (zp cs o K r);rw[ta] at q;obtain f:qm w (pre++[r])=qm w pre++if r.1.2=w then [r] else []:=by
   unfold qm;rw[aar];by_cases e:r.1.2=w
   ·rw[if_pos e,Bn,decide_eq_true e];rfl
   ·rw[if_neg e,Bn,decide_eq_false e];rfl
  have lk:(zp cs o K r).lookup (sL w)=if r.1.2=w then some (((K.lookup (sL w)).getD eM).add (HP cs o r)) else K.lookup (sL w):=by
   unfold zp;rw[cN];by_cases e:r.1.2=w
   ·subst e;rw[if_pos rfl,if_pos (beq_self_eq_true _)]
   ·rw[if_neg e,if_neg λq=>e (bM (eq_of_beq q)).symm]
  rw[f,lk] at q;refine q ?_ ?_
  ·by_cases e:r.1.2=w
   ·rw[if_pos e,if_pos e];exact h1.step e
   ·rw[if_neg e,if_neg e,rn];exact h1
  ·by_cases e:r.1.2=w
   ·rw[if_pos e,if_pos e];exact⟨(λh=>nomatch h),λh=>absurd (List.append_eq_nil_iff.mp h).2 (List.cons_ne_nil _ _)⟩
   ·rw[if_neg e,if_neg e,rn];exact h2
theorem En(rows:List Row):∀K:List (Str×St),(K.map (·.1)).Nodup->((rows.foldl (zp cs o) K).map (·.1)).Nodup:=by
 induction rows with |nil=>intro K h;exact h|cons r rs ih=>intro K h;exact ih _ (DK _ _ _ h)
end
section
variable{cs:List Int}{o k m n:Nat}{r:Row}{K:List (Str×St)}{rows hs:List Row}{w x:List Nat}{s t:St}{l:List (List Nat)}{X:AH}{nm:List (List Nat)}
structure Tells(hs:List Row)(l:List (List Nat)):Prop where
 sum:∀g:List Nat->Int,AV hs g=(l.map g).sum
 mem:∀x,x∈hs.map (·.1.1)↔x∈l
theorem I5(p:List Nat->Bool)(l:List (List Nat)):(l.map λx=>rW (p x)).sum=((l.filter p).length:Nat):=by
 induction l with
 |nil=>rfl|cons a r ih=>
  simp only[xb,List.sum_cons,ih,Bn];induction h:p a with |true=>exact nR (nat_lit 7046153452954896) ae|false=>exact nR (nat_lit 482925389072) ae
theorem VH(l:List (List Nat)):(l.map λb=>(1:Int)).sum=(l.length:Nat):=by
 induction l with |nil=>rfl|cons a r ih=>simp only[xb,List.sum_cons,ih,pE];exact nR (nat_lit 7046153452954896) ae
theorem Lm(h1:s.cc=t.cc)(h2:s.nc=t.nc)(h3:s.tt=t.tt)(h4:s.ct=t.ct)(ha:(s.cs.map (·.1)).Nodup)(hb:(t.cs.map (·.1)).Nodup)(h:∀y,s.cs.lookup (sL y)=t.cs.lookup (sL y)):gH (n+3) X s.enc t.enc=some true:=by
 have i:∀i:Int,gH (n+2) X (.int i) (.int i)=some true:=λi=>by refine(?_:some (i==i)=_);rw[beq_self_eq_true]
 have l:veqs (gH (n+2) X) [.int s.cc,.int s.nc,.int s.tt,.int s.ct,.aE (aI V.int s.cs)] [.int t.cc,.int t.nc,.int t.tt,.int t.ct,.aE (aI V.int t.cs)]=some true:=by rw[h1,h2,h3,h4];exact vc (i _) (vc (i _) (vc (i _) (vc (i _) (vc (vU ha hb h) rfl))))
 exact(congrArg (λx=>alt x _) l:_)
theorem HV(h:Ent cs o w hs s)(T:Tells hs l):gH (n+3) X s.enc (pL cs o l w).enc=some true:=by
 refine Lm ?_ ?_ ?_ ?_ h.nd ?_ λy=>?_
 ·simp only[h.cc,T.sum];exact I5 _ l
 ·simp only[h.nc,T.sum];exact VH l
 ·simp only[h.tt,T.sum];rfl
 ·simp only[h.ct,T.sum];rfl
 ·refine(?_:((jX _ (qb l)).map (·.1)).Nodup);unfold jX;rw[tx];exact List.Pairwise.map sL (λa b h e=>h (bM e)) Ej
 ·refine(?_:_=(jX _ (qb l)).lookup (sL y));simp only[h.lk,tW,T.sum,I5];by_cases m:y∈l
  ·rw[if_pos ((T.mem y).mpr m),if_pos (gr.mpr m)];refine QP▸?_;refine congrArg (λn:Nat=>some (n:Int)) (Qb λa c=>?_);simp only[decide_eq_true_iff,beq_iff_eq]
  ·rw[if_neg λq=>m ((T.mem y).mp q),if_neg λq=>m (gr.mp q)]
theorem v5(h:∀w,(qm w rows=[]↔w∉nm)/\(w∈nm->Tells (qm w rows) (dB (cD nm) w))):bG X .Eq (Rj (mJ cs o rows)) (Rj (Rl cs o nm))=some (.bool true):=by
 obtain en:=λw=>Em w rows [] [] VG ⟨λd=>rfl,λd=>rfl⟩
 obtain bn:((mJ cs o rows).map (·.1)).Nodup:=En rows [] Iy;obtain wd:∀y:Str,y=sL y.cps.toList:=λd=>rfl
 obtain ln:(mJ cs o rows).length=(Rl cs o nm).length:=by
  obtain p:=jU bn (List.Pairwise.map sL (λa b h e=>h (bM e)) Ej) λy=>by
   rw[wd y];generalize y.cps.toList=w;obtain e1:sL w∈(mJ cs o rows).map (·.1)↔w∈nm:=by obtain a:=dQ (mJ cs o rows) (sL w);obtain b:=(en w).2.trans (h w).1;exact Decidable.not_iff_not.mp (a.symm.trans b)
   refine e1.trans ?_;simp only[xt];exact⟨λm=>⟨w,gr.mpr (gr.mpr m),rfl⟩,λ⟨v,hv,e⟩=>gr.mp (gr.mp (bM e▸hv))⟩
  obtain this:=p.length_eq;simp only[ph,ph] at this;unfold Rl jX;simp only[ph];exact this
 refine eq_true (tT (by simp only[bz,bz,ln]) λp hp=>?_);refine(xt.mp hp).elim λq z2=>?_;obtain hq:=z2.1;obtain e:=z2.2
 subst e;obtain lq:=b8 bn hq;rw[wd q.1] at lq;have mm:=xf λc=>by have :=(en q.1.cps.toList).2.mpr ((h _).1.mpr c);exact nE (this.symm.trans lq)
 have ee:=(en q.1.cps.toList).1;rw[show(List.foldl (zp cs o) [] rows)=mJ cs o rows from rfl,lq] at ee;refine⟨(pL cs o (dB (cD nm) q.1.cps.toList) q.1.cps.toList).enc,?_,HV ee ((h _).2 mm)⟩;rw[jG,wd q.1,tW,if_pos (gr.mpr (gr.mpr mm))];rfl
end
section
variable{cs:List Int}{o k n:Nat}{rows hs:List Row}{w x:List Nat}{l pl:List (List Nat)}{nm:List (List Nat)}{steps:List az}{E:DD}
noncomputable def jC(steps:List az):List Row:=steps.map λs=>(s,1)
theorem Qa(w:List Nat)(steps:List az):qm w (jC steps)=jC (steps.filter λs=>decide (s.2=w)):=by refine List.filter_map.trans ?_;rfl
theorem HW(ws:List (List Nat)):∀la,(jS la ws).map (·.2)=ws:=by
 induction ws with |nil=>intro la;rfl|cons w ws ih=>intro la;exact congrArg (w::·) (ih w)
theorem ny:w∈nm↔∃x,(x,w)∈cD nm:=by
 have e:(cD nm).map (·.2)=nm:=by refine tQ▸?_;exact HW nm _
 constructor
 ·intro h;rw[<-e] at h;refine(xt.mp h).elim λs z4=>?_;obtain hs:=z4.1;obtain z5:=z4.2;subst z5
  exact⟨s.1,hs⟩
 ·rintro⟨x,hx⟩;rw[<-e];exact xt.mpr ⟨(x,w),hx,rfl⟩
theorem pN:x∈dB steps w↔(x,w)∈steps:=by refine xt.trans ?_;exact⟨λ⟨s,hs,e⟩=>by obtain f:=wi.mp hs;simp only[<-e,<-of_decide_eq_true f.2];exact f.1,λh=>⟨(x,w),wi.mpr ⟨h,decide_eq_true rfl⟩,rfl⟩⟩
theorem Eo:(dB steps w).count x=steps.count (x,w):=by
 unfold dB;simp only[List.count_eq_countP,TO,List.countP_filter,List.count_eq_countP];refine Qb λs a=>?_
 refine(?_:((s.1==x)&&decide (s.2=w))=true↔(s==(x,w))=true);simp only[vr,beq_iff_eq,decide_eq_true_iff,beq_iff_eq];exact⟨λh=>aaC h.1 h.2,λh=>by refine h▸?_;exact⟨rfl,rfl⟩⟩
theorem Lo:(qm w (jC (cD nm))=[]↔w∉nm)/\(w∈nm->Tells (qm w (jC (cD nm))) (dB (cD nm) w)):=by
 have k:(qm w (jC (cD nm))).map (·.1.1)=dB (cD nm) w:=by rw[Qa];refine tx.trans ?_;rfl
 refine⟨?_,λa=>⟨λg=>?_,λx=>by rw[k]⟩⟩
 ·have :qm w (jC (cD nm))=[]↔dB (cD nm) w=[]:=by refine k▸?_;exact aam.symm
  refine this.trans ?_;constructor
  ·intro h m;obtain⟨x,hx⟩:=ny.mp m;obtain this:=pN.mpr hx;rw[h] at this;exact nomatch this
  ·intro h;refine List.eq_nil_iff_forall_not_mem.mpr λx hx=>h (ny.mpr ⟨x,pN.mp hx⟩)
 ·rw[Qa];unfold AV jC dB;simp only[tx,tx];refine congrArg List.sum (List.map_congr_left λs a=>?_);exact Int.one_mul _
noncomputable abbrev rY(y:Str):List Nat:=y.cps.toList
theorem AW(g:List Nat->Int)(x:List Nat)(l:List (List Nat)):(l.map g).sum=(l.count x:Int)* g x+((l.filter λy=>!decide (y=x)).map g).sum:=by
 induction l with
 |nil=>refine(?_:(0:Int)=0* g x+0);rw[Int.zero_mul];rfl|cons a r ih=>
  simp only[xb,List.sum_cons,ih,Bn,List.count_cons];by_cases e:a=x
  ·subst e;rw[decide_eq_true (rfl:a=a),if_pos (beq_self_eq_true _),Int.natCast_add,Int.add_mul];refine(?_:_=_+1* g a+_);rw[Int.one_mul];exact Iz.go (nat_lit 9034146282775824) [] [_,_,_] ae
  ·rw[decide_eq_false e,if_neg λq=>e (eq_of_beq q)];exact Iz.go (nat_lit 9149595003692304) [] [_,_,_] ae
theorem group(g:List Nat->Int):∀(m:List (Str×Int)) (l:List (List Nat)),(m.map (·.1)).Nodup->(∀x,m.lookup (sL x)=if x∈l then some (l.count x:Int) else none)->(m.map λp=>p.2* g (rY p.1)).sum=(l.map g).sum
|[],l,aR,h=>by
 have :l=[]:=List.eq_nil_iff_forall_not_mem.mpr λx hx=>by obtain this:=h x;rw[if_pos hx] at this;exact nE this
 subst this;rfl
|(y,c)::m,l,hn,h=>by
 refine(nA hn).elim λn1 n2=>?_
 obtain h0:=h (rY y);obtain e0:List.lookup (sL (rY y)) ((y,c)::m)=some c:=by simp only[sT,show sL (rY y)=y from rfl,beq_self_eq_true]
 simp only[e0] at h0;have mx:=xf λq=>by rw[if_neg q] at h0;exact nomatch h0
 rw[if_pos mx] at h0;simp only[AW g (rY y) l,xb,List.sum_cons,oy h0];refine congrArg (_+·) (group g m _ n2 λx=>?_);by_cases e:x=rY y
 ·subst e;rw[if_neg λq=>by obtain this:=(wi.mp q).2;rw[decide_eq_true (rfl:rY y=rY y)] at this;exact wy this];exact(dQ m y).mpr n1
 ·obtain hx:=h x;simp only[sT,beq_false_of_ne λq:sL x=y=>e (bM (q.trans (rfl:y=sL (rY y))))] at hx;refine hx.trans ?_;obtain t:(!decide (x=rY y))=true:=by refine(decide_eq_false e)▸?_;rfl
  by_cases m1:x∈l
  ·rw[if_pos m1,if_pos (wi.mpr ⟨m1,t⟩),List.count_filter (p:=λz=>!decide (z=rY y)) t]
  ·rw[if_neg m1,if_neg λq=>m1 (wi.mp q).1]
end
section
variable{cs:List Int}{o k n:Nat}{rows hs:List Row}{w x:List Nat}{l pl:List (List Nat)}{nm:List (List Nat)}{steps q T:List az}{E:DD}{D:DD×DD}
abbrev mD(E:DD)(w:List Nat):List (Str×Int):=(E.lookup (sL w)).getD []
abbrev qo(w:List Nat)(p:Str×Int):Row:=((rY p.1,w),p.2)
def i6(E:DD)(pl:List (List Nat)):List Row:=pl.flatMap λw=>(mD E w).map (qo w)
structure Bk(E:DD)(steps:List az):Prop where
 nd:∀w,((mD E w).map (·.1)).Nodup
 lk:∀w x,(mD E w).lookup (sL x)=if(x,w)∈steps then some (steps.count (x,w):Int) else none
theorem Qc(J:DO pl (cD nm) k [] [] q T D):Bk D.1 (cD nm):=by
 refine⟨J.td.i.nd,λw x=>?_⟩;obtain h:=Ec J.td J.sp (λc=>d8) λc=>Iff.rfl
 unfold g_ at h;rw[pJ (.inr rfl)] at h;refine h.trans ?_;by_cases m:(x,w)∈cD nm
 ·rw[if_pos m,if_pos ⟨d8.mpr m,Oy⟩];rfl
 ·rw[if_neg m,if_neg λq=>m (d8.mp q.1)];rfl
theorem Bk.mem(h:Bk E steps){p:Str×Int}(hp:p∈mD E w):(rY p.1,w)∈steps/\p.2=(steps.count (rY p.1,w):Int):=by
 obtain l:=b8 (h.nd w) hp;obtain e:=h.lk w (rY p.1);simp only[show sL (rY p.1)=p.1 from rfl,l] at e;by_cases m:(rY p.1,w)∈steps
 ·rw[if_pos m] at e;exact⟨m,oy e⟩
 ·rw[if_neg m] at e;exact nomatch e
theorem VI(hp:pl.Nodup):qm w (i6 E pl)=if w∈pl then(mD E w).map (qo w) else []:=by
 obtain f:∀v,qm w ((mD E v).map (qo v))=if v=w then(mD E w).map (qo w) else []:=λv=>by
  by_cases e:v=w
  ·subst e;refine(if_pos rfl)▸?_;refine QR.mpr λr hr=>?_
   obtain⟨p,_,rfl⟩:=xt.mp hr;exact decide_eq_true rfl
  ·refine(if_neg e)▸?_;refine List.filter_eq_nil_iff.mpr λr hr=>?_
   obtain⟨p,_,rfl⟩:=xt.mp hr;refine(decide_eq_false e)▸?_;exact wy
 induction pl with
 |nil=>rfl|cons v r ih=>
  refine(nA hp).elim λn1 n2=>?_
  obtain e:qm w (i6 E (v::r))=qm w ((mD E v).map (qo v))++qm w (i6 E r):=aar ..;simp only[e,f,ih n2];by_cases c:v=w
  ·subst c;rw[if_pos rfl,if_neg n1,if_pos (.head _),rn]
  ·rw[if_neg c,Hm];by_cases m:w∈r
   ·rw[if_pos m,if_pos (.tail _ m)]
   ·rw[if_neg m,if_neg λq=>(bx q).elim (λe=>c e.symm) m]
theorem Lp(h:Bk E (cD nm))(hp:pl.Nodup)(hn:∀w∈nm,w∈pl):(qm w (i6 E pl)=[]↔w∉nm)/\(w∈nm->Tells (qm w (i6 E pl)) (dB (cD nm) w)):=by
 have lk:∀x,(mD E w).lookup (sL x)=if x∈dB (cD nm) w then some ((dB (cD nm) w).count x:Int) else none:=λx=>by
  rw[h.lk,Eo];by_cases m:(x,w)∈cD nm
  ·rw[if_pos m,if_pos (pN.mpr m)]
  ·rw[if_neg m,if_neg λq=>m (pN.mp q)]
 refine(VI hp)▸?_;constructor
 ·constructor
  ·intro e m;rw[if_pos (hn w m)] at e;obtain⟨x,hx⟩:=ny.mp m;obtain this:=h.lk w x;rw[aam.mp e,if_pos hx] at this;exact nE this
  ·intro m;by_cases i:w∈pl
   ·refine(if_pos i).trans ?_;refine aam.mpr (List.eq_nil_iff_forall_not_mem.mpr λp hp=>m (ny.mpr ⟨_,(h.mem hp).1⟩))
   ·exact if_neg i
 ·intro m;refine(if_pos (hn w m))▸?_;refine⟨λg=>?_,λx=>?_⟩
  ·obtain this:=group g (mD E w) (dB (cD nm) w) (h.nd w) lk;unfold AV;rw[tx];exact this
  ·simp only[tx,xt];constructor
   ·rintro⟨p,hp,e⟩;exact pN.mpr (e▸(h.mem hp).1)
   ·intro hx;obtain e:=lk x;rw[if_pos hx] at e;refine xf λq=>?_
    obtain nk:sL x∉(mD E w).map (·.1):=λi=>by
     refine(xt.mp i).elim λp Qd=>?_;obtain hp:=Qd.1;obtain ep:=Qd.2
     exact q ⟨p,hp,by refine(?_:rY p.1=x);refine ep▸?_;rfl⟩
    exact nE (((dQ _ _).mpr nk).symm.trans e)
theorem Ep(h:Bk E (cD nm))(hn:∀w∈nm,w∈bU o)(h0:nm≠[])(hz:nm.length<=10)(hl:∀w∈pl,w∈bU o):∀r∈i6 E pl,Ek o r:=λr hr=>by
 obtain⟨w,hw,i⟩:=List.mem_flatMap.mp hr;obtain⟨p,hp,rfl⟩:=xt.mp i;refine(h.mem hp).elim λm c=>?_
 obtain this:=gY hn h0 m;obtain cl:(cD nm).count (rY p.1,w)<=nm.length:=by simp only[<-f7];exact List.count_le_length
 exact⟨this.1,hl w hw,by exact MG (nat_lit 653110849793) ae c,by exact Iz.go (nat_lit 0x3e803e081a91011001070a103) [_,_] [_] ae c cl hz⟩
theorem Lq(h:Bk E (cD nm))(hn:∀w∈nm,w∈bU o)(h0:nm≠[])(w:List Nat):(mD E w).length<=4:=by
 obtain e:((mD E w).map (·.1)).length<=((bU o).map sL).length:=(h.nd w).length_le_of_subset λy hy=>by obtain⟨p,hp,rfl⟩:=xt.mp hy;exact xt.mpr ⟨rY p.1,(gY hn h0 (h.mem hp).1).1,rfl⟩
 rw[ph] at e;exact e
theorem AX(h:∀w,(mD E w).length<=4)(pl:List (List Nat)):(i6 E pl).length<=4* pl.length:=by
 unfold i6;induction pl with |nil=>exact pd _|cons w r ih=>obtain this:=h w;simp only[List.flatMap_cons,pj,ph,pE];exact aW (nat_lit 0x19284a1080124a1014900102) ae this ih
end
section
variable{d:Nat}{X H:AH}{cs:List Int}{o k n:Nat}{rows hs:List Row}{w x:List Nat}{l pl:List (List Nat)}{nm:List (List Nat)}{steps:List az}{E:DD}{D:cI}{rk:List (List Nat)}
abbrev EJ(i:Nat):Expr:=my (Pg (UO (KI (lS 24)) i)) 0
theorem VJ(hz:steps.length<=10):bZ (d+1) (EJ 0) (steps.map aA) [] (.l []) H (.l ((jC steps).map fK)) H:=by refine tx.symm▸?_;exact aK.all aA _ steps (aS (nat_lit 0x1000006f011a900101) ae hz) λs a vs hv=>aM [] (.no 2 (aP hv) .nil)
theorem Qe(m:List (Str×Int))(hm:m.length<=4)(vs:List V)(hv:vs.length<100):
  aK (d+1) (jW (EJ 1)) ((iS (EJ 1)).tail.headD default) (bT (d+1) (jW (EJ 1)) (vd (EJ 1)) []) ((aI V.int m).map λkv=>.tup [.str kv.1,kv.2]) [(T "into",.aE (br E)),(T "name",ao w)] (.l vs) H [(T "into",.aE (br E)),(T "name",ao w)] (.l (vs++(m.map (qo w)).map fK)) H:=by
 unfold aI;rw[tx,tx]
 obtain q:=aK.fold (g:=(iS (EJ 1)).tail.headD default) (T:=bT (d+1) (jW (EJ 1)) (vd (EJ 1)) []) (env:=[(T "into",.aE (br E)),(T "name",ao w)]) (λp:Str×Int=>.tup [.str p.1,.int p.2]) (λs=>.l s) (λa=>H) (λs p=>s++[fK (qo w p)]) (λxs s=>s.length+xs.length<200)
  (λp xs s h=>by rw[pj];rw[pE] at h;show s.length+1+_<_;exact aL (nat_lit 0xc8e11908811c8e1918081101) ae h)
  (λp xs s h=>aM [T "into",T "name"] (.no 3 (aP (show s.length+1<ai by rw[pE] at h;unfold ai;exact aL (nat_lit 0x1000006f190811c8e1918081101) ae h)) .nil)) m vs (aL (nat_lit 0xc8e108114910164e01102) ae hv hm)
 obtain e:∀(m:List (Str×Int)) (vs:List V),m.foldl (λs p=>s++[fK (qo w p)]) vs=vs++m.map (fK∘qo w):=λm=>by
  induction m with |nil=>intro vs;exact(rn vs).symm|cons p r ih=>intro vs;exact(ih _).trans (ta ..)
 rw[e] at q;exact q
theorem VK(hE:∀w∈pl,E.lookup (sL w)=some (mD E w))(hl:∀w,(mD E w).length<=4)(hp:pl.length<=4):bZ (d+1) (EJ 1) (pl.map ao) [(T "into",.aE (br E))] (.l []) H (.l ((i6 E pl).map fK)) H:=by
 obtain key:∀(pl:List (List Nat)) (vs:List V),(∀w∈pl,E.lookup (sL w)=some (mD E w))->vs.length+4* pl.length<100->bZ (d+1) (EJ 1) (pl.map ao) [(T "into",.aE (br E))] (.l vs) H (.l (vs++(i6 E pl).map fK)) H:=by
  intro pl;induction pl with |nil=>intro vs _ _;simp only[show(i6 E []).map fK=[] from rfl,rn];exact .nil|cons w r ih=>intro vs h hv;obtain i:=Qe (d:=d) (H:=H) (E:=E) (w:=w) (mD E w) (hl w) vs (aL (nat_lit 0x64e01164e19184a081101) ae hv);obtain it:=DE (h w (.head _));obtain t:=aM [T "into"] (.val 2 it (.cmp i .nil));obtain q:=ih (vs++((mD E w).map (qo w)).map fK) (λv hv=>h v (.tail _ hv)) (by obtain this:=hl w;simp only[pj,ph,ph];exact aW (nat_lit 0x64e24a01881164e19284a18114900102) ae this hv);rw[ta,<-vk] at q;exact t.go q
 exact key pl [] hE (aS (nat_lit 0x64e04a098114900401) ae hp)
theorem Qf(dh:cs.length=6)(hn:∀w∈nm,w∈bU o)(h0:nm≠[])(hz:nm.length<=10)(h:Bk E (cD nm))(hE:∀w∈bU o,E.lookup (sL w)=some (mD E w)):
  ∃Y,LX d 24 (VF cs o nm D rk E) X (.ret (.bool true)) (VF cs o nm D rk E) Y:=by
 have sl:(cD nm).length<=10:=by rw[f7];exact hz
 obtain ml:=Lq h hn h0;obtain c1:=VJ (d:=d+7) (H:=X) sl;have r1:∀r∈jC (cD nm),Ek o r:=λr hr=>by obtain⟨s,hs,rfl⟩:=xt.mp hr;obtain this:=gY hn h0 hs;exact⟨this.1,this.2,(by decide:(0:Int)<=1),(by decide:(1:Int)<=1000)⟩
 refine(zq (d:=d+4) (X:=X) dh r1 (by unfold jC;rw[ph];exact aS (nat_lit 84511766986359041) ae sl)).elim λY1 b1=>?_
 obtain c2:=VK (d:=d+7) (H:=X++Y1) hE ml (pd 4);obtain⟨Y2,b2⟩:=zq (d:=d+4) (X:=X++Y1) dh (Ep h hn h0 hz λw hw=>hw) (vw (AX ml (bU o)) (show 4* 4<300 by decide));obtain e1:=v5 (X:=X++Y1) (cs:=cs) (o:=o) (λw=>Lo (nm:=nm));obtain e2:=v5 (X:=X++Y1++Y2) (cs:=cs) (o:=o) (λw=>Lp h (Df o) hn);exact⟨X++Y1++Y2,bL (.cmp c1 (.call b1 (.val 4 e1 (.cmp c2 (.call b2 (.val 10 e2 .nil))))))⟩
end
section
variable{d:Nat}{X B:AH}{cs ns:List Int}{o cnt:Nat}{av:Int}{nm:List (List Nat)}{a:Lx}
abbrev Qg:List B2:=[lS 0,lS 1,lS 2,lS 3,lS 4,lS 5,lS 6,lS 7,lS 8,lS 9,lS 10,lS 11,lS 12,lS 13,lS 14,lS 15,lS 16,lS 17,lS 18,lS 19,lS 20,lS 21,lS 22,lS 23,lS 24]
theorem Lr{W:AH}{v:V}{aj:af}(h:pP (d+8) mh (QY ns) Qg X (.ret v) aj W):aC (d+9) (.fn 231) [.lst (ns.map .int)] X v W:=J5 (fl:=.ret v) (by kernel_rfl) (by kernel_rfl) h
theorem HX{p:List V}(h:a.Ok B)(Y:AH):∀t:AH,a.bh B av p t++Y=a.bh B av p (t++Y):=by
 induction Y with |nil=>intro t;simp only[rn,rn]|cons o r ih=>intro t;obtain e:=ih (t++[o]);simp only[<-tN h,ta,ta] at e;exact e
abbrev VL(d:Nat)(a:Lx)(B:AH)(av:Int)(cs:List Int)(o cnt:Nat)(nm:List (List Nat)):Prop:=∃aj W,pP (d+8) mh (Q7 cs o cnt a.k nm) (Qg.drop 12) (a.bh B av [] []) (.ret (.bool true)) aj W
theorem HY(h:a.Ok B)(dh:cs.length=6)(h6:cnt<=10)(hc:nm.length=cnt)(h0:nm≠[])(hn:∀w∈nm,w∈bU o):VL d a B av cs o cnt nm:=by
 have hz:=hc▸h6;refine(AG (bU o) (Df o) (show 4<64 by decide)).elim λrk z=>z.elim λr1 z=>z.elim λrp rs=>?_
 obtain⟨D,hD,Z8⟩:=PF dh;obtain⟨line,Y,lp,lw,Xa⟩:=PG dh hn h0 hz hD rp rs;rw[HX h,show a.bh B av [] ([]++Y)=a.bh (B++Y) av [] [] by show a.hp (B++([]++Y)) av [] []=a.hp (B++Y++[]) av [] [];rw[rn];rfl] at Xa;obtain h1:=h.rows Y;obtain ll:line.length<=10:=by obtain this:=lp.length_eq;obtain this:=nh (nm:=nm);omega
 obtain⟨E,q,T',k',Z,Z9,J⟩:=P6 dh h1 hn h0 hz lp;obtain⟨W,Z_⟩:=Qf dh hn h0 hz (Qc J) λw hw=>(J.dk.i w hw).elim λm hm=>by show _=some ((E.1.lookup (sL w)).getD []);rw[hm.1];rfl
 exact⟨_,_,bq PB (bq (PC h0 hc h6) (bq (PD hz) (bq Z8 (bq Xa (bq (PI r1) (bq PJ (bq (PK dh hn h0 hz hD rp lp lw) (bq (PN ll) (bq Z9 (bq (P8 hz) (bq (P_ dh hn h0 hz) (Co Z_))))))))))))⟩
theorem Ls(ns:List Int)(X:AH):∃H',aC (d+9) (.fn 231) [.lst (ns.map .int)] X (.bool true) H':=by
 obtain⟨cs,dh,g0⟩:=UU;obtain⟨u,hu,o,ho,g1⟩:=UW dh;obtain⟨cnt,h5,h6,g3⟩:=UY dh;obtain⟨wk,hl,hw,g4⟩:=UZ dh h6;obtain⟨ws,Xb,hW,g5⟩:=U0 dh h6 hu ho hl hw;have wl:ws.length=cnt:=by have :=congrArg PH Xb;rw[ph,ph,hl] at this;exact this
 obtain⟨c,e,he,g6⟩:=U3 dh h5 h6 wl hW;have Er:ws.length<=10:=wl▸h6
 have Xc:=yR (c6:=c) (e:=e) Er hW;have Lu:=yM e he (LN ws c) (λh=>by have :=congrArg PH h;rw[ph,iT] at this;have h0:ws.length=0:=this;exact aL (nat_lit 0x909611031159010902103) ae h0 h5 wl) [] rfl
 rw[Hm,ph,iT,wl,GU] at Lu;generalize txtL (LN ws c) e=t at g6 Xc Lu;obtain⟨a,kT,B,hT,g7⟩:=U4 (d:=d) (H:=X++[.gone]) (cs:=cs) (o:=o) (wk:=wk) (rs:=ws.map (·.1)) (show t.length<1000 by exact aS (nat_lit 0x3e83f011c8e01101) ae Xc) h6;rw[Lu] at g7;have kt:(Au a kT (1+eO t) B (ir ws) [])[kT]?=some (.lst ((ir ws).map ao)):=(Lx.Am hT.n1 hT.n2 hT.n3).trans (tA hT.lt)
 have Xd:ED ws=wk.map λs=>(bU o).getD s []:=Xb
 have ok:=hT.ok.CK (o:=.lst ((ir ws).map ao)) hT.n4;have nl:(ED ws).length=cnt:=by rw[ph,wl]
 obtain⟨aj,W,g⟩:=HY (d:=d) (av:=1+eO t-eO []) ok dh h6 nl (λh=>by rw[h] at nl;have :0=cnt:=nl;exact aS (nat_lit 0x90961059010093102) ae this h5) (o:=o) λw Nr=>by
  rw[Xd] at Nr;obtain⟨m,hm,rfl⟩:=xt.mp Nr;have h4:m<(bU o).length:=hw m hm
  rw[tv,sg h4];exact FC _
 have hx:a.bh (B.set kT (.lst ((ir ws).map ao))) (1+eO t-eO []) [] []=Au a kT (1+eO t) B (ir ws) []:=by show a.hp (B.set kT (.lst ((ir ws).map ao))++[]) _ [] []=_;rw[rn]
 rw[hx] at g;exact⟨W,Lr (bq g0 (bq g1 (bq UX (bq g3 (bq g4 (bq g5 (bq g6 (bq g7 (bq (U5 Er hT) (bq (U8 Er hW kt) (bq (Pz Er wl hW kt) (bq (PA Er (hl▸h6) hw Xd) g))))))))))))⟩
end
end Mine
end
noncomputable section
open PySem PySem.W PySem.Calls PyProof.Rows
def Mine.dL:DefRec:=(DefRec.ofStmt? (Hd.st 22)).get (by kernel_rfl)
theorem Mine.good0:Mine.Good Mine.w0:=by intro s p loose ur mg mb fa a vs ns m E dp TT T hf g hI hl;obtain⟨H',run⟩:=Mine.Ls (d:=0) ns [];exact Mine.F_ dp TT T hf g hI hl run
theorem Mine.Es(w:Pm):Mine.Good w:=by apply xf (p:=Mine.Good w);intro h;exact Classical.epsilon_spec (p:=λw=>¬Mine.Good w) ⟨w,h⟩ Mine.good0
set_option tactic.hygienic true in
theorem PySem.Challenge.cw_xb0034_02_holds : PySem.Challenge.rw_xb0034_02.Holds := by
 refine PySem.W.holds_law (by kernel_rfl) λaaa=>?_
 refine PySem.W.holds_open (d:=Mine.dL) (kwd:=[]) (q:=Hd.qv) (loose:=Hd.sf) (Xt:=Hd.RT) (XP:=XL Hd.qv []) (Yf:=Hook.obs Hd.hk) (Ya:=Hook.val Hd.hk) (YP:=Hook.says Hd.hk) Hd.Mu (Hook.of Hd.hk) (Hook.keeps Hd.hk) (λs e=>xl_of s (Mine.a_ e).1) XL.keeps (by kernel_rfl) (by kernel_rfl) (by kernel_rfl) (λs e=>recFacts_of (Mine.a_ e).2) (by rfl) (by assumption) (by decide+kernel) ⟨rfl,rfl,rfl,rfl,rfl,by decide+kernel⟩ ?hw ?hc
 case hw=>w_witness2
 intro w a7 s₁ mg mb G Y fa o pm cd doc dV kV ho hd M9 hD hmg hg args vals as Fo VM hrd Q2 Ir;have dp:(Hd.kF w.params).In s₁.heap:=km_in_of Y
 have TT:=km_tabs_of Y;refine Ground.open G ?_;intro T B D TE TW
 wrow_args Fo VM hrd Q2 Ir
 rename_i ns _ _ _ _ _ _ _ a vs _ hL _ w1 _ hI _ Xe _;have hlen:ns.length<64:=by omega
 have g:=Mine.F9 w1 hL;refine wb (Mine.Es w dp TT T hmg g hI hlen) (λv s' h=>?_) λb b e=>e
 obtain⟨rfl,hold,tY,Qh⟩:=h;refine⟨.inl ⟨_,.bool true,[],rfl,λb=>rfl,.bool true,?_,λb=>⟨Iy,λa ha=>by cases ha⟩⟩,hold,tY,.of_eq (Qh.trans hg)⟩
 first|rfl|kernel_rfl|(unfold rw_xb0034_02;rfl)
end
