/- A compiled tree is one that the walk treats rightly, where the parsed one loses no ways. -/
import Derived.Test.YtfejflhgaphilaaGreatDoorC15
set_option linter.all false
set_option maxRecDepth 100000
set_option maxHeartbeats 64000000
namespace Go.Proofs.YtfejflhgaphilaaGreatDoor.Gm
variable {t a b c:T} {ts:List T}
mutual
def raw:T->Prop
 |.star _ nx tm=>nx=[]/\tm=false
 |.pre _ _=>False
 |.eP _ _=>False
 |.dN _ _ _=>False
 |.cont _=>False
 |.eh _=>False
 |.alt l=>l≠[]/\wv l
 |.dH l=>wv l
 |_=>True
def wv:List T->Prop
 | []=>True
 |t::ts=>raw t/\wv ts
end
mutual
def jG:Bool->T->Prop
 |_,.star _ nx tm=>nx=[]/\tm=false
 |τ,.pre _ _=>τ=true
 |τ,.eP _ _=>τ=true
 |τ,.dN _ _ _=>τ=true
 |τ,.cont _=>τ=true
 |_,.eh _=>False
 |τ,.alt l=>2<=l.length/\m5 τ l
 |τ,.dH l=>fO τ l
 |_,_=>True
def m5:Bool->List T->Prop
 |_,[]=>True
 |τ,t::ts=>jG τ t/\m5 τ ts
def fO:Bool->List T->Prop
 |_,[]=>True
 |τ,t::ts=>t.eV=false/\jG (τ&&ts.isEmpty) t/\fO τ ts
end
theorem j5:∀(a b:List T),fO false (a++b)↔fO false a/\fO false b
 | [],b=>by simp[fO]
 |t::a,b=>by simp[fO,j5 a b,and_assoc]
mutual
theorem Ip:∀(t:T) (out:List T),jG false t->fO false out->fO false (push t out)
 |.dH l,out,ht,ho=>by simp only[push];exact Dz l out (by simpa[jG]using ht) ho
 |.void,out,ht,ho=>by simpa only[push]using ho
 |.text t,out,ht,ho=>by
  simp only[push];rcases gH out with rfl|⟨i,x,rfl⟩
  ·simp[fO,jG,T.eV]
  ·simp only[bZ,b6];cases x<;>(simp only[j5,fO,jG,T.eV,cr,and_true,true_and]at ho⊢;first|exact ho|exact ho.1|trivial)
 |.star sep nx tm,out,ht,ho=>by
  simp only[push];simp only[jG]at ht;rcases gH out with rfl|⟨i,x,rfl⟩
  ·simp[fO,jG,T.eV,ht]
  ·simp only[bZ,b6];cases x<;>dsimp only<;>(try (exact(j5 _ _).2 ⟨ho,by simp only[fO,jG,T.eV,and_true,true_and];exact ht⟩));split
   ·simp only[j5,fO,jG,T.eV,and_true,true_and]at ho⊢;exact⟨ho.1,ht⟩
   ·exact ho
 |.char _,out,ht,ho|.range _ _ _,out,ht,ho|.set _ _,out,ht,ho=>by simp only[push,j5,fO,jG,T.eV,and_true];exact ho
 |.pre _ _,out,ht,ho|.eP _ _,out,ht,ho|.dN _ _ _,out,ht,ho|.cont _,out,ht,ho|.eh _,out,ht,ho=>by simp[jG]at ht
 |.alt _,out,ht,ho=>by simp only[push,j5,fO,T.eV,and_true,true_and,cr];exact⟨ho,ht⟩
theorem Dz:∀(l:List T) (out:List T),fO false l->fO false out->fO false (fv l out)
 | [],out,_,ho=>by simpa[fv]using ho
 |t::ts,out,hl,ho=>by simp only[fO,cr]at hl;simp only[fv];exact Dz ts _ hl.2.2 (Ip t out hl.2.1 ho)
end
theorem DA:∀(l:List T) (out:List T),m5 false l->fO false out->fO false (fv l out)
 | [],out,_,ho=>by simpa[fv]using ho
 |t::ts,out,hl,ho=>by simp only[m5]at hl;simp only[fv];exact DA ts _ hl.2 (Ip t out hl.1 ho)
theorem A4:∀(l:List T) (p:Option T),fD p l=false->m5 false l->fO false l
 | [],_,_,_=>trivial
 |t::ts,p,h,hl=>by simp only[fD,Bool.or_eq_false_iff]at h;simp only[m5]at hl;simp only[fO,cr];exact⟨h.1.1.1.1,hl.1,A4 ts _ h.2 hl.2⟩
theorem SR (l:List T) (h:m5 false l):fO false (norm l):=by
 unfold norm;split
 ·exact DA l [] h trivial
 ·rename_i hn;exact A4 l none (by simpa using hn) h
mutual
theorem Il:∀(t:T),raw t->jG false (simp t)
 |.dH l,h=>by
  simp only[simp];have:=SR _ (xn l (by simpa[raw]using h))
  match norm (fh l),this with
  | [],_=>trivial
  | [t],h=>simp only[fO,cr]at h;exact h.2.1
  |t::u::l,h=>simpa only[oneOf,jG]using h
 |.alt l,h=>by
  simp only[raw]at h;simp only[simp];have:=xn l h.2
  match fh l,this with
  | [],_=>trivial
  | [t],h=>simp only[m5]at h;exact h.1
  |t::u::l,h=>simp only[oneOf,jG];exact⟨by simp,h⟩
 |.star _ _ _,h=>by simpa[simp,jG,raw]using h
 |.eh _,h|.pre _ _,h|.eP _ _,h|.dN _ _ _,h|.cont _,h=>by simp[raw]at h
 |.text _,_|.char _,_|.range _ _ _,_|.set _ _,_|.void,_=>by simp[simp,jG]
theorem xn:∀(l:List T),wv l->m5 false (fh l)
 | [],_=>trivial
 |t::ts,h=>by simp only[wv]at h;simp only[fh,m5];exact⟨Il t h.1,xn ts h.2⟩
end
mutual
theorem z7:∀(t:T),raw t->t.full=true
 |.dH l,h=>by simp only[raw]at h;simp only[T.full];exact wu l h
 |.alt l,h=>by simp only[raw]at h;simp only[T.full,al,cQ,dh];exact⟨h.1,wu l h.2⟩
 |.eh _,h|.pre _ _,h|.eP _ _,h|.dN _ _ _,h|.cont _,h=>by simp[raw]at h
 |.star _ _ _,_|.text _,_|.char _,_|.range _ _ _,_|.set _ _,_|.void,_=>by simp[T.full]
theorem wu:∀(l:List T),wv l->x9 l=true
 | [],_=>rfl
 |t::ts,h=>by simp only[wv]at h;simp only[x9,al];exact⟨z7 t h.1,wu ts h.2⟩
end
theorem Ii (h:gz a b=some c):c.eV=false/\jG true c:=by unfold gz at h;split at h<;>(try split at h)<;>(try cases h)<;>simp[T.eV,jG]
theorem uT:∀(l:List T),dZ l=[]->l=[]
 | [],_=>rfl
 |t::ts,h=>by
  simp only[dZ]at h;split at h
  ·split at h<;>simp at h
  ·simp at h
theorem uV:∀(l:List T),fO true l->fO true (dZ l)
 | [],_=>trivial
 |t::ts,h=>by
  simp only[fO]at h;have ih:=uV ts h.2.2;simp only[dZ];split
  ·rename_i u hu;rw[hu]at ih;have eK:ts≠[]:=(by rintro rfl;simp[dZ]at hu);have hf:ts.isEmpty=false:=by simpa using eK
   rw[hf]at h;split
   ·rename_i c hc;have:=Ii hc;simp only[fO,cy,cG,and_true];exact this
   ·simp only[fO,cZ,cy,cG,cj,and_true]at ih h⊢;exact⟨h.1,h.2.1,ih⟩
  ·simp only[fO];refine⟨h.1,?_,ih⟩;have:(dZ ts).isEmpty=ts.isEmpty:=by
    cases ts with
    |nil=>rfl
    |cons u us=>
     cases hz:dZ (u::us)with
     |nil=>exact absurd (uT _ hz) (by simp)
     |cons _ _=>rfl
   rw[this];exact h.2.1
theorem FJ (τ:Bool) (t:T) (h:t.eV=false):(jD τ t).eV=false:=by cases t<;>simp_all[T.eV,jD]
mutual
theorem EU:∀(t:T),jG false t->jG true (jD true t)
 |.alt l,h=>by simp only[jG]at h;simp only[jD,jG];exact⟨by have:=mx l true;omega,Ik l h.2⟩
 |.dH l,h=>by
  simp only[jG]at h;simp only[jD,if_true];have:=uV _ (Ij l h)
  match dZ (gx true l),this with
  | [],_=>trivial
  | [t],h=>simp only[fO,cy,cG]at h;exact h.2.1
  |t::u::l,h=>simpa only[fk,jG]using h
 |.star _ _ _,h=>by simpa[jD,jG]using h
 |.eh _,h|.pre _ _,h|.eP _ _,h|.dN _ _ _,h|.cont _,h=>by simp[jG]at h
 |.text _,_|.char _,_|.range _ _ _,_|.set _ _,_|.void,_=>by simp[jD,jG]
theorem mx:∀(l:List T) (τ:Bool),(ki τ l).length=l.length
 | [],_=>rfl
 |t::ts,τ=>by simp[ki,mx ts τ]
theorem Ik:∀(l:List T),m5 false l->m5 true (ki true l)
 | [],_=>trivial
 |t::ts,h=>by simp only[m5]at h;simp only[ki,m5];exact⟨EU t h.1,Ik ts h.2⟩
theorem Ij:∀(l:List T),fO false l->fO true (gx true l)
 | [],_=>trivial
 | [t],h=>by simp only[fO,cr]at h;simp only[gx,fO,cy,cG,and_true];exact⟨FJ _ t h.1,EU t h.2.1⟩
 |t::u::ts,h=>by
  have ih:=Ij (u::ts) (by simp only[fO]at h⊢;exact h.2.2);simp only[fO,cr]at h;have e:gx true (t::u::ts)=t::gx true (u::ts):=by rw[gx];simp only[cZ,cj,ma]
  rw[e];have he:(gx true (u::ts)).isEmpty=false:=by simp[gx]
  rw[fO,he,cj];exact⟨h.1,h.2.1,ih⟩
end
def qh:T->List T->Prop
 |.star _ nx _,ts=>nx=[]\/∃u us,ts=u::us/\nx=lead u
 |_,_=>True
def bare:T->Prop
 |.star _ nx _=>nx=[]
 |_=>True
mutual
def fin:Bool->T->Prop
 |τ,.star _ _ tm=>tm=τ
 |τ,.pre _ _=>τ=true
 |τ,.eP _ _=>τ=true
 |τ,.dN _ _ _=>τ=true
 |τ,.cont _=>τ=true
 |τ,.eh l=>τ=true/\l≠[]/\fW l=true/\oV true l
 |τ,.alt l=>2<=l.length/\oV τ l
 |τ,.dH l=>nm τ l
 |_,_=>True
def oV:Bool->List T->Prop
 |_,[]=>True
 |τ,t::ts=>bare t/\fin τ t/\oV τ ts
def nm:Bool->List T->Prop
 |_,[]=>True
 |τ,t::ts=>t.eV=false/\fin (τ&&ts.isEmpty) t/\qh t ts/\nm τ ts
end
theorem yp (l:List T) (t:T):(fA l t).eV=t.eV:=by cases l<;>cases t<;>rfl
theorem I2 (τ:Bool) (t:T):(js τ t).eV=t.eV:=by cases t<;>simp only[js,T.eV]
theorem Eu (l:List T) (t:T):lead (fA l t)=lead t:=by cases l<;>cases t<;>rfl
theorem Rr (τ:Bool) (t:T):lead (js τ t)=lead t:=by cases t<;>simp only[js,lead]
theorem Im (τ:Bool) (l:List T) (t:T):fin τ (fA l t)↔fin τ t:=by cases l<;>cases t<;>simp only[fA,fin]
theorem I0 {τ:Bool} (h:jG τ t) (τ':Bool):bare (js τ' t):=by cases t<;>simp_all[js,bare,jG]
theorem kV:∀(l:List T) (τ:Bool),(mR τ l).length=l.length
 | [],_=>rfl
 |t::ts,τ=>by simp[mR,kV ts τ]
mutual
theorem EW:∀(t:T) (τ:Bool),jG τ t->fin τ (js τ t)
 |.alt l,τ,h=>by simp only[jG]at h;simp only[js,fin];exact⟨by have:=kV l τ;omega,It l τ h.2⟩
 |.dH l,τ,h=>by simp only[jG]at h;simp only[js,fin];exact Is l τ h
 |.star _ _ _,τ,h=>by simp[js,fin]
 |.eh _,τ,h=>by simp[jG]at h
 |.pre _ _,τ,h|.eP _ _,τ,h|.dN _ _ _,τ,h|.cont _,τ,h=>by simpa[js,fin,jG]using h
 |.text _,_,_|.char _,_,_|.range _ _ _,_,_|.set _ _,_,_|.void,_,_=>by simp[js,fin]
theorem It:∀(l:List T) (τ:Bool),m5 τ l->oV τ (mR τ l)
 | [],_,_=>trivial
 |t::ts,τ,h=>by simp only[m5]at h;simp only[mR,oV];exact⟨I0 h.1 τ,EW t τ h.1,It ts τ h.2⟩
theorem Is:∀(l:List T) (τ:Bool),fO τ l->nm τ (kn τ l)
 | [],_,_=>trivial
 |t::ts,τ,h=>by
  simp only[fO]at h;have he:(kn τ ts).isEmpty=ts.isEmpty:=by cases ts<;>simp[kn]
  simp only[kn,nm];rw[he,yp,I2,Im];refine⟨h.1,EW t _ h.2.1,?_,Is ts τ h.2.2⟩;cases ts with
  |nil=>
   simp only[fA];cases t with
   |star sep nx tm=>simp only[jG]at h;simp only[js,qh];exact .inl h.2.1.1
   |_=>simp only[js,qh]
  |cons u us=>
   cases t with
   |star sep nx tm=>simp only[js,fA,qh];exact .inr ⟨_,_,by rw[kn],by rw[Eu,Rr]⟩
   |_=>simp only[js,fA,qh]
end
mutual
theorem nP:∀(t:T) (τ:Bool),fin τ t->needs t=false->t.still=true
 |.alt l,τ,_,h=>by simp[needs]at h
 |.dH l,τ,hf,h=>by simp only[needs]at h;simp only[fin]at hf;simp only[T.still];exact pn l τ hf h
 |.star _ _ tm,τ,_,h=>by simpa[needs,T.still]using h
 |.eh l,τ,hf,h=>by simp only[fin]at hf;simp only[T.still];exact hf.2.2.1
 |.pre _ _,_,_,_|.eP _ _,_,_,_|.dN _ _ _,_,_,_|.cont _,_,_,_|.text _,_,_,_|.char _,_,_,_|.range _ _ _,_,_,_|.set _ _,_,_,_|.void,_,_,_=>by simp[T.still]
theorem po:∀(l:List T) (τ:Bool),oV τ l->iA l=false->fW l=true
 | [],_,_,_=>rfl
 |t::ts,τ,hf,h=>by simp only[iA,Bool.or_eq_false_iff]at h;simp only[oV]at hf;simp only[fW,al];exact⟨nP t τ hf.2.1 h.1,po ts τ hf.2.2 h.2⟩
theorem pn:∀(l:List T) (τ:Bool),nm τ l->iA l=false->fW l=true
 | [],_,_,_=>rfl
 |t::ts,τ,hf,h=>by simp only[iA,Bool.or_eq_false_iff]at h;simp only[nm]at hf;simp only[fW,al];exact⟨nP t _ hf.2.1 h.1,pn ts τ hf.2.2.2 h.2⟩
end
theorem Ih (τ:Bool) (t:T):(ji τ t).eV=t.eV:=by
 cases t with
 |alt l=>simp only[ji];split<;>rfl
 |dH l=>simp only[ji,T.eV]
 |_=>simp only[ji]
theorem Rq (τ:Bool) (t:T):lead (ji τ t)=lead t:=by
 cases t with
 |alt l=>simp only[ji];split<;>rfl
 |dH l=>simp only[ji,lead]
 |_=>simp only[ji]
theorem IZ (h:bare t) (τ:Bool):bare (ji τ t):=by
 cases t with
 |alt l=>simp only[ji];split<;>trivial
 |star _ _ _=>simpa only[ji]using h
 |_=>simp only[ji,bare]
theorem mG:∀(l:List T) (τ:Bool),(jr τ l).length=l.length
 | [],_=>rfl
 |t::ts,τ=>by simp[jr,mG ts τ]
mutual
theorem EV:∀(t:T) (τ:Bool),fin τ t->fin τ (ji τ t)
 |.alt l,τ,h=>by
  simp only[fin]at h;simp only[ji];have hA:=Ir l τ h.2;split
  ·rename_i hc;simp only[al,cQ]at hc;simp only[fin];obtain⟨rfl,hc⟩:=hc;refine⟨rfl,λe=> ?_,po _ true hA hc,hA⟩;have:=mG l true;rw[e]at this;simp at this;omega
  ·simp only[fin];exact⟨by have:=mG l τ;omega,hA⟩
 |.dH l,τ,h=>by simp only[fin]at h;simp only[ji,fin];exact Iq l τ h
 |.eh _,τ,h|.star _ _ _,τ,h|.pre _ _,τ,h|.eP _ _,τ,h|.dN _ _ _,τ,h|.cont _,τ,h=>by simpa only[ji]using h
 |.text _,_,_|.char _,_,_|.range _ _ _,_,_|.set _ _,_,_|.void,_,_=>by simp[ji,fin]
theorem Ir:∀(l:List T) (τ:Bool),oV τ l->oV τ (jr τ l)
 | [],_,_=>trivial
 |t::ts,τ,h=>by simp only[oV]at h;simp only[jr,oV];exact⟨IZ h.1 τ,EV t τ h.2.1,Ir ts τ h.2.2⟩
theorem Iq:∀(l:List T) (τ:Bool),nm τ l->nm τ (jC τ l)
 | [],_,_=>trivial
 |t::ts,τ,h=>by
  simp only[nm]at h;have he:(jC τ ts).isEmpty=ts.isEmpty:=by cases ts<;>simp[jC]
  simp only[jC,nm];rw[he,Ih];refine⟨h.1,EV t _ h.2.1,?_,Iq ts τ h.2.2.2⟩;have hn:=h.2.2.1;cases t with
  |star sep nx tm=>
   simp only[ji,qh]at hn⊢;rcases hn with hn|⟨u,us,rfl,hn⟩
   ·exact .inl hn
   ·exact .inr ⟨_,_,by rw[jC],by rw[Rq];exact hn⟩
  |alt l=>simp only[ji];split<;>simp only[qh]
  |_=>simp only[ji,qh]
end
theorem A5 (t:T) (h:raw t):fin true (comp t)/\bare (comp t):=
 have:=EU _ (Il t h)
 ⟨EV _ _ (EW _ _ this),IZ (I0 this _) _⟩
theorem JE (hf:fin false t) (hs:t.still=true) (hm:t.eV=false):t.width.isSome=true:=by cases t<;>simp_all[fin,T.still,T.eV,T.width]
theorem zy (h:t.width.isSome=true):t.iD=true/\t.wf=true:=by cases t<;>simp_all[T.width,T.iD,T.wf]
theorem tc {p:dE->Bool}:∀{l:List dE},(∀c∈l,p c=true)->l.dropWhile p=[]
 | [],_=>rfl
 |c::l,h=>by rw[List.dropWhile_cons,if_pos (h c (cd ..))];exact tc λd hd=>h d (bJ _ hd)
mutual
theorem qA:∀(t:T),fin true t->t.still=true->Tl t
 |.text _,_,_=>λr h=>nT _ _ _ rfl h
 |.char _,_,_=>λr h=>nT _ _ _ rfl h
 |.range _ _ _,_,_=>λr h=>nT _ _ _ rfl h
 |.set _ _,_,_=>λr h=>nT _ _ _ rfl h
 |.void,_,_=>λr h=>nT _ _ _ rfl h
 |.star sep nx tm,hf,_=>λr h=>by simp only[fin]at hf;subst hf;simp only[D]at h;obtain⟨u,rfl,hu⟩:=h;simp only[res,M,if_true,bd,ae];exact tc λc hc=>by simpa using hu c hc
 |.pre t sep,_,_=>λr h=>by simp only[D,true_and]at h;obtain⟨u,rfl,hu⟩:=h;simp[res,M,(jf sep u).2 hu]
 |.eP t sep,_,_=>λr h=>by simp only[D,true_and]at h;obtain⟨u,rfl,hu⟩:=h;simp[res,M,(jf sep u).2 hu]
 |.dN p q sep,_,_=>λr h=>by
  simp only[D,true_and]at h;obtain⟨u,rfl,hu⟩:=h;have h1:q.isSuffixOf (p++(u++q))=true:=by rw[cY];exact⟨p++u,by simp⟩
  have h2:((p++(u++q)).take ((p++(u++q)).length-q.length)).drop p.length=u:=by rw[show p++(u++q)=(p++u)++q by simp];rw[show((p++u)++q).length-q.length=(p++u).length by simp;omega];rw[cR];simp
  simp only[res,M];rw[h1,h2,(jf sep u).2 hu];simp
 |.cont t,_,_=>λr h=>by simp only[D,true_and]at h;simp[res,M,(mB t r).2 h]
 |.alt _,_,hs=>by simp[T.still]at hs
 |.dH l,hf,hs=>λr h=>by simp only[D]at h;simp only[fin]at hf;simp only[T.still]at hs;simp only[res,M];exact MI l hf hs 0 _ r _ rfl rfl h
 |.eh l,hf,hs=>λr h=>by simp only[D,true_and]at h;simp only[fin]at hf;simp only[res,M];exact MJ l hf.2.2.2 hf.2.2.1 _ r _ (by simp) h
theorem MI:∀(l:List T),nm true l->fW l=true->∀(i:Nat) (x:Ctx) (r:List dE) (s:St),x.path=[]->x.live=false->Ds l r []->(Ms l 0 i x r s).1=some []
 | [],_,_,i,x,r,s,_,_,h=>by simp only[Ds]at h;subst h;simp[Ms]
 | [t],hf,hs,i,x,r,s,hp,hl,h=>by simp only[nm,cy,cG]at hf;simp only[fW,cG]at hs;rw[ou]at h;have hM:=(np t hs x.next ⟨[],0,false,0,false⟩ r s ⟨[],[]⟩ (by simp[Ctx.next,hp]) (by simp)).1;have hT:=qA t hf.2.1 hs r h;simp only[Ms];rw[if_neg (by simp[hl])];rw[res]at hT;rw[hT]at hM;generalize M t x.next r s=m at hM⊢;obtain⟨o,s'⟩:=m;simp only at hM;subst hM;rfl
 |t::u::ts,hf,hs,i,x,r,s,hp,hl,h=>by
  have ih:=MI (u::ts) (by rw[nm]at hf;exact hf.2.2.2) (by simp only[fW,al]at hs⊢;exact hs.2);rw[nm]at hf;simp only[cZ,cj]at hf;have iW:t.still=true:=by simp only[fW,al]at hs;exact hs.1
  have hw:=JE hf.2.1 iW hf.1;rw[Ds]at h;obtain⟨m,h1,h2⟩:=h;rw[Ms];rw[if_neg (by simp[hl])];rw[MP (zy hw).1 (zy hw).2 (by simp[Ctx.next,hp]),nT t r m hw h1];exact ih (i+1) x m s hp hl h2
theorem MJ:∀(l:List T),oV true l->fW l=true->∀(x:Ctx) (r:List dE) (s:St),x.path.length<=x.depth->Da l r []->(Mt l x r s).1=some []
 | [],_,_,x,r,s,_,h=>by simp[Da]at h
 |t::ts,hf,hs,x,r,s,hx,h=>by
  simp only[oV]at hf;simp only[fW,al]at hs;simp only[Da]at h;have hM:=(np t hs.1 x ⟨[],0,false,0,false⟩ r s ⟨[],[]⟩ hx (by simp)).1;have hT:=qA t hf.2.1 hs.1 r;rw[res]at hT;rw[<-hM]at hT;have dU:=λ(s':St) (hd:Da ts r [])=>MJ ts hf.2.2 hs.2 x r s' hx hd;simp only[Mt];generalize M t x r s=m at hT⊢;obtain⟨o,s'⟩:=m;simp only at hT
  match o,hT with
  |some [],_=>rfl
  |none,hT=>
   rcases h with h|h
   ·have:=hT h;simp at this
   ·exact dU s' h
  |some (a::b),hT=>
   rcases h with h|h
   ·have:=hT h;simp at this
   ·exact dU s' h
end
abbrev Ls:=Bool×Bool
def Ls.le (a b:Ls):Prop:=(a.1=true->b.1=true)/\(a.2=true->b.2=true)
theorem Ls.le_refl (a:Ls):Ls.le a a:=⟨id,id⟩
theorem Ls.le_trans {a b c:Ls} (h:Ls.le a b) (k:Ls.le b c):Ls.le a c:=⟨λx=>k.1 (h.1 x),λx=>k.2 (h.2 x)⟩
mutual
def lost:T->Ls->Option Ls
 |.star _ _ _,s=>if s.2 then none else some (true,s.2)
 |.dH l,s=>ef l s
 |.alt l,s=>ef l (s.1,s.2||(s.1&&decide (1<l.length)))
 |_,s=>some s
def ef:List T->Ls->Option Ls
 | [],s=>some s
 |t::ts,s=>match lost t s with
  |none=>none
  |some s'=>ef ts s'
end
mutual
theorem uw:∀(t:T) (s u:Ls),lost t s=some u->Ls.le s u
 |.star _ _ _,s,u,h=>by
  simp only[lost]at h;split at h
  ·cases h
  ·cases h;exact⟨λ_=>rfl,id⟩
 |.dH l,s,u,h=>by simp only[lost]at h;exact pC l s u h
 |.alt l,s,u,h=>by simp only[lost]at h;have:=pC l _ u h;exact⟨λx=>this.1 x,λx=>this.2 (by simp[x])⟩
 |.eh _,s,u,h|.text _,s,u,h|.char _,s,u,h|.range _ _ _,s,u,h|.set _ _,s,u,h|.void,s,u,h|.pre _ _,s,u,h|.eP _ _,s,u,h|.dN _ _ _,s,u,h|.cont _,s,u,h=>by simp only[lost,ae]at h;subst h;exact Ls.le_refl _
theorem pC:∀(l:List T) (s u:Ls),ef l s=some u->Ls.le s u
 | [],s,u,h=>by simp only[ef,ae]at h;subst h;exact Ls.le_refl _
 |t::ts,s,u,h=>by
  simp only[ef]at h;split at h
  ·cases h
  ·rename_i s' hs;exact Ls.le_trans (uw t s s' hs) (pC ts s' u h)
end
mutual
theorem Ox:∀(t:T) (s s' u':Ls),Ls.le s s'->lost t s'=some u'->∃u,lost t s=some u/\Ls.le u u'
 |.star _ _ _,s,s',u',hle,h=>by
  simp only[lost]at h⊢;split at h
  ·cases h
  ·rename_i hc;cases h;have hs:s.2=false:=by
    cases hh:s.2 with
    |false=>rfl
    |true=>exact absurd (hle.2 hh) hc
   rw[hs];exact⟨_,rfl,⟨λ_=>rfl,λh=>by simp at h⟩⟩
 |.dH l,s,s',u',hle,h=>by simp only[lost]at h⊢;exact kq l s s' u' hle h
 |.alt l,s,s',u',hle,h=>by simp only[lost]at h⊢;refine kq l (s.1,s.2||(s.1&&decide (1<l.length))) (s'.1,s'.2||(s'.1&&decide (1<l.length))) u' ⟨hle.1,λh=> ?_⟩ h;simp only[cC,al]at h⊢;exact h.imp hle.2 (And.imp_left hle.1)
 |.eh _,s,s',u',hle,h|.text _,s,s',u',hle,h|.char _,s,s',u',hle,h|.range _ _ _,s,s',u',hle,h|.set _ _,s,s',u',hle,h|.void,s,s',u',hle,h|.pre _ _,s,s',u',hle,h|.eP _ _,s,s',u',hle,h|.dN _ _ _,s,s',u',hle,h|.cont _,s,s',u',hle,h=>by simp only[lost,ae]at h⊢;subst h;exact⟨s,rfl,hle⟩
theorem kq:∀(l:List T) (s s' u':Ls),Ls.le s s'->ef l s'=some u'->∃u,ef l s=some u/\Ls.le u u'
 | [],s,s',u',hle,h=>by simp only[ef,ae]at h⊢;subst h;exact⟨s,rfl,hle⟩
 |t::ts,s,s',u',hle,h=>by
  simp only[ef]at h⊢;split at h
  ·cases h
  ·rename_i v' hv;obtain⟨v,h1,h2⟩:=Ox t s s' v' hle hv;rw[h1];exact kq ts v v' u' h2 h
end
theorem jZ:∀(a b:List T) (s:Ls),ef (a++b) s=match ef a s with|none=>none|some s'=>ef b s'
 | [],b,s=>rfl
 |t::a,b,s=>by
  simp only[aJ,ef];cases h:lost t s with
  |none=>rfl
  |some s'=>simp only[jZ a b s']
def ee (a b:Ls->Option Ls):Prop:=∀s u,a s=some u->∃u',b s=some u'/\Ls.le u' u
theorem ee.refl (a:Ls->Option Ls):ee a a:=λ_ u h=>⟨u,h,Ls.le_refl _⟩
theorem ee.trans {a b c:Ls->Option Ls} (h:ee a b) (k:ee b c):ee a c:=λs u hu=>by obtain⟨v,h1,h2⟩:=h s u hu;obtain⟨x,h3,h4⟩:=k s v h1;exact⟨x,h3,Ls.le_trans h4 h2⟩
theorem ee.skip (a:Ls->Option Ls) (h:∀s u,a s=some u->Ls.le s u):ee a some:=λs u hu=>⟨s,rfl,h s u hu⟩
theorem ee.cons {t':T} {nO:List T} (h:ee (lost t) (lost t')) (k:ee (ef ts) (ef nO)):ee (ef (t::ts)) (ef (t'::nO)):=λs u hu=>by
 simp only[ef]at hu⊢;split at hu
 ·cases hu
 ·rename_i v hv;obtain⟨v',h1,h2⟩:=h s v hv;rw[h1];obtain⟨x,h3,h4⟩:=k v u hu;obtain⟨y,h5,h6⟩:=kq nO v' v x h2 h3;exact⟨y,h5,Ls.le_trans h6 h4⟩
theorem ee.append {a a' b b':List T} (h:ee (ef a) (ef a')) (k:ee (ef b) (ef b')):ee (ef (a++b)) (ef (a'++b')):=λs u hu=>by
 rw[jZ]at hu⊢;split at hu
 ·cases hu
 ·rename_i v hv;obtain⟨v',h1,h2⟩:=h s v hv;rw[h1];obtain⟨x,h3,h4⟩:=k v u hu;obtain⟨y,h5,h6⟩:=kq b' v' v x h2 h3;exact⟨y,h5,Ls.le_trans h6 h4⟩
theorem nE (t:T) (s:Ls):ef [t] s=lost t s:=by simp only[ef];cases lost t s<;>rfl
mutual
theorem Ov:∀(t:T) (out:List T),ee (ef (out++[t])) (ef (push t out))
 |.dH l,out=>by simp only[push];refine ee.trans ?_ (tA l out);refine ee.append (ee.refl _) ?_;intro s u hu;rw[nE]at hu;simp only[lost]at hu;exact⟨u,hu,Ls.le_refl _⟩
 |.void,out=>by
  simp only[push];intro s u hu;rw[jZ]at hu;split at hu
  ·cases hu
  ·rename_i v hv;simp only[ef,lost,ae]at hu;exact⟨v,hv,hu▸Ls.le_refl _⟩
 |.text t,out=>by
  simp only[push];rcases gH out with rfl|⟨i,x,rfl⟩
  ·exact ee.refl _
  ·simp only[bZ,b6];cases x<;>dsimp only<;>(try exact ee.refl _);rw[aD];refine ee.append (ee.refl _) ?_;intro s u hu;simp only[aJ,bw,ef,lost]at hu⊢;exact⟨u,hu,Ls.le_refl _⟩
 |.star sep nx tm,out=>by
  simp only[push];rcases gH out with rfl|⟨i,x,rfl⟩
  ·exact ee.refl _
  ·simp only[bZ,b6];cases x<;>dsimp only<;>(try exact ee.refl _);have key:∀(sep0 nx0:List dE) (tm0:Bool) (y:T),(∃a b c,y=.star a b c)->ee (ef (i++[y]++[.star sep nx tm])) (ef (i++[.star sep0 nx0 tm0])):=by
    rintro sep0 nx0 tm0 y ⟨a,b,c,rfl⟩;rw[aD];refine ee.append (ee.refl _) ?_;intro s u hu;simp only[aJ,bw,ef,lost]at hu⊢;cases hc:s.2 with
    |true=>simp[hc]at hu
    |false=>simp only[hc,aM,if_false]at hu⊢;exact⟨u,hu,Ls.le_refl _⟩
   split
   ·exact key _ _ _ _ ⟨_,_,_,rfl⟩
   ·exact key _ _ _ _ ⟨_,_,_,rfl⟩
 |.char _,out|.range _ _ _,out|.set _ _,out|.pre _ _,out|.eP _ _,out|.dN _ _ _,out|.cont _,out|.alt _,out|.eh _,out=>by simp only[push];exact ee.refl _
theorem tA:∀(l:List T) (out:List T),ee (ef (out++l)) (ef (fv l out))
 | [],out=>by simp only[fv,bd];exact ee.refl _
 |t::ts,out=>by simp only[fv];refine ee.trans ?_ (tA ts (push t out));rw[show out++t::ts=(out++[t])++ts by simp];exact ee.append (Ov t out) (ee.refl _)
end
theorem Ow (l:List T):ee (ef l) (ef (norm l)):=by
 unfold norm;split
 ·exact tA l []
 ·exact ee.refl _
mutual
theorem Dg:∀(t:T),ee (lost t) (lost (simp t))
 |.dH l=>by
  simp only[simp];have h:=ee.trans (tz l) (Ow (fh l));intro s u hu;simp only[lost]at hu;obtain⟨u',h1,h2⟩:=h s u hu;refine⟨u',?_,h2⟩
  match norm (fh l),h1 with
  | [],h1=>simpa[oneOf,lost,ef]using h1
  | [t],h1=>rw[nE]at h1;simpa[oneOf]using h1
  |t::v::l,h1=>simpa only[oneOf,lost]using h1
 |.alt l=>by
  simp only[simp];have hlen:=je l;intro s u hu;simp only[lost]at hu;obtain⟨u',h1,h2⟩:=tz l _ u hu;refine⟨u',?_,h2⟩;rw[<-hlen]at h1
  match fh l,h1 with
  | [],h1=>simpa[oneOf,lost,ef]using h1
  | [t],h1=>rw[nE]at h1;simpa[oneOf]using h1
  |t::v::l,h1=>simpa only[oneOf,lost]using h1
 |.eh _|.star _ _ _|.text _|.char _|.range _ _ _|.set _ _|.void|.pre _ _|.eP _ _|.dN _ _ _|.cont _=>by simp only[simp];exact ee.refl _
theorem tz:∀(l:List T),ee (ef l) (ef (fh l))
 | []=>ee.refl _
 |t::ts=>by simp only[fh];exact ee.cons (Dg t) (tz ts)
end
theorem JV (h:gz a b=some c):ee (ef [a,b]) (ef [c]):=by
 have hc:∀s,ef [c] s=some s:=by intro s;rw[nE];unfold gz at h;split at h<;>(try split at h)<;>(try cases h)<;>simp[lost]
 intro s u hu;exact⟨s,hc s,pC _ _ _ hu⟩
theorem sV:∀(l:List T),ee (ef l) (ef (dZ l))
 | []=>ee.refl _
 |t::ts=>by
  have ih:=sV ts;simp only[dZ];split
  ·rename_i u hu;rw[hu]at ih;split
   ·rename_i c hc;exact ee.trans (ee.cons (ee.refl _) ih) (JV hc)
   ·exact ee.cons (ee.refl _) ih
  ·exact ee.cons (ee.refl _) ih
mutual
theorem Ao:∀(t:T),ee (lost t) (lost (jD true t))
 |.alt l=>by simp only[jD];intro s u hu;simp only[lost]at hu⊢;rw[mx];exact Df l _ u hu
 |.dH l=>by
  simp only[jD,if_true];intro s u hu;simp only[lost]at hu;obtain⟨u',h1,h2⟩:=ee.trans (De l) (sV _) s u hu;refine⟨u',?_,h2⟩
  match dZ (gx true l),h1 with
  | [],h1=>simpa only[fk,lost]using h1
  | [t],h1=>rw[nE]at h1;simpa[fk]using h1
  |t::v::l,h1=>simpa only[fk,lost]using h1
 |.eh _|.star _ _ _|.text _|.char _|.range _ _ _|.set _ _|.void|.pre _ _|.eP _ _|.dN _ _ _|.cont _=>by simp only[jD];exact ee.refl _
theorem Df:∀(l:List T),ee (ef l) (ef (ki true l))
 | []=>ee.refl _
 |t::ts=>by simp only[ki];exact ee.cons (Ao t) (Df ts)
theorem De:∀(l:List T),ee (ef l) (ef (gx true l))
 | []=>ee.refl _
 |t::ts=>by
  simp only[gx];refine ee.cons ?_ (De ts);cases ts.isEmpty
  ·simp only[cj,ma];exact ee.refl _
  ·exact Ao t
end
theorem Es (l:List T) (t:T):lost (fA l t)=lost t:=by funext s;cases l<;>cases t<;>simp only[fA,lost]
mutual
theorem Ar:∀(t:T) (τ:Bool),lost (js τ t)=lost t
 |.alt l,τ=>by funext s;simp only[js,lost,kV,Dk l τ]
 |.dH l,τ=>by funext s;simp only[js,lost,Dj l τ]
 |.star _ _ _,τ=>by funext s;simp only[js,lost]
 |.eh _,_|.text _,_|.char _,_|.range _ _ _,_|.set _ _,_|.void,_|.pre _ _,_|.eP _ _,_|.dN _ _ _,_|.cont _,_=>by simp only[js]
theorem Dk:∀(l:List T) (τ:Bool),ef (mR τ l)=ef l
 | [],_=>by simp only[mR]
 |t::ts,τ=>by funext s;simp only[mR,ef,Ar t τ,Dk ts τ]
theorem Dj:∀(l:List T) (τ:Bool),ef (kn τ l)=ef l
 | [],_=>by simp only[kn]
 |t::ts,τ=>by funext s;simp only[kn,ef,Es,Ar t,Dj ts τ]
end
mutual
theorem Aq:∀(t:T) (τ:Bool),ee (lost t) (lost (ji τ t))
 |.alt l,τ=>by
  simp only[ji];split
  ·exact ee.skip _ (uw _)
  ·intro s u hu;simp only[lost]at hu⊢;rw[mG];exact Di l τ _ u hu
 |.dH l,τ=>by simp only[ji];intro s u hu;simp only[lost]at hu⊢;exact Dh l τ s u hu
 |.eh _,_|.star _ _ _,_|.text _,_|.char _,_|.range _ _ _,_|.set _ _,_|.void,_|.pre _ _,_|.eP _ _,_|.dN _ _ _,_|.cont _,_=>by simp only[ji];exact ee.refl _
theorem Di:∀(l:List T) (τ:Bool),ee (ef l) (ef (jr τ l))
 | [],_=>by simp only[jr];exact ee.refl _
 |t::ts,τ=>by simp only[jr];exact ee.cons (Aq t τ) (Di ts τ)
theorem Dh:∀(l:List T) (τ:Bool),ee (ef l) (ef (jC τ l))
 | [],_=>by simp only[jC];exact ee.refl _
 |t::ts,τ=>by simp only[jC];exact ee.cons (Aq t _) (Dh ts τ)
end
theorem Oy (t:T):ee (lost t) (lost (comp t)):=by unfold comp;refine ee.trans ?_ (Aq _ _);rw[Ar];exact ee.trans (Dg t) (Ao _)
mutual
theorem E1:∀(t:T) (s:Bool) (u:Ls),lost t (s,true)=some u->t.calm=true
 |.star _ _ _,s,u,h=>by simp[lost]at h
 |.dH l,s,u,h=>by simp only[lost]at h;simp only[T.calm];exact jw l s u h
 |.alt l,s,u,h=>by simp only[lost,Bool.true_or]at h;simp only[T.calm];exact jw l s u h
 |.eh _,_,_,_|.text _,_,_,_|.char _,_,_,_|.range _ _ _,_,_,_|.set _ _,_,_,_|.void,_,_,_|.pre _ _,_,_,_|.eP _ _,_,_,_|.dN _ _ _,_,_,_|.cont _,_,_,_=>by simp only[T.calm]
theorem jw:∀(l:List T) (s:Bool) (u:Ls),ef l (s,true)=some u->eG l=true
 | [],_,_,_=>rfl
 |t::ts,s,u,h=>by
  simp only[ef]at h;split at h
  ·cases h
  ·rename_i v hv;simp only[eG,al];refine⟨E1 t s v hv,?_⟩;have:v.2=true:=(uw t _ v hv).2 rfl;obtain⟨v1,v2⟩:=v;simp only at this;subst this;exact jw ts v1 u h
end
mutual
theorem p5:∀(t:T) (s u:Ls),lost t s=some u->t.calm=false->u.1=true
 |.star _ _ _,s,u,h,_=>by
  simp only[lost]at h;split at h
  ·cases h
  ·cases h;rfl
 |.dH l,s,u,h,hc=>by simp only[lost]at h;simp only[T.calm]at hc;exact zI l s u h hc
 |.alt l,s,u,h,hc=>by simp only[lost]at h;simp only[T.calm]at hc;exact zI l _ u h hc
 |.eh _,_,_,_,hc|.text _,_,_,_,hc|.char _,_,_,_,hc|.range _ _ _,_,_,_,hc|.set _ _,_,_,_,hc|.void,_,_,_,hc|.pre _ _,_,_,_,hc|.eP _ _,_,_,_,hc|.dN _ _ _,_,_,_,hc|.cont _,_,_,_,hc=>by simp[T.calm]at hc
theorem zI:∀(l:List T) (s u:Ls),ef l s=some u->eG l=false->u.1=true
 | [],_,_,_,hc=>by simp[eG]at hc
 |t::ts,s,u,h,hc=>by
  simp only[ef]at h;split at h
  ·cases h
  ·rename_i v hv;cases ht:t.calm with
   |false=>exact(pC ts v u h).1 (p5 t s v hv ht)
   |true=>simp only[eG,ht,Bool.true_and]at hc;exact zI ts v u h hc
end
mutual
theorem xv:∀(t:T) (τ c:Bool) (u:Ls),fin τ t->lost t (true,c)=some u->t.jO=true
 |.dH l,τ,c,u,hf,h=>by simp only[lost]at h;simp only[fin]at hf;simp only[T.jO];exact lu l τ c u hf h
 |.alt l,τ,c,u,hf,h=>by
  simp only[fin]at hf;have h2:decide (1<l.length)=true:=by have:=hf.1;simp;omega
  simp only[lost,h2,cG,Bool.or_true]at h;simp only[T.jO];exact jw l true u h
 |.star _ _ _,_,_,_,_,_|.eh _,_,_,_,_,_|.text _,_,_,_,_,_|.char _,_,_,_,_,_|.range _ _ _,_,_,_,_,_|.set _ _,_,_,_,_,_|.void,_,_,_,_,_|.pre _ _,_,_,_,_,_|.eP _ _,_,_,_,_,_|.dN _ _ _,_,_,_,_,_|.cont _,_,_,_,_,_=>by simp only[T.jO]
theorem lu:∀(l:List T) (τ c:Bool) (u:Ls),nm τ l->ef l (true,c)=some u->fM l=true
 | [],_,_,_,_,_=>by simp only[fM]
 |t::ts,τ,c,u,hf,h=>by
  simp only[nm]at hf;simp only[ef]at h;split at h
  ·cases h
  ·rename_i v hv;simp only[fM,al];refine⟨xv t _ c v hf.2.1 hv,?_⟩;have:v.1=true:=(uw t _ v hv).1 rfl;obtain⟨v1,v2⟩:=v;simp only at this;subst this;exact lu ts τ v2 u hf.2.2.2 h
end
mutual
theorem zD:∀(t:T) (τ:Bool) (s u:Ls),fin τ t->lost t s=some u->t.tf=true
 |.dH l,τ,s,u,hf,h=>by simp only[lost]at h;simp only[fin]at hf;simp only[T.tf];exact Cu l τ s u hf h
 |.alt l,τ,s,u,hf,h=>by simp only[lost]at h;simp only[fin]at hf;simp only[T.tf];exact Cv l τ _ u hf.2 h
 |.star _ _ _,_,_,_,_,_|.eh _,_,_,_,_,_|.text _,_,_,_,_,_|.char _,_,_,_,_,_|.range _ _ _,_,_,_,_,_|.set _ _,_,_,_,_,_|.void,_,_,_,_,_|.pre _ _,_,_,_,_,_|.eP _ _,_,_,_,_,_|.dN _ _ _,_,_,_,_,_|.cont _,_,_,_,_,_=>by simp only[T.tf]
theorem Cv:∀(l:List T) (τ:Bool) (s u:Ls),oV τ l->ef l s=some u->sP l=true
 | [],_,_,_,_,_=>by simp only[sP]
 |t::ts,τ,s,u,hf,h=>by
  simp only[oV]at hf;simp only[ef]at h;split at h
  ·cases h
  ·rename_i v hv;simp only[sP,al];exact⟨zD t τ s v hf.2.1 hv,Cv ts τ v u hf.2.2 h⟩
theorem Cu:∀(l:List T) (τ:Bool) (s u:Ls),nm τ l->ef l s=some u->mw l=true
 | [],_,_,_,_,_=>by simp only[mw]
 |t::ts,τ,s,u,hf,h=>by
  simp only[nm]at hf;simp only[ef]at h;split at h
  ·cases h
  ·rename_i v hv;simp only[mw,al,cC];refine⟨⟨zD t _ s v hf.2.1 hv,?_⟩,Cu ts τ v u hf.2.2.2 h⟩;cases hc:t.calm with
   |true=>exact .inl rfl
   |false=>right;have:=p5 t s v hv hc;obtain⟨v1,v2⟩:=v;simp only at this;subst this;exact lu ts τ v2 u hf.2.2.2 h
end
mutual
theorem JA:∀(t:T) (τ:Bool),fin τ t->t.wf=true
 |.dH l,τ,h=>by simp only[fin]at h;simp only[T.wf];exact K7 l τ h
 |.alt l,τ,h=>by simp only[fin]at h;simp only[T.wf,al,cQ,dh];exact⟨λe=>by rw[e]at h;simp at h,K8 l τ h.2⟩
 |.eh l,τ,h=>by simp only[fin]at h;simp only[T.wf];exact h.2.2.1
 |.star _ _ _,_,_|.text _,_,_|.char _,_,_|.range _ _ _,_,_|.set _ _,_,_|.void,_,_|.pre _ _,_,_|.eP _ _,_,_|.dN _ _ _,_,_|.cont _,_,_=>by simp only[T.wf]
theorem K8:∀(l:List T) (τ:Bool),oV τ l->BA l=true
 | [],_,_=>rfl
 |t::ts,τ,h=>by simp only[oV]at h;simp only[BA,al];exact⟨JA t τ h.2.1,K8 ts τ h.2.2⟩
theorem K7:∀(l:List T) (τ:Bool),nm τ l->BA l=true
 | [],_,_=>rfl
 |t::ts,τ,h=>by simp only[nm]at h;simp only[BA,al];exact⟨JA t _ h.2.1,K7 ts τ h.2.2.2⟩
end
theorem GD (u:T) (us:List T) (m:List dE) (h:Ds (u::us) m []):lead u<+:m:=by
 simp only[Ds]at h;obtain⟨k,h,_⟩:=h;cases u<;>simp only[lead,List.nil_prefix]<;>simp only[D]at h
 ·subst h;exact cB _ _
 ·obtain⟨_,v,rfl,_⟩:=h;exact cB _ _
 ·obtain⟨_,v,rfl,_⟩:=h;exact cB _ _
theorem m8 {s u:Ls} (h:ef (t::ts) s=some u):∃v,lost t s=some v/\ef ts v=some u:=by
 simp only[ef]at h;split at h
 ·cases h
 ·rename_i v hv;exact⟨v,hv,h⟩
theorem zP {a b:List T} {s u:Ls} (h:ef (a++b) s=some u):∃v,ef a s=some v/\ef b v=some u:=by
 rw[jZ]at h;split at h
 ·cases h
 ·rename_i v hv;exact⟨v,hv,h⟩
mutual
theorem YN:∀(t:T) (τ:Bool) (ts:List T) (s u:Ls),fin τ t->(τ=true->ts=[])->ef (t::ts) s=some u->(t.eV=true->s.1=true->s.2=true)->(∀sep nx tm,t=.star sep nx tm->∀m,Ds ts m []->nx<+:m)->(∀s u,ef ts s=some u->Ok Tl s.1 ts)->Ok Tl s.1 (t::ts)
 |.text _,τ,ts,s,u,hf,hτ,h,hm,hn,hk=>.leaf rfl (hk s u (by simpa[ef,lost]using h))
 |.char _,τ,ts,s,u,hf,hτ,h,hm,hn,hk=>.leaf rfl (hk s u (by simpa[ef,lost]using h))
 |.range _ _ _,τ,ts,s,u,hf,hτ,h,hm,hn,hk=>.leaf rfl (hk s u (by simpa[ef,lost]using h))
 |.set _ _,τ,ts,s,u,hf,hτ,h,hm,hn,hk=>.leaf rfl (hk s u (by simpa[ef,lost]using h))
 |.void,τ,ts,s,u,hf,hτ,h,hm,hn,hk=>.leaf rfl (hk s u (by simpa[ef,lost]using h))
 |.star sep nx tm,τ,ts,s,u,hf,hτ,h,hm,hn,hk=>by
  simp only[fin]at hf;subst hf;cases tm with
  |true=>rw[hτ rfl];exact .tail rfl (qA _ (by simp[fin]) rfl)
  |false=>
   obtain⟨v,h1,h2⟩:=m8 h;simp only[lost]at h1;split at h1
   ·cases h1
   ·cases h1;exact .star (hk (true,s.2) u h2) (hn _ _ _ rfl)
 |.pre t sep,τ,ts,s,u,hf,hτ,h,hm,hn,hk=>by simp only[fin]at hf;subst hf;rw[hτ rfl];exact .tail rfl (qA _ (by simp[fin]) rfl)
 |.eP t sep,τ,ts,s,u,hf,hτ,h,hm,hn,hk=>by simp only[fin]at hf;subst hf;rw[hτ rfl];exact .tail rfl (qA _ (by simp[fin]) rfl)
 |.dN p q sep,τ,ts,s,u,hf,hτ,h,hm,hn,hk=>by simp only[fin]at hf;subst hf;rw[hτ rfl];exact .tail rfl (qA _ (by simp[fin]) rfl)
 |.cont t,τ,ts,s,u,hf,hτ,h,hm,hn,hk=>by simp only[fin]at hf;subst hf;rw[hτ rfl];exact .tail rfl (qA _ (by simp[fin]) rfl)
 |.eh l,τ,ts,s,u,hf,hτ,h,hm,hn,hk=>by have zl:=hf;simp only[fin]at zl;obtain⟨rfl,_,hs,_⟩:=zl;rw[hτ rfl];exact .tail rfl (qA _ hf (by simpa[T.still]using hs))
 |.dH l,τ,ts,s,u,hf,hτ,h,hm,hn,hk=>by
  simp only[fin]at hf;have h':ef (l++ts) s=some u:=by obtain⟨v,h1,h2⟩:=m8 h;simp only[lost]at h1;rw[jZ,h1];exact h2
  refine .dH (λhs=> ?_) (ok_M l τ ts s u hf hτ h' hk);have hc:=hm rfl hs;obtain⟨s1,s2⟩:=s;simp only at hc;subst hc;exact jw _ s1 u h
 |.alt l,τ,ts,s,u,hf,hτ,h,hm,hn,hk=>by
  simp only[fin]at hf;have h2:decide (1<l.length)=true:=by have:=hf.1;simp;omega
  have h':ef (l++ts) (s.1,s.2||s.1)=some u:=by obtain⟨v,h1,h3⟩:=m8 h;simp only[lost,h2,cG]at h1;rw[jZ,h1];exact h3
  refine .alt (λhs=> ?_) (ok_A l τ ts (s.1,s.2||s.1) u hf.2 hτ h' (λh=>by simp only at h;simp[h]) hk);obtain⟨s1,s2⟩:=s;simp only at hs;subst hs;simp only[Bool.or_true]at h';have:=jw _ true u h';rw[qy,al]at this;simp only[eG,T.calm,al];exact this
theorem ok_M:∀(l:List T) (τ:Bool) (ts:List T) (s u:Ls),nm τ l->(τ=true->ts=[])->ef (l++ts) s=some u->(∀s u,ef ts s=some u->Ok Tl s.1 ts)->Ok Tl s.1 (l++ts)
 | [],τ,ts,s,u,hf,hτ,h,hk=>hk s u h
 |t::l,τ,ts,s,u,hf,hτ,h,hk=>by
  simp only[nm]at hf;refine YN t (τ&&l.isEmpty) (l++ts) s u hf.2.1 (λh=> ?_) h (λh=>by rw[hf.1]at h;cases h) ?_ (λs u h=>ok_M l τ ts s u hf.2.2.2 hτ h hk)
  ·simp only[al,cN]at h;rw[h.2,hτ h.1];rfl
  ·rintro sep nx tm rfl m hm;simp only[qh]at hf;rcases hf.2.2.1 with rfl|⟨v,vs,rfl,rfl⟩
   ·exact List.nil_prefix
   ·exact GD v _ m hm
theorem ok_A:∀(l:List T) (τ:Bool) (ts:List T) (s u:Ls),oV τ l->(τ=true->ts=[])->ef (l++ts) s=some u->(s.1=true->s.2=true)->(∀s u,ef ts s=some u->Ok Tl s.1 ts)->∀t∈l,Ok Tl s.1 (t::ts)
 | [],τ,ts,s,u,hf,hτ,h,hm,hk=>by simp
 |t::l,τ,ts,s,u,hf,hτ,h,hm,hk=>by
  simp only[oV]at hf;obtain⟨v,h1,h2⟩:=m8 h;have hle:=uw t s v h1;obtain⟨x,h3,h4⟩:=zP h2;intro t' ht;rcases az.1 ht with e|ht
  ·rw[e];obtain⟨y,h5,_⟩:=kq ts v x u (pC l v x h3) h4;refine YN t τ ts s y hf.2.1 hτ ?_ (λ_=>hm) ?_ hk
   ·simp only[ef,h1];exact h5
   ·intro sep nx tm e m R6;have:=hf.1;rw[e]at this;simp only[bare]at this;subst this;exact List.nil_prefix
  ·obtain⟨y,h5,_⟩:=kq (l++ts) s v u hle h2;exact ok_A l τ ts s y hf.2.2 hτ h5 hm hk t' ht
end
theorem JK (t:T) (h:raw t) {u:Ls} (hl:lost t (false,false)=some u):DE (comp t):=by
 obtain⟨h1,h2⟩:=A5 t h;obtain⟨v,h3,_⟩:=Oy t _ u hl;refine⟨JA _ _ h1,zD _ _ _ _ h1 h3,?_⟩;have h4:ef [comp t] (false,false)=some v:=by rw[nE];exact h3
 refine YN (comp t) true [] (false,false) v h1 (λ_=>rfl) h4 (λ_ h=>by cases h) ?_ (λs u _=>.nil s.1);intro sep nx tm e m _;rw[e]at h2;simp only[bare]at h2;subst h2;exact List.nil_prefix
end Go.Proofs.YtfejflhgaphilaaGreatDoor.Gm
