/- Patterns as data: their text, the tree that they become, and that the items of the text lead to that tree. -/
import Derived.Test.YtfejflhgaphilaaGreatDoorC15
set_option linter.all false
set_option maxRecDepth 100000
set_option maxHeartbeats 64000000
namespace Go.Proofs.YtfejflhgaphilaaGreatDoor
open Go.RowKit Gm
variable {tl n c:Nat} {rest s:List Nat} {sn:Bool}
inductive Gb where
 |text (t:List Nat)
 |any
 |fq
 |one
 |set (s:List Nat) (neg:Bool)
 |range (lo hi:Nat) (neg:Bool)
 |alt (kids:List (List Gb))
def sO (c:Nat):List Nat:=if c=42\/c=63\/c=92\/c=91\/c=93\/c=123\/c=125\/c=44 then[92,c]else[c]
def iV (c:Nat):List Nat:=if c=92\/c=93\/c=33\/c=91 then[92,c]else[c]
theorem uW (c:Nat):sO c=[92,c]\/(sO c=[c]/\c≠42/\c≠63/\c≠92/\c≠91/\c≠93/\c≠123/\c≠125/\c≠44):=by
 unfold sO;split
 ·exact .inl rfl
 ·exact .inr ⟨rfl,by omega,by omega,by omega,by omega,by omega,by omega,by omega,by omega⟩
theorem rO (c:Nat):(iV c=[92,c]/\(c=92\/c=93\/c=33\/c=91))\/(iV c=[c]/\c≠92/\c≠93/\c≠33/\c≠91):=by
 unfold iV;split
 ·rename_i h;exact .inl ⟨rfl,h⟩
 ·exact .inr ⟨rfl,by omega,by omega,by omega,by omega⟩
def tu (n:Bool):List Nat:=if n then[33]else[]
mutual
def jB:Gb->List Nat
 |.text t=>t.flatMap sO
 |.any=>[42]
 |.fq=>[42,42]
 |.one=>[63]
 |.set s n=>91::(tu n++(s.flatMap iV++[93]))
 |.range lo hi n=>91::(tu n++[lo,45,hi,93])
 |.alt ks=>123::(ta ks++[125])
def fm:List Gb->List Nat
 | []=>[]
 |g::l=>jB g++fm l
def ta:List (List Gb)->List Nat
 | []=>[]
 |k::ks=>fm k++jN ks
def jN:List (List Gb)->List Nat
 | []=>[]
 |k::ks=>44::(fm k++jN ks)
end
def lH:List T->T
 | []=>.void
 |l=>.dH l
mutual
def gt (S:List Nat):Gb->T
 |.text t=>.text t
 |.any=>.star S [] false
 |.fq=>.star [] [] false
 |.one=>.char S
 |.set s n=>.set s n
 |.range lo hi n=>.range lo hi n
 |.alt ks=>.alt (rG S ks)
def j8 (S:List Nat):List Gb->List T
 | []=>[]
 |g::l=>gt S g::j8 S l
def rG (S:List Nat):List (List Gb)->List T
 | []=>[]
 |k::ks=>(if ks.isEmpty then .dH (j8 S k)else lH (j8 S k))::rG S ks
end
def p8 (c:Nat):Prop:=(48<=c/\c<=57)\/(97<=c/\c<=122)\/(65<=c/\c<=90)\/(192<=c/\c<2048)
def beside:Gb->List Gb->Prop
 |.text _,.text _::_=>False
 |.any,.any::_=>False
 |.any,.fq::_=>False
 |.fq,.any::_=>False
 |.fq,.fq::_=>False
 |_,_=>True
mutual
def sN:Gb->Prop
 |.text t=>t≠[]/\dV t
 |.set s _=>s≠[]/\dV s/\∀c∈s.tail,c≠45
 |.range lo hi _=>p8 lo/\p8 hi/\lo<=hi
 |.alt ks=>ks≠[]/\jE ks
 |_=>True
def iY:List Gb->Prop
 | []=>True
 |g::l=>sN g/\beside g l/\iY l
def jE:List (List Gb)->Prop
 | []=>True
 |k::ks=>iY k/\jE ks
end
def oB (S:List Nat):Tok->List Tok->List T->List (Bool×Nat)->Option (List T×List (Bool×Nat))
 |.single,[],st,ops=>some (st++[.char S],ops)
 |.text t,[],st,ops=>some (st++[.text t],ops)
 |.any,[],st,ops=>some (st++[.star S [] false],ops)
 |.fq,[],st,ops=>some (st++[.star [] [] false],ops)
 |.py,q,st,ops=>(k7 false (-1) (-1) none q).map λm=>(st++[m],ops)
 |.uc,[],st,ops=>some (st,(false,st.length)::(true,st.length)::ops)
 |.DS,[],st,(false,i)::ops=>if i<=st.length then some (st.take i++[lH (st.drop i)],(false,i+1)::ops)else none
 |.pW,[],st,(false,i)::(true,j)::ops=>if j<=i/\i<=st.length then some (st.take j++[.alt ((st.take i).drop j++[.dH (st.drop i)])],ops)else none
 |_,_,_,_=>none
inductive E6 (S:List Nat):List Nat->Nat->List T->List (Bool×Nat)->List T->Prop
 |eof (tl:Nat) (st:List T):E6 S [] tl st [] st
 |step {rest R:List Nat} {tl tl':Nat} {st st':List T} {ops ops':List (Bool×Nat)} {out:List T} {t:Tok} {ts:List Tok} (h:gy tl rest=some (t::ts,R,tl')) (he:rest≠[]) (hR:R.length<rest.length) (hp:oB S t ts st ops=some (st',ops')) (hr:E6 S R tl' st' ops' out):E6 S rest tl st ops out
def ends (tl:Nat):List Nat->Prop
 | []=>True
 |c::_=>c=63\/c=42\/c=91\/c=123\/(0<tl/\(c=125\/c=44))
theorem FW (h:ends tl rest):eZ (if 0<tl then Ch else Ci) false rest=some ([],rest):=by
 cases rest with
 |nil=>simp[eZ]
 |cons c r=>
  simp only[ends]at h;have Qk:c≠92:=by omega
  have hb:(if 0<tl then Ch else Ci).contains c=true:=by
   rcases h with rfl|rfl|rfl|rfl|⟨h0,rfl|rfl⟩
   ·split<;>rfl
   ·split<;>rfl
   ·split<;>rfl
   ·split<;>rfl
   ·rw[if_pos h0];rfl
   ·rw[if_pos h0];rfl
  simp only[eZ,if_neg Qk,hb,if_true]
theorem th {tl:Nat} {rest:List Nat} (h:ends tl rest):∀(t:List Nat),eZ (if 0<tl then Ch else Ci) false (t.flatMap sO++rest)=some (t,rest)
 | []=>by simpa using FW h
 |c::t=>by
  simp only[dd,aD];rcases uW c with e|⟨e,hc⟩
  ·rw[e];simp only[aJ,bw,eZ,if_true,th h t,dr]
  ·rw[e];obtain⟨c1,c2,c3,c4,c5,c6,c7,c8⟩:=hc;have hb:(if 0<tl then Ch else Ci).contains c=false:=by
    split
    ·simp[Ch,c1,c2,c4,c6,c7,c8]
    ·simp[Ci,c1,c2,c4,c6]
   have Qk:c≠92:=(by omega);simp only[aJ,bw,eZ,if_neg Qk,hb,aM,if_false,th h t,dr]
theorem FX {t:List Nat} (h:ends tl rest) (ht:t≠[]):gy tl (t.flatMap sO++rest)=some ([.text t],rest,tl):=by
 have kS:=th h t;obtain⟨c,t',rfl⟩:∃c t',t=c::t':=by
  cases t with
  |nil=>exact absurd rfl ht
  |cons c t'=>exact⟨c,t',rfl⟩
 obtain⟨d,r,Hn,hd⟩:∃d r,(c::t').flatMap sO++rest=d::r/\d≠123/\d≠44/\d≠125/\d≠91/\d≠63/\d≠42:=by
  simp only[dd,aD];rcases uW c with e|⟨e,hc⟩
  ·rw[e];exact⟨_,_,rfl,by decide,by decide,by decide,by decide,by decide,by decide⟩
  ·rw[e];exact⟨_,_,rfl,by omega,by omega,by omega,by omega,by omega,by omega⟩
 rw[Hn]at kS⊢;obtain⟨d1,d2,d3,d4,d5,d6⟩:=hd;simp only[gy,if_neg d1,d2,d3,false_and,if_false,if_neg d4,if_neg d5,if_neg d6,kS,dr];simp
theorem ri {rest:List Nat}:∀(t:List Nat),eZ [93] false (t.flatMap iV++93::rest)=some (t,93::rest)
 | []=>by simp[eZ]
 |c::t=>by
  simp only[dd,aD];rcases rO c with⟨e,hc⟩|⟨e,hc⟩
  ·rw[e];simp only[aJ,bw,eZ,if_true,ri t,dr]
  ·rw[e];have hb:[93].contains c=false:=by
    rw[bF];intro e;simp only[List.contains_eq_mem,az,ba,or_false,decide_eq_true_eq]at e;omega
   have Qk:c≠92:=(by omega);simp only[aJ,bw,eZ,if_neg Qk,hb,aM,if_false,ri t,dr]
theorem Mo (c:Nat) (r:List Nat):hd (c::r)=((c:Nat):Int):=rfl
theorem xJ (hs:s≠[]) (ht:∀c∈s.tail,c≠45):fi (n+2) false false sn (s.flatMap iV++93::rest)=some ([.text s,.jz],rest):=by
 have kS:=ri (rest:=rest) s;obtain⟨c,t,rfl⟩:∃c t',s=c::t':=by
  cases s with
  |nil=>exact absurd rfl hs
  |cons c t'=>exact⟨c,t',rfl⟩
 have hh:∀d r,t.flatMap iV++93::rest=d::r->d≠45:=by
  intro d r e;cases t with
  |nil=>simp at e;omega
  |cons b t=>
   have hb:b≠45:=ht b (by simp);simp only[dd,aD]at e;rcases rO b with⟨e2,hc⟩|⟨e2,hc⟩
   ·rw[e2]at e;simp at e;omega
   ·rw[e2]at e;simp at e;omega
 obtain⟨d,r,Hn,xV,Mp⟩:∃d r,(c::t).flatMap iV++93::rest=d::r/\d≠33/\hd r≠45:=by
  simp only[dd,aD];rcases rO c with⟨e,hc⟩|⟨e,hc⟩
  ·rw[e];refine⟨_,_,rfl,by decide,?_⟩;simp only[List.append_eq,aJ,bw,Mo];omega
  ·rw[e];refine⟨c,t.flatMap iV++93::rest,rfl,by omega,?_⟩;cases hr:t.flatMap iV++93::rest with
   |nil=>simp at hr
   |cons d r=>have:=hh d r hr;rw[Mo];omega
 rw[Hn]at kS⊢;rw[show n+2=(n+1)+1 from rfl];simp only[fi,aM,if_false,xV,and_false,Mp,kS,reduceCtorEq,if_true,dr]
theorem sU {lo hi:Nat} (hl:lo≠33):fi (n+3) false false sn (lo::45::hi::93::rest)=some ([.lo lo,.PW,.hi hi,.jz],rest):=by have h45:hd (45::hi::93::rest)=45:=rfl;rw[show n+3=(n+2)+1 from rfl];simp only[fi,aM,if_false,hl,and_false,h45,if_true,List.tail_cons,dr]
theorem xK (n:Nat) (r:List Nat):fi (n+1) false false false (33::r)=(fi n false false true r).map λp=>(.not::p.1,p.2):=by rw[fi];simp
theorem Oe (h:p8 c):c≠33:=by unfold p8 at h;omega
section
variable {S:List Nat}
theorem oz {st:List T} {ops:List (Bool×Nat)} {out:List T} {R:List Nat} {t:Tok} {ts:List Tok} {m:T} (h:gy tl s=some (t::ts,R,tl)) (hR:R.length<s.length) (hp:oB S t ts st ops=some (st++[m],ops)) (hr:E6 S R tl (st++[m]) ops out):E6 S s tl st ops out:=.step h (by intro e;rw[e]at hR;simp at hR) hR hp hr
def after (tl:Nat):Gb->List Nat->Prop
 |.text _,r=>ends tl r
 |.any,r=>hd r≠42
 |_,_=>True
theorem Du:∀(g:Gb),sN g->∃c r,jB g=c::r/\(∀tl,(∀t,g≠ .text t)->ends tl (c::r))/\(c=42->g=.any\/g=.fq)
 |.text t,h=>by
  simp only[sN]at h;obtain⟨c,t',rfl⟩:∃c t',t=c::t':=by
   cases t with
   |nil=>exact absurd rfl h.1
   |cons c t'=>exact⟨c,t',rfl⟩
  simp only[jB,dd];rcases uW c with e|⟨e,hc⟩
  ·rw[e];exact⟨_,_,rfl,λ_ hn=>absurd rfl (hn _),λe=>by cases e⟩
  ·rw[e];exact⟨_,_,rfl,λ_ hn=>absurd rfl (hn _),λe=>by omega⟩
 |.any,_=>⟨42,[],rfl,λ_ _=>by simp[ends],λ_=>.inl rfl⟩
 |.fq,_=>⟨42,[42],rfl,λ_ _=>by simp[ends],λ_=>.inr rfl⟩
 |.one,_=>⟨63,[],rfl,λ_ _=>by simp[ends],λe=>by cases e⟩
 |.set s n,_=>⟨91,_,rfl,λ_ _=>by simp[ends],λe=>by cases e⟩
 |.range a b n,_=>⟨91,_,rfl,λ_ _=>by simp[ends],λe=>by cases e⟩
 |.alt ks,_=>⟨123,_,rfl,λ_ _=>by simp[ends],λe=>by cases e⟩
theorem Tx {r x:List Nat} (h:ends tl (c::r)):ends tl (c::r++x):=by simpa[ends]using h
theorem TL {g:Gb} {l:List Gb} (hb:beside g l) (hl:iY l) (hr:ends tl rest) (sK:hd rest≠42):after tl g (fm l++rest):=by
 cases l with
 |nil=>simp only[fm,bw];cases g<;>simp only[after]<;>assumption
 |cons g2 l=>
  simp only[iY]at hl;obtain⟨c,r,hg,h1,h2⟩:=Du g2 hl.1;simp only[fm,hg,aD];cases g<;>simp only[after]
  ·refine Tx (h1 tl λt e=> ?_);subst e;simp[beside]at hb
  ·intro e;rcases h2 (by have:((c:Nat):Int)=42:=e;omega)with e|e<;>subst e<;>simp[beside]at hb
theorem Vr {l:List T} (h:l≠[]):lH l=.dH l:=by
 cases l with
 |nil=>exact absurd rfl h
 |cons a b=>rfl
mutual
theorem YI:∀(g:Gb) (rest:List Nat) (tl:Nat) (st:List T) (ops:List (Bool×Nat)) (out:List T),sN g->after tl g rest->E6 S rest tl (st++[gt S g]) ops out->E6 S (jB g++rest) tl st ops out
 |.text t,rest,tl,st,ops,out,hg,ha,hr=>by simp only[sN]at hg;simp only[jB];simp only[gt]at hr;refine oz (FX ha hg.1) ?_ (by simp[oB]) hr;obtain⟨c,r,e,_⟩:=Du (.text t) (by simpa only[sN]using hg);simp only[jB]at e;rw[e];simp;omega
 |.any,rest,tl,st,ops,out,hg,ha,hr=>by simp only[jB];simp only[gt]at hr;simp only[after]at ha;exact oz (t:=.any) (ts:=[]) (R:=rest) (by simp[gy,ha]) (by simp) (by simp[oB]) hr
 |.fq,rest,tl,st,ops,out,hg,ha,hr=>by simp only[jB];simp only[gt]at hr;exact oz (t:=.fq) (ts:=[]) (R:=rest) (by simp[gy,hd]) (by simp;omega) (by simp[oB]) hr
 |.one,rest,tl,st,ops,out,hg,ha,hr=>by simp only[jB];simp only[gt]at hr;exact oz (t:=.single) (ts:=[]) (R:=rest) (by simp[gy]) (by simp) (by simp[oB]) hr
 |.set s n,rest,tl,st,ops,out,hg,ha,hr=>by
  simp only[sN]at hg;simp only[gt]at hr;simp only[jB,aJ,aD,bw];cases n with
  |false=>
   refine oz (t:=.py) (ts:=[.text s,.jz]) (R:=rest) ?_ ?_ ?_ hr
   ·simp only[tu,aM,if_false,bw,gy,xJ (n:=2) hg.1 hg.2.2];simp
   ·simp;omega
   ·simp[oB,k7]
  |true=>
   refine oz (t:=.py) (ts:=[.not,.text s,.jz]) (R:=rest) ?_ ?_ ?_ hr
   ·have h1:fi 4 false false false (33::(s.flatMap iV++93::rest))=some ([.not,.text s,.jz],rest):=by
     rw[show(4:Nat)=3+1 from rfl,xK,show(3:Nat)=1+2 from rfl,xJ hg.1 hg.2.2];rfl
    simp only[tu,if_true,aJ,bw,gy,h1];simp
   ·simp;omega
   ·simp[oB,k7]
 |.range lo hi n,rest,tl,st,ops,out,hg,ha,hr=>by
  simp only[sN]at hg;simp only[gt]at hr;simp only[jB,aJ,aD,bw];have h33:=Oe hg.1;have hle:¬((hi:Nat):Int)<((lo:Nat):Int):=by have:=hg.2.2;omega
  cases n with
  |false=>
   refine oz (t:=.py) (ts:=[.lo lo,.PW,.hi hi,.jz]) (R:=rest) ?_ ?_ ?_ hr
   ·simp only[tu,aM,if_false,bw,gy,sU (n:=1) h33];simp
   ·simp;omega
   ·simp[oB,k7,hle]
  |true=>
   refine oz (t:=.py) (ts:=[.not,.lo lo,.PW,.hi hi,.jz]) (R:=rest) ?_ ?_ ?_ hr
   ·have h1:fi 4 false false false (33::(lo::45::hi::93::rest))=some ([.not,.lo lo,.PW,.hi hi,.jz],rest):=by
     rw[show(4:Nat)=3+1 from rfl,xK,show(3:Nat)=0+3 from rfl,sU h33];rfl
    simp only[tu,if_true,aJ,bw,gy,h1];simp
   ·simp;omega
   ·simp[oB,k7,hle]
 |.alt [],rest,tl,st,ops,out,hg,ha,hr=>by simp[sN]at hg
 |.alt (k::ks),rest,tl,st,ops,out,hg,ha,hr=>by
  simp only[sN]at hg;simp only[gt]at hr;simp only[jE]at hg;simp only[jB,ta,aJ,aD,bw];refine .step (t:=.uc) (ts:=[]) (R:=fm k++(jN ks++125::rest)) (tl':=tl+1) (by simp[gy]) (by simp) (by simp) (by simp only[oB];rfl) ?_;refine zc k (jN ks++125::rest) (tl+1) st _ out hg.2.1 ?_ ?_ ?_
  ·cases ks<;>simp[jN,ends]
  ·cases ks<;>simp[jN,hd]
  ·have:=Lk ks rest tl st [] (j8 S k) ops out hg.2.2 (by simpa[rG]using hr);simpa using this
theorem zc:∀(l:List Gb) (rest:List Nat) (tl:Nat) (st:List T) (ops:List (Bool×Nat)) (out:List T),iY l->ends tl rest->hd rest≠42->E6 S rest tl (st++j8 S l) ops out->E6 S (fm l++rest) tl st ops out
 | [],rest,tl,st,ops,out,_,_,_,hr=>by simpa[fm,j8]using hr
 |g::l,rest,tl,st,ops,out,hg,he,h42,hr=>by simp only[iY]at hg;simp only[fm,aD];refine YI g _ tl st ops out hg.1 (TL hg.2.1 hg.2.2 he h42) ?_;refine zc l rest tl _ ops out hg.2.2 he h42 ?_;simpa[j8]using hr
theorem Lk:∀(ks:List (List Gb)) (rest:List Nat) (tl:Nat) (st D K:List T) (ops:List (Bool×Nat)) (out:List T),jE ks->E6 S rest tl (st++[.alt (D++((if ks.isEmpty then .dH K else lH K)::rG S ks))]) ops out->E6 S (jN ks++125::rest) (tl+1) (st++D++K) ((false,(st++D).length)::(true,st.length)::ops) out
 | [],rest,tl,st,D,K,ops,out,_,hr=>by
   simp only[jN,bw];simp only[cy,if_true,rG]at hr;refine .step (t:=.pW) (ts:=[]) (R:=rest) (tl':=tl) (by simp[gy]) (by simp) (by simp) ?_ hr;simp only[oB];have e1:(st++D++K).take (st++D).length=st++D:=(by rw[cR]);have e2:(st++D++K).drop (st++D).length=K:=by rw[dn]
   have e3:(st++D++K).take st.length=st:=(by rw[aD,cR]);have e4:(st++D).drop st.length=D:=by rw[dn]
   rw[if_pos (by simp),e1,e2,e3,e4]
 |k::ks,rest,tl,st,D,K,ops,out,hg,hr=>by
  simp only[jE]at hg;simp only[jN,aJ,aD];simp only[cZ,aM,if_false,rG]at hr;refine .step (t:=.DS) (ts:=[]) (R:=fm k++(jN ks++125::rest)) (tl':=tl+1) (st':=st++(D++[lH K])) (ops':=(false,(st++(D++[lH K])).length)::(true,st.length)::ops) (by simp[gy]) (by simp) (by simp) ?_ ?_
  ·simp only[oB];rw[if_pos (by simp)];have e1:(st++(D++K)).take (st++D).length=st++D:=(by rw[<-aD,cR]);have e2:(st++(D++K)).drop (st++D).length=K:=by rw[<-aD,dn]
   rw[e1,e2];simp;omega
  ·refine zc k _ (tl+1) _ _ out hg.1 ?_ ?_ ?_
   ·cases ks<;>simp[jN,ends]
   ·cases ks<;>simp[jN,hd]
   ·have:=Lk ks rest tl st (D++[lH K]) (j8 S k) ops out hg.2 (by simpa[rG]using hr);simpa using this
end
theorem U9 (l:List Gb) (h:iY l):E6 S (fm l) 0 [] [] (j8 S l):=by have:=zc (S:=S) l [] 0 [] [] (j8 S l) h (by simp[ends]) (by simp[hd]) (by simpa using E6.eof (S:=S) 0 (j8 S l));simpa using this
end
end Go.Proofs.YtfejflhgaphilaaGreatDoor
