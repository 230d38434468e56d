/- How large a compiled tree is, how many ways it has, and how long a walk it may ask for, by the parsed one. What a pattern as data matches, place by place, and that it is what its tree matches. -/
import Derived.Test.YtfejflhgaphilaaGreatDoorC17
import Derived.Test.YtfejflhgaphilaaGreatDoorC16
set_option linter.all false
set_option maxRecDepth 100000
set_option maxHeartbeats 64000000
namespace Go.Proofs.YtfejflhgaphilaaGreatDoor.Gm
structure N4 where
 sz:Nat
 st:Nat
 pr:Nat
 tx:Nat
def N4.le (a b:N4):Prop:=a.sz<=b.sz/\a.st<=b.st/\a.pr<=b.pr/\a.tx<=b.tx
def N4.add (a b:N4):N4:=⟨a.sz+b.sz,a.st+b.st,a.pr*b.pr,a.tx+b.tx⟩
def N4.zero:N4:=⟨0,0,1,0⟩
def N4.node (k:Nat) (a:N4):N4:=⟨1+a.sz,a.st,k*a.pr,a.tx⟩
theorem N4.le_refl (a:N4):N4.le a a:=⟨af _,af _,af _,af _⟩
theorem N4.le_trans {a b c:N4} (h:N4.le a b) (k:N4.le b c):N4.le a c:=⟨ao h.1 k.1,ao h.2.1 k.2.1,ao h.2.2.1 k.2.2.1,ao h.2.2.2 k.2.2.2⟩
theorem N4.mn {a b a' b':N4} (h:N4.le a a') (k:N4.le b b'):N4.le (a.add b) (a'.add b'):=⟨Nat.add_le_add h.1 k.1,Nat.add_le_add h.2.1 k.2.1,dx h.2.2.1 k.2.2.1,Nat.add_le_add h.2.2.2 k.2.2.2⟩
theorem N4.add_assoc (a b c:N4):(a.add b).add c=a.add (b.add c):=by simp[N4.add,Nat.add_assoc,bQ]
theorem N4.add_zero (a:N4):a.add .zero=a:=by simp[N4.add,N4.zero]
theorem N4.zero_add (a:N4):N4.zero.add a=a:=by simp[N4.add,N4.zero]
theorem N4.qg {a b:N4} {j k:Nat} (hk:j<=k) (h:N4.le a b):N4.le (a.node j) (b.node k):=⟨Nat.add_le_add_left h.1 _,h.2.1,dx hk h.2.2.1,h.2.2.2⟩
theorem N4.zf {a b:N4} {k:Nat} (hk:1<=k) (h:N4.le a b):N4.le a (b.node k):=⟨by simp only[N4.node];exact ao h.1 (by omega),h.2.1,by simp only[N4.node];exact ao h.2.2.1 (bR _ hk),h.2.2.2⟩
def ck (n:Nat):Nat:=if n<=1 then 1 else n+1
theorem E0 (n:Nat):1<=ck n:=by unfold ck;split<;>omega
mutual
def ms:T->N4
 |.text t=>⟨1,0,1,t.length⟩
 |.pre t _=>⟨1,0,1,t.length⟩
 |.eP t _=>⟨1,0,1,t.length⟩
 |.dN p q _=>⟨1,0,1,p.length+q.length⟩
 |.cont t=>⟨1,0,1,t.length⟩
 |.star _ _ _=>⟨1,1,1,0⟩
 |.dH l=>(fJ l).node 1
 |.alt l=>(fJ l).node (ck l.length)
 |.eh l=>(fJ l).node 1
 |_=>⟨1,0,1,0⟩
def fJ:List T->N4
 | []=>.zero
 |t::ts=>(ms t).add (fJ ts)
end
theorem mf:∀(a b:List T),fJ (a++b)=(fJ a).add (fJ b)
 | [],b=>by simp[fJ,N4.zero_add]
 |t::a,b=>by simp[fJ,mf a b,N4.add_assoc]
theorem kp (t:T):fJ [t]=ms t:=by simp[fJ,N4.add_zero]
mutual
theorem wW:∀(t:T),1<=(ms t).pr/\1<=(ms t).sz
 |.dH l=>by simp only[ms,N4.node,cz];exact⟨oE l,by omega⟩
 |.alt l=>by simp only[ms,N4.node];exact⟨ao (E0 l.length) (cW _ (oE l)),by omega⟩
 |.eh l=>by simp only[ms,N4.node,cz];exact⟨oE l,by omega⟩
 |.star _ _ _|.text _|.char _|.range _ _ _|.set _ _|.void|.pre _ _|.eP _ _|.dN _ _ _|.cont _=>by simp[ms]
theorem oE:∀(l:List T),1<=(fJ l).pr
 | []=>by simp[fJ,N4.zero]
 |t::ts=>by simp only[fJ,N4.add];exact Nat.mul_pos (wW t).1 (oE ts)
end
theorem N4.zero_le {a:N4} (h:1<=a.pr):N4.le .zero a:=⟨aU _,aU _,h,aU _⟩
theorem N4.Ru (a:N4) {b:N4} (h:1<=b.pr):N4.le a (a.add b):=by
 have:=N4.mn (N4.le_refl a) (N4.zero_le h)
 rwa [N4.add_zero]at this
mutual
theorem Vg:∀(t:T) (out:List T),N4.le (fJ (push t out)) ((fJ out).add (ms t))
 |.dH l,out=>by simp only[push];refine N4.le_trans (Al l out) (N4.mn (N4.le_refl _) ?_);simp only[ms];exact N4.zf (af _) (N4.le_refl _)
 |.void,out=>by simp only[push];exact N4.Ru _ (wW _).1
 |.text t,out=>by
  simp only[push];rcases gH out with rfl|⟨i,x,rfl⟩
  ·simp only[List.getLast?_nil,bw,kp,fJ,N4.zero_add];exact N4.le_refl _
  ·simp only[bZ,b6];cases x<;>(try (rw[mf _ [_],kp];exact N4.le_refl _));simp only[mf,kp,N4.add_assoc];refine N4.mn (N4.le_refl _) ?_;simp only[ms,N4.add];refine⟨by simp,by simp,by simp,by simp⟩
 |.star sep nx tm,out=>by
  simp only[push];rcases gH out with rfl|⟨i,x,rfl⟩
  ·simp only[List.getLast?_nil,bw,kp,fJ,N4.zero_add];exact N4.le_refl _
  ·simp only[bZ,b6];cases x<;>dsimp only<;>(try (rw[mf _ [_],kp];exact N4.le_refl _));split
   ·simp only[mf,kp,N4.add_assoc];refine N4.mn (N4.le_refl _) ?_;simp only[ms,N4.add];refine⟨by simp,by simp,by simp,by simp⟩
   ·exact N4.Ru _ (wW _).1
 |.char _,out|.range _ _ _,out|.set _ _,out|.pre _ _,out|.eP _ _,out|.dN _ _ _,out|.cont _,out|.alt _,out|.eh _,out=>by simp only[push];rw[mf,kp];exact N4.le_refl _
theorem Al:∀(l:List T) (out:List T),N4.le (fJ (fv l out)) ((fJ out).add (fJ l))
 | [],out=>by simp only[fv,fJ,N4.add_zero];exact N4.le_refl _
 |t::ts,out=>by simp only[fv,fJ];refine N4.le_trans (Al ts _) ?_;rw[<-N4.add_assoc];exact N4.mn (Vg t out) (N4.le_refl _)
end
theorem Vh (l:List T):N4.le (fJ (norm l)) (fJ l):=by
 unfold norm;split
 ·have:=Al l [];simpa only[fJ,N4.zero_add]using this
 ·exact N4.le_refl _
theorem Gu (l:List T):N4.le (ms (oneOf .dH l)) ((fJ l).node 1):=by
 match l with
 | []=>simp[oneOf,ms,fJ,N4.node,N4.zero,N4.le]
 | [t]=>simp only[oneOf,kp];exact N4.zf (af _) (N4.le_refl _)
 |t::u::l=>simp only[oneOf,ms];exact N4.le_refl _
theorem Om (l:List T):N4.le (ms (oneOf .alt l)) ((fJ l).node (ck l.length)):=by
 match l with
 | []=>simpa[oneOf,ms,fJ,N4.node,N4.zero,N4.le]using E0 0
 | [t]=>simp only[oneOf,kp];exact N4.zf (E0 _) (N4.le_refl _)
 |t::u::l=>simp only[oneOf,ms];exact N4.le_refl _
mutual
theorem En:∀(t:T),N4.le (ms (simp t)) (ms t)
 |.dH l=>by simp only[simp,ms];exact N4.le_trans (Gu _) (N4.qg (af _) (N4.le_trans (Vh _) (Ak l)))
 |.alt l=>by simp only[simp,ms];refine N4.le_trans (Om _) ?_;rw[je];exact N4.qg (af _) (Ak l)
 |.eh _|.star _ _ _|.text _|.char _|.range _ _ _|.set _ _|.void|.pre _ _|.eP _ _|.dN _ _ _|.cont _=>by simp only[simp];exact N4.le_refl _
theorem Ak:∀(l:List T),N4.le (fJ (fh l)) (fJ l)
 | []=>N4.le_refl _
 |t::ts=>by simp only[fh,fJ];exact N4.mn (En t) (Ak ts)
end
theorem Ri {a b c:T} (h:gz a b=some c):N4.le (ms c) ((ms a).add (ms b)):=by unfold gz at h;split at h<;>(try split at h)<;>(try cases h)<;>simp[ms,N4.add,N4.le]
theorem xP:∀(l:List T),N4.le (fJ (dZ l)) (fJ l)
 | []=>N4.le_refl _
 |t::ts=>by
  have ih:=xP ts;simp only[dZ];split
  ·rename_i u hu;rw[hu,kp]at ih;split
   ·rename_i c hc;rw[kp];simp only[fJ];exact N4.le_trans (Ri hc) (N4.mn (N4.le_refl _) ih)
   ·simp only[fJ,N4.add_zero];exact N4.mn (N4.le_refl _) ih
  ·simp only[fJ];exact N4.mn (N4.le_refl _) ih
theorem BR (l:List T):N4.le (ms (fk l)) ((fJ l).node 1):=by
 match l with
 | []=>simp only[fk,ms];exact N4.le_refl _
 | [t]=>simp only[fk,kp];exact N4.zf (af _) (N4.le_refl _)
 |t::u::l=>simp only[fk,ms];exact N4.le_refl _
mutual
theorem Em:∀(t:T),N4.le (ms (jD true t)) (ms t)
 |.alt l=>by simp only[jD,ms];rw[mx];exact N4.qg (af _) (LB l)
 |.dH l=>by simp only[jD,if_true,ms];exact N4.le_trans (BR _) (N4.qg (af _) (N4.le_trans (xP _) (LA l)))
 |.eh _|.star _ _ _|.text _|.char _|.range _ _ _|.set _ _|.void|.pre _ _|.eP _ _|.dN _ _ _|.cont _=>by simp only[jD];exact N4.le_refl _
theorem LB:∀(l:List T),N4.le (fJ (ki true l)) (fJ l)
 | []=>N4.le_refl _
 |t::ts=>by simp only[ki,fJ];exact N4.mn (Em t) (LB ts)
theorem LA:∀(l:List T),N4.le (fJ (gx true l)) (fJ l)
 | []=>N4.le_refl _
 |t::ts=>by
  simp only[gx,fJ];refine N4.mn ?_ (LA ts);cases ts.isEmpty
  ·simp only[cj,ma];exact N4.le_refl _
  ·exact Em t
end
theorem JR (l:List T) (t:T):ms (fA l t)=ms t:=by cases l<;>cases t<;>simp only[fA,ms]
mutual
theorem JT:∀(t:T) (τ:Bool),ms (js τ t)=ms t
 |.alt l,τ=>by simp only[js,ms,kV,LG l τ]
 |.dH l,τ=>by simp only[js,ms,LF l τ]
 |.star _ _ _,τ=>by simp only[js,ms]
 |.eh _,_|.text _,_|.char _,_|.range _ _ _,_|.set _ _,_|.void,_|.pre _ _,_|.eP _ _,_|.dN _ _ _,_|.cont _,_=>by simp only[js]
theorem LG:∀(l:List T) (τ:Bool),fJ (mR τ l)=fJ l
 | [],_=>by simp only[mR]
 |t::ts,τ=>by simp only[mR,fJ,JT t τ,LG ts τ]
theorem LF:∀(l:List T) (τ:Bool),fJ (kn τ l)=fJ l
 | [],_=>by simp only[kn]
 |t::ts,τ=>by simp only[kn,fJ,JR,JT t,LF ts τ]
end
mutual
theorem JS:∀(t:T) (τ:Bool),N4.le (ms (ji τ t)) (ms t)
 |.alt l,τ=>by
  simp only[ji];split
  ·simp only[ms];exact N4.qg (E0 _) (Eo l τ)
  ·simp only[ms];rw[mG];exact N4.qg (af _) (Eo l τ)
 |.dH l,τ=>by simp only[ji,ms];exact N4.qg (af _) (LC l τ)
 |.eh _,_|.star _ _ _,_|.text _,_|.char _,_|.range _ _ _,_|.set _ _,_|.void,_|.pre _ _,_|.eP _ _,_|.dN _ _ _,_|.cont _,_=>by simp only[ji];exact N4.le_refl _
theorem Eo:∀(l:List T) (τ:Bool),N4.le (fJ (jr τ l)) (fJ l)
 | [],_=>by simp only[jr];exact N4.le_refl _
 |t::ts,τ=>by simp only[jr,fJ];exact N4.mn (JS t τ) (Eo ts τ)
theorem LC:∀(l:List T) (τ:Bool),N4.le (fJ (jC τ l)) (fJ l)
 | [],_=>by simp only[jC];exact N4.le_refl _
 |t::ts,τ=>by simp only[jC,fJ];exact N4.mn (JS t _) (LC ts τ)
end
theorem LD (t:T):N4.le (ms (comp t)) (ms t):=by unfold comp;refine N4.le_trans (JS _ _) ?_;rw[JT];exact N4.le_trans (Em _) (En t)
theorem mul4 (a b c d x:Nat):a*b*(c*d*x)=a*c*(b*d)*x:=by rw[bQ a b,<-bQ b,<-bQ b,Nat.mul_comm b c,bQ c b d,<-bQ a,<-bQ a]
mutual
def Wm:T->Prop
 |.alt l=>2<=l.length/\xy l
 |.dH l=>xy l
 |_=>True
def xy:List T->Prop
 | []=>True
 |t::ts=>Wm t/\xy ts
end
mutual
theorem E5:∀(t:T) (τ:Bool),fin τ t->Wm t
 |.dH l,τ,h=>by simp only[fin]at h;simp only[Wm];exact I4 l τ h
 |.alt l,τ,h=>by simp only[fin]at h;simp only[Wm];exact⟨h.1,I5 l τ h.2⟩
 |.eh _,_,_|.star _ _ _,_,_|.text _,_,_|.char _,_,_|.range _ _ _,_,_|.set _ _,_,_|.void,_,_|.pre _ _,_,_|.eP _ _,_,_|.dN _ _ _,_,_|.cont _,_,_=>by simp only[Wm]
theorem I5:∀(l:List T) (τ:Bool),oV τ l->xy l
 | [],_,_=>trivial
 |t::ts,τ,h=>by simp only[oV]at h;exact⟨E5 t τ h.2.1,I5 ts τ h.2.2⟩
theorem I4:∀(l:List T) (τ:Bool),nm τ l->xy l
 | [],_,_=>trivial
 |t::ts,τ,h=>by simp only[nm]at h;exact⟨E5 t _ h.2.1,I4 ts τ h.2.2.2⟩
end
theorem TC {n:Nat} (h:2<=n):ck n=n+1:=by unfold ck;rw[if_neg (by omega)]
mutual
theorem Qq (n:Nat):∀(t:T) (x:Nat),Wm t->wT n t x<=(n+1)^(ms t).st*(ms t).pr*x
 |.star _ _ tm,x,_=>by
  simp only[wT,ms,Nat.pow_one,Nat.mul_one];split
  ·exact bR _ (by omega)
  ·exact af _
 |.dH l,x,h=>by simp only[wT,ms,N4.node,cz];exact WM n l x h
 |.alt l,x,h=>by simp only[Wm]at h;simp only[wT,ms,N4.node,TC h.1];refine ao (WN n l x h.2) (Nat.le_of_eq ?_);rw[<-bQ,<-bQ,Nat.mul_comm (l.length+1),bQ,bQ,bQ,bQ]
 |.eh l,x,_=>by simp only[wT,ms,N4.node,cz];exact bR _ (Nat.mul_pos (Nat.pow_pos (by omega)) (oE l))
 |.text _,x,_|.char _,x,_|.range _ _ _,x,_|.set _ _,x,_|.void,x,_|.pre _ _,x,_|.eP _ _,x,_|.dN _ _ _,x,_|.cont _,x,_=>by simp[wT,ms]
theorem WM (n:Nat):∀(l:List T) (x:Nat),xy l->wL n l x<=(n+1)^(fJ l).st*(fJ l).pr*x
 | [],x,_=>by simp[wL,fJ,N4.zero]
 |t::ts,x,h=>by simp only[xy]at h;simp only[wL,fJ,N4.add];refine ao (Qq n t _ h.1) ?_;refine ao (bP _ (WM n ts x h.2)) ?_;rw[mul4,Nat.pow_add];exact af _
theorem WN (n:Nat):∀(l:List T) (x:Nat),xy l->wA n l x<=(l.length+1)*((n+1)^(fJ l).st*(fJ l).pr*x)
 | [],x,_=>by simp[wA,fJ,N4.zero]
 |t::ts,x,h=>by
  simp only[xy]at h;simp only[wA,fJ,N4.add,aH];have h1:wT n t x<=(n+1)^((ms t).st+(fJ ts).st)*((ms t).pr*(fJ ts).pr)*x:=by refine ao (Qq n t x h.1) (bB _ (dx (Nat.pow_le_pow_right (by omega) (by omega)) ?_));exact cW _ (oE ts)
  have h2:wA n ts x<=(ts.length+1)*((n+1)^((ms t).st+(fJ ts).st)*((ms t).pr*(fJ ts).pr)*x):=by refine ao (WN n ts x h.2) (bP _ (bB _ (dx (Nat.pow_le_pow_right (by omega) (by omega)) ?_)));exact bR _ (wW t).1
  rw[du (ts.length+1),cz];omega
end
mutual
theorem vT_g (n:Nat):∀(t:T) (v:V3),v.g<=v.h->(vT n t v).g<=(vT n t v).h
 |.star _ _ tm,v,h=>by
  simp only[vT];split
  ·exact h
  ·simp only;omega
 |.dH l,v,h=>by simp only[vT];exact YB n l v h
 |.alt l,v,h=>by simp only[vT];exact aU _
 |.eh _,v,h|.text _,v,h|.char _,v,h|.range _ _ _,v,h|.set _ _,v,h|.void,v,h|.pre _ _,v,h|.eP _ _,v,h|.dN _ _ _,v,h|.cont _,v,h=>by simpa only[vT]using h
theorem YB (n:Nat):∀(l:List T) (v:V3),v.g<=v.h->(vL n l v).g<=(vL n l v).h
 | [],v,h=>h
 |t::ts,v,h=>by simp only[vL];exact vT_g n t _ (YB n ts v h)
end
theorem YA {p q a b K s f h:Nat} (ha:a<=q*(h+s*K*f)) (hb:b<=q*f) (S:Nat):p*(a+S*K*b)<=p*q*(h+(S+s)*K*f):=by
 have h1:S*K*b<=S*K*(q*f):=bP _ hb;have h2:S*K*(q*f)=q*(S*K*f):=by rw[<-bQ,Nat.mul_comm (S*K) q,bQ]
 have h3:a+S*K*b<=q*(h+(S+s)*K*f):=by rw[du,du,Nat.mul_add,Nat.mul_add];rw[Nat.mul_add]at ha;omega
 rw[bQ p q];exact bP _ h3
theorem WQ {p q K s S f h:Nat} (hp:p<=q) (hs:s<=S):p*(h+s*K*f)<=q*(h+S*K*f):=dx hp (Nat.add_le_add_left (bB _ (bB _ hs)) _)
mutual
theorem Qt (n:Nat):∀(t:T) (v:V3),Wm t->v.g<=v.h->(vT n t v).f<=(ms t).pr*v.f/\(vT n t v).h<=(ms t).pr*(v.h+(ms t).st*(n+2)*v.f)
 |.star _ _ tm,v,_,h=>by
  simp only[vT,ms,cz];split
  ·exact⟨af _,dv _ _⟩
  ·refine⟨af _,?_⟩;simp only;have e:(n+2)*v.f=(n+1)*v.f+v.f:=(by rw[show n+2=(n+1)+1 by omega,du (n+1) 1,cz]);omega
 |.dH l,v,ha,h=>by simp only[vT,ms,N4.node,cz];exact WR n l v ha h
 |.alt l,v,ha,h=>by simp only[Wm]at ha;simp only[vT,ms,N4.node,TC ha.1];obtain⟨h1,h2⟩:=WU n l v ha.2 h;exact⟨by rw[bQ];exact h1,by rw[bQ];exact h2⟩
 |.eh l,v,_,h=>by simp only[vT,ms,N4.node,cz];have hp:=oE l;exact⟨bR _ hp,ao (dv _ _) (bR _ hp)⟩
 |.text _,v,_,h|.char _,v,_,h|.range _ _ _,v,_,h|.set _ _,v,_,h|.void,v,_,h|.pre _ _,v,_,h|.eP _ _,v,_,h|.dN _ _ _,v,_,h|.cont _,v,_,h=>by simp[vT,ms]
theorem WR (n:Nat):∀(l:List T) (v:V3),xy l->v.g<=v.h->(vL n l v).f<=(fJ l).pr*v.f/\(vL n l v).h<=(fJ l).pr*(v.h+(fJ l).st*(n+2)*v.f)
 | [],v,_,h=>by simp[vL,fJ,N4.zero]
 |t::ts,v,ha,h=>by simp only[xy]at ha;simp only[vL,fJ,N4.add];obtain⟨h1,h2⟩:=Qt n t (vL n ts v) ha.1 (YB n ts v h);obtain⟨h3,h4⟩:=WR n ts v ha.2 h;refine⟨ao h1 ?_,ao h2 (YA h4 h3 _)⟩;rw[bQ];exact bP _ h3
theorem WU (n:Nat):∀(l:List T) (v:V3),xy l->v.g<=v.h->vF n l v<=(l.length+1)*((fJ l).pr*v.f)/\vH n l v<=(l.length+1)*((fJ l).pr*(v.h+(fJ l).st*(n+2)*v.f))
 | [],v,_,h=>by simp[vF,vH,fJ,N4.zero]
 |t::ts,v,ha,h=>by
  simp only[xy]at ha;simp only[vF,vH,fJ,N4.add,aH];obtain⟨h1,h2⟩:=Qt n t v ha.1 h;obtain⟨h3,h4⟩:=WU n ts v ha.2 h;have p1:(ms t).pr<=(ms t).pr*(fJ ts).pr:=cW _ (oE ts);have p2:(fJ ts).pr<=(ms t).pr*(fJ ts).pr:=bR _ (wW t).1;rw[du (ts.length+1),du (ts.length+1),cz,cz];refine⟨?_,?_⟩
  ·have q1:=ao h1 (bB v.f p1);have q2:=ao h3 (bP (ts.length+1) (bB v.f p2));omega
  ·have q1:=ao h2 (WQ (K:=n+2) (f:=v.f) (h:=v.h) p1 (dv (ms t).st (fJ ts).st));have q2:=ao h4 (bP (ts.length+1) (WQ (K:=n+2) (f:=v.f) (h:=v.h) p2 (Nat.le_add_left (fJ ts).st (ms t).st)));omega
end
mutual
theorem Mx (t:T) (h:fX [] t):t.free=true:=by
 match t,h with
 |.star sep _ _,h=>simp only[fX]at h;simp only[T.free];rcases h with rfl|rfl<;>simp
 |.dH l,h=>simp only[fX]at h;simp only[T.free];exact AY l h
 |.alt l,h=>simp only[fX]at h;simp only[T.free];exact AY l h
 |.eh _,_|.text _,_|.char _,_|.range _ _ _,_|.set _ _,_|.void,_|.pre _ _,_|.eP _ _,_|.dN _ _ _,_|.cont _,_=>simp only[T.free]
theorem AY (l:List T) (h:e8 [] l):ga l=true:=by
 match l,h with
 | [],_=>rfl
 |t::ts,h=>simp only[e8]at h;simp only[ga,al];exact⟨Mx t h.1,AY ts h.2⟩
end
theorem JI {S:List dE} {a b c:T} (h:gz a b=some c):fX S c:=by unfold gz at h;split at h<;>(try split at h)<;>(try cases h)<;>simp[fX]
theorem sR {S:List dE}:∀(l:List T),e8 S l->e8 S (dZ l)
 | [],_=>trivial
 |t::ts,h=>by
  simp only[e8]at h;have ih:=sR ts h.2;simp only[dZ];split
  ·rename_i u hu;rw[hu]at ih;split
   ·rename_i c hc;exact⟨JI hc,trivial⟩
   ·exact⟨h.1,ih⟩
  ·exact⟨h.1,ih⟩
mutual
theorem zT {S:List dE}:∀(t:T),fX S t->fX S (jD true t)
 |.alt l,h=>by simp only[jD,fX]at h⊢;exact C5 l h
 |.dH l,h=>by
  simp only[jD,if_true,fX]at h⊢;have:=sR _ (C4 l h)
  match dZ (gx true l),this with
  | [],_=>trivial
  | [t],h=>exact h.1
  |t::u::l,h=>simpa only[fk,fX]using h
 |.eh _,h|.star _ _ _,h=>by simpa only[jD]using h
 |.text _,_|.char _,_|.range _ _ _,_|.set _ _,_|.void,_|.pre _ _,_|.eP _ _,_|.dN _ _ _,_|.cont _,_=>by simp only[jD,fX]
theorem C5 {S:List dE}:∀(l:List T),e8 S l->e8 S (ki true l)
 | [],_=>trivial
 |t::ts,h=>⟨zT t h.1,C5 ts h.2⟩
theorem C4 {S:List dE}:∀(l:List T),e8 S l->e8 S (gx true l)
 | [],_=>trivial
 |t::ts,h=>by
  simp only[gx];refine⟨?_,C4 ts h.2⟩;cases ts.isEmpty
  ·simp only[cj,ma];exact h.1
  ·exact zT t h.1
end
theorem D0 {S:List dE} (l:List T) (t:T):fX S (fA l t)↔fX S t:=by cases l<;>cases t<;>simp only[fA,fX]
mutual
theorem zW {S:List dE}:∀(t:T) (τ:Bool),fX S t->fX S (js τ t)
 |.alt l,τ,h=>by simp only[js,fX]at h⊢;exact C9 l τ h
 |.dH l,τ,h=>by simp only[js,fX]at h⊢;exact C8 l τ h
 |.eh _,_,h|.star _ _ _,_,h=>by simpa only[js,fX]using h
 |.text _,_,_|.char _,_,_|.range _ _ _,_,_|.set _ _,_,_|.void,_,_|.pre _ _,_,_|.eP _ _,_,_|.dN _ _ _,_,_|.cont _,_,_=>by simp only[js,fX]
theorem C9 {S:List dE}:∀(l:List T) (τ:Bool),e8 S l->e8 S (mR τ l)
 | [],_,_=>trivial
 |t::ts,τ,h=>⟨zW t τ h.1,C9 ts τ h.2⟩
theorem C8 {S:List dE}:∀(l:List T) (τ:Bool),e8 S l->e8 S (kn τ l)
 | [],_,_=>trivial
 |t::ts,τ,h=>⟨(D0 _ _).2 (zW t _ h.1),C8 ts τ h.2⟩
end
mutual
theorem zV {S:List dE}:∀(t:T) (τ:Bool),fX S t->fX S (ji τ t)
 |.alt l,τ,h=>by simp only[ji];split<;>(simp only[fX]at h⊢;exact C7 l τ h)
 |.dH l,τ,h=>by simp only[ji,fX]at h⊢;exact C6 l τ h
 |.eh _,_,h|.star _ _ _,_,h=>by simpa only[ji]using h
 |.text _,_,_|.char _,_,_|.range _ _ _,_,_|.set _ _,_,_|.void,_,_|.pre _ _,_,_|.eP _ _,_,_|.dN _ _ _,_,_|.cont _,_,_=>by simp only[ji,fX]
theorem C7 {S:List dE}:∀(l:List T) (τ:Bool),e8 S l->e8 S (jr τ l)
 | [],_,_=>trivial
 |t::ts,τ,h=>⟨zV t τ h.1,C7 ts τ h.2⟩
theorem C6 {S:List dE}:∀(l:List T) (τ:Bool),e8 S l->e8 S (jC τ l)
 | [],_,_=>trivial
 |t::ts,τ,h=>⟨zV t _ h.1,C6 ts τ h.2⟩
end
theorem N1 {S:List dE} (t:T) (h:fX S t) (hf:t.full=true):fX S (comp t):=zV _ _ (zW _ _ (zT _ (K2 t h hf).1))
theorem ye {S:List dE} (t:T) (hr:raw t) (hs:fX S t) (n A P:Nat) (hA:(ms t).st<=A) (hP:(ms t).pr<=P):wT n (comp t) 1<=(n+1)^A*P/\(S=[]->(comp t).free=true/\(vT n (comp t) v1).h<=P*(1+A*(n+2))):=by
 have h1:=LD t;have h2:=E5 _ _ (A5 t hr).1;constructor
 ·refine ao (Qq n _ 1 h2) ?_;rw[Nat.mul_one];exact dx (Nat.pow_le_pow_right (by omega) (ao h1.2.1 hA)) (ao h1.2.2.1 hP)
 ·rintro rfl;refine⟨Mx _ (N1 t hs (z7 t hr)),?_⟩;have:=(Qt n _ v1 h2 (by simp[v1])).2;simp only[v1,Nat.mul_one]at this;refine ao this (dx (ao h1.2.2.1 hP) (Nat.add_le_add_left (bB _ (ao h1.2.1 hA)) _))
end Go.Proofs.YtfejflhgaphilaaGreatDoor.Gm
namespace Go.Proofs.YtfejflhgaphilaaGreatDoor
open Go.RowKit Gm
def Wk (s:List dE) (p:dE->Bool) (i k:Nat):Bool:=decide (k=i+1)&&(match s[i]? with|some c=>p c|none=>false)
def tZ (S s:List dE):Gb->Nat->Nat->Bool
 |.text t,i,k=>decide (k=i+t.length)&&t.isPrefixOf (s.drop i)
 |.any,i,k=>decide (i<=k)&&((s.drop i).take (k-i)).all (λc=> !S.contains c)
 |.fq,i,k=>decide (i<=k)
 |.one,i,k=>Wk s (λc=> !S.contains c) i k
 |.set cs n,i,k=>Wk s (λc=>cs.contains c != n) i k
 |.range lo hi n,i,k=>Wk s (λc=>uA lo hi n c) i k
 |.alt _,_,_=>false
def xa (S s:List dE) (g:Gb) (f:List Bool):List Bool:=(List.range (s.length+1)).map λk=>(List.range (s.length+1)).any λi=>f.getD i false&&tZ S s g i k
def YL (a b:List Bool):List Bool:=List.zipWith (·|| ·) a b
mutual
def rL (S s:List dE):Gb->List Bool->List Bool
 |.alt ks,f=>pM S s ks f (List.replicate (s.length+1) false)
 |.text t,f=>xa S s (.text t) f
 |.any,f=>xa S s .any f
 |.fq,f=>xa S s .fq f
 |.one,f=>xa S s .one f
 |.set cs n,f=>xa S s (.set cs n) f
 |.range a b n,f=>xa S s (.range a b n) f
def km (S s:List dE):List Gb->List Bool->List Bool
 | [],f=>f
 |g::l,f=>km S s l (rL S s g f)
def pM (S s:List dE):List (List Gb)->List Bool->List Bool->List Bool
 | [],_,tt=>tt
 |k::ks,f,tt=>pM S s ks f (YL tt (km S s k f))
end
section
variable {S s:List dE}
theorem zZ (n k:Nat):(List.replicate n false).getD k false=false:=by rw[bI,List.getElem?_replicate];split<;>rfl
theorem Hf (g:Gb) (f:List Bool):(xa S s g f).length=s.length+1:=by simp[xa]
theorem tn {a b:List Bool} (h:a.length=b.length):(YL a b).length=a.length:=by simp[YL,h]
mutual
theorem rK:∀(g:Gb) (f:List Bool),f.length=s.length+1->(rL S s g f).length=s.length+1
 |.alt ks,f,h=>by simp only[rL];exact uQ ks f _ h (by simp)
 |.text _,f,h|.any,f,h|.fq,f,h|.one,f,h|.set _ _,f,h|.range _ _ _,f,h=>by simp only[rL,Hf]
theorem lq:∀(l:List Gb) (f:List Bool),f.length=s.length+1->(km S s l f).length=s.length+1
 | [],f,h=>by simpa only[km]using h
 |g::l,f,h=>by simp only[km];exact lq l _ (rK g f h)
theorem uQ:∀(ks:List (List Gb)) (f tt:List Bool),f.length=s.length+1->tt.length=s.length+1->(pM S s ks f tt).length=s.length+1
 | [],f,tt,_,h=>by simpa only[pM]using h
 |k::ks,f,tt,hf,ht=>by simp only[pM];refine uQ ks f _ hf ?_;rw[tn (by rw[ht,lq k f hf]),ht]
end
theorem oH {u:List dE} {i k:Nat} (hi:i<=s.length) (hk:k<=s.length):s.drop i=u++s.drop k↔k=i+u.length/\u<+:s.drop i:=by
 constructor
 ·intro h;have hl:=congrArg List.length h;simp only[bT,aj]at hl;exact⟨by omega,⟨_,h.symm⟩⟩
 ·rintro⟨rfl,v,hv⟩;rw[<-hv];congr 1;have:=congrArg (List.drop u.length) hv;rw[dn,dk]at this;rw[this]
theorem UW {u:List dE} {i k:Nat} (h:u<+:s.drop i) (hk:k=i+u.length):(s.drop i).take (k-i)=u:=by subst hk;rw[dq];exact(dp.1 h).symm
theorem E3 {p:dE->Bool} {i k:Nat} (hi:i<=s.length) (hk:k<=s.length):Wk s p i k=true↔∃c,s.drop i=c::s.drop k/\p c=true:=by
 unfold Wk;simp only[al,decide_eq_true_eq];constructor
 ·rintro⟨rfl,h⟩;cases hc:s[i]? with
  |none=>simp[hc]at h
  |some c=>rw[hc]at h;refine⟨c,?_,h⟩;obtain⟨h1,h2⟩:=aB.1 hc;rw[bo h1,h2]
 ·rintro⟨c,h,hp⟩;obtain⟨h1,h2⟩:=(oH (u:=[c]) hi hk).1 h;refine⟨by simpa using h1,?_⟩;have:s[i]? =some c:=by
   have:=congrArg (λl=>l[0]?) h;simpa using this
  rw[this];exact hp
theorem Ml {i k:Nat} (hi:i<=s.length) (hk:k<=s.length):∀(g:Gb),(∀ks,g≠ .alt ks)->(tZ S s g i k=true↔D (gt S g) (s.drop i) (s.drop k))
 |.text t,_=>by simp only[tZ,gt,D,al,decide_eq_true_eq,bE];rw[oH hi hk]
 |.any,_=>by
  simp only[tZ,gt,D,al,decide_eq_true_eq,List.all_eq_true,cQ,List.contains_eq_mem,decide_eq_false_iff_not];constructor
  ·rintro⟨h1,h2⟩;refine⟨(s.drop i).take (k-i),?_,h2⟩;have:=bN (k-i) (s.drop i);rw[dk,show i+(k-i)=k by omega]at this;exact this.symm
  ·rintro⟨u,h1,h2⟩;obtain⟨h3,h4⟩:=(oH hi hk).1 h1;refine⟨by omega,?_⟩;rw[UW h4 h3];exact h2
 |.fq,_=>by
  simp only[tZ,gt,D,decide_eq_true_eq];constructor
  ·intro h1;refine⟨(s.drop i).take (k-i),?_,by simp⟩;have:=bN (k-i) (s.drop i);rw[dk,show i+(k-i)=k by omega]at this;exact this.symm
  ·rintro⟨u,h1,_⟩;have:=((oH hi hk).1 h1).1;omega
 |.one,_=>by simp only[tZ,gt,D,E3 hi hk,cQ,List.contains_eq_mem,decide_eq_false_iff_not]
 |.set cs n,_=>by simp only[tZ,gt,D,E3 hi hk,bne_iff_ne]
 |.range lo Sf n,_=>by simp only[tZ,gt,D,E3 hi hk]
 |.alt ks,h=>absurd rfl (h ks)
theorem EO {f:List Bool} {i:Nat} (h:f.getD i false=true):i<f.length:=by
 rcases aV i f.length with h1|h1
 ·exact h1
 ·rw[bI,bz h1]at h;simp at h
theorem pF {g:Gb} (hg:∀ks,g≠ .alt ks) {f:List Bool} (hf:f.length=s.length+1) {k:Nat} (hk:k<=s.length):(xa S s g f).getD k false=true↔∃i,f.getD i false=true/\D (gt S g) (s.drop i) (s.drop k):=by
 have e:(xa S s g f).getD k false=(List.range (s.length+1)).any λi=>f.getD i false&&tZ S s g i k:=by rw[bI];simp[xa,show k<s.length+1 by omega]
 rw[e,List.any_eq_true];simp only[List.mem_range,al];constructor
 ·rintro⟨i,h1,h2,h3⟩;exact⟨i,h2,(Ml (by omega) hk g hg).1 h3⟩
 ·rintro⟨i,h2,h3⟩;have:=EO h2;exact⟨i,by omega,h2,(Ml (by omega) hk g hg).2 h3⟩
theorem F6 {a b:List Bool} (h:a.length=b.length) (k:Nat):(YL a b).getD k false=(a.getD k false||b.getD k false):=by
 simp only[bI,YL,List.getElem?_zipWith];rcases aV k a.length with h1|h1
 ·rw[ah h1,ah (by omega)];simp
 ·rw[bz h1,bz (by omega)];simp
theorem YP {l:List T} {i:Nat} {m:List dE} {t:T} (h:D t (s.drop i) m) (_hl:∃r,Ds l m r):∃j,j<=s.length/\m=s.drop j:=by have hs:m<:+s:=(gL _ _ _ h).trans (List.drop_suffix _ _);refine⟨s.length-m.length,by omega,(List.suffix_iff_eq_drop.1 hs)⟩
theorem D_kidT (l:List T) (r r':List dE):D (lH l) r r'↔Ds l r r':=by
 cases l with
 |nil=>simp[lH,D,Ds]
 |cons a b=>simp[lH,D]
mutual
theorem Ie:∀(g:Gb) (f:List Bool) (k:Nat),f.length=s.length+1->k<=s.length->((rL S s g f).getD k false=true↔∃i,f.getD i false=true/\D (gt S g) (s.drop i) (s.drop k))
 |.alt ks,f,k,hf,hk=>by simp only[rL,gt,D];rw[Dx ks f _ k hf (by simp) hk,zZ];simp
 |.text t,f,k,hf,hk=>by simp only[rL];exact pF (λ_ e=>by cases e) hf hk
 |.any,f,k,hf,hk=>by simp only[rL];exact pF (λ_ e=>by cases e) hf hk
 |.fq,f,k,hf,hk=>by simp only[rL];exact pF (λ_ e=>by cases e) hf hk
 |.one,f,k,hf,hk=>by simp only[rL];exact pF (λ_ e=>by cases e) hf hk
 |.set _ _,f,k,hf,hk=>by simp only[rL];exact pF (λ_ e=>by cases e) hf hk
 |.range _ _ _,f,k,hf,hk=>by simp only[rL];exact pF (λ_ e=>by cases e) hf hk
theorem xk:∀(l:List Gb) (f:List Bool) (k:Nat),f.length=s.length+1->k<=s.length->((km S s l f).getD k false=true↔∃i,f.getD i false=true/\Ds (j8 S l) (s.drop i) (s.drop k))
 | [],f,k,hf,hk=>by
   simp only[km,j8,Ds];constructor
   ·intro h;exact⟨k,h,rfl⟩
   ·rintro⟨i,h,e⟩;have h1:=EO h;have:=congrArg List.length e;simp only[bT]at this;obtain rfl:i=k:=by omega
    exact h
 |g::l,f,k,hf,hk=>by
  simp only[km,j8,Ds];rw[xk l _ k (rK g f hf) hk];constructor
  ·rintro⟨j,h1,h2⟩;have hj:=EO h1;rw[rK g f hf]at hj;obtain⟨i,h3,h4⟩:=(Ie g f j hf (by omega)).1 h1;exact⟨i,h3,_,h4,h2⟩
  ·rintro⟨i,h3,m,h4,h2⟩;obtain⟨j,hj,rfl⟩:=YP h4 ⟨_,h2⟩;exact⟨j,(Ie g f j hf hj).2 ⟨i,h3,h4⟩,h2⟩
theorem Dx:∀(ks:List (List Gb)) (f tt:List Bool) (k:Nat),f.length=s.length+1->tt.length=s.length+1->k<=s.length->((pM S s ks f tt).getD k false=true↔tt.getD k false=true\/∃i,f.getD i false=true/\Da (rG S ks) (s.drop i) (s.drop k))
 | [],f,tt,k,_,_,_=>by simp[pM,rG,Da]
 |k0::ks,f,tt,k,hf,ht,hk=>by
  have hl:=lq (S:=S) k0 f hf;simp only[pM,rG,Da];rw[Dx ks f _ k hf (by rw[tn (by omega),ht]) hk,F6 (by omega),cC,xk k0 f k hf hk,or_assoc];refine or_congr dD ?_;have e:∀r r',D (if ks.isEmpty then .dH (j8 S k0)else lH (j8 S k0)) r r'↔Ds (j8 S k0) r r':=by
   intro r r';split
   ·simp only[D]
   ·exact D_kidT _ r r'
  simp only[e];constructor
  ·rintro(⟨i,h1,h2⟩|⟨i,h1,h2⟩)
   ·exact⟨i,h1,.inl h2⟩
   ·exact⟨i,h1,.inr h2⟩
  ·rintro⟨i,h1,h2|h2⟩
   ·exact .inl ⟨i,h1,h2⟩
   ·exact .inr ⟨i,h1,h2⟩
end
def lp (S:List dE) (l:List Gb) (s:List dE):Bool:=(km S s l (true::List.replicate s.length false)).getD s.length false
theorem Kp (l:List Gb):lp S l s=true↔D (.dH (j8 S l)) s []:=by
 unfold lp;rw[xk l _ _ (by simp) (af _)];simp only[D,List.drop_length];constructor
 ·rintro⟨i,h1,h2⟩;obtain rfl:i=0:=by
   cases i with
   |zero=>rfl
   |succ i=>have e:(true::List.replicate s.length false).getD (i+1) false=(List.replicate s.length false).getD i false:=(by simp[bI]);rw[e,zZ]at h1;cases h1
  simpa using h2
 ·intro h;exact⟨0,by simp,by simpa using h⟩
end
mutual
def oh:Gb->Ls->Option Ls
 |.any,s=>if s.2 then none else some (true,s.2)
 |.fq,s=>if s.2 then none else some (true,s.2)
 |.alt ks,s=>og ks (s.1,s.2||(s.1&&decide (1<ks.length)))
 |.text _,s=>some s
 |.one,s=>some s
 |.set _ _,s=>some s
 |.range _ _ _,s=>some s
def hU:List Gb->Ls->Option Ls
 | [],s=>some s
 |g::l,s=>match oh g s with
  |none=>none
  |some s'=>hU l s'
def og:List (List Gb)->Ls->Option Ls
 | [],s=>some s
 |k::ks,s=>match hU k s with
  |none=>none
  |some s'=>og ks s'
end
section
variable {S:List dE}
theorem qt:∀(ks:List (List Gb)),(rG S ks).length=ks.length
 | []=>rfl
 |k::ks=>by simp[rG,qt ks]
theorem Rn (l:List T) (b:Bool) (s:Ls):lost (if b then .dH l else lH l) s=ef l s:=by
 cases b with
 |true=>simp only[if_true,lost]
 |false=>
  simp only[aM,if_false];cases l with
  |nil=>simp[lH,lost,ef]
  |cons a l=>simp only[lH,lost]
mutual
theorem Vk:∀(g:Gb) (s:Ls),lost (gt S g) s=oh g s
 |.alt ks,s=>by simp only[gt,lost,oh,qt];exact Gz ks _
 |.any,s=>by simp only[gt,lost,oh]
 |.fq,s=>by simp only[gt,lost,oh]
 |.text _,s|.one,s|.set _ _,s|.range _ _ _,s=>by simp only[gt,lost,oh]
theorem Ap:∀(l:List Gb) (s:Ls),ef (j8 S l) s=hU l s
 | [],s=>by simp only[j8,ef,hU]
 |g::l,s=>by
  simp only[j8,ef,hU,Vk g s];cases oh g s with
  |none=>rfl
  |some s'=>exact Ap l s'
theorem Gz:∀(ks:List (List Gb)) (s:Ls),ef (rG S ks) s=og ks s
 | [],s=>by simp only[rG,ef,og]
 |k::ks,s=>by
  simp only[rG,ef,og,Rn,Ap k s];cases hU k s with
  |none=>rfl
  |some s'=>exact Gz ks s'
end
mutual
theorem YJ:∀(g:Gb),sN g->raw (gt S g)
 |.alt ks,h=>by simp only[sN]at h;simp only[gt,raw];refine⟨λe=> ?_,Ln ks h.2⟩;have:=qt (S:=S) ks;rw[e]at this;exact h.1 (b7.1 this.symm)
 |.any,_|.fq,_|.text _,_|.one,_|.set _ _,_|.range _ _ _,_=>by simp[gt,raw]
theorem D6:∀(l:List Gb),iY l->wv (j8 S l)
 | [],_=>trivial
 |g::l,h=>by simp only[iY]at h;simp only[j8,wv];exact⟨YJ g h.1,D6 l h.2.2⟩
theorem Ln:∀(ks:List (List Gb)),jE ks->wv (rG S ks)
 | [],_=>trivial
 |k::ks,h=>by
  simp only[jE]at h;simp only[rG,wv];refine⟨?_,Ln ks h.2⟩;have:=D6 k h.1;split
  ·simpa only[raw]using this
  ·cases hk:j8 S k with
   |nil=>simp[lH,raw]
   |cons a b=>rw[hk]at this;simpa only[lH,raw]using this
end
mutual
theorem U4:∀(g:Gb),fX S (gt S g)
 |.alt ks=>by simp only[gt,fX];exact FP ks
 |.any|.fq|.text _|.one|.set _ _|.range _ _ _=>by simp[gt,fX]
theorem zU:∀(l:List Gb),e8 S (j8 S l)
 | []=>trivial
 |g::l=>by simp only[j8,e8];exact⟨U4 g,zU l⟩
theorem FP:∀(ks:List (List Gb)),e8 S (rG S ks)
 | []=>trivial
 |k::ks=>by
  simp only[rG,e8];refine⟨?_,FP ks⟩;have:=zU k;split
  ·simpa only[fX]using this
  ·cases hk:j8 S k with
   |nil=>simp[lH,fX]
   |cons a b=>rw[hk]at this;simpa only[lH,fX]using this
end
end
end Go.Proofs.YtfejflhgaphilaaGreatDoor
