/- The walk over a tree, as the program does it, with paths; it comes to what the linear walk may come to. -/
import Derived.Test.YtfejflhgaphilaaGreatDoorC00
set_option linter.all false
set_option maxRecDepth 100000
set_option maxHeartbeats 64000000
namespace Go.Proofs.YtfejflhgaphilaaGreatDoor.Gm
variable {q p:List Nat} {s0 i:Nat}
structure Ck where
 path:List Nat
 rem:List dE
structure St where
 stars:List Ck
 stack:List Ck
structure Ctx where
 path:List Nat
 depth:Nat
 onStack:Bool
 floor:Nat
 live:Bool
def gR (d:Nat) (p:List Nat):List Nat:=p.take d++List.replicate (d-p.length) 0
def Ctx.idx (x:Ctx):Nat:=x.path.getD x.depth 0
def Ctx.branch (x:Ctx) (i:Nat):List Nat:=gR x.depth x.path++[i]
def Ctx.next (x:Ctx):Ctx:={x with depth:=x.depth+1}
def jd (sep nx:List dE):List dE->Option (List dE)
 | []=>none
 |c::r=>if sep.contains c then none else if nx.isPrefixOf r then some r else jd sep nx r
def eJ (x:Ctx) (s:St) (rem:List dE) (reset:Bool):St:={s with stars:=(if reset then s.stars.take x.floor else s.stars)++[⟨if x.path.length<x.depth then gR x.depth x.path else x.path,rem⟩]}
def iz (sep u:List dE):Bool:=u.all λc=> !sep.contains c
def nf (t:List dE):List dE->Bool
 | []=>t.isPrefixOf []
 |c::r=>t.isPrefixOf (c::r)||nf t r
def mv (x:Ctx) (n:Nat):Bool:=decide (x.idx+1<n)&&(decide (x.path.length<=x.depth)||(decide (x.depth+1=x.path.length)&&x.onStack))
mutual
def M:T->Ctx->List dE->St->Option (List dE)×St
 |.text t,_,r,s=>(if t.isPrefixOf r then some (r.drop t.length)else none,s)
 |.char sep,_,r,s=>(match r with| []=>none|c::r'=>if sep.contains c then none else some r',s)
 |.star sep nx tm,x,r,s=>
  if tm then(some (r.dropWhile λc=> !sep.contains c),s)else
  match r with
  | []=>(some [],s)
  |c::r'=>
   if nx.isEmpty then(some (c::r'),if sep.contains c then s else eJ x s r' sep.isEmpty)
   else(some (c::r'),match jd sep nx (c::r')with|none=>s|some r1=>eJ x s r1 sep.isEmpty)
 |.range lo hi neg,_,r,s=>(match r with| []=>none|c::r'=>if uA lo hi neg c then some r' else none,s)
 |.set cs neg,_,r,s=>(match r with| []=>none|c::r'=>if cs.contains c != neg then some r' else none,s)
 |.void,_,r,s=>(some r,s)
 |.pre t sep,_,r,s=>(if t.isPrefixOf r&&iz sep (r.drop t.length)then some []else none,s)
 |.eP t sep,_,r,s=>(if t.isSuffixOf r&&iz sep (r.take (r.length-t.length))then some []else none,s)
 |.dN p q sep,_,r,s=>(if decide (p.length+q.length<=r.length)&&p.isPrefixOf r&&q.isSuffixOf r&&iz sep ((r.take (r.length-q.length)).drop p.length)then some []else none,s)
 |.cont t,_,r,s=>(if nf t r then some []else none,s)
 |.dH l,x,r,s=>Ms l x.idx 0 x r s
 |.alt l,x,r,s=>
  let s1:=if mv x l.length then{s with stack:=s.stack++[⟨x.branch (x.idx+1),r⟩]}else s
  Ma l x.idx {x.next with floor:=s1.stars.length} r s1
 |.eh l,x,r,s=>Mt l x r s
def Ms:List T->Nat->Nat->Ctx->List dE->St->Option (List dE)×St
 | [],_,_,_,r,s=>(some r,s)
 |_::ts,k+1,i,x,r,s=>Ms ts k (i+1) x r s
 |t::ts,0,i,x,r,s=>
  let x':=if i≠x.idx/\x.live=true then{x with path:=x.branch i}else x
  match M t x'.next r s with
  |(none,s')=>(none,s')
  |(some r',s')=>Ms ts 0 (i+1) x' r' s'
def Ma:List T->Nat->Ctx->List dE->St->Option (List dE)×St
 | [],_,_,_,s=>(none,s)
 |t::_,0,x,r,s=>M t x r s
 |_::ts,k+1,x,r,s=>Ma ts k x r s
def Mt:List T->Ctx->List dE->St->Option (List dE)×St
 | [],_,_,s=>(none,s)
 |t::ts,x,r,s=>
  match M t x r s with
  |(some [],s')=>(some [],s')
  |(_,s')=>Mt ts x r s'
end
def res (t:T) (r:List dE):Option (List dE):=(M t ⟨[],0,false,0,false⟩ r ⟨[],[]⟩).1
mutual
def T.still:T->Bool
 |.star _ _ tm=>tm
 |.dH l=>fW l
 |.alt _=>false
 |.eh l=>fW l
 |_=>true
def fW:List T->Bool
 | []=>true
 |t::ts=>t.still&&fW ts
end
mutual
def T.wf:T->Bool
 |.dH l=>BA l
 |.alt l=> !l.isEmpty&&BA l
 |.eh l=>fW l
 |_=>true
def BA:List T->Bool
 | []=>true
 |t::ts=>t.wf&&BA ts
end
theorem sm {x:Ctx} (h:x.path.length<=x.depth):x.idx=0:=by simp[Ctx.idx,bz h]
theorem im (d:Nat) (p:List Nat):(gR d p).length=d:=by simp[gR];omega
theorem ES {x:Ctx} (i:Nat):({x with path:=x.branch i}:Ctx).next.path.length<=({x with path:=x.branch i}:Ctx).next.depth:=by simp[Ctx.next,Ctx.branch,im]
theorem oD (x:Ctx) (i:Nat) (h:x.path.length<=x.depth\/x.idx≠i/\x.live=true\/x.path.length<=x.depth+1):(if i≠x.idx/\x.live=true then{x with path:=x.branch i}else x).next.path.length<=(if i≠x.idx/\x.live=true then{x with path:=x.branch i}else x).next.depth:=by
 split
 ·exact ES i
 ·rename_i hn;simp only[Ctx.next];rcases h with h|⟨h,h'⟩|h
  ·omega
  ·exact(hn ⟨λe=>h e.symm,h'⟩).elim
  ·exact h
mutual
theorem np:∀(t:T),t.still=true->∀(x y:Ctx) (r:List dE) (s u:St),x.path.length<=x.depth->y.path.length<=y.depth->(M t x r s).1=(M t y r u).1/\(M t x r s).2=s
 |.text t,_,x,y,r,s,u,_,_=>by simp only[M,and_self]
 |.char sep,_,x,y,r,s,u,_,_=>by simp only[M,and_self]
 |.star sep nx tm,h,x,y,r,s,u,_,_=>by simp only[T.still]at h;subst h;simp only[M,if_true,and_self]
 |.range lo hi neg,_,x,y,r,s,u,_,_=>by simp only[M,and_self]
 |.set cs neg,_,x,y,r,s,u,_,_=>by simp only[M,and_self]
 |.void,_,x,y,r,s,u,_,_=>by simp only[M,and_self]
 |.pre t sep,_,x,y,r,s,u,_,_=>by simp only[M,and_self]
 |.eP t sep,_,x,y,r,s,u,_,_=>by simp only[M,and_self]
 |.dN p q sep,_,x,y,r,s,u,_,_=>by simp only[M,and_self]
 |.cont t,_,x,y,r,s,u,_,_=>by simp only[M,and_self]
 |.dH l,h,x,y,r,s,u,hx,hy=>by simp only[T.still]at h;simp only[M,sm hx,sm hy];exact I' l h 0 x y r s u (by omega) (by omega)
 |.alt _,h,_,_,_,_,_,_,_=>by simp[T.still]at h
 |.eh l,h,x,y,r,s,u,hx,hy=>by simp only[T.still]at h;simp only[M];exact I7 l h x y r s u hx hy
theorem I':∀(l:List T),fW l=true->∀(i:Nat) (x y:Ctx) (r:List dE) (s u:St),x.path.length<=x.depth+1->y.path.length<=y.depth+1->(Ms l 0 i x r s).1=(Ms l 0 i y r u).1/\(Ms l 0 i x r s).2=s
 | [],_,i,x,y,r,s,u,_,_=>by simp only[Ms,and_self]
 |t::ts,h,i,x,y,r,s,u,hx,hy=>by
  simp only[fW,al]at h;simp only[Ms];obtain⟨h1,h2⟩:=np t h.1 _ _ r s u (oD x i (.inr (.inr hx))) (oD y i (.inr (.inr hy)));have h3:=(np t h.1 _ _ r u s (oD y i (.inr (.inr hy))) (oD x i (.inr (.inr hx)))).2;have hlen:∀z:Ctx,z.path.length<=z.depth+1->(if i≠z.idx/\z.live=true then{z with path:=z.branch i}else z).path.length<=(if i≠z.idx/\z.live=true then{z with path:=z.branch i}else z).depth+1:=by
   intro z hz;split
   ·simp[Ctx.branch,im]
   ·exact hz
  generalize hA:M t (if i≠x.idx/\x.live=true then{x with path:=x.branch i}else x).next r s=A at h1 h2
  generalize hB:M t (if i≠y.idx/\y.live=true then{y with path:=y.branch i}else y).next r u=B at h1 h3
  obtain⟨a1,a2⟩:=A;obtain⟨b1,b2⟩:=B;simp only at h1 h2 h3;subst h1;subst h2;subst h3;cases a1 with
  |none=>simp
  |some r'=>exact I' ts h.2 (i+1) _ _ r' a2 b2 (hlen x hx) (hlen y hy)
theorem I7:∀(l:List T),fW l=true->∀(x y:Ctx) (r:List dE) (s u:St),x.path.length<=x.depth->y.path.length<=y.depth->(Mt l x r s).1=(Mt l y r u).1/\(Mt l x r s).2=s
 | [],_,x,y,r,s,u,_,_=>by simp only[Mt,and_self]
 |t::ts,h,x,y,r,s,u,hx,hy=>by
  simp only[fW,al]at h;simp only[Mt];obtain⟨h1,h2⟩:=np t h.1 x y r s u hx hy;have h3:=(np t h.1 y x r u s hy hx).2;obtain⟨h4,h5⟩:=I7 ts h.2 x y r s u hx hy;generalize hA:M t x r s=A at h1 h2;generalize hB:M t y r u=B at h1 h3;obtain⟨a1,a2⟩:=A;obtain⟨b1,b2⟩:=B;simp only at h1 h2 h3;subst h1;subst h2;subst h3;rcases a1 with _|(_|⟨c,r'⟩)
  ·exact⟨h4,h5⟩
  ·simp
  ·exact⟨h4,h5⟩
end
theorem MP {t:T} (hl:t.iD=true) (hw:t.wf=true) {x:Ctx} (hx:x.path.length<=x.depth) (r:List dE) (s:St):M t x r s=(res t r,s):=by
 have hs:t.still=true:=by cases t<;>simp_all[T.iD,T.still,T.wf]
 obtain⟨h1,h2⟩:=np t hs x ⟨[],0,false,0,false⟩ r s ⟨[],[]⟩ hx (by simp);exact Prod.ext h1 h2
theorem ve {res:T->List dE->Option (List dE)} {a b k:List T} {r r1:List dE} {s s1 s2:qX} {o:Option (List dE)} (h:W res s0 (b++k) a r s (some r1) s1) (h2:W res s0 k b r1 s1 o s2):W res s0 k (a++b) r s o s2:=by
 generalize ho:some r1=o1 at h
 induction h with
 |nil r s=>cases ho;exact h2
 |fail=>cases ho
 |leaf hl h hw ih=>exact .leaf hl h (ih h2 ho)
 |stay hd hw ih=>exact .stay hd (ih h2 ho)
 |store f hf h1 eR hd hw ih=>rw[aJ];refine .store f hf h1 eR hd ?_;rw[aD];exact ih h2 ho
 |dH hw ih=>rw[aJ];refine .dH ?_;rw[<-aD];exact ih h2 ho
 |last hw ih=>exact .last (ih h2 ho)
 |more hw ih=>rw[aJ];refine .more ?_;rw[aD];exact ih h2 ho
theorem oZ {res:T->List dE->Option (List dE)} {a b k:List T} {r:List dE} {s s1:qX} (h:W res s0 (b++k) a r s none s1):W res s0 k (a++b) r s none s1:=by
 generalize ho:none=o1 at h
 induction h with
 |nil r s=>cases ho
 |fail hl h=>exact .fail hl h
 |leaf hl h hw ih=>exact .leaf hl h (ih ho)
 |stay hd hw ih=>exact .stay hd (ih ho)
 |store f hf h1 eR hd hw ih=>rw[aJ];refine .store f hf h1 eR hd ?_;rw[aD];exact ih ho
 |dH hw ih=>rw[aJ];refine .dH ?_;rw[<-aD];exact ih ho
 |last hw ih=>exact .last (ih ho)
 |more hw ih=>rw[aJ];refine .more ?_;rw[aD];exact ih ho
mutual
def rg (kd:Bool):T->List Nat->List T
 |t,[]=>[t]
 |.dH l,i::p=>P' kd l i p
 |.alt l,i::p=>if kd=true/\p=[]then[.alt (l.drop i)]else zY kd l i p
 |_,_::_=>[]
def P' (kd:Bool):List T->Nat->List Nat->List T
 | [],_,_=>[]
 |t::ts,0,p=>rg kd t p++ts
 |_::ts,i+1,p=>P' kd ts i p
def zY (kd:Bool):List T->Nat->List Nat->List T
 | [],_,_=>[]
 |t::_,0,p=>rg kd t p
 |_::ts,i+1,p=>zY kd ts i p
end
mutual
def val:T->List Nat->Prop
 |_,[]=>True
 |.dH l,i::p=>jT l i p
 |.alt l,i::p=>jT l i p
 |_,_::_=>False
def jT:List T->Nat->List Nat->Prop
 | [],_,_=>False
 |t::_,0,p=>val t p
 |_::ts,i+1,p=>jT ts i p
end
theorem ig (kd:Bool) (t:T):rg kd t []=[t]:=by cases t<;>simp[rg]
theorem m7 (t:T):val t []:=by cases t<;>simp[val]
structure Cx (x:Ctx) (q p:List Nat):Prop where
 depth:x.depth=q.length
 pad:gR x.depth x.path=q
 left:x.path.drop x.depth=p
theorem Cx.fresh {x:Ctx} (h:Cx x q []):x.path.length<=x.depth:=by have:=h.left;simpa using this
theorem Cx.idx {x:Ctx} (h:Cx x q p):x.idx=p.headD 0:=by
 have h1:x.path.getD x.depth 0=(x.path.drop x.depth).headD 0:=by rw[bI,List.headD_eq_head?_getD,List.head?_drop]
 simp only[Ctx.idx,h1,h.left]
theorem Cx.lt {x:Ctx} (h:Cx x q (i::p)):x.depth<x.path.length:=by have:=congrArg List.length h.left;simp at this;omega
theorem Cx.pB {x:Ctx} (h:Cx x q (i::p)):Cx x.next (q++[i]) p:=by
 have eR:=h.lt;have hd:x.path.drop x.depth=i::p:=h.left;refine⟨by simp[Ctx.next,h.depth],?_,?_⟩
 ·simp only[Ctx.next];have hq:x.path.take x.depth=q:=by
   have:=h.pad;simp only[gR]at this;rw[show x.depth-x.path.length=0 from by omega]at this;simpa using this
  simp only[gR];rw[show x.depth+1-x.path.length=0 from by omega];simp only[List.replicate_zero,bd];have:x.path=q++i::p:=by rw[<-hq,<-hd,bN]
  rw[this,h.depth,List.take_append];simp[aP]
 ·simp only[Ctx.next];have:x.path.drop (x.depth+1)=(x.path.drop x.depth).drop 1:=by rw[dk]
  rw[this,hd];rfl
theorem Cx.Gi {x:Ctx} (h:Cx x q []):Cx x.next (q++[0]) []:=by
 have hf:=h.fresh;refine⟨by simp[Ctx.next,h.depth],?_,?_⟩
 ·simp only[Ctx.next];have hp:=h.pad;simp only[gR]at hp⊢;rw[aP (by omega)]at hp⊢;rw[<-hp,show x.depth+1-x.path.length=(x.depth-x.path.length)+1 from by omega,List.replicate_succ'];simp
 ·simp only[Ctx.next];exact List.drop_eq_nil_of_le (by omega)
theorem Cx.branch {x:Ctx} (h:Cx x q p) (i:Nat):Cx {x with path:=x.branch i} q [i]:=by
 have hl:(gR x.depth x.path).length=x.depth:=im _ _;refine⟨h.depth,?_,?_⟩
 ·simp only[Ctx.branch];have hp:=h.pad;generalize gR x.depth x.path=z at hp hl;unfold gR;rw[cP (by omega),aP (by omega)];rw[show x.depth- (z++[i]).length=0 from by simp;omega];simp only[List.replicate_zero,bd];exact hp
 ·simp only[Ctx.branch];rw[List.drop_append_of_le_length (by rw[hl];exact af _),aL (by rw[hl];exact af _)];rfl
structure In (root t:T) (q:List Nat) (k:List T):Prop where
 rest:∀kd p,val t p->(p≠[]\/kd=false)->rg kd root (q++p)=rg kd t p++k
 ok:∀p,val t p->val root (q++p)
theorem In.root (t:T):In t t [] []:=⟨λkd p _ _=>by simp,λp h=>h⟩
structure Wp (root:T) (ts:List T) (i:Nat) (q:List Nat) (k:List T):Prop where
 rest:∀kd j p,jT ts j p->(p≠[]\/kd=false)->rg kd root (q++(i+j)::p)=P' kd ts j p++k
 ok:∀j p,jT ts j p->val root (q++(i+j)::p)
theorem In.dH {root:T} {l:List T} {k:List T} (h:In root (.dH l) q k):Wp root l 0 q k:=⟨λkd j p hv hp=>by
                                                                                                     have:=h.rest kd (j::p) (by simpa[val]using hv) (.inl (by simp));simp only[cm];rw[this];simp[rg],
                                                                                                    λj p hv=>by simp only[cm];exact h.ok (j::p) (by simpa[val]using hv)⟩
theorem Wp.head {root t:T} {ts:List T} {k:List T} (h:Wp root (t::ts) i q k):In root t (q++[i]) (ts++k):=⟨λkd p hv hp=>by
                                                                                                                               have:=h.rest kd 0 p (by simpa[jT]using hv) hp;simp only[bL]at this;rw[aD,List.singleton_append,this];simp[P'],
                                                                                                                              λp hv=>by have:=h.ok 0 p (by simpa[jT]using hv);simpa using this⟩
theorem Wp.tail {root t:T} {ts:List T} {k:List T} (h:Wp root (t::ts) i q k):Wp root ts (i+1) q k:=⟨λkd j p hv hp=>by
                                                                                                                         have:=h.rest kd (j+1) p (by simpa[jT]using hv) hp;rw[show i+1+j=i+(j+1)from by omega,this];simp[P'],
                                                                                                                        λj p hv=>by rw[show i+1+j=i+(j+1)from by omega];exact h.ok (j+1) p (by simpa[jT]using hv)⟩
structure Rl (root:T) (s:St) (ls:qX):Prop where
 stars:ls.stars=s.stars.map λc=>(rg false root c.path,c.rem)
 stack:ls.stack=s.stack.map λc=>(rg true root c.path,c.rem)
 Uo:∀c∈s.stars,val root c.path
 okk:∀c∈s.stack,val root c.path/\c.path≠[]
mutual
def T.jO:T->Bool
 |.dH l=>fM l
 |.alt l=>eG l
 |_=>true
def fM:List T->Bool
 | []=>true
 |t::ts=>t.jO&&fM ts
end
mutual
def T.tf:T->Bool
 |.dH l=>mw l
 |.alt l=>sP l
 |_=>true
def mw:List T->Bool
 | []=>true
 |t::ts=>t.tf&&(t.calm||fM ts)&&mw ts
def sP:List T->Bool
 | []=>true
 |t::ts=>t.tf&&sP ts
end
def Fc (a b c:Bool) (x:Ctx) (s:St) (s0:Nat):Prop:=(x.floor<=s0/\(s.stars.length<=s0/\a=true\/b=true))\/c=true
theorem xI (sep nx:List dE):∀(r r1:List dE),jd sep nx r=some r1->D (.star sep nx false) r r1/\r1.length<r.length/\∀m,D (.star sep nx false) r m->m≠r->nx<+:m->m<:+r1
 | [],_,h=>by simp[jd]at h
 |c::r,r1,h=>by
  simp only[jd]at h;split at h
  ·cases h
  rename_i hc;have pU:c∉sep:=by simpa using hc
  split at h
  ·cases h;refine⟨?_,by simp,?_⟩
   ·simp only[D];exact⟨[c],rfl,by simpa using pU⟩
   ·intro m hm eK _;obtain⟨u,hu⟩:=gL _ _ _ hm;cases u with
    |nil=>exact(eK hu).elim
    |cons d u=>simp at hu;exact⟨u,hu.2⟩
  ·rename_i hp;obtain⟨h1,h2,h3⟩:=xI sep nx r r1 h;refine⟨?_,by simp;omega,?_⟩
   ·simp only[D]at h1⊢;obtain⟨u,rfl,hu⟩:=h1;exact⟨c::u,rfl,by simp only[az,forall_eq_or_imp];exact⟨pU,hu⟩⟩
   ·intro m hm eK tE;simp only[D]at hm;obtain⟨u,hu,Jm⟩:=hm;cases u with
    |nil=>exact(eK hu.symm).elim
    |cons d u=>
     simp at hu;obtain⟨rfl,rfl⟩:=hu;refine h3 m ?_ ?_ tE
     ·simp only[D];exact⟨u,rfl,λc hc=>Jm c (bJ _ hc)⟩
     ·intro e;rw[e]at tE;exact hp (by simpa using tE)
theorem re (sep nx:List dE):∀(r:List dE),jd sep nx r=none->∀m,D (.star sep nx false) r m->m≠r->nx<+:m->False
 | [],_=>by intro m hm eK _;have:=gL _ _ _ hm;exact eK (by simpa using this)
 |c::r,h=>by
  intro m hm eK tE;simp only[jd]at h;simp only[D]at hm;obtain⟨u,hu,Jm⟩:=hm;cases u with
  |nil=>exact eK hu.symm
  |cons d u=>
   simp at hu;obtain⟨rfl,rfl⟩:=hu;split at h
   ·rename_i hc;exact Jm c (by simp) (by simpa using hc)
   split at h
   ·cases h
   rename_i hp;refine re sep nx _ h m ?_ ?_ tE
   ·simp only[D];exact⟨u,rfl,λc hc=>Jm c (bJ _ hc)⟩
   ·intro e;rw[e]at tE;exact hp (by simpa using tE)
theorem FI {x:Ctx} (h:Cx x q []):(if x.path.length<x.depth then gR x.depth x.path else x.path)=q:=by
 have hf:=h.fresh;have hp:=h.pad;split
 ·exact hp
 ·have:x.path.length=x.depth:=by omega
  simp only[gR]at hp;rw[aP (by omega),show x.depth-x.path.length=0 from by omega]at hp;simpa using hp
theorem Rl.store {root:T} {s:St} {ls:qX} {x:Ctx} {k:List T} {sep nx:List dE} (hi:In root (.star sep nx false) q k) (hx:Cx x q []) (h:Rl root s ls) (r1:List dE):Rl root (eJ x s r1 sep.isEmpty) {ls with stars:=(if sep=[]then ls.stars.take x.floor else ls.stars)++[(.star sep nx false::([]++k),r1)]}:=by
 have hq:rg false root q=.star sep nx false::k:=by have:=hi.rest false [] (m7 _) (.inr rfl);rw[bd,ig]at this;exact this
 constructor
 ·simp only[eJ,FI hx,cM,cX,cH,hq,bw];congr 1;rw[h.stars];by_cases hs:sep=[]
  ·simp[hs,List.map_take]
  ·simp[hs]
 ·simp only[eJ];exact h.stack
 ·intro c hc;simp only[eJ,FI hx]at hc;rcases ar.1 hc with hc|hc
  ·refine h.Uo c ?_;split at hc
   ·exact dm hc
   ·exact hc
  ·simp only[az,ba,or_false]at hc;subst hc;have:=hi.ok [] (m7 _);simpa using this
 ·simp only[eJ];exact h.okk
theorem QT {sep nx:List dE} {root:T} {k:List T} {x:Ctx} {s:St} {ls:qX} (r:List dE) (hi:In root (.star sep nx false) q k) (hx:Cx x q []) (hf:x.floor<=s0) (hr:Rl root s ls):∃tY,Rl root (M (.star sep nx false) x r s).2 tY/\W res s0 k [.star sep nx false] r ls (M (.star sep nx false) x r s).1 tY:=by
 have hM:M (.star sep nx false) x r s=(some r,match jd sep nx r with|none=>s|some r1=>eJ x s r1 sep.isEmpty):=by
  simp only[M,aM,if_false];cases r with
  |nil=>simp[jd]
  |cons c r'=>
   simp only;split
   ·rename_i h;have hn:nx=[]:=by simpa using h
    subst hn;simp only[jd,List.isPrefixOf];split<;>simp
   ·rfl
 rw[hM];cases hs:jd sep nx r with
 |none=>exact⟨ls,hr,.stay (re sep nx r hs) (.nil _ _)⟩
 |some r1=>obtain⟨h1,h2,h3⟩:=xI sep nx r r1 hs;exact⟨_,hr.store hi hx r1,.store x.floor hf h1 h2 h3 (.nil _ _)⟩
structure InA (root:T) (n:List T) (ts:List T) (i:Nat) (q:List Nat) (k:List T):Prop where
 rest:∀kd j p,jT ts j p->(p≠[]\/kd=false)->rg kd root (q++(i+j)::p)=zY kd ts j p++k
 ok:∀j p,jT ts j p->val root (q++(i+j)::p)
 save:∀j,j<n.length->rg true root (q++[j])=.alt (n.drop j)::k
theorem zX (kd:Bool):∀(l:List T) (i:Nat) (p:List Nat),zY kd (l.drop i) 0 p=zY kd l i p
 | [],i,p=>by simp[zY]
 |t::ts,0,p=>by simp
 |t::ts,i+1,p=>by simp only[cu];rw[zX kd ts i p];simp[zY]
theorem nN:∀(l:List T) (j:Nat),j<l.length->jT l j []
 | [],_,h=>by simp at h
 |t::ts,0,_=>by simp only[jT];exact m7 t
 |t::ts,j+1,h=>by simp only[jT];exact nN ts j (by simpa using h)
theorem tw:∀(l:List T) (j:Nat) (p:List Nat),jT l j p->j<l.length
 | [],_,_,h=>by simp[jT]at h
 |t::ts,0,_,_=>by simp
 |t::ts,j+1,p,h=>by simp only[jT]at h;have:=tw ts j p h;simpa using this
theorem In.alt {root:T} {l:List T} {k:List T} (h:In root (.alt l) q k):InA root l l 0 q k:=⟨λkd j p hv hp=>by
                                                                                                          have:=h.rest kd (j::p) (by simpa[val]using hv) (.inl (by simp));simp only[cm];rw[this];simp only[rg];rw[if_neg (λh=>hp.elim (λe=>e h.2) (λe=>by rw[e]at h;exact Bool.noConfusion h.1))],
                                                                                                         λj p hv=>by simp only[cm];exact h.ok (j::p) (by simpa[val]using hv),
                                                                                                         λj hj=>by rw[h.rest true [j] (by simp only[val];exact nN l j hj) (.inl (by simp))];simp[rg]⟩
theorem InA.head {root t:T} {n ts:List T} {k:List T} (h:InA root n (t::ts) i q k):In root t (q++[i]) k:=⟨λkd p hv hp=>by
                                                                                                                               have:=h.rest kd 0 p (by simpa[jT]using hv) hp;simp only[bL]at this;rw[aD,List.singleton_append,this];simp[zY],
                                                                                                                              λp hv=>by have:=h.ok 0 p (by simpa[jT]using hv);simpa using this⟩
theorem InA.tail {root t:T} {n ts:List T} {k:List T} (h:InA root n (t::ts) i q k):InA root n ts (i+1) q k:=⟨λkd j p hv hp=>by
                                                                                                                                  have:=h.rest kd (j+1) p (by simpa[jT]using hv) hp;rw[show i+1+j=i+(j+1)from by omega,this];simp[zY],
                                                                                                                                 λj p hv=>by rw[show i+1+j=i+(j+1)from by omega];exact h.ok (j+1) p (by simpa[jT]using hv),
                                                                                                                                 h.save⟩
theorem Fc.head {t:T} {ts:List T} {x:Ctx} {s:St} (h:Fc (mw (t::ts)) (fM (t::ts)) (eG (t::ts)) x s s0):Fc t.tf t.jO t.calm x s s0:=by
 simp only[Fc,mw,fM,eG,al]at*;rcases h with⟨h1,⟨h2,h3⟩|h2⟩|h
 ·exact .inl ⟨h1,.inl ⟨h2,h3.1.1⟩⟩
 ·exact .inl ⟨h1,.inr h2.1⟩
 ·exact .inr h.1
theorem Fc.tail {t:T} {ts:List T} {x:Ctx} {s s':St} (h:Fc (mw (t::ts)) (fM (t::ts)) (eG (t::ts)) x s s0) (hs:t.calm=true->s'.stars=s.stars):Fc (mw ts) (fM ts) (eG ts) x s' s0:=by
 simp only[Fc,mw,fM,eG,al,cC]at*;rcases h with⟨h1,⟨h2,h3⟩|h2⟩|h
 ·by_cases hc:t.calm=true
  ·exact .inl ⟨h1,.inl ⟨by rw[hs hc];exact h2,h3.2⟩⟩
  ·exact .inl ⟨h1,.inr (h3.1.2.resolve_left hc)⟩
 ·exact .inl ⟨h1,.inr h2.2⟩
 ·exact .inr h.2
theorem Cj {k:List T} {t:T} (hl:t.iD=true) (r:List dE) (ls:qX):W res s0 k [t] r ls (res t r) ls:=by
 cases h:res t r with
 |none=>exact .fail hl h
 |some r'=>exact .leaf hl h (.nil _ _)
theorem jK {t:T} (hl:t.iD=true) (hw:t.wf=true) {root:T} {k:List T} {x:Ctx} {s:St} {ls:qX} (r:List dE) (hx:Cx x q []) (hr:Rl root s ls):∃tY,Rl root (M t x r s).2 tY/\W res s0 k [t] r ls (M t x r s).1 tY/\(t.calm=true->(M t x r s).2.stars=s.stars):=by rw[MP hl hw hx.fresh];exact⟨ls,hr,Cj hl r ls,λ_=>rfl⟩
theorem Cx.nX {x:Ctx} {t:T} (hx:Cx x q p) (hv:val t p) (h:∀l,t≠ .dH l/\t≠ .alt l):p=[]/\Cx x q []:=by
 cases p with
 |nil=>exact⟨rfl,hx⟩
 |cons i p=>cases t<;>simp[val]at hv<;>simp at h
mutual
theorem FN:∀(t:T),t.wf=true->∀(root:T) (q:List Nat) (k:List T) (x:Ctx) (p:List Nat) (r:List dE) (s:St) (s0:Nat) (ls:qX),In root t q k->Cx x q p->val t p->x.live=true->Fc t.tf t.jO t.calm x s s0->Rl root s ls->∃tY,Rl root (M t x r s).2 tY/\W res s0 k (rg x.onStack t p) r ls (M t x r s).1 tY/\(t.calm=true->(M t x r s).2.stars=s.stars)
 |.text t,hw,root,q,k,x,p,r,s,s0,ls,hi,hx,hv,hl,hf,hr=>by obtain⟨rfl,hx⟩:=hx.nX hv (by simp);rw[ig];exact jK rfl hw r hx hr
 |.char sep,hw,root,q,k,x,p,r,s,s0,ls,hi,hx,hv,hl,hf,hr=>by obtain⟨rfl,hx⟩:=hx.nX hv (by simp);rw[ig];exact jK rfl hw r hx hr
 |.star sep nx tm,hw,root,q,k,x,p,r,s,s0,ls,hi,hx,hv,hl,hf,hr=>by
  obtain⟨rfl,hx⟩:=hx.nX hv (by simp);rw[ig];cases tm with
  |true=>exact jK rfl hw r hx hr
  |false=>simp only[Fc,T.calm,aM,or_false]at hf;obtain⟨tY,h1,h2⟩:=QT r hi hx hf.1 hr;exact⟨tY,h1,h2,λh=>by simp[T.calm]at h⟩
 |.range lo Sf neg,hw,root,q,k,x,p,r,s,s0,ls,hi,hx,hv,hl,hf,hr=>by obtain⟨rfl,hx⟩:=hx.nX hv (by simp);rw[ig];exact jK rfl hw r hx hr
 |.set cs neg,hw,root,q,k,x,p,r,s,s0,ls,hi,hx,hv,hl,hf,hr=>by obtain⟨rfl,hx⟩:=hx.nX hv (by simp);rw[ig];exact jK rfl hw r hx hr
 |.void,hw,root,q,k,x,p,r,s,s0,ls,hi,hx,hv,hl,hf,hr=>by obtain⟨rfl,hx⟩:=hx.nX hv (by simp);rw[ig];exact jK rfl hw r hx hr
 |.pre t sep,hw,root,q,k,x,p,r,s,s0,ls,hi,hx,hv,hl,hf,hr=>by obtain⟨rfl,hx⟩:=hx.nX hv (by simp);rw[ig];exact jK rfl hw r hx hr
 |.eP t sep,hw,root,q,k,x,p,r,s,s0,ls,hi,hx,hv,hl,hf,hr=>by obtain⟨rfl,hx⟩:=hx.nX hv (by simp);rw[ig];exact jK rfl hw r hx hr
 |.dN a b sep,hw,root,q,k,x,p,r,s,s0,ls,hi,hx,hv,hl,hf,hr=>by obtain⟨rfl,hx⟩:=hx.nX hv (by simp);rw[ig];exact jK rfl hw r hx hr
 |.cont t,hw,root,q,k,x,p,r,s,s0,ls,hi,hx,hv,hl,hf,hr=>by obtain⟨rfl,hx⟩:=hx.nX hv (by simp);rw[ig];exact jK rfl hw r hx hr
 |.eh l,hw,root,q,k,x,p,r,s,s0,ls,hi,hx,hv,hl,hf,hr=>by obtain⟨rfl,hx⟩:=hx.nX hv (by simp);rw[ig];exact jK rfl hw r hx hr
 |.dH l,hw,root,q,k,x,p,r,s,s0,ls,hi,hx,hv,hl,hf,hr=>by
  simp only[T.wf]at hw;simp only[M,T.calm];simp only[T.tf,T.jO,T.calm]at hf;cases p with
  |nil=>rw[hx.idx,ig];obtain⟨tY,h1,h2,h3⟩:=yZ l hw root q k 0 x r s s0 ls hi.dH (.inr ⟨rfl,hx⟩) hl hf hr;exact⟨tY,h1,.dH (by simpa using h2),h3⟩
  |cons i p=>rw[hx.idx];simp only[val]at hv;simp only[rg,List.headD_cons];have:=QU l hw root q k i 0 x p r s s0 ls hi.dH (by simpa using hx) hv hl hf hr;exact this
 |.alt l,hw,root,q,k,x,p,r,s,s0,ls,hi,hx,hv,hl,hf,hr=>by
  simp only[T.wf,al,cQ,dh]at hw;simp only[M,T.calm];simp only[T.tf,T.jO,T.calm]at hf;have hA:=hi.alt;have kT:∀s1:St,s1.stars=s.stars->Fc (sP l) (eG l) (eG l) {x.next with floor:=s1.stars.length} s1 s0:=by
   intro s1 h1;rcases hf with⟨h2,⟨h3,h4⟩|h3⟩|h3
   ·exact .inl ⟨by simp only[h1];exact h3,.inl ⟨by rw[h1];exact h3,h4⟩⟩
   ·exact .inr h3
   ·exact .inr h3
  by_cases pS:p=[]\/(p.length=1/\x.onStack=true)
  ·
   obtain⟨i,Zs⟩:∃i,p.headD 0=i:=⟨_,rfl⟩;have xT:i<l.length:=by
    subst Zs;cases p with
    |nil=>exact bG.2 hw.1
    |cons j p=>simp only[val]at hv;exact tw l j p hv
   have hrg:rg x.onStack (.alt l) p=[.alt (l.drop i)]:=by
    rcases pS with rfl|⟨h1,h2⟩
    ·subst Zs;simp[rg]
    ·cases p with
     |nil=>simp at h1
     |cons j p=>have:p=[]:=(by simpa using h1);subst this;subst Zs;simp[rg,h2]
   have nH:Cx x.next (q++[i]) []:=by
    rcases pS with rfl|⟨h1,_⟩
    ·subst Zs;exact hx.Gi
    ·cases p with
     |nil=>simp at h1
     |cons j p=>have:p=[]:=(by simpa using h1);subst this;subst Zs;exact hx.pB
   have RL:mv x l.length=decide (i+1<l.length):=by
    simp only[mv,hx.idx,Zs];rcases pS with rfl|⟨h1,h2⟩
    ·simp[hx.fresh]
    ·have:x.depth+1=x.path.length:=by
      have h3:=congrArg List.length hx.left;simp at h3;omega
     simp[h2,this]
   rw[hx.idx,Zs,RL,hrg];have mY:∃t ts,l.drop i=t::ts:=by
    cases h:l.drop i with
    |nil=>simp at h;omega
    |cons t ts=>exact⟨t,ts,rfl⟩
   obtain⟨t,ts,hd⟩:=mY;by_cases eR:i+1<l.length
   ·obtain⟨u,us,rfl⟩:∃u us,ts=u::us:=by
     cases ts with
     |nil=>have:=congrArg List.length hd;simp at this;omega
     |cons u us=>exact⟨u,us,rfl⟩
    have xV:l.drop (i+1)=u::us:=(by have:l.drop (i+1)=(l.drop i).drop 1:=(by rw[dk]);rw[this,hd];rfl);simp only[decide_eq_true eR,if_true];have hb:x.branch (i+1)=q++[i+1]:=by simp only[Ctx.branch,hx.pad]
    have yz:Rl root {s with stack:=s.stack++[⟨x.branch (i+1),r⟩]} {ls with stack:=ls.stack++[(.alt (u::us)::([]++k),r)]}:=by
     refine⟨hr.stars,?_,hr.Uo,?_⟩
     ·simp only[cM,cX,cH,hb,hA.save (i+1) eR,xV,hr.stack,bw]
     ·intro c hc;rcases ar.1 hc with hc|hc
      ·exact hr.okk c hc
      ·simp only[az,ba,or_false]at hc;subst hc;simp only[hb];refine⟨?_,by simp⟩;have:=hA.ok (i+1) [] (nN l _ eR);simpa using this
    obtain⟨tY,h1,h2,h3⟩:=DZ l hw.2 root l q k i 0 {x.next with floor:=s.stars.length} [] r _ s0 _ hA (by simp only[cm];exact⟨nH.depth,nH.pad,nH.left⟩) (nN l i xT) hl (kT {s with stack:=s.stack++[⟨x.branch (i+1),r⟩]} rfl) yz;refine⟨tY,h1,?_,h3⟩;rw[hd];refine .more ?_;have Zh:zY x.next.onStack l i []=[t]:=by have:=zX x.onStack l i [];rw[hd]at this;simpa[zY,ig,Ctx.next]using this.symm
    have Dt:W res s0 k (zY x.next.onStack l i []) r {ls with stack:=ls.stack++[(.alt (u::us)::([]++k),r)]} _ tY:=h2;rw[Zh]at Dt;exact Dt
   ·have:ts=[]:=by
     have:=congrArg List.length hd;simp at this;exact bM (by omega)
    subst this;simp only[decide_eq_false eR,aM,if_false];obtain⟨tY,h1,h2,h3⟩:=DZ l hw.2 root l q k i 0 {x.next with floor:=s.stars.length} [] r s s0 ls hA (by simp only[cm];exact⟨nH.depth,nH.pad,nH.left⟩) (nN l i xT) hl (kT s rfl) hr;refine⟨tY,h1,?_,h3⟩;rw[hd];refine .last ?_;have Zh:zY x.next.onStack l i []=[t]:=by have:=zX x.onStack l i [];rw[hd]at this;simpa[zY,ig,Ctx.next]using this.symm
    have Dt:W res s0 k (zY x.next.onStack l i []) r ls _ tY:=h2;rw[Zh]at Dt;exact Dt
  ·
   obtain⟨i,p,rfl⟩:∃i p',p=i::p':=by
    cases p with
    |nil=>exact(pS (.inl rfl)).elim
    |cons i p=>exact⟨i,p,rfl⟩
   have RL:mv x l.length=false:=by
    simp only[mv];have eR:=hx.lt;have:¬(x.depth+1=x.path.length/\x.onStack=true):=by rintro⟨h1,h2⟩;refine pS (.inr ⟨?_,h2⟩);have h3:=congrArg List.length hx.left;rw[bT]at h3;rw[<-h3];omega
    simp only[Bool.and_eq_false_iff,Bool.or_eq_false_iff,decide_eq_false_iff_not];right;refine⟨by omega,?_⟩;by_cases h1:x.depth+1=x.path.length
    ·right;simpa usingλh2=>this ⟨h1,h2⟩
    ·exact .inl h1
   rw[RL,hx.idx];simp only[aM,if_false,List.headD_cons];simp only[val]at hv;have hn:=hx.pB;have hrg:rg x.onStack (.alt l) (i::p)=zY x.onStack l i p:=by simp only[rg];rw[if_neg];rintro⟨h1,rfl⟩;exact pS (.inr ⟨rfl,h1⟩)
   rw[hrg];exact DZ l hw.2 root l q k i 0 {x.next with floor:=s.stars.length} p r s s0 ls hA (by simp only[cm];exact⟨hn.depth,hn.pad,hn.left⟩) hv hl (kT s rfl) hr
theorem QU:∀(l:List T),BA l=true->∀(root:T) (q:List Nat) (k:List T) (j i:Nat) (x:Ctx) (p:List Nat) (r:List dE) (s:St) (s0:Nat) (ls:qX),Wp root l i q k->Cx x q ((i+j)::p)->jT l j p->x.live=true->Fc (mw l) (fM l) (eG l) x s s0->Rl root s ls->∃tY,Rl root (Ms l j i x r s).2 tY/\W res s0 k (P' x.onStack l j p) r ls (Ms l j i x r s).1 tY/\(eG l=true->(Ms l j i x r s).2.stars=s.stars)
 | [],_,root,q,k,j,i,x,p,r,s,s0,ls,hi,hx,hv,hl,hf,hr=>by simp[jT]at hv
 |t::ts,hw,root,q,k,0,i,x,p,r,s,s0,ls,hi,hx,hv,hl,hf,hr=>by
  simp only[BA,al]at hw;simp only[bL]at hx;have hid:x.idx=i:=by rw[hx.idx];rfl
  have hv0:val t p:=by simpa[jT]using hv
  simp only[Ms,hid,ne_eq,not_true_eq_false,false_and,if_false,P',eG,al];obtain⟨sl,h1,h2,h3⟩:=FN t hw.1 root (q++[i]) (ts++k) x.next p r s s0 ls hi.head hx.pB hv0 hl hf.head hr;generalize M t x.next r s=A at h1 h2 h3;obtain⟨o,s1⟩:=A;cases o with
  |none=>exact⟨sl,h1,oZ h2,λh=>h3 h.1⟩
  |some r1=>obtain⟨YR,h4,h5,h6⟩:=yZ ts hw.2 root q k (i+1) x r1 s1 s0 sl hi.tail (.inl ⟨i,p,hx,by omega⟩) hl (hf.tail h3) h1;exact⟨YR,h4,ve h2 h5,λh=>(h6 h.2).trans (h3 h.1)⟩
 |t::ts,hw,root,q,k,j+1,i,x,p,r,s,s0,ls,hi,hx,hv,hl,hf,hr=>by simp only[BA,al]at hw;simp only[Ms,P',eG,al];have zl:Fc (mw ts) (fM ts) (eG ts) x s s0:=hf.tail λ_=>rfl;obtain⟨sl,h1,h2,h3⟩:=QU ts hw.2 root q k j (i+1) x p r s s0 ls hi.tail (by rw[show i+1+j=i+(j+1)from by omega];exact hx) (by simpa[jT]using hv) hl zl hr;exact⟨sl,h1,h2,λh=>h3 h.2⟩
theorem yZ:∀(l:List T),BA l=true->∀(root:T) (q:List Nat) (k:List T) (i:Nat) (x:Ctx) (r:List dE) (s:St) (s0:Nat) (ls:qX),Wp root l i q k->((∃j p,Cx x q (j::p)/\j<i)\/(i=0/\Cx x q []))->x.live=true->Fc (mw l) (fM l) (eG l) x s s0->Rl root s ls->∃tY,Rl root (Ms l 0 i x r s).2 tY/\W res s0 k l r ls (Ms l 0 i x r s).1 tY/\(eG l=true->(Ms l 0 i x r s).2.stars=s.stars)
 | [],_,root,q,k,i,x,r,s,s0,ls,hi,hx,hl,hf,hr=>by simp only[Ms];exact⟨ls,hr,.nil _ _,λ_=>trivial⟩
 |t::ts,hw,root,q,k,i,x,r,s,s0,ls,hi,hx,hl,hf,hr=>by
  simp only[BA,al]at hw;simp only[Ms,eG,al];generalize Jl:(if i≠x.idx/\x.live=true then{x with path:=x.branch i}else x)=x';have hC:Cx x'.next (q++[i]) []/\x'.live=true/\x'.floor=x.floor/\x'.onStack=x.onStack/\((∃j p,Cx x' q (j::p)/\j<i+1)\/(i+1=1/\Cx x' q [])):=by
   rcases hx with⟨j,p,hx,eR⟩|⟨rfl,hx⟩
   ·have eK:i≠x.idx:=(by rw[hx.idx];simp only[List.headD_cons];omega);rw[if_pos ⟨eK,hl⟩]at Jl;subst Jl;have:=hx.branch i;exact⟨this.pB,hl,rfl,rfl,.inl ⟨i,[],this,by omega⟩⟩
   ·have he:¬(0≠x.idx/\x.live=true):=(by rw[hx.idx];simp);rw[if_neg he]at Jl;subst Jl;exact⟨hx.Gi,hl,rfl,rfl,.inr ⟨rfl,hx⟩⟩
  obtain⟨hc,yC,kT,hos,Sn⟩:=hC;have zl:Fc (mw (t::ts)) (fM (t::ts)) (eG (t::ts)) x' s s0:=by simp only[Fc,kT]at hf⊢;exact hf
  obtain⟨sl,h1,h2,h3⟩:=FN t hw.1 root (q++[i]) (ts++k) x'.next [] r s s0 ls hi.head hc (m7 t) yC zl.head hr;rw[ig]at h2;generalize M t x'.next r s=A at h1 h2 h3;obtain⟨o,s1⟩:=A;cases o with
  |none=>exact⟨sl,h1,oZ (a:=[t]) h2,λh=>h3 h.1⟩
  |some r1=>
   have hft:Fc (mw ts) (fM ts) (eG ts) x' s1 s0:=zl.tail h3;rcases Sn with Sn|⟨h01,VZ⟩
   ·obtain⟨YR,h4,h5,h6⟩:=yZ ts hw.2 root q k (i+1) x' r1 s1 s0 sl hi.tail (.inl Sn) yC hft h1;exact⟨YR,h4,ve (a:=[t]) h2 h5,λh=>(h6 h.2).trans (h3 h.1)⟩
   ·obtain⟨YR,h4,h5,h6⟩:=U3 ts hw.2 root q k (i+1) x' r1 s1 s0 sl hi.tail (by omega) VZ yC hft h1;exact⟨YR,h4,ve (a:=[t]) h2 h5,λh=>(h6 h.2).trans (h3 h.1)⟩
theorem U3:∀(l:List T),BA l=true->∀(root:T) (q:List Nat) (k:List T) (i:Nat) (x:Ctx) (r:List dE) (s:St) (s0:Nat) (ls:qX),Wp root l i q k->0<i->Cx x q []->x.live=true->Fc (mw l) (fM l) (eG l) x s s0->Rl root s ls->∃tY,Rl root (Ms l 0 i x r s).2 tY/\W res s0 k l r ls (Ms l 0 i x r s).1 tY/\(eG l=true->(Ms l 0 i x r s).2.stars=s.stars)
 | [],_,root,q,k,i,x,r,s,s0,ls,hi,hp,hx,hl,hf,hr=>by simp only[Ms];exact⟨ls,hr,.nil _ _,λ_=>trivial⟩
 |t::ts,hw,root,q,k,i,x,r,s,s0,ls,hi,hp,hx,hl,hf,hr=>by
  simp only[BA,al]at hw;simp only[Ms,eG,al];have eK:i≠x.idx:=by rw[hx.idx];simp only[List.headD_nil];omega
  rw[if_pos ⟨eK,hl⟩];have hb:=hx.branch i;have zl:Fc (mw (t::ts)) (fM (t::ts)) (eG (t::ts)) {x with path:=x.branch i} s s0:=by simp only[Fc]at hf⊢;exact hf
  obtain⟨sl,h1,h2,h3⟩:=FN t hw.1 root (q++[i]) (ts++k) ({x with path:=x.branch i}:Ctx).next [] r s s0 ls hi.head hb.pB (m7 t) hl zl.head hr
  rw[ig]at h2;generalize M t ({x with path:=x.branch i}:Ctx).next r s=A at h1 h2 h3
  obtain⟨o,s1⟩:=A;cases o with
  |none=>exact⟨sl,h1,oZ (a:=[t]) h2,λh=>h3 h.1⟩
  |some r1=>obtain⟨YR,h4,h5,h6⟩:=yZ ts hw.2 root q k (i+1) {x with path:=x.branch i} r1 s1 s0 sl hi.tail (.inl ⟨i,[],hb,by omega⟩) hl (zl.tail h3) h1;exact⟨YR,h4,ve (a:=[t]) h2 h5,λh=>(h6 h.2).trans (h3 h.1)⟩
theorem DZ:∀(l:List T),BA l=true->∀(root:T) (n:List T) (q:List Nat) (k:List T) (j i:Nat) (x:Ctx) (p:List Nat) (r:List dE) (s:St) (s0:Nat) (ls:qX),InA root n l i q k->Cx x (q++[i+j]) p->jT l j p->x.live=true->Fc (sP l) (eG l) (eG l) x s s0->Rl root s ls->∃tY,Rl root (Ma l j x r s).2 tY/\W res s0 k (zY x.onStack l j p) r ls (Ma l j x r s).1 tY/\(eG l=true->(Ma l j x r s).2.stars=s.stars)
 | [],_,root,n,q,k,j,i,x,p,r,s,s0,ls,hi,hx,hv,hl,hf,hr=>by simp[jT]at hv
 |t::ts,hw,root,n,q,k,0,i,x,p,r,s,s0,ls,hi,hx,hv,hl,hf,hr=>by
  simp only[BA,al]at hw;simp only[Ma,zY,eG,al];have zl:Fc t.tf t.jO t.calm x s s0:=by
   simp only[Fc,sP,eG,al]at hf⊢;rcases hf with⟨h1,⟨h2,h3⟩|h2⟩|h
   ·exact .inl ⟨h1,.inl ⟨h2,h3.1⟩⟩
   ·exact .inr h2.1
   ·exact .inr h.1
  obtain⟨sl,h1,h2,h3⟩:=FN t hw.1 root (q++[i]) k x p r s s0 ls hi.head (by simpa using hx) (by simpa[jT]using hv) hl zl hr;exact⟨sl,h1,h2,λh=>h3 h.1⟩
 |t::ts,hw,root,n,q,k,j+1,i,x,p,r,s,s0,ls,hi,hx,hv,hl,hf,hr=>by
  simp only[BA,al]at hw;simp only[Ma,zY,eG,al];have zl:Fc (sP ts) (eG ts) (eG ts) x s s0:=by
   simp only[Fc,sP,eG,al]at hf⊢;rcases hf with⟨h1,⟨h2,h3⟩|h2⟩|h
   ·exact .inl ⟨h1,.inl ⟨h2,h3.2⟩⟩
   ·exact .inr h2.2
   ·exact .inr h.2
  obtain⟨sl,h1,h2,h3⟩:=DZ ts hw.2 root n q k j (i+1) x p r s s0 ls hi.tail (by rw[show i+1+j=i+(j+1)from by omega];exact hx) (by simpa[jT]using hv) hl zl hr;exact⟨sl,h1,h2,λh=>h3 h.2⟩
end
end Go.Proofs.YtfejflhgaphilaaGreatDoor.Gm
