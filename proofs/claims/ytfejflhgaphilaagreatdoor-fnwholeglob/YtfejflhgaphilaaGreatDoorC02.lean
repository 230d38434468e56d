/- The loop over the walks: it ends, and tells whether there is a match; how many walks it takes. -/
import Derived.Test.YtfejflhgaphilaaGreatDoorC01
set_option linter.all false
set_option maxRecDepth 100000
set_option maxHeartbeats 64000000
namespace Go.Proofs.YtfejflhgaphilaaGreatDoor.Gm
variable {s0 n B:Nat} {σ:Bool}
theorem jL {a b:List dE} (h:a.isPrefixOf b=true):b=a++b.drop a.length:=by have:=bE.1 h;obtain⟨u,rfl⟩:=this;simp
theorem l9 {a b:List dE} (h:a.isSuffixOf b=true):b=b.take (b.length-a.length)++a:=by have:=cY.1 h;obtain⟨u,rfl⟩:=this;simp
theorem mB (t:List dE):∀(r:List dE),nf t r=true↔∃u v,r=u++(t++v)
 | []=>by
   simp only[nf,bE];constructor
   ·rintro⟨v,h⟩;exact⟨[],v,by simpa using h.symm⟩
   ·rintro⟨u,v,h⟩;simp at h;exact⟨v,by simp[h]⟩
 |c::r=>by
  simp only[nf,cC,bE,mB t r];constructor
  ·rintro(⟨v,h⟩|⟨u,v,h⟩)
   ·exact⟨[],v,h.symm⟩
   ·exact⟨c::u,v,by simp[h]⟩
  ·rintro⟨u,v,h⟩;cases u with
   |nil=>exact .inl ⟨v,h.symm⟩
   |cons d u=>simp at h;exact .inr ⟨u,v,h.2⟩
theorem jf (sep u:List dE):iz sep u=true↔∀c∈u,c∉sep:=by simp[iz]
mutual
theorem vj:∀(t:T) (x:Ctx) (r r':List dE) (s:St),x.path=[]->x.live=false->(M t x r s).1=some r'->D t r r'
 |.text t,x,r,r',s,_,_,h=>by simp only[M]at h;split at h<;>simp at h;rename_i hp;subst h;simp only[D];exact jL hp
 |.char sep,x,r,r',s,_,_,h=>by
  simp only[M]at h;cases r with
  |nil=>simp at h
  |cons c r=>simp only at h;split at h<;>simp at h;rename_i hc;subst h;simp only[D];exact⟨c,rfl,by simpa using hc⟩
 |.star sep nx tm,x,r,r',s,_,_,h=>by
  simp only[M]at h;split at h
  ·simp at h;subst h;simp only[D];refine⟨r.takeWhile λc=> !sep.contains c,by simp,?_⟩;intro c hc;have:=List.all_takeWhile (p:=λc=> !sep.contains c) (l:=r);rw[List.all_eq_true]at this;simpa using this c hc
  ·cases r with
   |nil=>simp at h;subst h;exact mL _
   |cons c r=>simp only at h;split at h<;>(simp at h;subst h;exact mL _)
 |.range lo hi neg,x,r,r',s,_,_,h=>by
  simp only[M]at h;cases r with
  |nil=>simp at h
  |cons c r=>simp only at h;split at h<;>simp at h;rename_i hc;subst h;simp only[D];exact⟨c,rfl,hc⟩
 |.set cs neg,x,r,r',s,_,_,h=>by
  simp only[M]at h;cases r with
  |nil=>simp at h
  |cons c r=>simp only at h;split at h<;>simp at h;rename_i hc;subst h;simp only[D];exact⟨c,rfl,by simpa[bne_iff_ne]using hc⟩
 |.void,x,r,r',s,_,_,h=>by simp[M]at h;subst h;simp only[D]
 |.pre t sep,x,r,r',s,_,_,h=>by simp only[M]at h;split at h<;>simp at h;rename_i hp;rw[al,jf]at hp;subst h;simp only[D];exact⟨trivial,_,jL hp.1,hp.2⟩
 |.eP t sep,x,r,r',s,_,_,h=>by simp only[M]at h;split at h<;>simp at h;rename_i hp;rw[al,jf]at hp;subst h;simp only[D];exact⟨trivial,_,l9 hp.1,hp.2⟩
 |.dN p q sep,x,r,r',s,_,_,h=>by
  simp only[M]at h;split at h<;>simp at h;rename_i hp;simp only[al,jf,decide_eq_true_eq]at hp;obtain⟨⟨⟨hl,h1⟩,h2⟩,h3⟩:=hp;subst h;simp only[D];refine⟨trivial,_,?_,h3⟩;have e1:=jL h1;have e2:=l9 h2;have e3:r.take (r.length-q.length)=p++(r.take (r.length-q.length)).drop p.length:=by obtain⟨u,rfl⟩:=bE.1 h1;rw[List.take_append,List.drop_append];simp at hl⊢;rw[aP (by omega)];rw[show(p.length-min (p.length+u.length-q.length) p.length)=0 from by omega];simp
  rw[<-aD,<-e3,<-e2]
 |.cont t,x,r,r',s,_,_,h=>by simp only[M]at h;split at h<;>simp at h;rename_i hp;subst h;simp only[D];exact⟨trivial,(mB t r).1 hp⟩
 |.dH l,x,r,r',s,hp,hl,h=>by
  simp only[M]at h;have:x.idx=0:=by simp[Ctx.idx,hp]
  rw[this]at h;simp only[D];exact Ja l 0 x r r' s hp hl h
 |.alt l,x,r,r',s,hp,hl,h=>by
  simp only[M]at h;have:x.idx=0:=by simp[Ctx.idx,hp]
  rw[this]at h;simp only[D];exact TR l _ r r' _ (by simpa[Ctx.next]using hp) (by simpa[Ctx.next]using hl) h
 |.eh l,x,r,r',s,hp,hl,h=>by simp only[M]at h;simp only[D];exact I8 l x r r' s hp hl h
theorem Ja:∀(l:List T) (i:Nat) (x:Ctx) (r r':List dE) (s:St),x.path=[]->x.live=false->(Ms l 0 i x r s).1=some r'->Ds l r r'
 | [],i,x,r,r',s,_,_,h=>by simp[Ms]at h;simp only[Ds];exact h
 |t::ts,i,x,r,r',s,hp,hl,h=>by
  simp only[Ms,hl,aM,and_false,if_false]at h;simp only[Ds];cases hM:M t x.next r s with
  |mk o s1=>
   rw[hM]at h;cases o with
   |none=>simp at h
   |some r1=>refine⟨r1,vj t x.next r r1 s (by simpa[Ctx.next]using hp) (by simpa[Ctx.next]using hl) (by rw[hM]),Ja ts (i+1) x r1 r' s1 hp hl h⟩
theorem TR:∀(l:List T) (x:Ctx) (r r':List dE) (s:St),x.path=[]->x.live=false->(Ma l 0 x r s).1=some r'->Da l r r'
 | [],x,r,r',s,_,_,h=>by simp[Ma]at h
 |t::ts,x,r,r',s,hp,hl,h=>by simp only[Ma]at h;simp only[Da];exact .inl (vj t x r r' s hp hl h)
theorem I8:∀(l:List T) (x:Ctx) (r r':List dE) (s:St),x.path=[]->x.live=false->(Mt l x r s).1=some r'->r'=[]/\Da l r []
 | [],x,r,r',s,_,_,h=>by simp[Mt]at h
 |t::ts,x,r,r',s,hp,hl,h=>by
  simp only[Mt]at h;simp only[Da];cases hM:M t x r s with
  |mk o s1=>
   rw[hM]at h;have dU:(Mt ts x r s1).1=some r'->r'=[]/\(D t r []\/Da ts r []):=λh=>by have:=I8 ts x r r' s1 hp hl h;exact⟨this.1,.inr this.2⟩
   rcases o with _|(_|⟨c,r1⟩)
   ·exact dU h
   ·simp at h;subst h;exact⟨rfl,.inl (vj t x r [] s hp hl (by rw[hM]))⟩
   ·exact dU h
end
def Tl (t:T):Prop:=∀r,D t r []->res t r=some []
theorem nT (t:T) (r m:List dE) (hw:t.width.isSome=true) (h:D t r m):res t r=some m:=by
 cases t<;>simp[T.width]at hw<;>simp only[D]at h<;>simp only[res,M]
 ·subst h;simp
 ·obtain⟨c,rfl,hc⟩:=h;simp[hc]
 ·obtain⟨c,rfl,hc⟩:=h;simp[hc]
 ·obtain⟨c,rfl,hc⟩:=h;simp[bne_iff_ne]at hc⊢;exact hc
 ·rw[h]
theorem Lm:DF Tl res where
 wide:=nT
 tail:=λ_ r h hd=>h r hd
 sound:=λt r m h _=>vj t _ r m _ rfl rfl h
mutual
def wT (n:Nat):T->Nat->Nat
 |.star _ _ tm,x=>if tm then x else(n+1)*x
 |.dH l,x=>wL n l x
 |.alt l,x=>wA n l x
 |_,x=>x
def wL (n:Nat):List T->Nat->Nat
 | [],x=>x
 |t::ts,x=>wT n t (wL n ts x)
def wA (n:Nat):List T->Nat->Nat
 | [],x=>x
 |t::ts,x=>wT n t x+wA n ts x
end
theorem Cs (n:Nat):∀(a b:List T) (x:Nat),wL n (a++b) x=wL n a (wL n b x)
 | [],b,x=>by simp[wL]
 |t::a,b,x=>by simp[wL,Cs n a b]
mutual
theorem wT_le (n:Nat):∀(t:T) (x:Nat),x<=wT n t x
 |.star _ _ tm,x=>by
  simp only[wT];split
  ·exact af _
  ·exact bR x (by omega)
 |.dH l,x=>by simp only[wT];exact Lb n l x
 |.alt l,x=>by simp only[wT];exact WO n l x
 |.text _,x|.char _,x|.range _ _ _,x|.set _ _,x|.void,x|.pre _ _,x|.eP _ _,x|.dN _ _ _,x|.cont _,x|.eh _,x=>by simp[wT]
theorem Lb (n:Nat):∀(l:List T) (x:Nat),x<=wL n l x
 | [],x=>by simp[wL]
 |t::ts,x=>by simp only[wL];exact ao (Lb n ts x) (wT_le n t _)
theorem WO (n:Nat):∀(l:List T) (x:Nat),x<=wA n l x
 | [],x=>by simp[wA]
 |t::ts,x=>by simp only[wA];have:=WO n ts x;omega
end
theorem Qr (n:Nat) {t:T} (h:t.iD=true) (x:Nat):wT n t x=x:=by cases t<;>simp_all[T.iD,wT]
def m9 (n:Nat) (c:List T×List dE):Nat:=match c.1 with
 |.star _ _ false::ts=>(c.2.length+1)*wL n ts 1
 |ts=>wL n ts 1
theorem p9 (n:Nat) (ts:List T) (r:List dE) (h:r.length<=n):m9 n (ts,r)<=wL n ts 1:=by
 simp only[m9];split
 ·simp only[wL,wT,aM,if_false];exact bB _ (by omega)
 ·exact af _
theorem Q4 (n:Nat) (c:List T×List dE):1<=m9 n c:=by
 simp only[m9];split
 ·rename_i sep nx ts _;exact ao (Lb n ts 1) (bR _ (by omega))
 ·exact Lb n _ 1
theorem nW (n:Nat) {t:T} {ts:List T} {r:List dE} (h:∀sep nx,t≠ .star sep nx false):m9 n (t::ts,r)=wL n (t::ts) 1:=by
 simp only[m9];split
 ·rename_i sep nx nO he;simp only[bq]at he;exact absurd he.1 (h sep nx)
 ·rfl
def gn (f:List T×List dE->Nat) (l:List (List T×List dE)):Nat:=(l.map f).sum
theorem jb (f:List T×List dE->Nat) (a b:List (List T×List dE)):gn f (a++b)=gn f a+gn f b:=by simp[gn]
theorem JD (f:List T×List dE->Nat) (a:List (List T×List dE)) (n:Nat):gn f (a.take n)<=gn f a:=by
 have:gn f a=gn f (a.take n)+gn f (a.drop n):=by rw[<-jb,bN]
 omega
def xA (n:Nat) (s:qX):Nat:=gn (m9 n) s.stars+gn (m9 n) s.stack
theorem W_potA {Tl:T->Prop} {res:T->List dE->Option (List dE)} (iq:DF Tl res) (n:Nat) {ts:List T} {r:List dE} {s s':qX} {o:Option (List dE)} (hw:W res s0 [] ts r s o s'):r.length<=n->xA n s'+1<=xA n s+m9 n (ts,r):=by
 induction hw with
 |nil r s=>intro _;simp[m9,wL]
 |fail hl h=>intro _;exact Nat.add_le_add_left (Q4 n _) _
 |leaf hl h hw ih=>rename_i t ts r r' s s' o;intro hr;have hlen:r'.length<=n:=ao (gL _ _ _ (iq.sound t r r' h hl)).length_le hr;have h1:=ih hlen;have h2:=p9 n ts r' hlen;rw[nW n (λsep nx e=>by rw[e]at hl;simp[T.iD]at hl)];simp only[wL,Qr n hl];omega
 |stay hd hw ih=>rename_i sep nx ts r s s' o;intro hr;have h1:=ih hr;have h2:=p9 n ts r hr;have h3:m9 n (.star sep nx false::ts,r)=(r.length+1)*wL n ts 1:=rfl;have h4:wL n ts 1<=(r.length+1)*wL n ts 1:=bR _ (by omega);omega
 |store f hf h1 eR hd hw ih=>
  rename_i sep nx ts r r1 s s' o;intro hr;have h1:=ih hr;have h2:=p9 n ts r hr;have h3:m9 n (.star sep nx false::ts,r)=(r.length+1)*wL n ts 1:=rfl;have h4:m9 n (.star sep nx false::ts,r1)=(r1.length+1)*wL n ts 1:=rfl;have h5:(r1.length+1)*wL n ts 1<=r.length*wL n ts 1:=bB _ (by omega);have h6:(r.length+1)*wL n ts 1=r.length*wL n ts 1+wL n ts 1:=Nat.succ_mul _ _;have h7:gn (m9 n) (if sep=[]then s.stars.take f else s.stars)<=gn (m9 n) s.stars:=by
   split
   ·exact JD _ _ _
   ·exact af _
  simp only[xA,bd,jb]at h1⊢;have h8:gn (m9 n) [(.star sep nx false::ts,r1)]=(r1.length+1)*wL n ts 1:=by simp[gn,h4]
  omega
 |dH hw ih=>rename_i l ts r s s' o;intro hr;have h1:=ih hr;have h2:=p9 n (l++ts) r hr;rw[nW n (by simp)];simp only[wL,wT];rw[Cs]at h2;omega
 |last hw ih=>rename_i t ts r s s' o;intro hr;have h1:=ih hr;have h2:=p9 n (t::ts) r hr;rw[nW n (by simp)];simp only[wL,wT,wA]at h2⊢;omega
 |more hw ih=>
  rename_i t u l ts r s s' o;intro hr;have h1:=ih hr;have h2:=p9 n (t::ts) r hr;rw[nW n (by simp)];have h3:m9 n (.alt (u::l)::ts,r)=wA n (u::l) (wL n ts 1):=by rw[nW n (by simp)];simp only[wL,wT]
  simp only[xA,bd,jb]at h1⊢;have h8:gn (m9 n) [(.alt (u::l)::ts,r)]=wA n (u::l) (wL n ts 1):=by simp[gn,h3]
  have h9:wL n (.alt (t::u::l)::ts) 1=wT n t (wL n ts 1)+wA n (u::l) (wL n ts 1):=by simp only[wL,wT];rw[wA]
  have UE:wL n (t::ts) 1=wT n t (wL n ts 1):=by simp only[wL]
  omega
mutual
def T.free:T->Bool
 |.star sep _ tm=>tm||sep.isEmpty
 |.dH l=>ga l
 |.alt l=>ga l
 |_=>true
def ga:List T->Bool
 | []=>true
 |t::ts=>t.free&&ga ts
end
theorem qu:∀(a b:List T),ga (a++b)=(ga a&&ga b)
 | [],b=>by simp[ga]
 |t::a,b=>by simp[ga,qu a b,Bool.and_assoc]
structure V3 where
 f:Nat
 g:Nat
 h:Nat
mutual
def vT (n:Nat):T->V3->V3
 |.star _ _ tm,v=>if tm then v else⟨v.f,(n+1)*v.f+v.g,v.f+((n+1)*v.f+v.g)⟩
 |.dH l,v=>vL n l v
 |.alt l,v=>⟨vF n l v,0,vH n l v⟩
 |_,v=>v
def vL (n:Nat):List T->V3->V3
 | [],v=>v
 |t::ts,v=>vT n t (vL n ts v)
def vF (n:Nat):List T->V3->Nat
 | [],v=>v.f
 |t::ts,v=>(vT n t v).f+vF n ts v
def vH (n:Nat):List T->V3->Nat
 | [],v=>v.h
 |t::ts,v=>(vT n t v).h+vH n ts v
end
theorem vG (n:Nat):∀(a b:List T) (v:V3),vL n (a++b) v=vL n a (vL n b v)
 | [],b,v=>by simp[vL]
 |t::a,b,v=>by simp[vL,vG n a b]
theorem zA (n:Nat) {t:T} (h:t.iD=true) (v:V3):vT n t v=v:=by cases t<;>simp_all[T.iD,vT]
def v1:V3:=⟨1,0,1⟩
mutual
theorem UT (n:Nat):∀(t:T) (v:V3),v.f<=(vT n t v).f
 |.star _ _ tm,v=>by simp only[vT];split<;>simp
 |.dH l,v=>by simp only[vT];exact yW n l v
 |.alt l,v=>by simp only[vT];exact WT n l v
 |.text _,x|.char _,x|.range _ _ _,x|.set _ _,x|.void,x|.pre _ _,x|.eP _ _,x|.dN _ _ _,x|.cont _,x|.eh _,x=>by simp[vT]
theorem yW (n:Nat):∀(l:List T) (v:V3),v.f<=(vL n l v).f
 | [],v=>by simp[vL]
 |t::ts,v=>by simp only[vL];exact ao (yW n ts v) (UT n t _)
theorem WT (n:Nat):∀(l:List T) (v:V3),v.f<=vF n l v
 | [],v=>by simp[vF]
 |t::ts,v=>by simp only[vF];have:=WT n ts v;omega
end
mutual
theorem US (n:Nat):∀(t:T) (v:V3),1<=v.f->1<=v.h->1<=(vT n t v).h
 |.star _ _ tm,v,hf,hh=>by
  simp only[vT];split
  ·exact hh
  ·exact ao hf (dv _ _)
 |.dH l,v,hf,hh=>by simp only[vT];exact zB n l v hf hh
 |.alt l,v,hf,hh=>by simp only[vT];exact WS n l v hh
 |.text _,x,_,h|.char _,x,_,h|.range _ _ _,x,_,h|.set _ _,x,_,h|.void,x,_,h|.pre _ _,x,_,h|.eP _ _,x,_,h|.dN _ _ _,x,_,h|.cont _,x,_,h|.eh _,x,_,h=>by simp only[vT];exact h
theorem zB (n:Nat):∀(l:List T) (v:V3),1<=v.f->1<=v.h->1<=(vL n l v).h
 | [],v,_,hh=>by simp only[vL];exact hh
 |t::ts,v,hf,hh=>by simp only[vL];exact US n t _ (ao hf (yW n ts v)) (zB n ts v hf hh)
theorem WS (n:Nat):∀(l:List T) (v:V3),1<=v.h->1<=vH n l v
 | [],v,hh=>by simp only[vH];exact hh
 |t::ts,v,hh=>by simp only[vH];have:=WS n ts v hh;omega
end
theorem UU (n:Nat) (l:List T) (v:V3) (h:v1.f<=v.f):v=v1->1<=(vL n l v).h:=λe=>by subst e;exact zB n l v1 h (af _)
mutual
theorem yV (n:Nat):∀(t:T) (v:V3),t.calm=true->v.g=0->v.h=v.f->(vT n t v).g=0/\(vT n t v).h=(vT n t v).f
 |.star _ _ tm,v,h,hg,hh=>by simp only[T.calm]at h;subst h;simp only[vT,if_true];exact⟨hg,hh⟩
 |.dH l,v,h,hg,hh=>by simp only[T.calm]at h;simp only[vT];exact rW n l v h hg hh
 |.alt l,v,h,hg,hh=>by simp only[T.calm]at h;simp only[vT];exact⟨trivial,DQ n l v h hg hh⟩
 |.text _,v,_,hg,hh|.char _,v,_,hg,hh|.range _ _ _,v,_,hg,hh|.set _ _,v,_,hg,hh|.void,v,_,hg,hh|.pre _ _,v,_,hg,hh|.eP _ _,v,_,hg,hh|.dN _ _ _,v,_,hg,hh
 |.cont _,v,_,hg,hh|.eh _,v,_,hg,hh=>by simp only[vT];exact⟨hg,hh⟩
theorem rW (n:Nat):∀(l:List T) (v:V3),eG l=true->v.g=0->v.h=v.f->(vL n l v).g=0/\(vL n l v).h=(vL n l v).f
 | [],v,_,hg,hh=>by simp only[vL];exact⟨hg,hh⟩
 |t::ts,v,h,hg,hh=>by simp only[eG,al]at h;simp only[vL];have:=rW n ts v h.2 hg hh;exact yV n t _ h.1 this.1 this.2
theorem DQ (n:Nat):∀(l:List T) (v:V3),eG l=true->v.g=0->v.h=v.f->vH n l v=vF n l v
 | [],v,_,hg,hh=>by simp only[vH,vF];exact hh
 |t::ts,v,h,hg,hh=>by simp only[eG,al]at h;simp only[vH,vF];rw[(yV n t v h.1 hg hh).2,DQ n ts v h.2 hg hh]
end
def yt (n:Nat) (c:List T×List dE):Nat:=match c.1 with
 |.star _ _ false::ts=>(c.2.length+1)*(vL n ts v1).f+(vL n ts v1).g
 |ts=>(vL n ts v1).h
theorem JN (n:Nat) {t:T} {ts:List T} {r:List dE} (h:∀sep nx,t≠ .star sep nx false):yt n (t::ts,r)=(vL n (t::ts) v1).h:=by
 simp only[yt];split
 ·rename_i sep nx nO he;simp only[bq]at he;exact absurd he.1 (h sep nx)
 ·rfl
theorem wM (n:Nat) (sep nx:List dE) (ts:List T) (r:List dE):yt n (.star sep nx false::ts,r)=(r.length+1)*(vL n ts v1).f+(vL n ts v1).g:=rfl
theorem Ok.v3 {Tl:T->Prop} (n:Nat) {ts:List T} (h:Ok Tl σ ts):σ=true->(vL n ts v1).h=(vL n ts v1).f+(vL n ts v1).g:=by
 induction h with
 |nil σ=>intro _;simp[vL,v1]
 |leaf h hs ih=>
  rename_i σ t ts;intro hσ;have:t.iD=true:=by cases t<;>simp_all[T.width,T.iD]
  simp only[vL,zA n this];exact ih hσ
 |tail h ht=>
  rename_i σ t;intro _;have:t.iD=true:=by cases t<;>simp_all[T.vJ,T.iD]
  simp[vL,zA n this,v1]
 |star hs hn ih=>intro _;simp[vL,vT]
 |dH hc hs ih=>rename_i σ l ts;intro hσ;have:=ih hσ;rw[vG]at this;simp only[vL,vT];exact this
 |alt hc hs ih=>rename_i σ l ts;intro hσ;obtain⟨h1,h2⟩:=rW n (.alt l::ts) v1 (hc hσ) rfl rfl;rw[h1,h2];simp
def lN (n:Nat) (s:qX):Nat:=gn (yt n) s.stack
def kX (n:Nat) (s:qX):Nat:=gn (yt n) s.stars
theorem KN {Tl:T->Prop} {res:T->List dE->Option (List dE)} (iq:DF Tl res) (n:Nat) {ts:List T} {r:List dE} {s s':qX} {o:Option (List dE)} (hw:W res s0 [] ts r s o s'):s0=0->r.length<=n->ga ts=true->∀σ,Ok Tl σ ts->(σ=false->s.stars=[])->s.stars.length<=1->s'.stars.length<=1/\kX n s'+lN n s'+1<=lN n s+(if σ=true then(vL n ts v1).f+max (kX n s) (vL n ts v1).g else(vL n ts v1).h):=by
 induction hw with
 |nil r s=>
  intro _ _ _ σ _ hσ hl;refine⟨hl,?_⟩;cases σ with
  |true=>simp only[if_true,vL,v1];omega
  |false=>have:kX n s=0:=(by simp[kX,hσ rfl,gn]);simp only[aM,if_false,vL,v1];omega
 |fail hl h=>
  rename_i t ts r s;intro _ _ _ σ ez hσ mT;refine⟨mT,?_⟩;have h1:=yW n (t::ts) v1;have h2:v1.f=1:=rfl;cases σ with
  |true=>simp only[if_true];omega
  |false=>have:kX n s=0:=(by simp[kX,hσ rfl,gn]);have h3:=UU n (t::ts) v1 (af _) rfl;simp only[aM,if_false];omega
 |leaf hl h hw ih=>
  rename_i t ts r r' s s' o;intro h0 hr hf σ ez hσ mT;have hlen:r'.length<=n:=ao (gL _ _ _ (iq.sound t r r' h hl)).length_le hr;simp only[ga,al]at hf;have RX:Ok Tl σ ts:=by
   rcases ez.Ax hl with⟨_,h⟩|⟨_,_,rfl⟩
   ·exact h
   ·exact .nil σ
  have:=ih h0 hlen hf.2 σ RX hσ mT;simp only[vL,zA n hl];exact this
 |stay hd hw ih=>
  rename_i sep nx ts r s s' o;intro h0 hr hf σ ez hσ mT;simp only[ga,al]at hf;obtain⟨h1,h2⟩:=ih h0 hr hf.2 true ez.rv.1 (by simp) mT;refine⟨h1,?_⟩;simp only[if_true,vL,vT,aM,if_false]at h2⊢;have h3:(vL n ts v1).f<=(n+1)*(vL n ts v1).f:=bR _ (by omega);cases σ with
  |true=>simp only[if_true];omega
  |false=>have:kX n s=0:=(by simp[kX,hσ rfl,gn]);simp only[aM,if_false];omega
 |store f kT h1 eR hd hw ih=>
  rename_i sep nx ts r r1 s s' o;intro h0 hr hf σ ez hσ mT;simp only[ga,T.free,al,Bool.false_or,cN]at hf;obtain⟨RJ,hf2⟩:=hf;have hf0:f=0:=by omega
  have pG:(if sep=[]then s.stars.take f else s.stars)=[]:=by rw[if_pos RJ,hf0];rfl
  simp only[pG,bw,bd]at ih;obtain⟨h2,h3⟩:=ih h0 hr hf2 true ez.rv.1 (by simp) (by simp);refine⟨h2,?_⟩;have h4:kX n {s with stars:=[(.star sep nx false::ts,r1)]}=(r1.length+1)*(vL n ts v1).f+(vL n ts v1).g:=by simp[kX,gn,wM]
  have h5:lN n {s with stars:=[(.star sep nx false::ts,r1)]}=lN n s:=rfl;rw[h4,h5]at h3;have h6:(r1.length+1)*(vL n ts v1).f<=n*(vL n ts v1).f:=bB _ (by omega);have h7:(n+1)*(vL n ts v1).f=n*(vL n ts v1).f+(vL n ts v1).f:=Nat.succ_mul _ _;simp only[if_true,vL,vT,aM,if_false]at h3⊢;cases σ with
  |true=>simp only[if_true];omega
  |false=>simp only[aM,if_false];omega
 |dH hw ih=>rename_i l ts r s s' o;intro h0 hr hf σ ez hσ mT;have:=ih h0 hr (by rw[qu];simpa[ga,T.free]using hf) σ ez.Dl.2 hσ mT;rw[vG]at this;simp only[vL,vT];exact this
 |last hw ih=>
  rename_i t ts r s s' o;intro h0 hr hf σ ez hσ mT;simp only[ga,T.free,al,cG]at hf;obtain⟨hc,hs⟩:=ez.zg;obtain⟨h1,h2⟩:=ih h0 hr (by simp only[ga,al];exact hf) σ (hs t (by simp)) hσ mT;refine⟨h1,?_⟩;simp only[vL,vT,vF,vH]at h2⊢;cases σ with
  |true=>have uJ:=hc rfl;simp only[eG,T.calm,al,cG]at uJ;obtain⟨h3,_⟩:=rW n ts v1 uJ.2 rfl rfl;obtain⟨h4,_⟩:=yV n t (vL n ts v1) uJ.1 h3 (rW n ts v1 uJ.2 rfl rfl).2;simp only[if_true]at h2⊢;omega
  |false=>simp only[aM,if_false]at h2⊢;omega
 |more hw ih=>
  rename_i t u l ts r s s' o;intro h0 hr hf σ ez hσ mT;simp only[ga,T.free,al]at hf;obtain⟨hc,hs⟩:=ez.zg;obtain⟨h1,h2⟩:=ih h0 hr (by simp only[ga,al];exact⟨hf.1.1,hf.2⟩) σ (hs t (by simp)) hσ mT;refine⟨h1,?_⟩;have h8:lN n {s with stack:=s.stack++[(.alt (u::l)::(ts++[]),r)]}=lN n s+vH n (u::l) (vL n ts v1):=by simp only[lN,jb,bd];congr 1
  have h9:kX n {s with stack:=s.stack++[(.alt (u::l)::(ts++[]),r)]}=kX n s:=rfl;rw[h8,h9]at h2;have e1:(vL n (.alt (t::u::l)::ts) v1).h=(vT n t (vL n ts v1)).h+vH n (u::l) (vL n ts v1):=by simp only[vL,vT];rw[vH]
  have e2:(vL n (.alt (t::u::l)::ts) v1).f=(vT n t (vL n ts v1)).f+vF n (u::l) (vL n ts v1):=by simp only[vL,vT];rw[vF]
  have e3:(vL n (.alt (t::u::l)::ts) v1).g=0:=by simp only[vL,vT]
  have e4:vL n (t::ts) v1=vT n t (vL n ts v1):=by simp only[vL]
  rw[e1,e2,e3];rw[e4]at h2;cases σ with
  |true=>have uJ:=hc rfl;simp only[eG,T.calm,al]at uJ;obtain⟨h3,h5⟩:=rW n ts v1 uJ.2 rfl rfl;obtain⟨h4,_⟩:=yV n t (vL n ts v1) uJ.1.1 h3 h5;have h6:=DQ n (u::l) (vL n ts v1) (by simp only[eG,al];exact uJ.1.2) h3 h5;simp only[if_true]at h2⊢;omega
  |false=>simp only[aM,if_false]at h2⊢;omega
theorem KM {Tl:T->Prop} {res:T->List dE->Option (List dE)} (iq:DF Tl res) (n:Nat) {ts:List T} {r:List dE} {s s':qX} {o:Option (List dE)} (hw:W res 0 [] ts r s o s') (hr:r.length<=n) (hf:ga ts=true) (ez:Ok Tl σ ts) (hs:s.stars=[]):s'.stars.length<=1/\kX n s'+lN n s'+1<=lN n s+yt n (ts,r):=by
 have h0:kX n s=0:=by simp[kX,hs,gn]
 by_cases iW:∃sep nx nO,ts=.star sep nx false::nO
 ·obtain⟨sep,nx,nO,rfl⟩:=iW;simp only[ga,T.free,al,Bool.false_or,cN]at hf;have Zw:=ez.rv.1;have hv:=Zw.v3 n rfl;rw[wM];cases hw with
  |fail hl h=>simp[T.iD]at hl
  |leaf hl h hw=>simp[T.iD]at hl
  |stay hd hw=>obtain⟨h1,h2⟩:=KN iq n hw rfl hr hf.2 true Zw (by simp) (by simp[hs]);refine⟨h1,?_⟩;simp only[if_true,h0]at h2;have h3:(vL n nO v1).f<=(r.length+1)*(vL n nO v1).f:=bR _ (by omega);omega
  |store f kT h1 eR hd hw=>
   rename_i r1;have pG:(if sep=[]then s.stars.take f else s.stars)=[]:=by rw[hs];split<;>simp
   simp only[pG,bw,bd]at hw;obtain⟨h2,h3⟩:=KN iq n hw rfl hr hf.2 true Zw (by simp) (by simp);refine⟨h2,?_⟩;have h4:kX n {s with stars:=[(.star sep nx false::nO,r1)]}=(r1.length+1)*(vL n nO v1).f+(vL n nO v1).g:=by simp[kX,gn,wM]
   have h5:lN n {s with stars:=[(.star sep nx false::nO,r1)]}=lN n s:=rfl;simp only[if_true]at h3;rw[h4,h5]at h3;have h6:(r1.length+1)*(vL n nO v1).f<=r.length*(vL n nO v1).f:=bB _ (by omega);have h7:(r.length+1)*(vL n nO v1).f=r.length*(vL n nO v1).f+(vL n nO v1).f:=Nat.succ_mul _ _;omega
 ·have hphi:yt n (ts,r)=(vL n ts v1).h:=by
   cases ts with
   |nil=>rfl
   |cons t nO=>exact JN n λsep nx e=>iW ⟨sep,nx,nO,by rw[e]⟩
  rw[hphi];obtain⟨h1,h2⟩:=KN iq n hw rfl hr hf σ ez (λ_=>hs) (by simp[hs]);refine⟨h1,?_⟩;cases σ with
  |false=>simpa using h2
  |true=>have:=ez.v3 n rfl;simp only[if_true,h0]at h2;omega
theorem TM {Tl:T->Prop} {res:T->List dE->Option (List dE)} (iq:DF Tl res) {k ts:List T} {r:List dE} {s s':qX} {o:Option (List dE)} (hw:W res s0 k ts r s o s'):(∀c∈s'.stars,c∈s.stars\/c.2<:+r)/\(∀c∈s'.stack,c∈s.stack\/c.2<:+r)/\(∀r',o=some r'->r'<:+r):=by
 induction hw with
 |nil r s=>exact⟨λc h=>.inl h,λc h=>.inl h,λr' h=>by cases h;exact cF _⟩
 |fail hl h=>exact⟨λc h=>.inl h,λc h=>.inl h,λr' h=>by cases h⟩
 |leaf hl h hw ih=>have hD:=gL _ _ _ (iq.sound _ _ _ h hl);exact⟨λc h=>(ih.1 c h).imp_right (·.trans hD),λc h=>(ih.2.1 c h).imp_right (·.trans hD),λr' h=>(ih.2.2 r' h).trans hD⟩
 |stay hd hw ih=>exact ih
 |store f hf h1 eR hd hw ih=>
  refine⟨λc h=> ?_,ih.2.1,ih.2.2⟩;rcases ih.1 c h with h|h
  ·rcases ar.1 h with h|h
   ·left;split at h
    ·exact dm h
    ·exact h
   ·simp only[az,ba,or_false]at h;subst h;exact .inr (gL _ _ _ h1)
  ·exact .inr h
 |dH hw ih=>exact ih
 |last hw ih=>exact ih
 |more hw ih=>
  refine⟨ih.1,λc h=> ?_,ih.2.2⟩;rcases ih.2.1 c h with h|h
  ·rcases ar.1 h with h|h
   ·exact .inl h
   ·simp only[az,ba,or_false]at h;subst h;exact .inr (cF _)
  ·exact .inr h
mutual
theorem D4 (kd:Bool):∀(t:T) (p:List Nat),t.free=true->ga (rg kd t p)=true
 |t,[],h=>by rw[ig];simp[ga,h]
 |.dH l,i::p,h=>by simp only[T.free]at h;simp only[rg];exact FT kd l i p h
 |.alt l,i::p,h=>by
  simp only[T.free]at h;simp only[rg];split
  ·simp only[ga,T.free,cG];exact AZ l i h
  ·exact FU kd l i p h
 |.text _,_::_,_|.char _,_::_,_|.star _ _ _,_::_,_|.range _ _ _,_::_,_|.set _ _,_::_,_|.void,_::_,_|.pre _ _,_::_,_|.eP _ _,_::_,_
 |.dN _ _ _,_::_,_|.cont _,_::_,_|.eh _,_::_,_=>by simp[rg,ga]
theorem FT (kd:Bool):∀(l:List T) (i:Nat) (p:List Nat),ga l=true->ga (P' kd l i p)=true
 | [],_,_,_=>by simp[P',ga]
 |t::ts,0,p,h=>by simp only[ga,al]at h;simp only[P'];rw[qu,D4 kd t p h.1,h.2];rfl
 |t::ts,i+1,p,h=>by simp only[ga,al]at h;simp only[P'];exact FT kd ts i p h.2
theorem FU (kd:Bool):∀(l:List T) (i:Nat) (p:List Nat),ga l=true->ga (zY kd l i p)=true
 | [],_,_,_=>by simp[zY,ga]
 |t::ts,0,p,h=>by simp only[ga,al]at h;simp only[zY];exact D4 kd t p h.1
 |t::ts,i+1,p,h=>by simp only[ga,al]at h;simp only[zY];exact FU kd ts i p h.2
theorem AZ:∀(l:List T) (i:Nat),ga l=true->ga (l.drop i)=true
 | [],_,_=>by simp[ga]
 |t::ts,0,h=>h
 |t::ts,i+1,h=>by simp only[ga,al]at h;simp only[cu];exact AZ ts i h.2
end
structure DE (root:T):Prop where
 wf:root.wf=true
 tf:root.tf=true
 ok:Ok Tl false [root]
def LI (root:T) (S:List dE) (n B:Nat) (s:St) (p:List Nat) (kd:Bool) (r:List dE):Prop:=r<:+S/\(∀c∈s.stars,c.rem<:+S)/\(∀c∈s.stack,c.rem<:+S)/\val root p/\∃ls ps σ,Rl root s ls/\Ok Tl σ (rg kd root p)/\Inv Tl (D root S []) ls ps (Ds (rg kd root p) r [])/\At ps (rg kd root p) r/\(σ=false->ps=[])/\(xA n ls+m9 n (rg kd root p,r)<=B\/(root.free=true/\ls.stars=[]/\lN n ls+yt n (rg kd root p,r)<=B))
theorem LI.start {root:T} (h:DE root) {S:List dE} (hB:wT n root 1<=B\/(root.free=true/\(vT n root v1).h<=B)) (hn:S.length<=n):LI root S n B ⟨[],[]⟩ [] false S:=by
 refine⟨cF _,by simp,by simp,m7 root,⟨[],[]⟩,[],false,⟨rfl,rfl,by simp,by simp⟩,?_,?_,?_,λ_=>rfl,?_⟩
 ·rw[ig];exact h.ok
 ·rw[ig];have hD:Ds [root] S []↔D root S []:=by simp[Ds]
  constructor
  ·rfl
  ·simp
  ·intro a p b Ft;simp at Ft
  ·simp
  ·exactλh=>.inr (.inl (hD.2 h))
  ·exact hD.1
  ·simp
  ·rintro⟨c,hc,_⟩;simp at hc
  ·simp
  ·simp
 ·right;simp
 ·rw[ig];rcases hB with hB|⟨hf,hB⟩
  ·left;have:=p9 n [root] S hn;simp only[wL]at this;simp only[xA,gn,cH,List.sum_nil];omega
  ·right;refine⟨hf,rfl,?_⟩;simp only[lN,gn,cH,List.sum_nil,cm];simp only[yt];split
   ·rename_i sep nx ts he;simp only[bq]at he;obtain⟨rfl,rfl⟩:=he;simp only[vT,aM,if_false]at hB;have:(S.length+1)*(vL n [] v1).f<=(n+1)*(vL n [] v1).f:=bB _ (by omega);simp only[vL]at this⊢;omega
   ·simp only[vL];exact hB
theorem LI.step {root:T} (h:DE root) {S:List dE} {s:St} {p:List Nat} {kd:Bool} {r:List dE} (hn:S.length<=n) (hl:LI root S n B s p kd r):((M root ⟨p,0,kd,0,true⟩ r s).1=some []->D root S [])/\((M root ⟨p,0,kd,0,true⟩ r s).1≠some []->
                                                                                                                                                                                                           (∀st c,(M root ⟨p,0,kd,0,true⟩ r s).2.stars=st++[c]->∃B',B'<B/\LI root S n B' ⟨st,(M root ⟨p,0,kd,0,true⟩ r s).2.stack⟩ c.path false c.rem)/\
                                                                                                                                                                                                           ((M root ⟨p,0,kd,0,true⟩ r s).2.stars=[]->∀st c,(M root ⟨p,0,kd,0,true⟩ r s).2.stack=st++[c]->∃B',B'<B/\LI root S n B' ⟨[],st⟩ c.path true c.rem)/\
                                                                                                                                                                                                           ((M root ⟨p,0,kd,0,true⟩ r s).2.stars=[]->(M root ⟨p,0,kd,0,true⟩ r s).2.stack=[]->¬D root S [])):=by
 obtain⟨hrS,hss,Dq,hv,ls,ps,σ,hR,ez,hI,xX,hσ,hpot⟩:=hl;have nH:Cx ⟨p,0,kd,0,true⟩ [] p:=⟨rfl,by simp[gR],by simp⟩;have hfc:Fc root.tf root.jO root.calm ⟨p,0,kd,0,true⟩ s s.stars.length:=.inl ⟨aU _,.inl ⟨af _,h.tf⟩⟩;obtain⟨sl,B7,hW,_⟩:=FN root h.wf root [] [] ⟨p,0,kd,0,true⟩ p r s s.stars.length ls (In.root root) nH hv rfl hfc hR;generalize M root ⟨p,0,kd,0,true⟩ r s=m at B7 hW;obtain⟨o,s1⟩:=m;simp only at B7 hW⊢;have J4:r.length<=n:=ao hrS.length_le hn;have ry:=TM Lm hW;have hlsS:∀c∈ls.stars,c.2<:+S:=by intro c hc;rw[hR.stars]at hc;obtain⟨d,hd,rfl⟩:=dB.1 hc;exact hss d hd
 have hlkS:∀c∈ls.stack,c.2<:+S:=by intro c hc;rw[hR.stack]at hc;obtain⟨d,hd,rfl⟩:=dB.1 hc;exact Dq d hd
 have hs1S:∀c∈s1.stars,c.rem<:+S:=by
  intro c hc;have:(rg false root c.path,c.rem)∈sl.stars:=by rw[B7.stars];exact dB.2 ⟨c,hc,rfl⟩
  rcases ry.1 _ this with h|h
  ·exact hlsS _ h
  ·exact h.trans hrS
 have ZH:∀c∈s1.stack,c.rem<:+S:=by
  intro c hc;have:(rg true root c.path,c.rem)∈sl.stack:=by rw[B7.stack];exact dB.2 ⟨c,hc,rfl⟩
  rcases ry.2.1 _ this with h|h
  ·exact hlkS _ h
  ·exact h.trans hrS
 obtain⟨BQ,Kj⟩:=W_inv Lm (sol:=D root S []) hW σ ps (by rw[bd];exact ez) (by rw[bd];exact hI) (by rw[bd];exact xX) hσ;constructor
 ·rintro rfl;exact Kj.1.sound (by simp[Ds])
 intro hno;have ln:Inv Tl (D root S []) sl BQ False:=by
  cases o with
  |none=>exact Kj
  |some r'=>refine Kj.1.turn (λhc=> ?_) False.elim;simp only[Ds]at hc;exact hno (by rw[hc])
 have Mk:(xA n sl+1<=B)\/(root.free=true/\sl.stars.length<=1/\kX n sl+lN n sl+1<=B):=by
  rcases hpot with hp|⟨hf,qQ,hp⟩
  ·left;have:=W_potA Lm n hW J4;omega
  ·right;have h0:s.stars.length=0:=by
    have:=hR.stars;rw[qQ]at this;have:=congrArg List.length this;simp at this;omega
   rw[h0]at hW;obtain⟨h1,h2⟩:=KM Lm n hW J4 (D4 kd root p hf) ez qQ;exact⟨hf,h1,by omega⟩
 refine⟨?_,?_,?_⟩
 ·intro st c iW;have mT:sl.stars=st.map (λc=>(rg false root c.path,c.rem))++[(rg false root c.path,c.rem)]:=by rw[B7.stars,iW];simp
  obtain⟨pre,q,rfl,tE,hq⟩:∃pre q,BQ=pre++[q]/\pre.map Pt.ck=st.map (λc=>(rg false root c.path,c.rem))/\q.ck=(rg false root c.path,c.rem):=by
   have:=ln.stars;rw[mT]at this;rcases List.eq_nil_or_concat BQ with rfl|⟨pre,q,rfl⟩
   ·simp at this
   ·rw[dj,cM]at this;refine⟨pre,q,dj,(List.append_inj_left' this (by simp)).symm,?_⟩;have:=List.append_inj_right' this (by simp);simpa using this.symm
  have J6:rg false root c.path=q.st::q.ts:=by have:=congrArg Prod.fst hq;simpa[Pt.ck]using this.symm
  have OJ:c.rem=q.rem:=by have:=congrArg Prod.snd hq;simpa[Pt.ck]using this.symm
  have xc:Ds (rg false root c.path) c.rem []↔Cc q.ck:=by rw[hq];exact dD
  refine⟨B-1,?_,hs1S c (by rw[iW];simp),λd hd=>hs1S d (by rw[iW];simp[hd]),ZH,B7.Uo c (by rw[iW];simp),⟨st.map (λc=>(rg false root c.path,c.rem)),sl.stack⟩,pre,true,?_,?_,?_,?_,by simp,?_⟩
  ·rcases Mk with h|h<;>omega
  ·exact⟨rfl,B7.stack,λd hd=>B7.Uo d (by rw[iW];simp[hd]),B7.okk⟩
  ·rw[J6];exact ln.iK q (by simp)
  ·constructor
   ·exact tE.symm
   ·exactλx hx=>ln.ext x (by simp[hx])
   ·intro a x b Ft hx;rcases ln.chain a x (b++[q]) (by rw[Ft];simp) hx with⟨y,hy,hyc⟩|hf|hk
    ·rcases ar.1 hy with hy|hy
     ·exact .inl ⟨y,hy,hyc⟩
     ·simp only[az,ba,or_false]at hy;subst hy;exact .inr (.inl (xc.2 hyc))
    ·exact hf.elim
    ·exact .inr (.inr hk)
   ·exact(List.pairwise_append.1 ln.rel).1
   ·intro hs;rcases ln.alive hs with⟨y,hy,hyc⟩|hf|hk
    ·rcases ar.1 hy with hy|hy
     ·exact .inl ⟨y,hy,hyc⟩
     ·simp only[az,ba,or_false]at hy;subst hy;exact .inr (.inl (xc.2 hyc))
    ·exact hf.elim
    ·exact .inr (.inr hk)
   ·exactλhc=>ln.DX q (by simp) (xc.1 hc)
   ·exactλx hx=>ln.DX x (by simp[hx])
   ·exact ln.zO
   ·exactλx hx=>ln.iK x (by simp[hx])
   ·exact ln.Uo
  ·right;intro x hx;have:=(List.pairwise_append.1 ln.rel).2.2 x hx q (by simp);obtain⟨L,y,h1,h2,h3,h4⟩:=this;exact⟨L,y,by rw[h1,J6],h2,h3,.inr ⟨q.sep,q.nx,q.ts,J6,by rw[OJ];exact h4⟩⟩
  ·rcases Mk with hp|⟨hf,jg,hp⟩
   ·left;have:xA n sl=gn (m9 n) (st.map λc=>(rg false root c.path,c.rem))+m9 n (rg false root c.path,c.rem)+gn (m9 n) sl.stack:=by
     simp only[xA,mT,jb];simp[gn]
    simp only[xA];omega
   ·right;have hst0:st=[]:=by
     have:=congrArg List.length mT;simp at this;exact bM (by omega)
    subst hst0;refine⟨hf,rfl,?_⟩;have:kX n sl=yt n (rg false root c.path,c.rem):=(by simp[kX,mT,gn]);simp only[lN]at hp⊢;omega
 ·intro iW st c hk;have mT:sl.stars=[]:=by rw[B7.stars,iW];rfl
  have J7:BQ=[]:=by have:=ln.stars;rw[mT]at this;simpa using this.symm
  subst J7;have ZD:sl.stack=st.map (λc=>(rg true root c.path,c.rem))++[(rg true root c.path,c.rem)]:=by rw[B7.stack,hk];simp
  have RH:P1 sl->(∃d∈st.map (λc=>(rg true root c.path,c.rem)),Cc d)\/Ds (rg true root c.path) c.rem []:=by
   rintro⟨d,hd,hdc⟩;rw[ZD]at hd;rcases ar.1 hd with hd|hd
   ·exact .inl ⟨d,hd,hdc⟩
   ·simp only[az,ba,or_false]at hd;subst hd;exact .inr hdc
  obtain⟨σ',J8⟩:=ln.Uo (rg true root c.path,c.rem) (by rw[ZD];simp);refine⟨B-1,?_,ZH c (by rw[hk];simp),by simp,λd hd=>ZH d (by rw[hk];simp[hd]),(B7.okk c (by rw[hk];simp)).1,⟨[],st.map (λc=>(rg true root c.path,c.rem))⟩,[],σ',?_,J8,?_,?_,λ_=>rfl,?_⟩
  ·rcases Mk with h|h<;>omega
  ·exact⟨rfl,rfl,by simp,λd hd=>B7.okk d (by rw[hk];simp[hd])⟩
  ·constructor
   ·rfl
   ·simp
   ·intro a p b Ft;simp at Ft
   ·simp
   ·intro hs;rcases ln.alive hs with⟨y,hy,_⟩|hf|hk'
    ·simp at hy
    ·exact hf.elim
    ·rcases RH hk' with h|h
     ·exact .inr (.inr h)
     ·exact .inr (.inl h)
   ·exactλhc=>ln.zO ⟨(rg true root c.path,c.rem),by rw[ZD];exact ar.2 (.inr (aE.2 rfl)),hc⟩
   ·simp
   ·rintro⟨d,hd,hdc⟩;exact ln.zO ⟨d,by rw[ZD];exact ar.2 (.inl hd),hdc⟩
   ·simp
   ·exactλd hd=>ln.Uo d (by rw[ZD];exact ar.2 (.inl hd))
  ·right;simp
  ·rcases Mk with hp|⟨hf,jg,hp⟩
   ·left;have:xA n sl=gn (m9 n) (st.map λc=>(rg true root c.path,c.rem))+m9 n (rg true root c.path,c.rem):=by
     simp only[xA,mT,ZD,jb];simp[gn]
    simp only[xA,gn,cH,List.sum_nil]at this hp⊢;omega
   ·right;refine⟨hf,rfl,?_⟩;have:lN n sl=gn (yt n) (st.map λc=>(rg true root c.path,c.rem))+yt n (rg true root c.path,c.rem):=by simp only[lN,ZD,jb];simp[gn]
    simp only[lN]at this hp⊢;omega
 ·intro iW hk hD;have mT:sl.stars=[]:=by rw[B7.stars,iW];rfl
  have J7:BQ=[]:=by have:=ln.stars;rw[mT]at this;simpa using this.symm
  subst J7;rcases ln.alive hD with⟨y,hy,_⟩|hf|⟨d,hd,_⟩
  ·simp at hy
  ·exact hf
  ·rw[B7.stack,hk]at hd;simp at hd
end Go.Proofs.YtfejflhgaphilaaGreatDoor.Gm
