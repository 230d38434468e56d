/- A tree of a pattern matches as its mirror says, with the state there. The last checkpoint of a pile is taken. The piles are emptied. -/
import Derived.Test.YtfejflhgaphilaaGreatDoorC10
import Derived.Defers
set_option linter.all false
set_option maxRecDepth 100000
set_option maxHeartbeats 64000000
open Go.Proofs.Tryz
namespace Go.Proofs.YtfejflhgaphilaaGreatDoor
open Go.RowKit Gm
variable {B sp:Nat} {w:World} {v:Value}
theorem LX (v:Value) (w:World):(method 570 250 v "Match").run prog w=.ok (249,v) w:=by kernel_rfl
theorem LY (v:Value) (w:World):(method 570 247 v "Match").run prog w=.ok (247,v) w:=by kernel_rfl
theorem LW (v:Value) (w:World):(method 570 255 v "Match").run prog w=.ok (253,v) w:=by kernel_rfl
theorem LR (v:Value) (w:World):(method 570 331 v "Match").run prog w=.ok (297,v) w:=by kernel_rfl
theorem LQ (v:Value) (w:World):(method 570 334 v "Match").run prog w=.ok (299,v) w:=by kernel_rfl
theorem LV (v:Value) (w:World):(method 570 260 v "Match").run prog w=.ok (259,v) w:=by kernel_rfl
theorem LO (v:Value) (w:World):(method 570 344 v "Match").run prog w=.ok (303,v) w:=by kernel_rfl
theorem LN (v:Value) (w:World):(method 570 347 v "Match").run prog w=.ok (307,v) w:=by kernel_rfl
theorem LM (v:Value) (w:World):(method 570 349 v "Match").run prog w=.ok (309,v) w:=by kernel_rfl
theorem LL (v:Value) (w:World):(method 570 352 v "Match").run prog w=.ok (311,v) w:=by kernel_rfl
theorem LU (v:Value) (w:World):(method 570 263 v "Match").run prog w=.ok (261,v) w:=by kernel_rfl
theorem Vj (v:Value) (w:World):(method 570 265 v "Match").run prog w=.ok (265,v) w:=by kernel_rfl
theorem LP (v:Value) (w:World):(method 570 342 v "Match").run prog w=.ok (301,v) w:=by kernel_rfl
theorem Yk (args:Array Value) (w:World):(callFunc 249 args).run prog w=.ok (.enter 249 args) w:=by kernel_rfl
theorem Yl (args:Array Value) (w:World):(callFunc 247 args).run prog w=.ok (.enter 247 args) w:=by kernel_rfl
theorem Yj (args:Array Value) (w:World):(callFunc 253 args).run prog w=.ok (.enter 253 args) w:=by kernel_rfl
theorem Yg (args:Array Value) (w:World):(callFunc 297 args).run prog w=.ok (.enter 297 args) w:=by kernel_rfl
theorem Yf (args:Array Value) (w:World):(callFunc 299 args).run prog w=.ok (.enter 299 args) w:=by kernel_rfl
theorem Yi (args:Array Value) (w:World):(callFunc 259 args).run prog w=.ok (.enter 259 args) w:=by kernel_rfl
theorem Yd (args:Array Value) (w:World):(callFunc 303 args).run prog w=.ok (.enter 303 args) w:=by kernel_rfl
theorem Yc (args:Array Value) (w:World):(callFunc 307 args).run prog w=.ok (.enter 307 args) w:=by kernel_rfl
theorem Yb (args:Array Value) (w:World):(callFunc 309 args).run prog w=.ok (.enter 309 args) w:=by kernel_rfl
theorem Ya (args:Array Value) (w:World):(callFunc 311 args).run prog w=.ok (.enter 311 args) w:=by kernel_rfl
theorem Yh (args:Array Value) (w:World):(callFunc 261 args).run prog w=.ok (.enter 261 args) w:=by kernel_rfl
theorem cf265 (args:Array Value) (w:World):(callFunc 265 args).run prog w=.ok (.enter 265 args) w:=by kernel_rfl
theorem Ye (args:Array Value) (w:World):(callFunc 301 args).run prog w=.ok (.enter 301 args) w:=by kernel_rfl
theorem KP:∀(l:List T) (k:Nat) (t:T) (x:Ctx) (r:List dE) (s:St),l[k]? =some t->Ma l k x r s=M t x r s
 | [],_,_,_,_,_,h=>by simp at h
 |t::l,0,t',x,r,s,h=>by simp only[aN,ae]at h;subst h;rw[Ma]
 |_::l,k+1,t',x,r,s,h=>by rw[Ma];exact KP l k t' x r s (by simpa using h)
theorem IP:∀{l:List T} {k:Nat} {t:T} (d:Nat),l[k]? =some t->fT t (d+1)<=yc l d
 | [],_,_,_,h=>by simp at h
 |t::l,0,t',d,h=>by simp only[aN,ae]at h;subst h;rw[yc];omega
 |t::l,k+1,t',d,h=>by have:=IP (l:=l) (k:=k) (t:=t') d (by simpa using h);rw[yc];omega
theorem Mb {l:List T} {x:Ctx} (h:∀i p,x.path.drop x.depth=i::p->jT l i p) (eK:l≠[]):x.idx<l.length:=by
 by_cases eR:x.depth<x.path.length
 ·have:=h _ _ (bo eR);have h2:=tw l _ _ this;have he:x.idx=x.path[x.depth]:=by simp[Ctx.idx,eR]
  rw[he];exact h2
 ·rw[sm (by omega)];exact bG.2 eK
theorem nc {t:T} {txt:List dE} (ty:TypeId) (f:FuncId) (hm:∀w,(method 570 ty v "Match").run prog w=.ok (f,v) w) (UB:∀args w,(callFunc f args).run prog w=.ok (.enter f args) w) (hM:∀x r s,M t x r s=(res t r,s)) (rC:∀d,fT t d=0) (ez:dV txt) (hlen:(enc txt).length<=1000000) (hC:∀(w:World) (r:List dE) (c0 c1 c2 c3 c4 c5:Value),Rp w B t (.iface ty v)->fE w->dV r->(enc r).length<=1000000->Calls prog f #[v,.agg #[c0,c1,c2,c3,c4,c5],.string (bs r)] w λe w'=>e=.returned (gC r (res t r))/\Below w.heap.size w w'):MOk t (.iface ty v) B sp txt:=by
 refine⟨ty,v,f,rfl,hm,UB,?_⟩;intro w tot S r st x vp hR hT hs hp nG hr kT mU kZ hd qn;have oa:(enc r).length<=(enc txt).length:=by obtain⟨u,hu⟩:=hr;rw[<-hu];simp
 refine(hC w r _ _ _ _ _ _ hR hT (eM ez hr) (by omega)).mono ?_;rintro e w' ⟨rfl,hb⟩;rw[hM,rC];exact⟨rfl,S,hs.keep hb,hs.below hb⟩
mutual
theorem FB:∀(t:T),t.still=true->t.wf=true
 |.text _,_=>rfl
 |.char _,_=>rfl
 |.star _ _ _,_=>rfl
 |.range _ _ _,_=>rfl
 |.set _ _,_=>rfl
 |.void,_=>rfl
 |.pre _ _,_=>rfl
 |.eP _ _,_=>rfl
 |.dN _ _ _,_=>rfl
 |.cont _,_=>rfl
 |.dH l,h=>by simp only[T.wf];exact oO l (by simpa[T.still]using h)
 |.alt l,h=>by simp[T.still]at h
 |.eh l,h=>by simpa[T.still,T.wf]using h
theorem oO:∀(l:List T),fW l=true->BA l=true
 | [],_=>rfl
 |t::l,h=>by simp only[fW,al]at h;simp only[BA,al];exact⟨FB t h.1,oO l h.2⟩
end
mutual
theorem La {B sp:Nat} {txt:List dE} (nI:3<=B) (ez:dV txt) (hlen:(enc txt).length<=1000000):∀(t:T) (w0:World) (u:Value),Rp w0 B t u->t.wf=true->MOk t u B sp txt
 |.text t,w0,u,h,_=>by obtain⟨b,⟨rfl,_⟩,_⟩:=h;refine nc 250 249 (LX _) Yk (λ_ _ _=>rfl) (λ_=>rfl) ez hlen λw r c0 c1 c2 c3 c4 c5 hR hT oc oa=> ?_;obtain⟨b',⟨e,_⟩,h1,h2,_⟩:=hR;simp only[bA,bD,ae,aY,and_true,true_and]at e;subst e;exact f249 _ _ _ _ _ _ _ _ _ w h2 oc h1
 |.char sep,w0,u,h,_=>by obtain⟨b,vs,⟨rfl,_⟩,_⟩:=h;refine nc 247 247 (LY _) Yl (λ_ _ _=>rfl) (λ_=>rfl) ez hlen λw r c0 c1 c2 c3 c4 c5 hR hT oc oa=> ?_;obtain⟨b',vs',⟨e,_⟩,h1,h2,h3,h4⟩:=hR;simp only[bA,bD,ae,aY,and_true,true_and]at e;subst e;exact f247 _ _ _ _ _ _ _ _ _ _ w hT h4 oc h1 h2
 |.star sep nx tm,w0,u,h,_=>by
  obtain⟨b,vs,⟨rfl,_⟩,_⟩:=h;refine⟨255,_,253,rfl,LW _,Yj,?_⟩;intro w tot S r st x vp hR hT hs hp nG hr kT mU kZ hd qn;obtain⟨b',vs',⟨e,_⟩,h1,h2,h3,h4,h5,h6⟩:=hR;simp only[bA,bD,ae,aY,and_true,true_and]at e;subst e;have oa:(enc r).length<=(enc txt).length:=by obtain⟨u,hu⟩:=hr;rw[<-hu];simp
  cases tm with
  |true=>
   refine(X7 _ _ _ _ r _ _ _ _ _ _ w h1 h3 (eM ez hr) (by omega)).mono ?_;rintro e w' ⟨rfl,hb⟩;refine⟨by simp[M],S,?_,hs.below hb⟩;have:(M (.star sep nx true) x r st).2=st:=by simp[M]
   rw[this];exact(hs.keep hb).more (by omega)
  |false=>refine(f253 _ _ _ _ r x vp _ hT hs hp nG kT (by simp only[fT]at qn;omega) h1 ez hr h3 h4 h5 hlen h6).mono ?_;rintro e w' ⟨rfl,S',e1,e2⟩;rw[KQ];exact⟨rfl,S',e1,e2⟩
 |.range lo hi neg,w0,u,h,_=>by obtain⟨b,⟨rfl,_⟩,_⟩:=h;refine nc 331 297 (LR _) Yg (λ_ _ _=>rfl) (λ_=>rfl) ez hlen λw r c0 c1 c2 c3 c4 c5 hR hT oc oa=> ?_;obtain⟨b',⟨e,_⟩,h1,h2,h3⟩:=hR;simp only[bA,bD,ae,aY,and_true,true_and]at e;subst e;exact f297 _ _ _ _ _ _ _ _ _ _ _ w hT oc h1 h2 h3
 |.set cs neg,w0,u,h,_=>by obtain⟨b,mb,⟨rfl,_⟩,_⟩:=h;refine nc 334 299 (LQ _) Yf (λ_ _ _=>rfl) (λ_=>rfl) ez hlen λw r c0 c1 c2 c3 c4 c5 hR hT oc oa=> ?_;obtain⟨b',mb',⟨e,_⟩,h1,h2,h3,_⟩:=hR;simp only[bA,bD,ae,aY,and_true,true_and]at e;subst e;exact f299 _ _ _ _ _ _ _ _ _ _ _ w hT oc h1 h2 h3
 |.void,w0,u,h,_=>by obtain⟨b,rfl⟩:=h;refine nc 260 259 (LV _) Yi (λ_ _ _=>rfl) (λ_=>rfl) ez hlen λw r c0 c1 c2 c3 c4 c5 hR hT oc oa=> ?_;exact f259 _ _ _ _ _ _ _ _ w
 |.pre t sep,w0,u,h,_=>by obtain⟨b,⟨rfl,_⟩,_⟩:=h;refine nc 344 303 (LO _) Yd (λ_ _ _=>rfl) (λ_=>rfl) ez hlen λw r c0 c1 c2 c3 c4 c5 hR hT oc oa=> ?_;obtain⟨b',⟨e,_⟩,h1,h2,h3,h4⟩:=hR;simp only[bA,bD,ae,aY,and_true,true_and]at e;subst e;exact f303 _ _ _ _ _ _ _ _ _ _ w h3 h4 oc oa h1 h2
 |.eP t sep,w0,u,h,_=>by obtain⟨b,⟨rfl,_⟩,_⟩:=h;refine nc 347 307 (LN _) Yc (λ_ _ _=>rfl) (λ_=>rfl) ez hlen λw r c0 c1 c2 c3 c4 c5 hR hT oc oa=> ?_;obtain⟨b',⟨e,_⟩,h1,h2,h3,h4⟩:=hR;simp only[bA,bD,ae,aY,and_true,true_and]at e;subst e;exact f307 _ _ _ _ _ _ _ _ _ _ w h3 h4 oc oa h1 h2
 |.dN p q sep,w0,u,h,_=>by obtain⟨b,⟨rfl,_⟩,_⟩:=h;refine nc 349 309 (LM _) Yb (λ_ _ _=>rfl) (λ_=>rfl) ez hlen λw r c0 c1 c2 c3 c4 c5 hR hT oc oa=> ?_;obtain⟨b',⟨e,_⟩,h1,h2,h3,h4,h5,h6,h7,h8⟩:=hR;simp only[bA,bD,ae,aY,and_true,true_and]at e;subst e;exact f309 _ _ _ _ _ _ _ _ _ _ _ w h4 h5 h6 oc oa h7 h8 h1 h2 h3
 |.cont t,w0,u,h,_=>by obtain⟨b,⟨rfl,_⟩,_⟩:=h;refine nc 352 311 (LL _) Ya (λ_ _ _=>rfl) (λ_=>rfl) ez hlen λw r c0 c1 c2 c3 c4 c5 hR hT oc oa=> ?_;obtain⟨b',⟨e,_⟩,h1,h2,h3,h4⟩:=hR;simp only[bA,bD,ae,aY,and_true,true_and]at e;subst e;exact f311 _ _ _ _ _ _ _ _ _ w h2 h3 oc oa h4 h1
 |.dH l,w0,u,h,hw=>by
  obtain⟨b,o,cap,rfl,uL,hl,_⟩:=h;refine⟨263,_,261,rfl,LU _,Yh,?_⟩;intro w tot S r st x vp hR hT hs hp nG hr kT mU kZ hd qn;obtain⟨b',o',oY,e,_,_,uB⟩:=hR;simp only[bA,au,ae,aY,and_true,true_and]at e;obtain⟨⟨rfl,rfl⟩,rfl⟩:=e;have xT:x.idx<=l.length:=by
   by_cases eK:l=[]
   ·subst eK;rcases hx:x.path.drop x.depth with _|⟨i,p⟩
    ·rw[sm (by simpa using hx)];exact aU _
    ·rw[hx]at kZ;simp[val,jT]at kZ
   ·exact Nat.le_of_lt (Mb (λi p hx=>by rw[hx]at kZ;simpa[val]using kZ) eK)
  refine(f261 b o cap l r x vp hT nI uL hs hp nG (ub nI ez hlen l w b o uB (by simpa[T.wf]using hw)) uB xT hl ez hr hlen kT mU kZ (by simp only[uH]at hd;omega) (by simpa[fT]using qn)).mono ?_;rintro e w' ⟨rfl,S',e1,e2⟩;exact⟨by simp only[M],S',by simpa only[M,fT]using e1,e2⟩
 |.alt l,w0,u,h,hw=>by
  obtain⟨b,o,cap,rfl,uL,hl,_⟩:=h;refine⟨265,_,265,rfl,Vj _,cf265,?_⟩;intro w tot S r st x vp hR hT hs hp nG hr kT mU kZ hd qn;obtain⟨b',o',oY,e,_,_,uB⟩:=hR;simp only[bA,au,ae,aY,and_true,true_and]at e;obtain⟨⟨rfl,rfl⟩,rfl⟩:=e;simp only[T.wf,al,cQ,dh]at hw;have xT:x.idx<l.length:=Mb (λi p hx=>by rw[hx]at kZ;simpa[val]using kZ) hw.1;have ht:l[x.idx]? =some l[x.idx]:=ah xT;obtain⟨u,hu,OU⟩:=rT.at l o x.idx _ uB ht;have hv:val l[x.idx] (x.path.drop (x.depth+1)):=by
   by_cases eR:x.depth<x.path.length
   ·rw[bo eR]at kZ;have he:x.path[x.depth]=x.idx:=by simp[Ctx.idx,eR]
    rw[he]at kZ;exact zz l x.idx _ _ ht (by simpa[val]using kZ)
   ·rw[aL (by omega)];exact m7 _
  have hc:=IP x.depth ht;simp only[fT]at qn;simp only[uH]at hd;have hh:=su ht;refine(f265 b o cap l l[x.idx] u r x vp hT nI uL hs hp nG (ub nI ez hlen l w b o uB hw.2 x.idx _ u ht hu) hu OU ht hl ez hr hlen kT mU hv (by omega) _ rfl (by omega)).mono ?_;rintro e w' ⟨rfl,S',e1,e2⟩;refine⟨by simp only[M];rw[KP l x.idx _ _ _ _ ht],S',?_,e2⟩;have:=e1.more (show _<=tot+fT (.alt l) x.depth by simp only[fT];omega);simp only[M];rw[KP l x.idx _ _ _ _ ht];exact this
 |.eh l,w0,u,h,hw=>by
  obtain⟨b,o,cap,rfl,uL,hl,_⟩:=h;refine⟨342,_,301,rfl,LP _,Ye,?_⟩;intro w tot S r st x vp hR hT hs hp nG hr kT mU kZ hd qn;obtain⟨b',o',oY,e,_,_,uB⟩:=hR;simp only[bA,au,ae,aY,and_true,true_and]at e;obtain⟨⟨rfl,rfl⟩,rfl⟩:=e;have hv:x.path.drop x.depth=[]:=by
   rcases hx:x.path.drop x.depth with _|⟨i,p⟩
   ·rfl
   ·rw[hx]at kZ;simp[val]at kZ
  refine(f301 b o cap l r x vp hT nI uL hs hp nG (ub nI ez hlen l w b o uB (oO l (by simpa[T.wf]using hw))) uB hl ez hr hlen kT mU hv (by simpa only[uH]using hd) (by simpa[fT]using qn)).mono ?_;rintro e w' ⟨rfl,S',e1,e2⟩;exact⟨by simp only[M],S',by simpa only[M,fT]using e1,e2⟩
theorem ub {B sp:Nat} {txt:List dE} (nI:3<=B) (ez:dV txt) (hlen:(enc txt).length<=1000000):∀(l:List T) (w0:World) (b o:Nat),rT w0 B b l o->BA l=true->∀(j:Nat) (t:T) (u:Value),l[j]? =some t->w0.cell? ⟨b,o+j,none⟩=some u->MOk t u B sp txt
 | [],_,_,_,_,_,_,_,_,h,_=>by simp at h
 |t::l,w0,b,o,h,hw,0,t',u,ht,hu=>by simp only[aN,ae]at ht;subst ht;obtain⟨⟨u',h1,h2⟩,_⟩:=h;rw[bL,h1,ae]at hu;subst hu;simp only[BA,al]at hw;exact La nI ez hlen t w0 _ h2 hw.1
 |t::l,w0,b,o,h,hw,j+1,t',u,ht,hu=>by simp only[BA,al]at hw;exact ub nI ez hlen l w0 b (o+1) h.2 hw.2 j t' u (by simpa using ht) (by rw[show o+1+j=o+(j+1)by omega];exact hu)
end
theorem f74 (sp i g cap m:Nat) (z:Int) (pa:Option Addr) (pl pc:Nat) (w:World) (hmc:m+1<=cap) (nj:cap<=maxLen) (hc:w.cell? ⟨sp,i,none⟩=some (.slice (some ⟨g,0,none⟩) (m+1) cap)) (hf:w.frozen? ⟨sp,i,none⟩=false) (zi:sp<w.heap.size) (h0:w.cell? ⟨g,m*2,none⟩=some (.int .i64 z)) (h1:w.cell? ⟨g,m*2+1,none⟩=some (.slice pa pl pc)):Calls prog 74 #[.pointer (some ⟨sp,i,none⟩)] w λe w'=>e=.returned (.agg #[.int .i64 z,.slice pa pl pc])/\Below w.heap.size (w.setCell ⟨sp,i,none⟩ (.slice (some ⟨g,0,none⟩) m cap)) w':=by
 unfold maxLen at nj;have hw:IntKind.i64.wrap (((m+1:Nat):Int)-1)=(m:Int):=by rw[aW];omega
 have hw':IntKind.i64.wrap ((m:Int)+1-1)=(m:Int):=by rw[aW];omega
 have i1:(0:Int)<=(m:Int):=by omega
 have i2:(m:Int)<((m+1:Nat):Int):=by omega
 have i3:(m:Int)<=(cap:Int):=by omega
 have k0:=dJ h0 (.cells #[.int .i64 0,.slice none 0 0] 162);have k1:=dJ h1 (.cells #[.int .i64 0,.slice none 0 0] 162);have j7:=dJ hc (.cells #[.int .i64 0,.slice none 0 0] 162);have kb:=dJ j7 (.cells #[.int .i64 z,.slice pa pl pc] 162);have hf2:((w.alloc (.cells #[.int .i64 0,.slice none 0 0] 162)).alloc (.cells #[.int .i64 z,.slice pa pl pc] 162)).frozen? ⟨sp,i,none⟩=false:=by
  have e:((w.alloc (.cells #[.int .i64 0,.slice none 0 0] 162)).alloc (.cells #[.int .i64 z,.slice pa pl pc] 162)).heap[sp]? =w.heap[sp]? :=by rw[heap_alloc_old _ _ (by rw[ab];omega),heap_alloc_old _ _ zi]
  exact(dt (w:=w) (a:=⟨sp,i,none⟩) e).trans hf
 go_enter func74,ntmps74;go_wp2_with fail;have iq:(((w.setCell ⟨sp,i,none⟩ (.slice (some ⟨g,0,none⟩) m cap)).alloc (.cells #[.int .i64 z,.slice pa pl pc] 162)).alloc (.cells #[.int .i64 z,.slice pa pl pc] 162)).heap[w.heap.size]? =some (.cells #[.int .i64 z,.slice pa pl pc] 162 (0,0)):=by have h2:=heap_alloc_new (w.setCell ⟨sp,i,none⟩ (.slice (some ⟨g,0,none⟩) m cap)) (.cells #[.int .i64 z,.slice pa pl pc] 162);rw[aK]at h2;rw[heap_alloc_old _ _ (by rw[ab,aK];omega)];exact h2
 (try simp only[Exit.inBlock,Exit.then])
 refine bodyPost_ret (results_cell_row rfl _ _ _ _ _ _ _ rfl iq underlying162 rfl (by kernel_rfl)) rfl ?_;refine⟨rfl,?_⟩;have gJ:(w.setCell ⟨sp,i,none⟩ (.slice (some ⟨g,0,none⟩) m cap)).heap.size=w.heap.size:=aK ..;exact((ay w.heap.size (w.setCell ⟨sp,i,none⟩ (.slice (some ⟨g,0,none⟩) m cap))).alloc (by rw[gJ];exact af _) _).alloc (by rw[ab,gJ];omega) _
section
variable {w:World} {B sp tot:Nat} {S:SV} {txt:List dE} {st:St}
theorem f74s (hs:eY w B sp S txt tot st) (ld:List Ck) (c:Ck) (he:st.stars=ld++[c]):Calls prog 74 #[.pointer (some ⟨sp,0,none⟩)] w λe w'=>∃pv S',e=.returned (.agg #[.int .i64 (off txt c.rem),pv])/\eY w' B sp S' txt tot {st with stars:=ld}/\Fr w w' sp S S'/\eF w' pv c.path/\PL sp S' pv:=by
 have hl:st.stars.length=ld.length+1:=by rw[he];simp
 obtain⟨g,cap,pv,h1,h2,h3,h4,h5⟩:=hs.stars.last ld.length c (by rw[he];simp);obtain⟨pa,pc,rfl⟩:∃pa pc,pv=.slice pa c.path.length pc:=by obtain⟨a,k,h,_⟩:=h4;exact⟨a,k,h⟩
 obtain⟨a',c',h6,h7,h8⟩:=hs.stars.form;have Ht:cap=c':=by rw[h1]at h6;simp only[au]at h6;exact h6.2.2
 subst Ht;have VZ:=hs.cells.1;rw[h1,hl]at VZ;refine(f74 sp 0 g cap ld.length _ pa _ pc w (by omega) h8 VZ hs.frozen.1 hs.lt.1 h2 h3).mono ?_;rintro e w' ⟨rfl,hb⟩;obtain⟨d1,d2⟩:=hs.cuts ld.length (by omega);have sM:oy S.vs ld.length=.slice (some ⟨g,0,none⟩) ld.length cap:=by rw[h1];rfl
 rw[sM]at d1 d2;have iW:st.stars.take ld.length=ld:=by rw[he];simp
 rw[iW]at d1;rw[<-aK w ⟨sp,0,none⟩ (.slice (some ⟨g,0,none⟩) ld.length cap)]at hb;have hP:=h4.fr h5 d2;exact⟨_,_,rfl,d1.keep hb,hs.trans d2 (d1.below hb),hP.1.lk hb,hP.2⟩
theorem f74k (hs:eY w B sp S txt tot st) (ld:List Ck) (c:Ck) (he:st.stack=ld++[c]):Calls prog 74 #[.pointer (some ⟨sp,1,none⟩)] w λe w'=>∃pv S',e=.returned (.agg #[.int .i64 (off txt c.rem),pv])/\eY w' B sp S' txt tot {st with stack:=ld}/\Fr w w' sp S S'/\eF w' pv c.path/\PL sp S' pv:=by
 have hl:st.stack.length=ld.length+1:=by rw[he];simp
 obtain⟨g,cap,pv,h1,h2,h3,h4,h5⟩:=hs.stack.last ld.length c (by rw[he];simp);obtain⟨pa,pc,rfl⟩:∃pa pc,pv=.slice pa c.path.length pc:=by obtain⟨a,k,h,_⟩:=h4;exact⟨a,k,h⟩
 obtain⟨a',c',h6,h7,h8⟩:=hs.stack.form;have Ht:cap=c':=by rw[h1]at h6;simp only[au]at h6;exact h6.2.2
 subst Ht;have VZ:=hs.cells.2.1;rw[h1,hl]at VZ;refine(f74 sp 1 g cap ld.length _ pa _ pc w (by omega) h8 VZ hs.frozen.2.1 hs.lt.1 h2 h3).mono ?_;rintro e w' ⟨rfl,hb⟩;obtain⟨d1,d2⟩:=hs.cutk ld.length (by omega);have sM:oy S.vk ld.length=.slice (some ⟨g,0,none⟩) ld.length cap:=by rw[h1];rfl
 rw[sM]at d1 d2;have iW:st.stack.take ld.length=ld:=by rw[he];simp
 rw[iW]at d1;rw[<-aK w ⟨sp,1,none⟩ (.slice (some ⟨g,0,none⟩) ld.length cap)]at hb;have hP:=h4.fr h5 d2;exact⟨_,_,rfl,d1.keep hb,hs.trans d2 (d1.below hb),hP.1.lk hb,hP.2⟩
end
theorem f72 (w:World):Calls prog 72 #[] w λe w'=>e=.returned (.pointer (some ⟨w.heap.size,0,none⟩))/\w'=w.alloc (.cells #[.slice none 0 0,.slice none 0 0,.slice none 0 0] 165):=by go_enter func72,ntmps72;go_wp2_with fail;go_ret;exact⟨rfl,rfl⟩
def lf (n:Nat):List Value:=(Builtin.zeroCells #[.int .i64 0,.slice none 0 0] n).toList
theorem zu (n:Nat):(lf n).length=n*2:=by simp[lf,Builtin.zeroCells]
theorem Jx (n:Nat):∀v∈lf n,v.oneCell'=true:=by
 intro v hv;simp only[lf,Builtin.zeroCells,Array.toList_map,dB]at hv;obtain⟨i,_,rfl⟩:=hv;have:i%2=0\/i%2=1:=by omega
 rcases this with h|h
 ·simp[h,Value.oneCell']
 ·simp[h,Value.oneCell']
theorem PU (g cap:Nat) (cur:Array Value) (w:World) (hg:w.heap[g]? =some (.cells cur 162 (0,0))) (gJ:cur.size=cap*2) (ty:TypeId) (n:Nat):(Builtin.clear_ #[163] ty #[.slice (some ⟨g,0,none⟩) cap n]).run prog w=.ok (.tuple #[]) (w.setCells g 0 (lf cap)):=by
 cases cap with
 |zero=>have:lf 0=[]:=bM (by rw[zu]);rw[this];simp[Builtin.clear_,run_underlying underlying163,World.setCells]
 |succ m=>have iW:=run_storeCells_cells (P:=prog) g 0 (lf (m+1)) 0 w (λj hj=>by rw[zu]at hj;simp[World.cell?,hg];omega) (λj hj=>by simp[World.frozen?,hg]) (Jx _);simp only[bL]at iW;simp[Builtin.clear_,run_underlying underlying163,Value.cells];unfold lf at iW⊢;simp[iW]
theorem f124 (sp i g n cap:Nat) (cur:Array Value) (w:World) (hc:w.cell? ⟨sp,i,none⟩=some (.slice (some ⟨g,0,none⟩) n cap)) (hf:w.frozen? ⟨sp,i,none⟩=false) (hg:w.heap[g]? =some (.cells cur 162 (0,0))) (gJ:cur.size=cap*2) (eK:sp≠g):Calls prog 124 #[.pointer (some ⟨sp,i,none⟩)] w λe w'=>e=.returned (.tuple #[])/\w'.heap=((w.setCells g 0 (lf cap)).setCell ⟨sp,i,none⟩ (.slice (some ⟨g,0,none⟩) 0 cap)).heap/\w'.os=w.os/\w'.tape=w.tape/\w'.output=w.output:=by
 have i1:(0:Int)<=(cap:Int):=by omega
 have ka:=λty=>PU g cap cur w.drew hg gJ ty cap;have vE:=aa ka;have hs:(w.setCells g 0 (lf cap)).heap[sp]? =w.heap[sp]? :=eN g _ 0 w sp eK;have kb:(w.drew.setCells g 0 (lf cap)).cell? ⟨sp,i,none⟩=some (.slice (some ⟨g,0,none⟩) n cap):=(aF (w:=w) (a:=⟨sp,i,none⟩) (eN g _ 0 w.drew sp eK)).trans hc;have hf2:(w.drew.setCells g 0 (lf cap)).frozen? ⟨sp,i,none⟩=false:=(dt (w:=w) (a:=⟨sp,i,none⟩) (eN g _ 0 w.drew sp eK)).trans hf;clear ka hg gJ hs;go_enter func124,ntmps124;go_wp2_with fail;refine ev (λw'=>w'.cell? ⟨sp,i,none⟩=some (.slice (some ⟨g,0,none⟩) n cap)) [0,1,2,3,4,5,6,7] [] (by kernel_rfl) (by kernel_rfl) hc (λhHeld=> ?_);iterate 8
  refine fc (v:= ?_) rfl (λ_ _ _ h=>h) (by rfl) ?_ hHeld ?_;rotate_left
  ·intro w hSw;(try dsimp only at hSw);go_simp
   try with_reducible rfl
  simp only[Act.put,iX]
 refine fe ?_;refine ff rfl ?_;clear hHeld;have ka:=vE.out 0;go_wp2_with (simp only[ka]);go_end0;obtain⟨r1,r2,r3⟩:=mq g (lf cap) 0 w.drew;exact⟨rfl,by simp only[World.setCell,mr g (lf cap) 0 w.drew w rfl],r1,r2,r3⟩
theorem f124n (sp i:Nat) (w:World) (hc:w.cell? ⟨sp,i,none⟩=some (.slice none 0 0)) (hf:w.frozen? ⟨sp,i,none⟩=false):Calls prog 124 #[.pointer (some ⟨sp,i,none⟩)] w λe w'=>e=.returned (.tuple #[])/\w'.heap=(w.setCell ⟨sp,i,none⟩ (.slice none 0 0)).heap/\w'.os=w.os/\w'.tape=w.tape/\w'.output=w.output:=by
 have ka:∀ty (wx:World),(Builtin.clear_ #[163] ty #[.slice none 0 0]).run prog wx=.ok (.tuple #[]) wx:=λty wx=>by simp[Builtin.clear_,run_underlying underlying163]
 have vE:=aa ka;clear ka;go_enter func124,ntmps124;go_wp2_with fail;refine ev (λw'=>w'.cell? ⟨sp,i,none⟩=some (.slice none 0 0)) [0,1,2,3,4,5,6,7] [] (by kernel_rfl) (by kernel_rfl) hc (λhHeld=> ?_);iterate 8
  refine fc (v:= ?_) rfl (λ_ _ _ h=>h) (by rfl) ?_ hHeld ?_;rotate_left
  ·intro w hSw;(try dsimp only at hSw);go_simp
   try with_reducible rfl
  simp only[Act.put,iX]
 refine fe ?_;refine ff rfl ?_;clear hHeld;have ka:=vE.out 0;go_wp2_with (simp only[ka]);go_end0;exact⟨rfl,rfl,rfl,rfl,rfl⟩
structure WD (w w':World) (sp:Nat) (own:Option Nat) (cs:Array Value):Prop where
 gu:w'.heap[sp]? =some (.cells cs 165 (0,0))
 other:∀b,b≠sp->own≠some b->w'.heap[b]? =w.heap[b]?
 size:w'.heap.size=w.heap.size
 os:w'.os=w.os
 tape:w'.tape=w.tape
 output:w'.output=w.output
theorem X8 {i n:Nat} {xs:List Value} {cs:Array Value} (hb:w.heap[sp]? =some (.cells cs 165 (0,0))) (hi:cs[i]? =some v) (ho:w.ownsRow B 162 2 v n xs) (eK:v.ownBlock≠some sp):Calls prog 124 #[.pointer (some ⟨sp,i,none⟩)] w λe w'=>e=.returned (.tuple #[])/\∃u,WD w w' sp v.ownBlock (cs.setIfInBounds i u):=by
 have hc:w.cell? ⟨sp,i,none⟩=some v:=by simpa[World.cell?,hb]using hi
 have hf:w.frozen? ⟨sp,i,none⟩=false:=by simp[World.frozen?,hb]
 rcases ho.2 with⟨rfl,_⟩|⟨g,cap,cur,rfl,h1,h2,h3,h4,h5,h6⟩
 ·refine(f124n sp i w hc hf).mono ?_;rintro e w' ⟨rfl,g1,g2,g3,g4⟩;refine⟨rfl,.slice none 0 0,?_,λb eu _=> ?_,?_,g2,g3,g4⟩
  ·rw[g1];exact dG hb _
  ·rw[g1];exact aq _ _ _ _ eu
  ·rw[g1];exact aK ..
 ·have Jq:sp≠g:=λe=>eK (by rw[e];rfl);refine(f124 sp i g n cap cur w hc hf h2 h5 Jq).mono ?_;rintro e w' ⟨rfl,g1,g2,g3,g4⟩;refine⟨rfl,.slice (some ⟨g,0,none⟩) 0 cap,?_,λb eu eT=> ?_,?_,g2,g3,g4⟩
  ·rw[g1];exact dG ((eN g _ 0 w sp Jq).trans hb) _
  ·rw[g1,aq _ _ _ _ (show b≠sp from eu)];exact eN g _ 0 w b (λe=>eT (by rw[e];rfl))
  ·rw[g1,aK,mo]
theorem vx.form {va:Value} (h:vx w B va):∃a n c,va=.slice a n c:=by
 rcases h with rfl|⟨b,u,cap,cs,rfl,_⟩
 ·exact⟨_,_,_,rfl⟩
 ·exact⟨_,_,_,rfl⟩
theorem f73d {tot:Nat} {S:SV} {txt:List dE} {st:St} (u:FrameMode) (hs:eY w B sp S txt tot st):CallsD prog 73 #[.pointer (some ⟨sp,0,none⟩)] u w λe u' w'=>u'=u/\(e=.returned (.tuple #[])/\Below B w w'):=by
 obtain⟨l1,l2,l3,l4⟩:=hs.lt;have hB:=hs.base;obtain⟨va,vn,vc,Uu⟩:=hs.arena.form;have HS:=aa hs;have HVA:=aa Uu;clear hs Uu l2 l3 l4
 go_enter_d func73,ntmps73
 go_wp2_with fail;obtain⟨p1,_,o1,_⟩:=HS.stars;refine(X8 (i:=0) HS.gu (by simp) o1 (λe=>(HS.apart.s sp e).1 rfl)).mono ?_;rintro e w1 ⟨rfl,u0,h1⟩;have H1:=aa h1;clear h1 o1;go_wp2_with fail;obtain⟨p2,_,o2,_⟩:=HS.stack;have o3:w1.ownsRow B 162 2 S.vk st.stack.length (ia txt st.stack p2):=dI o2 λg hg=>H1.other g (HS.apart.k g hg).1 λe=>(HS.apart.s g e).2.1 hg;refine(X8 (i:=1) H1.gu (by simp) o3 (λe=>(HS.apart.k sp e).1 rfl)).mono ?_;rintro e w2 ⟨rfl,u1,h2⟩;have H2:=aa h2;clear h2 o2 o3;have hc:w2.cell? ⟨sp,2,none⟩=some (.slice va vn vc):=by rw[<-HVA.out];simp[World.cell?,H2.gu]
 have hf:w2.frozen? ⟨sp,2,none⟩=false:=by simp[World.frozen?,H2.gu]
 go_wp2_with fail;go_end0;refine⟨rfl,?_⟩;obtain⟨l1,l2,l3,l4⟩:=HS.lt;refine⟨H2.os.trans H1.os,H2.tape.trans H1.tape,H2.output.trans H1.output,?_,λb hb=> ?_⟩
 ·rw[aK,H2.size,H1.size];exact af _
 ·rw[aq _ _ _ _ (show b≠sp by omega),H2.other b (by omega) (λe=>by have:=(l3 b e).2;omega),H1.other b (by omega) (λe=>by have:=(l2 b e).2;omega)]
end Go.Proofs.YtfejflhgaphilaaGreatDoor
