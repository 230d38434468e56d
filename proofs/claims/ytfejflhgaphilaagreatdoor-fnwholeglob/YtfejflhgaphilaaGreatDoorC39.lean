/- The reference's match, whole: GlobMatch. The parser's stacks, folded. Trees are simplified. -/
import Derived.Test.YtfejflhgaphilaaGreatDoorC38
import Derived.Test.YtfejflhgaphilaaGreatDoorC31
import Derived.Test.YtfejflhgaphilaaGreatDoorC30
set_option linter.all false
set_option maxRecDepth 100000
set_option maxHeartbeats 64000000
open Go.Proofs.Tryz
namespace Go.Proofs.YtfejflhgaphilaaGreatDoor
open Go.RowKit Gm
variable {w w' wr:World} {B e size n:Nat} {F tP G' bl G:List Nat} {BC v sv:Value} {fV us xs:List Value} {L' L:List T}
theorem O1 (n:Nat):(List.range (n+1)).map (λk=>decide (k=0))=true::List.replicate n false:=by
 apply List.ext_getElem
 ·simp
 ·intro i h1 h2;cases i with
  |zero=>simp
  |succ i=>simp
theorem f11g (w0:World) (S s:List dE) (gl:List Gb) (v:Value) (w:World) (hS:dV S) (hs:dV s) (Mg:s.length<=1000000) (B5:S.length<=1000000) (hg:iY gl) (Jq:fU gl) (hv:tV w0 (ox gl) v) (hb:Below w0.heap.size w0 w):Calls prog 11 #[v,.string (bs S),.string (bs s)] w λe w'=>e=.returned (.bool (lp S gl s))/\Below w.heap.size w w':=by
 obtain⟨av,cv,rfl,_⟩:=hv.row;obtain⟨cap,sM,j7,kb⟩:=pP hs Mg w;have Dn:=pt w j7 kb (ay _ _);obtain⟨W1,gZ⟩:=dS (w.drew.alloc (.cells ((s.map λc=>Value.int .i32 ((c:Nat):Int)).toArray++Array.replicate (cap-s.length) (.int .i32 0)) 21));rw[<-gZ]at sM Dn;have eu:Below w.heap.size w W1:=by rw[gZ];go_grown
 obtain⟨n,hn⟩:=dS s.length;rw[<-hn]at sM Mg;obtain⟨T,hT⟩:=dS W1.heap.size;obtain⟨W2,lz⟩:=dS ((W1.alloc (.cells (qv (n+1)) 4)).setCell ⟨T,0,none⟩ (.bool true));have nh:jl (W1.alloc (.cells (qv (n+1)) 4)) T (n+1) (λ_=>false):=by unfold jl;rw[hT];exact heap_alloc_new _ _
 have VZ:=nh.cell (k:=0) (by omega);have hf0:=nh.frozen 0;have ll:jl W2 T (n+1) (λk=>decide (k=0)):=by rw[lz];exact(nh.set 0 true).congr λk _=>by by_cases e:k=0<;>simp[e]
 have eT:Below W1.heap.size W1 W2:=by rw[lz];exact(show Below W1.heap.size W1 (W1.alloc (.cells (qv (n+1)) 4))by go_grown).trans ((ei.cell (S:=λb=>b=T) rfl).below (by rw[ab];omega) λb e=>by rw[e,hT];exact af _)
 obtain⟨cap2,hcv2,xV,Mp⟩:=pP hS B5 W2;have Zm:=pt W2 xV Mp (ay _ _);obtain⟨W3,kl⟩:=dS (W2.drew.alloc (.cells ((S.map λc=>Value.int .i32 ((c:Nat):Int)).toArray++Array.replicate (cap2-S.length) (.int .i32 0)) 21));rw[<-kl]at hcv2 Zm;have gQ:Below W2.heap.size W2 W3:=by rw[kl];go_grown
 have ZA:(Instr.makeSlice 40 (.int .i64 ((n:Int)+1)) (.int .i64 ((n:Int)+1))).run prog W1=.ok (.slice (some ⟨T,0,none⟩) (n+1) (n+1)) (W1.alloc (.cells (qv (n+1)) 4)):=by rw[hT];exact Rm (n+1) (by omega) W1
 have hwL:=gW ((n:Int)+1) (by omega);have jo:Below w.heap.size w W3:=eu.trans ((eT.trans (gQ.mono eT.size)).mono eu.size);have hbo:oN W3 (.slice (some ⟨T,0,none⟩) (n+1) (n+1)) (true::List.replicate n false) T:=by
  have:=(ll.keep gQ).bools
  rwa [O1]at this
 have hC:=f31 w0 S s _ _ hs (by rw[<-hn];exact Mg) B5 _ gl (af _) hg Jq _ _ T _ W3 hv (hb.trans (jo.mono hb.size)) Zm (Dn.below (eT.trans (gQ.mono eT.size)) (af _)) hbo (by simp[hn]);have yD:=lq (S:=S) (s:=s) gl (true::List.replicate n false) (by simp[hn]);rw[<-hn]at hC;obtain⟨LS,hLS⟩:=dS S.length;rw[<-hLS]at hC hcv2;obtain⟨R,hR⟩:=dS (lp S gl s);rw[<-hR];have HC:=rr hC yD hR jo hn;have hwn:=gW (n:Int) (by omega);clear hC yD hR jo hbo Dn Zm nh ll eu eT gQ hv gZ kl j7 kb xV Mp hT hn hLS;go_enter func11,ntmps11;go_upto_region 4 with fail
 rw[<-lz];clear lz VZ hf0 ZA;go_wp2_with fail;refine HC.1.mono ?_;rintro e w4 ⟨vr,br,rfl,mZ,⟨o,c,rfl,sy,OP⟩,_⟩;rw[HC.2.1,<-HC.2.2.2.2];obtain⟨x,hx⟩:∃x,(km S s gl (true::List.replicate n false))[n]? =some x:=⟨_,ah (by rw[HC.2.1,<-HC.2.2.2.2];omega)⟩;have nH:=OP n x hx;have hxR:R=x:=by rw[HC.2.2.1,lp,<-HC.2.2.2.2,bI,hx];rfl
 have HX:=eo hxR mZ;clear hxR mZ hx OP;have i1:(n:Int)<(n:Int)+1:=by omega
 have i2:(0:Int)<=(n:Int):=by omega
 go_wp2_with fail;go_ret;exact⟨by rw[HX.1];rfl,HC.2.2.2.1.trans (HX.2.mono HC.2.2.2.1.size)⟩
theorem iR (h:w.ownsRow B e size v n xs) (hn:0<n):∃g c,v=.slice (some ⟨g,0,none⟩) n c/\n<=c/\c<=maxLen/\(∀j u,xs[j]? =some u->w.cell? ⟨g,j,none⟩=some u)/\∀j,w.frozen? ⟨g,j,none⟩=false:=by
 rcases h.2 with⟨rfl,e⟩|⟨g,cap,cur,rfl,hB,hg,h1,h2,lJ,tD⟩
 ·omega
 ·refine⟨g,cap,rfl,h1,h2,λj u hu=> ?_,λj=>by simp[World.frozen?,hg]⟩;rw[<-tD]at hu;have hj:j<n*size:=by
   rcases aV j (n*size)with h|h
   ·exact h
   ·rw[List.getElem?_take_eq_none h]at hu;cases hu
  rw[cS hj]at hu;simp only[World.cell?,hg];simpa using hu
theorem Ea {g c:Nat} (h:w.ownsRow B e size (.slice (some ⟨g,0,none⟩) n c) n xs) {m:Nat} (hm:m<=n):w.ownsRow B e size (.slice (some ⟨g,0,none⟩) m c) m (xs.take (m*size)):=by
 rcases h.2 with⟨e,_⟩|⟨g',cap,cur,e,hB,hg,h1,h2,lJ,tD⟩
 ·cases e
 ·simp only[au,ae,aY,and_true,true_and]at e;obtain⟨rfl,rfl⟩:=e;have hle:m*size<=n*size:=bB _ hm;refine⟨by rw[bn,h.1];omega,.inr ⟨g,c,cur,rfl,hB,hg,by omega,h2,lJ,?_⟩⟩;rw[<-tD,List.take_take,cD hle]
theorem Ev (h:w.ownsRow B 153 1 v us.length us):∃bl,oI w v us bl/\(∀x∈bl,B<=x/\x<w.heap.size)/\bl.Nodup:=by obtain⟨bl,h1,h2⟩:=tB h;refine⟨bl,h1,λx hx=>h.lt x ((h2 x).1 hx).1,?_⟩;rcases h1 with⟨_,e,_⟩|⟨b,o,cap,cs,_,e,_⟩<;>rw[e]<;>simp
section
variable {w wr:World} {B L tl:Nat} {txt rest:List dE} {q:List Tok} {vq:Value} {lr gI:Int} {hr:Bool} {st:List T} {ops:List (Bool×Nat)} {qE:Value} {us:List Value} {G:List Nat}
theorem uN (w:World) (g:Option Nat):w.grownBy w g:=⟨rfl,rfl,rfl,af _,λ_ _ _=>rfl⟩
theorem rU.fold {g9 n9 c9:Nat} (h:rU w wr B L txt rest tl q vq lr gI hr st ops (.slice (some ⟨g9,0,none⟩) n9 c9) qE us G) {i:Nat} (hi:i<us.length) {w4:World} (hb:Below wr.heap.size wr w4) {v':Value} (hc:w4.ownsRow wr.heap.size 153 1 v' (us.length-i) (us.drop i)) (alt:Bool):w4.cell? ⟨g9,i,none⟩=us[i]? /\w4.frozen? ⟨g9,i,none⟩=false/\∃G',rU w (w4.setCell ⟨g9,i,none⟩ (.iface (if alt then 265 else 263) v')) B L txt rest tl q vq lr gI hr (st.take i++[if alt then .alt (st.drop i)else .dH (st.drop i)]) ops (.slice (some ⟨g9,0,none⟩) (i+1) c9) qE (us.take i++[.iface (if alt then 265 else 263) v']) G':=by
 have h0:=h.grown hb;have hlen:=h.len;have hn9:n9=us.length:=by obtain⟨a,c,e,_,_⟩:=d' h.BD;simp only[au]at e;exact e.2.1
 subst hn9;obtain⟨cur,hB9,Sh,nj,mX,lJ,tD⟩:∃cur,B<=g9/\w4.heap[g9]? =some (.cells cur 153 (0,0))/\us.length<=c9/\c9<=maxLen/\cur.size=c9*1/\cur.toList.take (us.length*1)=us:=by
  rcases h0.BD.2 with⟨e,_⟩|⟨g',cap,cur,e,hB,hg,h1,h2,lJ,tD⟩
  ·cases e
  ·simp only[au,ae,aY,and_true,true_and]at e;obtain⟨rfl,rfl⟩:=e;exact⟨cur,hB,hg,h1,h2,lJ,tD⟩
 have hci:cur[i]? =us[i]? :=by rw[<-tD,cS (by omega)];simp
 have ll:=h0.tr;rw[<-bN i st]at ll;obtain⟨kB,lP,G1,G2,Jm,hG,h1,h2⟩:=eW.split _ _ us G ll;have jg:=eW.length _ _ _ h1;rw[bn,cD (by omega)]at jg;have Ez:kB=us.take i:=by rw[Jm,<-jg,cR]
 have hus2:lP=us.drop i:=by rw[Jm,<-jg,dn]
 obtain⟨bl,hisl,Sv,hbn⟩:=Ev (us:=us.drop i) (by rw[bT];exact hc);have jh:=h.all;have hgw:g9<wr.heap.size:=(jh g9 (by simp[jY])).2;have ni:∀b,b≠g9->(w4.setCell ⟨g9,i,none⟩ (.iface (if alt then 265 else 263) v')).heap[b]? =w4.heap[b]? :=λb eK=>aq _ _ _ _ eK;have lI:=h.nodup;rw[hG]at lI jh;simp only[dA,aZ,ar,not_or,jY,aE]at lI;obtain⟨⟨n1,n2,n3,n4,n4'⟩,n5,⟨n6,⟨n7,⟨n8,n8',n8x⟩,n9⟩,Rf⟩,Vf⟩:=lI;have ZK:∀x∈G1++G2,x≠g9:=λx hx e=>Rf g9 rfl x (.inr (ar.1 hx)) e.symm;have hltG:∀x∈G1++G2,x<wr.heap.size:=λx hx=>h.lt x (by rw[hG];exact hx);have hBs:B<=wr.heap.size:=by have:=h.lex.base;have:=h.lex.lt.1;omega
 have gE:∀b,b<B->(w4.setCell ⟨g9,i,none⟩ (.iface (if alt then 265 else 263) v')).heap[b]? =w4.heap[b]? :=λb uK=>ni b (by omega);have XT:∀x∈bl,x≠g9:=λx hx e=>by have:=(Sv x hx).1;omega
 refine⟨by simp[World.cell?,Sh,hci],by simp[World.frozen?,Sh],G1++(bl++G2),?_⟩;refine h.Xb (by rw[aK];exact hb.size) ⟨hb.os,hb.tape,hb.output⟩ (λb eu hn=> ?_) ?_ ?_ ?_ ?_
 ·exact(ni b (λe=>hn (by simp[jY,e]))).trans (hb.block b eu)
 ·have e:(us.take i++[Value.iface (if alt then 265 else 263) v']).length=i+1:=by rw[aj,bn];simp;omega
  rw[e];refine⟨by rw[e];omega,.inr ⟨g9,c9,cur.setIfInBounds i (.iface (if alt then 265 else 263) v'),rfl,hB9,dG Sh _,by omega,mX,by simpa using lJ,?_⟩⟩;rw[Array.toList_setIfInBounds,Nat.mul_one,<-tD,List.take_take,Nat.mul_one,cD (by omega)];have ka:i<cur.toList.length:=by rw[Array.length_toList,lJ];omega
  rw[List.take_succ_eq_append_getElem (by rw[List.length_set];exact ka),List.getElem_set_self];congr 1;rw[List.take_set_of_le (af _)]
 ·refine eW.append _ [_] _ [_] G1 (bl++G2) (eW.keep gE _ _ _ (Ez▸h1) λb eu=>ni b (ZK b (by simp[eu]))) (eW.one.2 ⟨_,rfl,?_⟩);have hk:eW (w4.setCell ⟨g9,i,none⟩ (.iface (if alt then 265 else 263) v')) B (st.drop i) (us.drop i) G2:=eW.keep gE _ _ _ (hus2▸h2) λb eu=>ni b (ZK b (by simp[eu]));have hi2:oI (w4.setCell ⟨g9,i,none⟩ (.iface (if alt then 265 else 263) v')) v' (us.drop i) bl:=hisl.keep λb eu=>ni b (XT b eu);cases alt with
  |true=>simp only[if_true,Tr];exact⟨v',_,bl,G2,rfl,rfl,hi2,hk⟩
  |false=>simp only[aM,if_false,Tr];exact⟨v',_,bl,G2,rfl,rfl,hi2,hk⟩
 ·rw[jY,aZ,aZ,aZ];refine⟨by simp,⟨n8,⟨hbn,n8',λa ha b eu e=> ?_⟩,λa ha b eu e=> ?_⟩,λa ha b eu e=> ?_⟩
  ·have:=(Sv a ha).1;have:=hltG b (by simp[eu]);omega
  ·rcases ar.1 eu with eu|eu
   ·have:=(Sv b eu).1;have:=hltG a (by simp[ha]);omega
   ·exact n8x a ha b eu e
  ·simp only[aE]at ha;subst ha;rcases ar.1 eu with eu|eu
   ·exact ZK b (by simp[eu]) e.symm
   ·rcases ar.1 eu with eu|eu
    ·exact XT b eu e.symm
    ·exact ZK b (by simp[eu]) e.symm
 ·intro x hx;rw[aK];simp only[ar,jY,aE]at hx;rcases hx with hx|hx|hx|hx
  ·exact .inl (by simp[jY,hx])
  ·exact .inl (by rw[hG];simp[hx])
  ·right;obtain⟨f1,f2⟩:=Sv x hx;refine⟨λe=> ?_,by omega,f2⟩;have:=(h.all x e).2;omega
  ·exact .inl (by rw[hG];simp[hx])
end
theorem fB:∀(a b:List T),fF (a++b)=fF a+fF b
 | [],b=>by simp[fF]
 |t::a,b=>by simp only[aJ,fF,fB a b];omega
theorem Cp {out:List T} {x:T} (h:out.getLast?=some x):fF out=fF out.dropLast+iJ x:=by
 have e:out=out.dropLast++[x]:=by obtain⟨eK,he⟩:=List.getLast?_eq_some_iff.1 h;rw[he];simp
 have h2:=congrArg fF e;rw[fB]at h2;simpa[fF]using h2
mutual
theorem Q1:∀(t:T) (out:List T),fF (push t out)<=fF out+iJ t
 |.dH l,out=>by simp only[push,iJ];have:=wI l out;omega
 |.void,out=>by simp[push]
 |.text t,out=>by
  simp only[push];split
  ·rename_i p h;rw[fB,Cp h];simp[fF,iJ];omega
  ·rw[fB];simp[fF]
 |.star sep nx tm,out=>by
  simp only[push];split
  ·rename_i s1 n1 t1 h;split
   ·rw[fB,Cp h];simp[fF,iJ]
   ·omega
  ·rw[fB];simp[fF]
 |.char _,out=>by simp only[push,fB];simp[fF]
 |.range _ _ _,out=>by simp only[push,fB];simp[fF]
 |.set _ _,out=>by simp only[push,fB];simp[fF]
 |.pre _ _,out=>by simp only[push,fB];simp[fF]
 |.eP _ _,out=>by simp only[push,fB];simp[fF]
 |.dN _ _ _,out=>by simp only[push,fB];simp[fF]
 |.cont _,out=>by simp only[push,fB];simp[fF]
 |.alt _,out=>by simp only[push,fB];simp[fF]
 |.eh _,out=>by simp only[push,fB];simp[fF]
theorem wI:∀(l:List T) (out:List T),fF (fv l out)<=fF out+fF l
 | [],out=>by simp[fv]
 |t::l,out=>by simp only[fv,fF];have h1:=Q1 t out;have h2:=wI l (push t out);omega
end
theorem Ve (l:List T):fF (norm l)<=fF l/\eD (norm l)<=eD l:=by
 unfold norm;split
 ·have h1:=wI l [];have h2:=wJ l [];simp only[fF,eD]at h1 h2;omega
 ·omega
theorem F8 (l:List T):iJ (oneOf .dH l)<=fF l+1/\iJ (oneOf .alt l)<=fF l+1/\ix (oneOf .dH l)<=eD l/\ix (oneOf .alt l)<=eD l:=by
 match l with
 | []=>simp[oneOf,iJ,ix,fF]
 | [t]=>simp[oneOf,fF,eD]
 |t::u::l=>simp[oneOf,iJ,ix]
mutual
theorem Li:∀(t:T),iJ (simp t)<=iJ t/\ix (simp t)<=ix t
 |.dH l=>by simp only[simp,iJ,ix];have h1:=rf l;have h2:=Ve (fh l);have h3:=F8 (norm (fh l));omega
 |.alt l=>by simp only[simp,iJ,ix];have h1:=rf l;have h3:=F8 (fh l);omega
 |.eh _|.star _ _ _|.text _|.char _|.range _ _ _|.set _ _|.void|.pre _ _|.eP _ _|.dN _ _ _|.cont _=>by simp[simp]
theorem rf:∀(l:List T),fF (fh l)<=fF l/\eD (fh l)<=eD l
 | []=>by simp[fh]
 |t::ts=>by simp only[fh,fF,eD];have h1:=Li t;have h2:=rf ts;omega
end
theorem UO (t:T):1<=iJ t:=by cases t<;>simp[iJ]
theorem Au:∀(l:List T),l.length<=fF l
 | []=>by simp
 |t::ts=>by simp only[aH,fF];have:=UO t;have:=Au ts;omega
theorem zR:∀(l:List T) (j:Nat) (t:T),l[j]? =some t->(fh l)[j]? =some (simp t)
 | [],j,t,h=>by simp at h
 |a::l,0,t,h=>by simp only[aN,ae]at h;subst h;simp[fh]
 |a::l,j+1,t,h=>by simp only[fh,bH];exact zR l j t (by simpa using h)
structure vg (w w':World) (B:Nat) (F:List Nat) (L':List T) (BC:Value) (fV:List Value) (tP G':List Nat):Prop where
 row:oI w' BC fV tP
 tr:eW w' B L' fV G'
 nodup:(tP++G').Nodup
 own:∀x∈tP++G',x∈F\/w.heap.size<=x
 lt:∀x∈tP++G',x<w'.heap.size
 fo:ei (·∈F) w w'
theorem fy.rowR {G0:List Nat} (h:fy w wr B sv bl G0 L [] us G):vg w wr B (bl++G0) L sv us bl G:=⟨h.done.1,h.done.2,h.nodup,h.Vc,h.lt,h.fo.mono λ_ _ hb=>ar.2 hb⟩
theorem vg.step (h:vg w wr B F L sv us bl G) (k:TN wr w' B bl G L' BC fV tP G'):vg w w' B F L' BC fV tP G':=by
 refine⟨k.row,k.tr,k.nodup,λx hx=> ?_,k.lt,h.fo.trans k.fo (λ_ _ h=>h) λ_ _ e=>e.elim⟩;rcases k.own x hx with h1|h1
 ·exact h.own x h1
 ·exact .inr (ao h.fo.size h1)
theorem vg.dH (h:vg w w' B F L' BC fV tP G'):Rw w w' B F (.dH L') (.iface 263 BC) (tP++G'):=by refine⟨?_,h.nodup,h.own,h.lt,h.fo⟩;simp only[Tr];exact⟨BC,fV,tP,G',rfl,rfl,h.row,h.tr⟩
theorem vg.alt (h:vg w w' B F L' BC fV tP G'):Rw w w' B F (.alt L') (.iface 265 BC) (tP++G'):=by refine⟨?_,h.nodup,h.own,h.lt,h.fo⟩;simp only[Tr];exact⟨BC,fV,tP,G',rfl,rfl,h.row,h.tr⟩
theorem vg.one {t:T} (h:vg w w' B F [t] BC fV tP G'):∃b o c s p,BC=.slice (some ⟨b,o,none⟩) 1 c/\w'.cell? ⟨b,o,none⟩=some (.iface s p)/\Rw w w' B F t (.iface s p) G':=by obtain⟨u,rfl,ll⟩:=eW.one.1 h.tr;obtain⟨b,o,c,rfl,_,hc⟩:=h.row.cell (i:=0) (u:=u) rfl;obtain⟨s,p,rfl⟩:=ll.iface;exact⟨b,o,c,s,p,rfl,hc,ll,(aZ.1 h.nodup).2.1,λx hx=>h.own x (by simp[hx]),λx hx=>h.lt x (by simp[hx]),h.fo⟩
theorem vg.void {w2:World} (h:vg w w' B F L' BC fV tP G') (hb:Below w'.heap.size w' w2) (x:Value):Rw w w2 B F .void (.iface 260 x) []:=by refine⟨?_,by simp,by simp,by simp,h.fo.trans (ei.grown (S:=λ_=>False) hb) (λ_ _ h=>h) λ_ _ e=>e.elim⟩;simp[Tr]
theorem vg.len (h:vg w w' B F L' BC fV tP G'):∃a c,BC=.slice a L'.length c:=by obtain⟨a,c,e⟩:=h.row.len;exact⟨a,c,by rw[e,eW.length _ _ _ h.tr]⟩
def jm (t:T):Prop:=∀(w:World) (B:Nat) (v:Value) (F:List Nat),jP w B t v F->iJ t<=1000000000->ix t<=4000000000000000000->Calls prog 115 #[v] w λe w'=>∃v' F',e=.returned v'/\Rw w w' B F (simp t) v' F'
theorem PM (t:List dE):jm (.text t):=by intro w B v F hr hw ht;have h:=hr.tr;have HR:=aa hr;clear hr hw ht;simp only[Tr]at h;obtain⟨b,rfl,dU⟩:=h;clear dU;have eH:=jX (.pointer (some ⟨b,0,none⟩));have fu:=pe (.pointer (some ⟨b,0,none⟩));go_enter func115,ntmps115;go_wp2_with fail;go_ret;exact⟨_,F,rfl,by simp only[simp];exact HR.rw⟩
theorem PR (sep:List dE):jm (.char sep):=by intro w B v F hr hw ht;have h:=hr.tr;have HR:=aa hr;clear hr hw ht;simp only[Tr]at h;obtain⟨b,vs,rfl,dU⟩:=h;clear dU;have eH:=kP (.pointer (some ⟨b,0,none⟩));have fu:=nB (.pointer (some ⟨b,0,none⟩));go_enter func115,ntmps115;go_wp2_with fail;go_ret;exact⟨_,F,rfl,by simp only[simp];exact HR.rw⟩
theorem PO (sep nx:List dE) (tm:Bool):jm (.star sep nx tm):=by intro w B v F hr hw ht;have h:=hr.tr;have HR:=aa hr;clear hr hw ht;simp only[Tr]at h;obtain⟨b,vs,rfl,dU⟩:=h;clear dU;have eH:=iP (.pointer (some ⟨b,0,none⟩));have fu:=l7 (.pointer (some ⟨b,0,none⟩));go_enter func115,ntmps115;go_wp2_with fail;go_ret;exact⟨_,F,rfl,by simp only[simp];exact HR.rw⟩
theorem KG (lo hi:Int) (neg:Bool):jm (.range lo hi neg):=by intro w B v F hr hw ht;have h:=hr.tr;have HR:=aa hr;clear hr hw ht;simp only[Tr]at h;obtain⟨b,rfl,dU⟩:=h;clear dU;have eH:=kL (.pointer (some ⟨b,0,none⟩));have fu:=nz (.pointer (some ⟨b,0,none⟩));go_enter func115,ntmps115;go_wp2_with fail;go_ret;exact⟨_,F,rfl,by simp only[simp];exact HR.rw⟩
theorem Tu (cs:List dE) (neg:Bool):jm (.set cs neg):=by intro w B v F hr hw ht;have h:=hr.tr;have HR:=aa hr;clear hr hw ht;simp only[Tr]at h;obtain⟨b,mb,rfl,dU⟩:=h;clear dU;have eH:=kJ (.pointer (some ⟨b,0,none⟩));have fu:=ny (.pointer (some ⟨b,0,none⟩));go_enter func115,ntmps115;go_wp2_with fail;go_ret;exact⟨_,F,rfl,by simp only[simp];exact HR.rw⟩
theorem PK:jm (.void):=by intro w B v F hr hw ht;have h:=hr.tr;have HR:=aa hr;clear hr hw ht;simp only[Tr]at h;obtain⟨u,rfl,dU⟩:=h;clear dU;have eH:=jW u;have fu:=l5 u;go_enter func115,ntmps115;go_wp2_with fail;go_ret;exact⟨_,F,rfl,by simp only[simp];exact HR.rw⟩
theorem Tv (t sep:List dE):jm (.pre t sep):=by intro w B v F hr hw ht;have h:=hr.tr;have HR:=aa hr;clear hr hw ht;simp only[Tr]at h;obtain⟨b,rfl,dU⟩:=h;clear dU;have eH:=kG (.pointer (some ⟨b,0,none⟩));have fu:=nv (.pointer (some ⟨b,0,none⟩));go_enter func115,ntmps115;go_wp2_with fail;go_ret;exact⟨_,F,rfl,by simp only[simp];exact HR.rw⟩
theorem Tt (t sep:List dE):jm (.eP t sep):=by intro w B v F hr hw ht;have h:=hr.tr;have HR:=aa hr;clear hr hw ht;simp only[Tr]at h;obtain⟨b,rfl,dU⟩:=h;clear dU;have eH:=lU (.pointer (some ⟨b,0,none⟩));have fu:=o8 (.pointer (some ⟨b,0,none⟩));go_enter func115,ntmps115;go_wp2_with fail;go_ret;exact⟨_,F,rfl,by simp only[simp];exact HR.rw⟩
theorem IE (p q sep:List dE):jm (.dN p q sep):=by intro w B v F hr hw ht;have h:=hr.tr;have HR:=aa hr;clear hr hw ht;simp only[Tr]at h;obtain⟨b,rfl,dU⟩:=h;clear dU;have eH:=lR (.pointer (some ⟨b,0,none⟩));have fu:=o7 (.pointer (some ⟨b,0,none⟩));go_enter func115,ntmps115;go_wp2_with fail;go_ret;exact⟨_,F,rfl,by simp only[simp];exact HR.rw⟩
theorem PQ (t:List dE):jm (.cont t):=by intro w B v F hr hw ht;have h:=hr.tr;have HR:=aa hr;clear hr hw ht;simp only[Tr]at h;obtain⟨b,rfl,dU⟩:=h;clear dU;have eH:=kC (.pointer (some ⟨b,0,none⟩));have fu:=nt (.pointer (some ⟨b,0,none⟩));go_enter func115,ntmps115;go_wp2_with fail;go_ret;exact⟨_,F,rfl,by simp only[simp];exact HR.rw⟩
theorem PN (l:List T):jm (.eh l):=by intro w B v F hr hw ht;have h:=hr.tr;have HR:=aa hr;clear hr hw ht;simp only[Tr]at h;obtain⟨sv,us,bl,G,rfl,dU⟩:=h;clear dU;have eH:=jU sv;have fu:=o9 sv;go_enter func115,ntmps115;go_wp2_with fail;go_ret;exact⟨_,F,rfl,by simp only[simp];exact HR.rw⟩
theorem KH (l:List T) (hM:∀t∈l,jm t):jm (.dH l):=by
 intro w B v F hr hw ht;simp only[iJ]at hw;simp only[ix]at ht;have h:=hr.tr;simp only[Tr]at h;obtain⟨sv,us,bl,G,rfl,hF,h1,h2⟩:=h;subst hF;obtain⟨a,c,rfl⟩:=h1.len;have ic:=eW.length l us G h2;rw[ic]at h1⊢;obtain⟨n,hn⟩:=dS l.length;have ZC:=Au l;have XF:n<=1000000000:=by omega
 rw[<-hn]at h1⊢;have sq:n<=9223372036854775807:=by omega
 have HM:Hid (∀t∈l,jm t/\iJ t<=1000000000/\ix t<=4000000000000000000):=aa λt h=>⟨hM t h,by have:=nK l t h;omega,by have:=jH l t h;omega⟩;have tR:Hid (fF (fh l)<=1000000000/\eD (fh l)<=4000000000000000000):=aa (by have:=rf l;omega);have HN:=aa hn;have HB:=aa hr.base;have HGE:=aa hr.ge;have H0:=aa (show fy w w B (.slice a n c) bl G ((fh l).take 0) (l.drop 0) us G from fy.oQ h1 h2 hr.nodup hr.lt hr.ge);have eH:=ij (.slice a n c);have fu:=rY (.slice a n c);clear hn ic hM hr h1 h2 hw ht ZC;go_enter func115,ntmps115;go_wp2_with fail;go_loopg [22] n (λk s22 wr=>∃(j:Nat) (us:List Value) (G2:List Nat),k=n-j/\s22=.int .i64 j/\j<=n/\Hid (fy w wr B (.slice a n c) bl G ((fh l).take j) (l.drop j) us G2))
 case atStart=>exact⟨0,us,G,rfl,rfl,aU _,H0⟩
 case round=>
  obtain⟨j,lP,G1,rfl,rfl,hj,HJ⟩:=hrel;have tU:Hid ((fh l).length=l.length):=aa (je l);by_cases gM:j<n
  ·have kY:=gW ((j:Int)+1) (by omega);have jA:decide ((j:Int)<(n:Int))=true:=by simp;omega
   obtain⟨b,o,t,t',u,F1,tI,ht,mS,kS,eB,Ke,fw⟩:=HJ.at HB.out tU.out (by rw[<-HN.out];exact gM);have hv:t'=simp t:=by have:=zR l j t ht;rw[this,ae]at mS;exact mS.symm
   subst tI;subst hv;have i1:(0:Int)<=(j:Int):=(by omega);have i2:(j:Int)<(n:Int):=by omega
   have HS:=aa fw;obtain⟨m1,m2,m3⟩:=HM.out t (bm ht);have HC:=aa (m1 wr B u F1 kS m2 m3);clear ht mS kS fw m1 m2 m3;go_wp2_with fail;refine HC.mono ?_;rintro e w1 ⟨v',F',rfl,iE⟩;obtain⟨sI,pI,rfl⟩:=iE.tr.iface;obtain⟨pU,zl,fV,G2,jn⟩:=HS.out w1 _ F' iE;have HI:=aa jn;clear iE jn;go_wp2_with fail;go_roundg (n- (j+1))
   case measure=>omega
   case rel=>exact⟨j+1,fV,G2,rfl,rfl,by omega,HI⟩
  ·have jA:decide ((j:Int)<(n:Int))=false:=(by simp;omega);have jn:=HJ.Cd tU.out (by rw[<-HN.out];omega);have HE:=aa jn.rowR;have HC:=aa (f155 B (fh l) a n c lP bl G1 wr jn.done.1 jn.done.2 jn.nodup jn.lt jn.ge (ao HB.out jn.fo.size) tR.1 tR.2 XF);clear jn;go_wp2_with fail;refine HC.mono ?_;rintro e w1 ⟨a',n',c',fV,tP,G',rfl,Fs⟩;have zn:=HE.step Fs;obtain⟨_,_,pS⟩:=zn.len;simp only[au]at pS;have yA:=pS.2.1;clear pS Fs;obtain⟨L',XX⟩:=dS (norm (fh l));rw[<-XX]at zn yA;have HL:=aa XX;clear XX;cases L' with
   |nil=>
    have hz:n'=0:=yA;have e0:((n':Int)==0)=true:=by rw[hz];rfl
    have HR:=aa zn;clear zn yA hz;go_wp2_with fail;go_ret;exact⟨_,[],rfl,by simp only[simp,<-HL.out,oneOf];exact HR.void (by go_grown) _⟩
   |cons t L2=>
    cases L2 with
    |nil=>
     have hz:n'=1:=yA;have e0:((n':Int)==0)=false:=by rw[hz];rfl
     have e1:((n':Int)==1)=true:=(by rw[hz];rfl);have i1:(0:Int)<(n':Int):=by omega
     obtain⟨b,o,c1,s,p,pS,eB,iE⟩:=zn.one;simp only[au]at pS;obtain⟨rfl,hx,rfl⟩:=pS;have HR:=aa iE;clear zn yA hz iE hx;go_wp2_with fail;go_ret;exact⟨_,_,rfl,by simp only[simp,<-HL.out,oneOf];exact HR.out⟩
    |cons t2 L3=>
     have e0:((n':Int)==0)=false:=(by rw[beq_eq_false_iff_ne];simp at yA;omega);have e1:((n':Int)==1)=false:=by rw[beq_eq_false_iff_ne];simp at yA;omega
     have HR:=aa zn;clear zn yA;go_wp2_with fail;go_ret;exact⟨_,_,rfl,by simp only[simp,<-HL.out,oneOf];exact HR.dH⟩
theorem Tw (l:List T) (hM:∀t∈l,jm t):jm (.alt l):=by
 intro w B v F hr hw ht;simp only[iJ]at hw;simp only[ix]at ht;have h:=hr.tr;simp only[Tr]at h;obtain⟨sv,us,bl,G,rfl,hF,h1,h2⟩:=h;subst hF;obtain⟨a,c,rfl⟩:=h1.len;have ic:=eW.length l us G h2;rw[ic]at h1⊢;obtain⟨n,hn⟩:=dS l.length;have ZC:=Au l;have XF:n<=1000000000:=by omega
 rw[<-hn]at h1⊢;have sq:n<=9223372036854775807:=by omega
 have HM:Hid (∀t∈l,jm t/\iJ t<=1000000000/\ix t<=4000000000000000000):=aa λt h=>⟨hM t h,by have:=nK l t h;omega,by have:=jH l t h;omega⟩;have tR:Hid (fF (fh l)<=1000000000/\eD (fh l)<=4000000000000000000):=aa (by have:=rf l;omega);have HN:=aa hn;have HB:=aa hr.base;have HGE:=aa hr.ge;have H0:=aa (show fy w w B (.slice a n c) bl G ((fh l).take 0) (l.drop 0) us G from fy.oQ h1 h2 hr.nodup hr.lt hr.ge);have eH:=kN (.slice a n c);have fu:=jV (.slice a n c);clear hn ic hM hr h1 h2 hw ht ZC;go_enter func115,ntmps115;go_wp2_with fail;go_loopg [22] n (λk s22 wr=>∃(j:Nat) (us:List Value) (G2:List Nat),k=n-j/\s22=.int .i64 j/\j<=n/\Hid (fy w wr B (.slice a n c) bl G ((fh l).take j) (l.drop j) us G2))
 case atStart=>exact⟨0,us,G,rfl,rfl,aU _,H0⟩
 case round=>
  obtain⟨j,lP,G1,rfl,rfl,hj,HJ⟩:=hrel;have tU:Hid ((fh l).length=l.length):=aa (je l);by_cases gM:j<n
  ·have kY:=gW ((j:Int)+1) (by omega);have jA:decide ((j:Int)<(n:Int))=true:=by simp;omega
   obtain⟨b,o,t,t',u,F1,tI,ht,mS,kS,eB,Ke,fw⟩:=HJ.at HB.out tU.out (by rw[<-HN.out];exact gM);have hv:t'=simp t:=by have:=zR l j t ht;rw[this,ae]at mS;exact mS.symm
   subst tI;subst hv;have i1:(0:Int)<=(j:Int):=(by omega);have i2:(j:Int)<(n:Int):=by omega
   have HS:=aa fw;obtain⟨m1,m2,m3⟩:=HM.out t (bm ht);have HC:=aa (m1 wr B u F1 kS m2 m3);clear ht mS kS fw m1 m2 m3;go_wp2_with fail;refine HC.mono ?_;rintro e w1 ⟨v',F',rfl,iE⟩;obtain⟨sI,pI,rfl⟩:=iE.tr.iface;obtain⟨pU,zl,fV,G2,jn⟩:=HS.out w1 _ F' iE;have HI:=aa jn;clear iE jn;go_wp2_with fail;go_roundg (n- (j+1))
   case measure=>omega
   case rel=>exact⟨j+1,fV,G2,rfl,rfl,by omega,HI⟩
  ·have jA:decide ((j:Int)<(n:Int))=false:=(by simp;omega);have jn:=HJ.Cd tU.out (by rw[<-HN.out];omega);obtain⟨L',XX⟩:=dS (fh l);have zn:=jn.rowR;rw[<-XX]at zn;have yA:n=L'.length:=by rw[XX,je];exact HN.out
   have HL:=aa XX;obtain⟨n',qJ⟩:=dS n;clear XX jn qJ n';cases L' with
   |nil=>
    have hz:n=0:=yA;have e0:((n:Int)==0)=true:=by rw[hz];rfl
    have HR:=aa zn;clear zn yA hz;go_wp2_with fail;go_ret;exact⟨_,[],rfl,by simp only[simp,<-HL.out,oneOf];exact HR.void (by go_grown) _⟩
   |cons t L2=>
    cases L2 with
    |nil=>
     have hz:n=1:=yA;have e0:((n:Int)==0)=false:=by rw[hz];rfl
     have e1:((n:Int)==1)=true:=(by rw[hz];rfl);have i1:(0:Int)<(n:Int):=by omega
     obtain⟨b,o,c1,s,p,pS,eB,iE⟩:=zn.one;simp only[au]at pS;obtain⟨rfl,hx,rfl⟩:=pS;have HR:=aa iE;clear zn yA hz iE hx;go_wp2_with fail;go_ret;exact⟨_,_,rfl,by simp only[simp,<-HL.out,oneOf];exact HR.out⟩
    |cons t2 L3=>
     have e0:((n:Int)==0)=false:=(by rw[beq_eq_false_iff_ne];simp at yA;omega);have e1:((n:Int)==1)=false:=by rw[beq_eq_false_iff_ne];simp at yA;omega
     have HR:=aa zn;clear zn yA;go_wp2_with fail;go_ret;exact⟨_,_,rfl,by simp only[simp,<-HL.out,oneOf];exact HR.alt⟩
mutual
theorem Lj:∀(t:T),jm t
 |.text t=>PM t
 |.char sep=>PR sep
 |.star sep nx tm=>PO sep nx tm
 |.range lo hi neg=>KG lo hi neg
 |.set cs neg=>Tu cs neg
 |.void=>PK
 |.pre t sep=>Tv t sep
 |.eP t sep=>Tt t sep
 |.dN p q sep=>IE p q sep
 |.cont t=>PQ t
 |.dH l=>KH l (zQ l)
 |.alt l=>Tw l (zQ l)
 |.eh l=>PN l
theorem zQ:∀(l:List T),∀t∈l,jm t
 | [],t,h=>by simp at h
 |u::l,t,h=>by
  rcases az.1 h with e|h
  ·rw[e];exact Lj u
  ·exact zQ l t h
end
end Go.Proofs.YtfejflhgaphilaaGreatDoor
