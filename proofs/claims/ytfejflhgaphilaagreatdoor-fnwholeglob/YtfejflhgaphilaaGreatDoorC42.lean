/- The parser's loop. -/
import Derived.Test.YtfejflhgaphilaaGreatDoorC39
import Derived.Test.YtfejflhgaphilaaGreatDoorC41
import Derived.Test.YtfejflhgaphilaaGreatDoorC22
import Derived.Test.YtfejflhgaphilaaGreatDoorC24
import Derived.WalkMore
import Derived.Test.YtfejflhgaphilaaGreatDoorC25
import Derived.Test.YtfejflhgaphilaaGreatDoorC12
set_option linter.all false
set_option maxRecDepth 100000
set_option maxHeartbeats 64000000
open Go.Proofs.Tryz
namespace Go.Proofs.YtfejflhgaphilaaGreatDoor
open Go.RowKit Gm
variable {tl B tl' L:Nat} {st st' out:List T} {ops ops':List (Bool×Nat)} {w wr w':World} {ts:List Tok} {t:Tok} {vq o5 qE v':Value} {lr gI:Int} {hr:Bool} {us:List Value} {G F F':List Nat} {t':T}
theorem Ob {rest:List dE} {R:List dE} (h:gy tl rest=some (ts,R,tl')):tl'<=tl+1:=by
 cases rest with
 |nil=>simp only[gy,ae,aQ]at h;omega
 |cons c r=>
  simp only[gy]at h;split at h
  ·simp only[ae,aQ]at h;omega
  split at h
  ·simp only[ae,aQ]at h;omega
  split at h
  ·simp only[ae,aQ]at h;omega
  split at h
  ·simp only[aX,aQ]at h;obtain⟨_,_,_,_,h⟩:=h;omega
  split at h
  ·simp only[ae,aQ]at h;omega
  split at h
  ·split at h<;>simp only[ae,aQ]at h<;>omega
  ·simp only[aX,aQ]at h;obtain⟨_,_,_,_,h⟩:=h;omega
theorem Vb {S:List dE} (h:oB S t ts st ops=some (st',ops')):st'.length<=st.length+1/\ops'.length<=ops.length+2:=by
 unfold oB at h;split at h
 ·simp only[ae,aQ]at h;obtain⟨rfl,rfl⟩:=h;simp
 ·simp only[ae,aQ]at h;obtain⟨rfl,rfl⟩:=h;simp
 ·simp only[ae,aQ]at h;obtain⟨rfl,rfl⟩:=h;simp
 ·simp only[ae,aQ]at h;obtain⟨rfl,rfl⟩:=h;simp
 ·simp only[aX,aQ]at h;obtain⟨_,_,rfl,rfl⟩:=h;simp
 ·simp only[ae,aQ]at h;obtain⟨rfl,rfl⟩:=h;simp
 ·split at h
  ·simp only[ae,aQ]at h;obtain⟨rfl,rfl⟩:=h;simp;omega
  ·cases h
 ·split at h
  ·simp only[ae,aQ]at h;obtain⟨rfl,rfl⟩:=h;simp;omega
  ·cases h
 ·cases h
theorem p7 (brk:List dE):∀(r:List dE) (BJ:Bool) (D R:List dE),eZ brk BJ r=some (D,R)->D.length<=r.length
 | [],BJ,D,R,h=>by cases BJ<;>simp[eZ]at h;simp[h.1]
 |c::r,true,D,R,h=>by simp only[eZ,aX,aQ]at h;obtain⟨⟨D1,R1⟩,h1,rfl,rfl⟩:=h;have:=p7 brk r false D1 R1 h1;simp;exact this
 |c::r,false,D,R,h=>by
  simp only[eZ]at h;split at h
  ·have:=p7 brk r true D R h;simp;omega
  split at h
  ·simp only[ae,aQ]at h;rw[<-h.1];simp
  ·simp only[aX,aQ]at h;obtain⟨⟨D1,R1⟩,h1,rfl,rfl⟩:=h;have:=p7 brk r false D1 R1 h1;simp;exact this
theorem oA (brk:List dE):∀(r:List dE) (BJ:Bool) (D R:List dE),eZ brk BJ r=some (D,R)->dV r->R.length<=r.length/\dV R
 | [],BJ,D,R,h,_=>by cases BJ<;>simp[eZ]at h;simp[h.2,dV]
 |c::r,true,D,R,h,ez=>by simp only[eZ,aX,aQ]at h;obtain⟨⟨D1,R1⟩,h1,rfl,rfl⟩:=h;have:=oA brk r false D1 R1 h1 (gf ez);exact⟨by simp;omega,this.2⟩
 |c::r,false,D,R,h,ez=>by
  simp only[eZ]at h;split at h
  ·have:=oA brk r true D R h (gf ez);exact⟨by simp;omega,this.2⟩
  split at h
  ·simp only[ae,aQ]at h;rw[<-h.2];exact⟨by simp,ez⟩
  ·simp only[aX,aQ]at h;obtain⟨⟨D1,R1⟩,h1,rfl,rfl⟩:=h;have:=oA brk r false D1 R1 h1 (gf ez);exact⟨by simp;omega,this.2⟩
theorem rl {c:Nat} (h:mz c):dV [c]:=λd hd=>by simp only[aE]at hd;subst hd;exact h
theorem nV:∀(n:Nat) (wh wc sn:Bool) (r:List dE) (ts:List Tok) (R:List dE),fi n wh wc sn r=some (ts,R)->dV r->∀t∈ts,dV t.str/\t.str.length<=r.length
 |0,_,_,_,_,_,_,h,_=>by simp[fi]at h
 |n+1,wh,wc,sn,[],ts,R,h,_=>by simp[fi]at h
 |n+1,wh,wc,sn,c::r,ts,R,h,ez=>by
  simp only[fi]at h;split at h
  ·split at h
   ·simp only[ae,aQ]at h;obtain⟨rfl,rfl⟩:=h;intro t ht;simp only[aE]at ht;subst ht;exact⟨rl (by unfold mz;omega),by simp[Tok.str]⟩
   ·cases h
  split at h
  ·simp only[aX,aQ]at h;obtain⟨⟨t1,R1⟩,h1,rfl,rfl⟩:=h;intro t ht;rcases az.1 ht with rfl|ht
   ·exact⟨rl (ez c (by simp)),by simp[Tok.str]⟩
   ·have:=nV n _ _ _ r t1 R1 h1 (gf ez) t ht;exact⟨this.1,by simp;omega⟩
  split at h
  ·simp only[aX,aQ]at h;obtain⟨⟨t1,R1⟩,h1,rfl,rfl⟩:=h;intro t ht;rcases az.1 ht with rfl|ht
   ·exact⟨rl (by unfold mz;omega),by simp[Tok.str]⟩
   ·have:=nV n _ _ _ r t1 R1 h1 (gf ez) t ht;exact⟨this.1,by simp;omega⟩
  split at h
  ·simp only[aX,aQ]at h;obtain⟨⟨t1,R1⟩,h1,rfl,rfl⟩:=h;intro t ht;rcases az.1 ht with rfl|ht
   ·exact⟨rl (ez c (by simp)),by simp[Tok.str]⟩
   rcases az.1 ht with rfl|ht
   ·exact⟨rl (by unfold mz;omega),by simp[Tok.str]⟩
   ·have:=nV n _ _ _ r.tail t1 R1 h1 (eM (gf ez) (List.tail_suffix r)) t ht;exact⟨this.1,by simp at this⊢;omega⟩
  ·split at h
   ·cases h
   ·rename_i D R2 hD;split at h
    ·cases h
    ·simp only[aX,aQ]at h;obtain⟨⟨t1,R1⟩,h1,rfl,rfl⟩:=h;have hDl:=p7 _ _ _ _ _ hD;have hDo:=nD _ _ _ _ _ hD ez;have zn:R2.length<=(c::r).length/\dV R2:=oA _ _ _ _ _ hD ez;intro t ht;rcases az.1 ht with rfl|ht
     ·exact⟨hDo,hDl⟩
     ·have:=nV n _ _ _ R2 t1 R1 h1 zn.2 t ht;exact⟨this.1,by omega⟩
theorem Oc {tl:Nat} {rest:List dE} {t:Tok} {ts:List Tok} {R:List dE} {tl':Nat} (h:gy tl rest=some (.py::ts,R,tl')) (ez:dV rest):∀t∈ts,dV t.str/\t.str.length<=rest.length:=by
 cases rest with
 |nil=>simp[gy]at h
 |cons c r=>
  simp only[gy]at h;split at h
  ·simp at h
  split at h
  ·simp at h
  split at h
  ·simp at h
  split at h
  ·simp only[aX,aQ,bq,true_and]at h;obtain⟨⟨t1,R1⟩,h1,rfl,_,_⟩:=h;intro t ht;have:=nV _ _ _ _ r t1 R1 h1 (gf ez) t ht;exact⟨this.1,by simp;omega⟩
  split at h
  ·simp at h
  split at h
  ·split at h<;>simp at h
  ·simp only[aX,aQ]at h;obtain⟨⟨D,R1⟩,h1,h2,_⟩:=h;split at h2<;>simp at h2
theorem E6.inv {S rest:List dE} (h:E6 S rest tl st ops out):(rest=[]/\ops=[]/\st=out)\/∃t ts R tl' st' ops',gy tl rest=some (t::ts,R,tl')/\R.length<rest.length/\oB S t ts st ops=some (st',ops')/\E6 S R tl' st' ops' out:=by
 cases h with
 |eof=>exact .inl ⟨rfl,rfl,rfl⟩
 |step h he hR hp hr=>exact .inr ⟨_,_,_,_,_,_,h,hR,hp,hr⟩
structure PIn (w wr:World) (B L:Nat) (S txt rest:List dE) (tl:Nat) (vq:Value) (lr gI:Int) (hr:Bool) (st:List T) (ops:List (Bool×Nat)) (o5 qE:Value) (us:List Value) (G:List Nat) (out:List T):Prop where
 at':rU w wr B L txt rest tl [] vq lr gI hr st ops o5 qE us G
 run:E6 S rest tl st ops out
 stl:st.length+rest.length<=txt.length
 opl:ops.length+2*rest.length<=2*txt.length
 tll:tl+rest.length<=txt.length
theorem PIn.next {w1:World} {S txt rest R:List dE} {xF:Value} {lr1 YQ:Int} {yz:Bool} {vst1 vop1:Value} {kB:List Value} {G1:List Nat} (h:PIn w wr B L S txt rest tl vq lr gI hr st ops o5 qE us G out) (hi:gy tl rest=some (t::ts,R,tl')) (hR:R.length<rest.length) (hp:oB S t ts st ops=some (st',ops')) (hr':E6 S R tl' st' ops' out) (k:rU w w1 B L txt R tl' [] xF lr1 YQ yz st' ops' vst1 vop1 kB G1):PIn w w1 B L S txt R tl' xF lr1 YQ yz st' ops' vst1 vop1 kB G1 out:=by have h1:=Ob hi;have h2:=Vb hp;have h3:=h.stl;have h4:=h.opl;have h5:=h.tll;exact⟨k,hr',by omega,by omega,by omega⟩
theorem rU.ready {txt rest:List dE} {q:List Tok} (h:rU w wr B L txt rest tl q vq lr gI hr st ops o5 qE us G):∃F,jP wr B (.dH st) (.iface 263 o5) F:=by
 obtain⟨bl,b1,b2⟩:=tB h.BD;have lI:=h.nodup;have jh:=h.all;simp only[dA,aZ,ar,not_or]at lI;obtain⟨⟨n1,n2,n3,n4⟩,n5,⟨n6,⟨n7,n8,n9⟩,Rf⟩,Vf⟩:=lI;refine⟨bl++G,?_,?_,λx hx=> ?_,λx hx=> ?_,?_⟩
 ·simp only[Tr];exact⟨o5,us,bl,G,rfl,rfl,b1,h.tr⟩
 ·rw[aZ];refine⟨?_,n8,λx hx y hy e=>Rf x (f'.2 ((b2 x).1 hx).1) y (.inr hy) e⟩;rcases b1 with⟨_,e,_⟩|⟨b,o,cap,cs,_,e,_⟩<;>rw[e]<;>simp
 ·rcases ar.1 hx with hx|hx
  ·exact(jh x (by simp[f'.2 ((b2 x).1 hx).1])).2
  ·exact(jh x (by simp[hx])).2
 ·rcases ar.1 hx with hx|hx
  ·exact(jh x (by simp[f'.2 ((b2 x).1 hx).1])).1
  ·exact(jh x (by simp[hx])).1
 ·have:=h.lex.base;have:=h.lex.lt.1;omega
theorem Rw.ready (h:Rw w w' B F t' v' F') (rB:∀x∈F,B<=x) (hB:B<=w.heap.size):jP w' B t' v' F':=⟨h.tr,h.nodup,h.lt,λx hx=>(h.own x hx).elim (rB x) (λk=>ao hB k),ao hB h.fo.size⟩
theorem Rw.low (h:Rw w w' B F t' v' F') (rB:∀x∈F,B<=x) (hB:B<=w.heap.size):Below B w w':=h.fo.below hB rB
theorem Tryz.L9:(prog.info? 259).map (λi=>(i.zero,i.size,i.bytes))=some (some (.agg #[.int .i64 0,.int .i64 0]),2,16):=by kernel_rfl
theorem f70 (b o c:Nat) (S txt:List dE) (out:List T) (w:World) (hb:b<w.heap.size) (hS:∀j u,(S.map λc=>Value.int .i32 (c:Nat))[j]? =some u->w.cell? ⟨b,o+j,none⟩=some u) (hokS:dV S) (B5:S.length<=100000) (nj:S.length<=c) (mX:c<=maxLen) (hT:fE w) (h3:3<=w.heap.size) (ez:dV txt) (hlen:(enc txt).length<=1000000) (RN:E6 S txt 0 [] [] out) (t:T) (ht:t=.dH out) (XN:Fine S t):Calls prog 70 #[.agg #[.slice (some ⟨b,o,none⟩) S.length c,.bool false],.string (bs txt)] w λe w'=>∃pb u,e=.returned (.tuple #[.pointer (some ⟨pb,0,none⟩),.nilIface])/\Bk w' pb u (needs (comp t)) (if needs (comp t)then ed (comp t)else 0) (if needs (comp t)then gv (comp t)else[])/\Rp w' w'.heap.size (comp t) u/\Below w.heap.size w w':=by
 obtain⟨ns,J9⟩:=dS S.length;have Dn:ek w (.slice (some ⟨b,o,none⟩) ns c) S:=by rw[J9];exact .inr ⟨b,o,c,rfl,nj,mX,hb,λi hi=>hS i _ (by simp[hi])⟩
 obtain⟨W0,pV⟩:=dS (w.alloc (.cells #[.slice (some ⟨b,o,none⟩) ns c,.bool false] 143));have ZU:Below w.heap.size w W0:=by rw[pV];go_grown
 have qQ:W0.heap.size=w.heap.size+1:=by rw[pV,ab]
 have hcS:∀j u,(S.map λc=>Value.int .i32 (c:Nat))[j]? =some u->W0.cell? ⟨b,o+j,none⟩=some u:=λj u hu=>dF ZU _ _ (hS j u hu);have vE:=aa (f108 b o ns c (S.map λc=>Value.int .i32 (c:Nat)) W0 (by simp[J9]) (by omega) (by intro u hu;simp only[dB]at hu;obtain⟨x,_,rfl⟩:=hu;rfl) hcS);rw[pV]at vE;rw[<-J9];have yw:txt.length<=1000000:=by have:=(eI txt).1;omega
 have HN:=rr J9 Dn pV ZU qQ;have pR:=aa XN;have HT:=aa ht;have HX:=rr ez hlen yw RN hT;clear J9 hS Dn hcS pV ZU qQ ez hlen yw RN hT XN ht;go_enter func70,ntmps70;go_wp2_with fail
 go_step3
 go_wp2_with fail;refine vE.mono ?_;rintro e w1 ⟨vc,rfl,ly,qS,eu⟩;rw[<-HN.2.2.1]at eu ly;have Zn:ek w1 (.slice (some ⟨b,o,none⟩) ns c) S:=(HN.2.1.keep λk hk=>by simp only[Value.ownBlock,ae]at hk;subst hk;have:=HN.2.2.2.2;exact⟨by have:=eu.size;omega,(eu.block b (by omega)).trans (HN.2.2.2.1.block b hb)⟩);have j7:=qx Zn hokS;obtain⟨ac,cc,hvc,_,_⟩:=d' ly;have Xq:lx w1.heap.size vc:=λk hk=>(ly.lt k hk).2;have hrac:ek w1 vc S:=by rw[HN.1]at ly;exact ek.wS ly
 have Hz:fE w1:=(HX.2.2.2.2.below HN.2.2.2.1 (af _)).below eu (af _);have h31:3<=w1.heap.size:=by have:=eu.size;have:=HN.2.2.2.2;omega
 have jo:∀wx,Below w1.heap.size w1 wx->wx.cell? ⟨w.heap.size,1,none⟩=some (.bool false):=λwx hx=>dF hx _ _ (dF eu _ _ (by rw[HN.2.2.1];exact bC w #[.slice (some ⟨b,o,none⟩) ns c,.bool false] 143 1));have qZ:=aa jo;have hbw1:Below w.heap.size w w1:=HN.2.2.2.1.trans (eu.mono (by have:=HN.2.2.2.2;omega));have HK:=rr Zn Xq hrac Hz hbw1;subst hvc;clear ly qS eu Zn Xq hrac Hz hbw1 jo;go_wp2_with fail;refine(f109 (B:=w1.heap.size) (txt:=txt) (af _)).mono ?_;rintro e w2 ⟨vq,rfl,hlex,eT,hq⟩;have iW:PIn w1 w2 w1.heap.size (w1.heap.size+1) S txt txt 0 vq 0 0 false [] [] (.slice none 0 0) (.slice none 0 0) [] [] out:=⟨⟨hlex,⟨rfl,.inl ⟨rfl,rfl⟩⟩,by simp[eW],⟨rfl,.inl ⟨rfl,rfl⟩⟩,eT,rfl,by unfold ob;rw[hq];simp[Value.ownBlock],by simp,by simp⟩,HX.2.2.2.1,by simp,by simp,by simp⟩;have HS:=aa iW;clear hlex eT hq iW;obtain⟨B,hB⟩:=dS w1.heap.size;obtain⟨L,hL⟩:=dS (w1.heap.size+1);rw[<-hL]at HS;rw[<-hL];rw[<-hB]at HS HK h31 qZ;have HBL:=jS hB hL j7;clear hB hL j7;go_wp2_with fail
 go_step3
 go_wp2_with fail;go_loopg [9,10] txt.length (λk s9 s10 wr=>∃(rest:List dE) (tl:Nat) (vq:Value) (lr gI:Int) (hr:Bool) (st:List T) (ops:List (Bool×Nat)) (us:List Value) (G:List Nat),k=rest.length/\Hid (PIn w1 wr B L S txt rest tl vq lr gI hr st ops s9 s10 us G out))
 case atStart=>exact⟨txt,0,vq,0,0,false,[],[],[],[],rfl,HS⟩
 case round=>
  obtain⟨rest,tl,xF,lr,gI,hr,st,ops,us,G,rfl,HJ⟩:=hrel;obtain⟨o5,Y4⟩:=dS u9;obtain⟨qE,Y6⟩:=dS u10;rw[<-Y4,<-Y6]at HJ;obtain⟨a9,c9,hs9,_,_⟩:=d' HJ.at'.BD;obtain⟨a10,Jt,yy,_,_⟩:=d' HJ.at'.Jj;obtain⟨Xd,Zx⟩:=dS ops.length;rw[<-Zx]at yy;have HV:=eo hs9 yy;have e9:u9=.slice a9 us.length c9:=Y4.symm.trans hs9;have e10:u10=.slice a10 Xd Jt:=Y6.symm.trans yy;subst e9 e10;have T3:=aa Zx;clear Y4 Y6 hs9 yy;have HTJ:Hid (∀wx,Below B w1 wx->fE wx):=aa λwx h=>HK.2.2.2.1.below h (by rw[HBL.1];exact af _);have Ws:Hid (∀wx,Below B w1 wx->ek wx (.slice ac ns cc) S/\lx B (.slice ac ns cc)):=aa λwx h=>⟨HK.2.2.1.low HK.2.1 (λb hb=>h.block b hb),HK.2.1⟩;have ic:us.length<=1000000:=by have:=HJ.at'.len;have:=HJ.stl;have:=HX.2.2.1;omega
  have hol:Xd<=2000000:=by have:=HJ.opl;have:=HX.2.2.1;omega
  clear Zx;rcases HJ.run.inv with⟨he1,he2,he3⟩|⟨tk,ts,R,tl',st',ops',hi,hR,hp,J4⟩
  ·as_aux_lemma=>
   subst he1 he2 he3;have xb:Xd=0:=T3.out;subst xb;have T2:Hid (Calls prog 110 #[.pointer (some ⟨L,0,none⟩)] wr λe w'=>e=.returned (.agg #[.int .i64 0,.string (bs [])])/\∃fb lr' lsz' hr',er w' B L txt [] tl [] fb lr' lsz' hr'/\kA wr w' L xF fb):=aa (X9 .eof [] [] tl HJ.at'.lex (HTJ.out wr HJ.at'.below) h31 HX.1 HX.2.1 (by have:=HJ.tll;have:=HX.2.2.1;omega) (by simp[gy]));go_wp2_with fail;refine T2.mono ?_;rintro e w3 ⟨rfl,FC,Fo,qO,uC,k1,k2⟩;have ow:=(HJ.at'.rq k1 k2).grown (w1:=w3.alloc (.cells #[.int .i64 0,.string (bs [])] 242)) (by go_grown);rw[HV.1]at ow;obtain⟨F0,hr0⟩:=ow.ready;rw[<-HT.out]at hr0;have gJ:=Li t;have Co:=aa (Lj t _ B _ F0 hr0 (by have:=pR.wsz1;omega) (by have:=pR.tsz1;omega));have HR0:=eo hr0 ow.below;clear k1 k2 ow hr0;go_wp2_with fail;refine Co.mono ?_;rintro e w4 ⟨v1,F1,rfl,yz⟩;have mZ:=HR0.2.trans (yz.low HR0.1.ge HR0.1.base);have Zl:=yz.ready HR0.1.ge HR0.1.base;have g1:w4.cell? ⟨w.heap.size,1,none⟩=some (.bool false):=qZ.out w4 mZ;have jx:=aa (QO (simp t) true w4 B v1 F1 Zl (by have:=pR.tsz1;omega));have Yr:=eo Zl mZ;obtain⟨s1,p1,rfl⟩:=yz.tr.iface;clear yz mZ Zl gJ;go_wp2_with fail;refine jx.mono ?_;rintro e w5 ⟨v2,F2,rfl,sK⟩;have jF:=Yr.2.trans (sK.low Yr.1.ge Yr.1.base);have Zk:=sK.ready Yr.1.ge Yr.1.base;have qC:=aa (TG (jD true (simp t)) true w5 B v2 F2 Zk);have HR2:=eo Zk jF;obtain⟨s2,p2,rfl⟩:=sK.tr.iface;clear sK jF Zk g1;go_wp2_with fail;refine qC.mono ?_;rintro e w6 ⟨rfl,uC⟩;have xW:=HR2.2.trans (uC.low HR2.1.ge HR2.1.base);have Zj:=uC.ready HR2.1.ge HR2.1.base;have HC4:=aa (SP (js true (jD true (simp t))) true w6 B _ F2 Zj);have HR3:=eo Zj xW;clear uC xW Zj;go_wp2_with fail;refine HC4.mono ?_;rintro e w7 ⟨v4,F4,rfl,VI⟩;have tH:=HR3.2.trans (VI.low HR3.1.ge HR3.1.base);have J5:jP w7 B (comp t) v4 F4:=VI.ready HR3.1.ge HR3.1.base;have g1:w7.cell? ⟨w.heap.size,1,none⟩=some (.bool false):=qZ.out w7 tH;have Zi:jP w7.drew B (comp t) v4 F4:=⟨Tr.keep (w:=w7) (w':=w7.drew) (λ_ _=>rfl) _ _ _ J5.tr λ_ _=>rfl,J5.nodup,J5.lt,J5.ge,J5.base⟩;obtain⟨nd,lI⟩:=dS (needs (comp t));have hc5:=f120 B w7.drew (comp t) v4 F4 Zi.tr;rw[<-lI]at hc5;have HC5:=aa hc5;have Bq:=aa lI;have HR5:=aa Zi;clear lI hc5 Zi;have g2:w7.drew.cell? ⟨w.heap.size,1,none⟩=some (.bool false):=g1;have Wu:=eo J5 tH;obtain⟨s4,p4,rfl⟩:=VI.tr.iface;clear VI tH J5;go_wp2_with fail;refine dP (λw'=>w'.cell? ⟨w.heap.size,1,none⟩=some (.bool false)) [(true,0),(true,1),(true,2),(true,3),(true,4),(true,5),(false,6),(false,7),(false,8)] (by kernel_rfl) (by kernel_rfl) g2 (λhHeld=> ?_);iterate 6
    refine dL (v:= ?_) rfl (λ_ _ _ h=>h) (by rfl) ?_ hHeld ?_;rotate_left
    ·intro w hSw;(try dsimp only at hSw);go_simp
     try with_reducible rfl
    simp only[Act.put,iX]
   refine dM rfl (λK hK=> ?_);go_simp;refine HC5.mono ?_;rintro e w8 ⟨rfl,rfl⟩;refine hK.out _ _ g2 (λdW=> ?_);clear hK K dW;refine dM rfl (λK hK=> ?_);go_simp;refine hK.out _ _ g2 (λdW=> ?_);clear hK K dW;refine dM rfl (λK hK=> ?_);go_simp;refine hK.out _ _ (dJ g2 _) (λdW=> ?_);clear hK K dW hHeld;refine dX rfl ?_;have HTR:Hid (∀wx,Below w7.heap.size w7 wx->Tr wx B (comp t) (.iface s4 p4) F4/\Rp wx wx.heap.size (comp t) (.iface s4 p4)/\Below w.heap.size w wx/\Below B w1 wx):=aa λwx hb=>by have h1:Tr wx B (comp t) (.iface s4 p4) F4:=Tr.keep (λk hk=>hb.block k (by have:=Wu.1.base;omega)) _ _ _ Wu.1.tr λk hk=>hb.block k (Wu.1.lt k hk);have h2:Below B w1 wx:=Wu.2.trans (hb.mono Wu.1.base);refine⟨h1,FR (B:=B) (by have:=Wu.1.base;have:=hb.size;omega) _ _ _ h1 pR.iK pR.lL (by have:=pR.ix;omega) (by have:=pR.sz;omega) λx hx=>ai (Wu.1.lt x hx) hb.size,HK.2.2.2.2.trans (h2.mono ?_),h2⟩;have:=HK.2.2.2.2.size;have:=HBL.1;omega
   clear g1 g2;cases nd with
   |false=>
    go_wp2_with fail;rw[Exit.noGoto_ret];go_ret2;have Hw:Below w7.heap.size w7 ((w7.alloc (.cells #[.string (bs txt),.slice (some ⟨b,o,none⟩) ns c,.bool false,.iface s4 p4,.bool false,.int .i64 0,.string ⟨#[]⟩] 155)).drew):=by go_grown
    obtain⟨_,r1,r2,_⟩:=HTR.out _ Hw;refine⟨w7.heap.size,.iface s4 p4,rfl,?_,r1,r2⟩;rw[<-Bq.out];exact⟨bC w7 #[.string (bs txt),.slice (some ⟨b,o,none⟩) ns c,.bool false,.iface s4 p4,.bool false,.int .i64 0,.string ⟨#[]⟩] 155 3,bC w7 #[.string (bs txt),.slice (some ⟨b,o,none⟩) ns c,.bool false,.iface s4 p4,.bool false,.int .i64 0,.string ⟨#[]⟩] 155 4,bC w7 #[.string (bs txt),.slice (some ⟨b,o,none⟩) ns c,.bool false,.iface s4 p4,.bool false,.int .i64 0,.string ⟨#[]⟩] 155 5,bC w7 #[.string (bs txt),.slice (some ⟨b,o,none⟩) ns c,.bool false,.iface s4 p4,.bool false,.int .i64 0,.string ⟨#[]⟩] 155 6⟩
   |true=>
    obtain⟨W9,hW9⟩:=dS (w7.alloc (.cells #[.string (bs txt),.slice (some ⟨b,o,none⟩) ns c,.bool false,.iface s4 p4,.bool true,.int .i64 0,.string ⟨#[]⟩] 155)).drew;have Hw:Below w7.heap.size w7 W9:=by rw[hW9];go_grown
    have hk9:W9.heap[w7.heap.size]? =some (.cells #[.string (bs txt),.slice (some ⟨b,o,none⟩) ns c,.bool false,.iface s4 p4,.bool true,.int .i64 0,.string ⟨#[]⟩] 155 (0,0)):=(by rw[hW9];exact heap_alloc_new w7 _);have hs9:W9.heap.size=w7.heap.size+1:=by rw[hW9];exact ab w7 _
    have hlen:=Ro (comp t) W9 B (.iface s4 p4) F4 (HTR.out _ Hw).1 (by have h1:=Jz (comp t);have h2:=pR.sz;have h3:=pR.tx;omega) (TI _ pR.lL);rw[hW9]at hlen;have fP:=aa hlen;have H9:=sW hW9 Hw hk9 hs9;clear hW9 Hw hk9 hs9 hlen;go_wp2_with fail;refine fP.mono ?_;rintro e la ⟨rfl,fH⟩;rw[<-H9.1]at fH;have VT:la.heap[w7.heap.size]? =some (.cells #[.string (bs txt),.slice (some ⟨b,o,none⟩) ns c,.bool false,.iface s4 p4,.bool true,.int .i64 0,.string ⟨#[]⟩] 155 (0,0)):=by rw[fH.heap];exact H9.2.2.1
    have e1:la.cell? ⟨w7.heap.size,5,none⟩=some (.int .i64 0):=(by simp[World.cell?,VT]);have e2:la.frozen? ⟨w7.heap.size,5,none⟩=false:=by simp[World.frozen?,VT]
    obtain⟨ml,qo⟩:=dS (((ed (comp t):Nat):Int):Int);rw[<-qo];have rD:Below w7.heap.size w7 (la.setCell ⟨w7.heap.size,5,none⟩ (.int .i64 ml)):=((H9.2.1.trans (fH.below.mono (by have:=H9.2.2.2;omega)))).setCell (af _) _;have hk11:=dG (i:=5) VT (.int .i64 ml);have ry:=QK (comp t) (la.setCell ⟨w7.heap.size,5,none⟩ (.int .i64 ml)) B (.iface s4 p4) F4 (HTR.out _ rD).1 (λx hx=>ai (Wu.1.lt x hx) rD.size) (by have:=Wu.1.base;have:=rD.size;omega) (HTJ.out _ (HTR.out _ rD).2.2.2) (by have:=pR.ix;omega) (EN _ pR.iK pR.lL);have yQ:=aa ry;have H10:=jS qo rD hk11;clear fH VT qo rD hk11 ry;go_wp2_with fail;refine yQ.mono ?_;rintro e Qs ⟨rfl,ZW⟩;obtain⟨sx,Mf⟩:=dS (bs (gv (comp t)));rw[<-Mf];have XH:w7.heap.size<(la.setCell ⟨w7.heap.size,5,none⟩ (.int .i64 ml)).heap.size:=(bc.1 H10.2.2).1;have VS:=(ZW.block w7.heap.size XH).trans H10.2.2;have e3:Qs.cell? ⟨w7.heap.size,6,none⟩=some (.string ⟨#[]⟩):=by simp[World.cell?,VS]
    have e4:Qs.frozen? ⟨w7.heap.size,6,none⟩=false:=(by simp[World.frozen?,VS]);have hb12:Below w7.heap.size w7 (Qs.setCell ⟨w7.heap.size,6,none⟩ (.string sx)):=(H10.2.1.trans (ZW.mono (by omega))).setCell (af _) _;have hk13:=dG (i:=6) VS (.string sx);have H11:=jS Mf hb12 hk13;clear Mf hb12 hk13 VS ZW XH e1 e2;go_wp2_with fail;rw[Exit.noGoto_ret];go_ret2;obtain⟨_,r1,r2,_⟩:=HTR.out _ H11.2.1;refine⟨w7.heap.size,.iface s4 p4,rfl,?_,r1,r2⟩;rw[<-Bq.out];have tG:=H11.2.2;have h5:=H10.1;have h6:=H11.1;subst h5 h6;exact⟨by simp[World.cell?,tG],by simp[World.cell?,tG],by simp[World.cell?,tG],by simp[World.cell?,tG]⟩
  ·have qY:=aa (X9 tk ts R tl' HJ.at'.lex (HTJ.out wr HJ.at'.below) h31 HX.1 HX.2.1 (by have:=HJ.tll;have:=HX.2.2.1;omega) hi);have td:Hid (∀(w':World) (UR:Value) (lr2 Ou:Int) (sK:Bool) (Yy Yz:Value) (lP:List Value) (G2:List Nat),rU w1 w' B L txt R tl' [] UR lr2 Ou sK st' ops' Yy Yz lP G2->PIn w1 w' B L S txt R tl' UR lr2 Ou sK st' ops' Yy Yz lP G2 out):=aa λw' UR lr2 Ou sK Yy Yz lP G2 k=>HJ.next hi hR hp J4 k;have UJ:=aa hR;have HI:=aa hi;clear hi J4 hR;cases tk with
   |eof=>exact absurd hp (by simp[oB])
   |text x=>
    as_aux_lemma=>
    cases ts with
    |cons _ _=>exact absurd hp (by simp[oB])
    |nil=>
    simp only[oB,ae,aQ]at hp;obtain⟨rfl,rfl⟩:=hp;go_wp2_with fail;refine qY.mono ?_;rintro e w3 ⟨rfl,FC,Fo,qO,uC,k1,k2⟩;have ow:=HJ.at'.rq k1 k2;rw[HV.1,HV.2]at ow;have HP:=aa (ow.grown (w1:=w3.alloc (.cells #[.int .i64 2,.string (bs x)] 242)) (by go_grown));clear k1 k2 ow
    (try simp only[Tok.num,Tok.str])
    obtain⟨i0,hi,gD,gB,gF⟩:=info_parts fG;go_wp2_with (at_builtin;refine wpList_append_lies _ rfl _ _ 236 rfl B 153 i0 .nilIface 1 16 underlying236 hi gD gB gF rfl (by decide) (.slice a9 us.length c9) us.length us rfl ?lG ⟨w3.heap.size+1+1,0,none⟩ 1 1 [.iface 250 (.pointer (some ⟨w3.heap.size+1,0,none⟩))] rfl rfl ?lF ?lE (by decide) ?lD ?lC ?lB (w3.heap.size+1+1+1) ?my ?_)
    case lG=>exact(HP.BD.alloc _).alloc _
    case lF=>have:=World.news_of_block (heap_alloc_new ((w3.alloc (.cells #[.int .i64 2,.string (bs x)] 242)).alloc (.cells #[.string (bs x)] 252)) (.cells #[.iface 250 (.pointer (some ⟨w3.heap.size+1,0,none⟩))] 153));rw[ab,ab]at this;exact this
    case lE=>intro u hu;simp only[aE]at hu;subst hu;rfl
    case lD=>unfold maxLen;omega
    case lC=>omega
    case lB=>have h1:=HP.lex.base;have h2:=HP.lex.lt.1;rw[ab]at h2;simp;omega
    case my=>simp
    intro g cap w4 Hg Hl rE EG;have EE:=HP.Lq (o:=(.cells #[.string (bs x)] 252)) (o2:=.cells #[.iface 250 (.pointer (some ⟨w3.heap.size+1,0,none⟩))] 153) (t:=.text x) (v:=.iface 250 (.pointer (some ⟨w3.heap.size+1,0,none⟩))) (λwx jo nH=>by rw[ab]at nH⊢;simp only[Tr];exact⟨_,rfl,rfl,nH⟩) Hg Hl (by rw[ab];exact rE) EG;have HQ:=aa (td.out _ _ _ _ _ _ _ _ _ EE);clear Hg Hl rE EG EE;go_wp2_with fail;go_roundg R.length
    case measure=>exact UJ.out
    case rel=>exact⟨R,tl',FC,Fo,qO,uC,_,_,_,_,rfl,HQ⟩
   |any=>
    as_aux_lemma=>
    cases ts with
    |cons _ _=>exact absurd hp (by simp[oB])
    |nil=>
    simp only[oB,ae,aQ]at hp;obtain⟨rfl,rfl⟩:=hp;go_wp2_with fail;refine qY.mono ?_;rintro e w3 ⟨rfl,FC,Fo,qO,uC,k1,k2⟩;have ow:=HJ.at'.rq k1 k2;rw[HV.1,HV.2]at ow;have HP:=aa (ow.grown (w1:=w3.alloc (.cells #[.int .i64 3,.string (bs [42])] 242)) (by go_grown));clear k1 k2 ow
    (try simp only[Tok.num,Tok.str])
    obtain⟨i0,hi,gD,gB,gF⟩:=info_parts fG;go_wp2_with (at_builtin;refine wpList_append_lies _ rfl _ _ 236 rfl B 153 i0 .nilIface 1 16 underlying236 hi gD gB gF rfl (by decide) (.slice a9 us.length c9) us.length us rfl ?lG ⟨w3.heap.size+1+1,0,none⟩ 1 1 [.iface 255 (.pointer (some ⟨w3.heap.size+1,0,none⟩))] rfl rfl ?lF ?lE (by decide) ?lD ?lC ?lB (w3.heap.size+1+1+1) ?my ?_)
    case lG=>exact(HP.BD.alloc _).alloc _
    case lF=>have:=World.news_of_block (heap_alloc_new ((w3.alloc (.cells #[.int .i64 3,.string (bs [42])] 242)).alloc (.cells #[.slice ac ns cc,.string (bs S),.string ⟨#[]⟩,.bool false] 257)) (.cells #[.iface 255 (.pointer (some ⟨w3.heap.size+1,0,none⟩))] 153));rw[ab,ab]at this;exact this
    case lE=>intro u hu;simp only[aE]at hu;subst hu;rfl
    case lD=>unfold maxLen;omega
    case lC=>omega
    case lB=>have h1:=HP.lex.base;have h2:=HP.lex.lt.1;rw[ab]at h2;simp;omega
    case my=>simp
    intro g cap w4 Hg Hl rE EG;have EE:=HP.Lq (o:=(.cells #[.slice ac ns cc,.string (bs S),.string ⟨#[]⟩,.bool false] 257)) (o2:=.cells #[.iface 255 (.pointer (some ⟨w3.heap.size+1,0,none⟩))] 153) (t:=.star S [] false) (v:=.iface 255 (.pointer (some ⟨w3.heap.size+1,0,none⟩))) (λwx jo nH=>by rw[ab]at nH⊢;simp only[Tr];exact⟨_,_,rfl,rfl,nH,(Ws.out wx (HP.below.trans (jo.mono (by have:=HP.lex.base;have:=HP.lex.lt.1;omega)))).1,(Ws.out wx (HP.below.trans (jo.mono (by have:=HP.lex.base;have:=HP.lex.lt.1;omega)))).2⟩) Hg Hl (by rw[ab];exact rE) EG;have HQ:=aa (td.out _ _ _ _ _ _ _ _ _ EE);clear Hg Hl rE EG EE;go_wp2_with fail;go_roundg R.length
    case measure=>exact UJ.out
    case rel=>exact⟨R,tl',FC,Fo,qO,uC,_,_,_,_,rfl,HQ⟩
   |fq=>
    as_aux_lemma=>
    cases ts with
    |cons _ _=>exact absurd hp (by simp[oB])
    |nil=>
    simp only[oB,ae,aQ]at hp;obtain⟨rfl,rfl⟩:=hp;go_wp2_with fail;refine qY.mono ?_;rintro e w3 ⟨rfl,FC,Fo,qO,uC,k1,k2⟩;have ow:=HJ.at'.rq k1 k2;rw[HV.1,HV.2]at ow;have HP:=aa (ow.grown (w1:=w3.alloc (.cells #[.int .i64 4,.string (bs [42,42])] 242)) (by go_grown));clear k1 k2 ow
    (try simp only[Tok.num,Tok.str])
    obtain⟨i0,hi,gD,gB,gF⟩:=info_parts fG;go_wp2_with (at_builtin;refine wpList_append_lies _ rfl _ _ 236 rfl B 153 i0 .nilIface 1 16 underlying236 hi gD gB gF rfl (by decide) (.slice a9 us.length c9) us.length us rfl ?lG ⟨w3.heap.size+1+1,0,none⟩ 1 1 [.iface 255 (.pointer (some ⟨w3.heap.size+1,0,none⟩))] rfl rfl ?lF ?lE (by decide) ?lD ?lC ?lB (w3.heap.size+1+1+1) ?my ?_)
    case lG=>exact(HP.BD.alloc _).alloc _
    case lF=>have:=World.news_of_block (heap_alloc_new ((w3.alloc (.cells #[.int .i64 4,.string (bs [42,42])] 242)).alloc (.cells #[.slice none 0 0,.string ⟨#[]⟩,.string ⟨#[]⟩,.bool false] 257)) (.cells #[.iface 255 (.pointer (some ⟨w3.heap.size+1,0,none⟩))] 153));rw[ab,ab]at this;exact this
    case lE=>intro u hu;simp only[aE]at hu;subst hu;rfl
    case lD=>unfold maxLen;omega
    case lC=>omega
    case lB=>have h1:=HP.lex.base;have h2:=HP.lex.lt.1;rw[ab]at h2;simp;omega
    case my=>simp
    intro g cap w4 Hg Hl rE EG;have EE:=HP.Lq (o:=(.cells #[.slice none 0 0,.string ⟨#[]⟩,.string ⟨#[]⟩,.bool false] 257)) (o2:=.cells #[.iface 255 (.pointer (some ⟨w3.heap.size+1,0,none⟩))] 153) (t:=.star [] [] false) (v:=.iface 255 (.pointer (some ⟨w3.heap.size+1,0,none⟩))) (λwx jo nH=>by rw[ab]at nH⊢;simp only[Tr];exact⟨_,_,rfl,rfl,nH,.inl ⟨rfl,rfl⟩,λ_ h=>by simp[Value.ownBlock]at h⟩) Hg Hl (by rw[ab];exact rE) EG;have HQ:=aa (td.out _ _ _ _ _ _ _ _ _ EE);clear Hg Hl rE EG EE;go_wp2_with fail;go_roundg R.length
    case measure=>exact UJ.out
    case rel=>exact⟨R,tl',FC,Fo,qO,uC,_,_,_,_,rfl,HQ⟩
   |single=>
    as_aux_lemma=>
    cases ts with
    |cons _ _=>exact absurd hp (by simp[oB])
    |nil=>
    simp only[oB,ae,aQ]at hp;obtain⟨rfl,rfl⟩:=hp;go_wp2_with fail;refine qY.mono ?_;rintro e w3 ⟨rfl,FC,Fo,qO,uC,k1,k2⟩;have ow:=HJ.at'.rq k1 k2;rw[HV.1,HV.2]at ow;have HP:=aa (ow.grown (w1:=w3.alloc (.cells #[.int .i64 5,.string (bs [63])] 242)) (by go_grown));clear k1 k2 ow
    (try simp only[Tok.num,Tok.str])
    obtain⟨i0,hi,gD,gB,gF⟩:=info_parts fG;go_wp2_with (at_builtin;refine wpList_append_lies _ rfl _ _ 236 rfl B 153 i0 .nilIface 1 16 underlying236 hi gD gB gF rfl (by decide) (.slice a9 us.length c9) us.length us rfl ?lG ⟨w3.heap.size+1+1,0,none⟩ 1 1 [.iface 247 (.pointer (some ⟨w3.heap.size+1,0,none⟩))] rfl rfl ?lF ?lE (by decide) ?lD ?lC ?lB (w3.heap.size+1+1+1) ?my ?_)
    case lG=>exact(HP.BD.alloc _).alloc _
    case lF=>have:=World.news_of_block (heap_alloc_new ((w3.alloc (.cells #[.int .i64 5,.string (bs [63])] 242)).alloc (.cells #[.slice ac ns cc] 249)) (.cells #[.iface 247 (.pointer (some ⟨w3.heap.size+1,0,none⟩))] 153));rw[ab,ab]at this;exact this
    case lE=>intro u hu;simp only[aE]at hu;subst hu;rfl
    case lD=>unfold maxLen;omega
    case lC=>omega
    case lB=>have h1:=HP.lex.base;have h2:=HP.lex.lt.1;rw[ab]at h2;simp;omega
    case my=>simp
    intro g cap w4 Hg Hl rE EG;have EE:=HP.Lq (o:=(.cells #[.slice ac ns cc] 249)) (o2:=.cells #[.iface 247 (.pointer (some ⟨w3.heap.size+1,0,none⟩))] 153) (t:=.char S) (v:=.iface 247 (.pointer (some ⟨w3.heap.size+1,0,none⟩))) (λwx jo nH=>by rw[ab]at nH⊢;simp only[Tr];exact⟨_,_,rfl,rfl,nH,(Ws.out wx (HP.below.trans (jo.mono (by have:=HP.lex.base;have:=HP.lex.lt.1;omega)))).1,(Ws.out wx (HP.below.trans (jo.mono (by have:=HP.lex.base;have:=HP.lex.lt.1;omega)))).2⟩) Hg Hl (by rw[ab];exact rE) EG;have HQ:=aa (td.out _ _ _ _ _ _ _ _ _ EE);clear Hg Hl rE EG EE;go_wp2_with fail;go_roundg R.length
    case measure=>exact UJ.out
    case rel=>exact⟨R,tl',FC,Fo,qO,uC,_,_,_,_,rfl,HQ⟩
   |not=>exact absurd hp (by simp[oB])
   |DS=>
    as_aux_lemma=>
    cases ts with
    |cons _ _=>exact absurd hp (by simp[oB])
    |nil=>
    cases ops with
    |nil=>exact absurd hp (by simp[oB])
    |cons o1 lj=>
    obtain⟨k1,i⟩:=o1;cases k1 with
    |true=>exact absurd hp (by simp[oB])
    |false=>
    simp only[oB]at hp;have BX:i<=st.length:=by
     rcases aV st.length i with h|h
     ·rw[if_neg (by omega)]at hp;cases hp
     ·exact h
    rw[if_pos BX]at hp;simp only[ae,aQ]at hp;obtain⟨rfl,rfl⟩:=hp;have OD:=HJ.at'.len;obtain⟨m,hm⟩:=dS lj.length;have qo:((false,i)::lj).length=m+1:=by rw[hm];rfl
    have hnm:Xd=m+1:=T3.trans qo;subst hnm;obtain⟨g10,c10',J1,J6,OJ,hq3,hq4⟩:=iR HJ.at'.Jj (by simp);rw[qo]at J1;have GX:=HV.2.symm.trans J1;simp only[au]at GX;obtain⟨rfl,vz,rfl⟩:=GX;clear vz;have HM:=jS hm qo OD;clear hm qo OD J1 J6 OJ hq3 hq4;have T2:Hid (Calls prog 110 #[.pointer (some ⟨L,0,none⟩)] wr λe w'=>e=.returned (.agg #[.int .i64 7,.string (bs [44])])/\∃fb lr' lsz' hr',er w' B L txt R tl' [] fb lr' lsz' hr'/\kA wr w' L xF fb):=qY;go_wp2_with fail;refine T2.mono ?_;rintro e w3 ⟨rfl,FC,Fo,qO,uC,k1,k2⟩;have ow:=HJ.at'.rq k1 k2;rw[HV.1,HV.2]at ow;have HP:=aa (ow.grown (w1:=w3.alloc (.cells #[.int .i64 7,.string (bs [44])] 242)) (by go_grown));clear k1 k2 ow;obtain⟨_,_,Md,_,_,nH,_⟩:=iR HP.Jj (by simp);simp only[au,ae,aY,and_true,true_and]at Md;obtain⟨rfl,vz,rfl⟩:=Md;clear vz;have z0:(w3.alloc (.cells #[.int .i64 7,.string (bs [44])] 242)).cell? ⟨g10,m*2,none⟩=some (.int .i64 1):=nH (m*2) _ (by rw[HM.1];simp only[fa];rw[aR (by rw[en];exact af _),en,cO];rfl);have z1:(w3.alloc (.cells #[.int .i64 7,.string (bs [44])] 242)).cell? ⟨g10,m*2+1,none⟩=some (.int .i64 i):=nH (m*2+1) _ (by rw[HM.1];simp only[fa];rw[aR (by rw[en];omega),en,dq];rfl);clear nH;have y1:IntKind.i64.wrap (((m+1:Nat):Int)-1)=(m:Int):=by rw[aW]<;>omega
    have y1':IntKind.i64.wrap ((m:Int)+1-1)=(m:Int):=(by rw[show(m:Int)+1-1=(m:Int)by omega,aW]<;>omega);have y2:decide ((m:Int)<0)=false:=by simp
    have y3:(0:Int)<=(m:Int):=(by omega);have y4:(m:Int)<(m:Int)+1:=by omega
    have y5:(m:Int)<((m+1:Nat):Int):=(by omega);obtain⟨_,_,Md,J6,_,_,_⟩:=iR HP.Jj (by simp);simp only[au,ae,aY,and_true,true_and]at Md;obtain⟨rfl,vz,rfl⟩:=Md;rw[HM.2.1]at J6;have y7:(m:Int)<=(Jt:Int):=by omega
    have y7':m<=Jt:=(by omega);clear vz J6;have MT:=aa (HP.grown (w1:=(w3.alloc (.cells #[.int .i64 7,.string (bs [44])] 242)).alloc (.cells #[.int .i64 1,.int .i64 i] 259)) (by go_grown));have HOP0:Hid (∀(w9:World) (Uj:Value) (Uq BS:Int) (OI:Bool) (Um:List T) (BO:Value) (Uk:List Value) (G9:List Nat),rU w1 w9 B L txt R tl' [] Uj Uq BS OI Um ((false,i)::lj) BO (.slice (some ⟨g10,0,none⟩) (m+1) Jt) Uk G9->w9.ownsRow B 259 2 (.slice (some ⟨g10,0,none⟩) m Jt) m (fa lj)):=aa λw9 Uj Uq BS OI Um BO Uk G9 h=>by
     have h1:=h.Jj;rw[HM.2.1]at h1;have h2:=Ea h1 (Nat.le_succ m);have e:(fa ((false,i)::lj)).take (m*2)=fa lj:=by simp only[fa];rw[HM.1,<-en,cR]
     rw[e]at h2;exact h2
    obtain⟨i0,hi,gD,gB,gF⟩:=info_parts fG;obtain⟨j0,hj,hy0,VC,VB⟩:=info_parts Tryz.L9;have HIL:=aa BX;rcases aV i us.length with rA|rA
    ·have y6:((i:Int)==(us.length:Int))=false:=(by rw[beq_eq_false_iff_ne];omega);obtain⟨g9,c9',RB,hq9,_,lJ,_⟩:=iR MT.BD (by omega);simp only[au]at RB;obtain⟨rfl,vz,rfl⟩:=RB;have y8:¬c9=i:=(by omega);have y9:(i:Int)<=(us.length:Int):=by omega
     have y10:(0:Int)<=(i:Int):=(by omega);have y11:(i:Int)<(us.length:Int):=by omega
     have y12:(i:Int)+1<=(c9:Int):=(by omega);have y13:=gW ((i:Int)+1) (by omega);have y14:(i:Int)<(c9:Int):=(by omega);have Ay:∀u∈us.drop i,u.oneCell'=true:=λu hu=>by obtain⟨j,Mm⟩:=List.getElem?_of_mem (cL hu);obtain⟨t,F1,_,ll,_⟩:=eW.at _ _ _ j u MT.tr Mm;obtain⟨s,p,rfl⟩:=ll.iface;rfl
     have T8:=aa (f113 g9 i (us.length-i) (c9-i) (us.drop i) ((w3.alloc (.cells #[.int .i64 7,.string (bs [44])] 242)).alloc (.cells #[.int .i64 1,.int .i64 i] 259)) (by simp) (by omega) Ay (λj u hu=>lJ (i+j) u (by rw[cK]at hu;exact hu)));clear vz lJ Ay;go_wp2_with fail;refine T8.mono ?_;rintro e w4 ⟨v',rfl,gh,qS,mZ⟩;obtain⟨a4,c4,hv4,_,_⟩:=d' gh;obtain⟨z2,z3,G5,mW⟩:=MT.fold rA mZ gh false;obtain⟨u5,hu5⟩:∃u,us[i]? =some u:=⟨us[i],ah rA⟩;rw[hu5]at z2;simp only[aM,if_false]at mW;subst hv4;have Wx:=aa mW;clear gh qS mZ mW hu5;go_wp2_with (at_builtin;refine wpList_append_lies _ rfl _ _ 237 rfl B 259 j0 (.agg #[.int .i64 0,.int .i64 0]) 2 16 underlying237 hj hy0 VC VB rfl (by decide) (.slice (some ⟨g10,0,none⟩) m Jt) m (fa lj) rfl ?qd1 ⟨w4.heap.size,0,none⟩ 1 1 [.int .i64 1,.int .i64 ((i:Int)+1)] rfl rfl ?qd2 ?qd3 (by decide) ?qd4 ?qd5 ?qd6 (w4.heap.size+1) ?qd7 ?_)
     case qd1=>exact(HOP0.out _ _ _ _ _ _ _ _ _ Wx.out).alloc _
     case qd2=>
      have:=World.news_of_block (heap_alloc_new (w4.setCell ⟨g9,i,none⟩ (.iface 263 (.slice a4 (us.length-i) c4))) (.cells #[.int .i64 1,.int .i64 ((i:Int)+1)] 259))
      (try rw[aK]at this)
      exact this
     case qd3=>intro u hu;simp only[az,ba,or_false]at hu;rcases hu with rfl|rfl<;>rfl
     case qd4=>unfold maxLen;omega
     case qd5=>omega
     case qd6=>have h1:=Wx.lex.base;have h2:=Wx.lex.lt.1;simp at h2⊢;omega
     case qd7=>simp
     intro g cap w6 ho6 hg6 SE hl6;have Zv:=(Wx.grown (w1:=((w4.setCell ⟨g9,i,none⟩ (.iface 263 (.slice a4 (us.length-i) c4)))).alloc (.cells #[.int .i64 1,.int .i64 ((i:Int)+1)] 259)) (by go_grown)).QY (ops':=(false,i+1)::lj) (vop':=.slice (some ⟨g,0,none⟩) (m+1) cap) hg6 (by
      have h:=ho6;have e:fa ((false,i+1)::lj)=fa lj++[.int .i64 1,.int .i64 ((i:Int)+1)]:=by simp only[fa];rfl
      rw[e,show((false,i+1)::lj).length=m+1 by rw[HM.1];rfl];exact h) (λx hx=>by
      simp only[jY,aE]at hx;subst hx;rcases SE with e|e
      ·exact .inl (f'.2 e)
      ·right;rw[ab];(try rw[aK]);omega)
     clear ho6 hg6 SE hl6;have e9:st.take i++[T.dH (st.drop i)]=st.take i++[lH (st.drop i)]:=by rw[Vr (λe=>by have h8:=congrArg List.length e;rw[bT,aG]at h8;have h9:=HM.2.2;omega)]
     rw[e9]at Zv;have HQ:=aa (td.out _ _ _ _ _ _ _ _ _ Zv);clear Zv e9;go_wp2_with fail;go_roundg R.length
     case measure=>exact UJ.out
     case rel=>exact⟨R,tl',FC,Fo,qO,uC,_,_,_,_,rfl,HQ⟩
    ·have hie:i=us.length:=(by have:=HIL.out;have:=HM.2.2;omega);have y6:((i:Int)==(us.length:Int))=true:=by rw[beq_iff_eq];omega
     have HIE:=aa hie;clear hie;go_wp2_with (at_builtin;refine wpList_append_lies _ rfl _ _ 236 rfl B 153 i0 .nilIface 1 16 underlying236 hi gD gB gF rfl (by decide) (.slice a9 us.length c9) us.length us rfl ?lG ⟨w3.heap.size+1+1+1,0,none⟩ 1 1 [.iface 260 (.pointer (some ⟨w3.heap.size+1+1,0,none⟩))] rfl rfl ?lF ?lE (by decide) ?lD ?lC ?lB (w3.heap.size+1+1+1+1) ?my ?_)
     case lG=>exact(MT.BD.alloc _).alloc _
     case lF=>have:=World.news_of_block (heap_alloc_new (((w3.alloc (.cells #[.int .i64 7,.string (bs [44])] 242)).alloc (.cells #[.int .i64 1,.int .i64 i] 259)).alloc (.cells #[] 262)) (.cells #[.iface 260 (.pointer (some ⟨w3.heap.size+1+1,0,none⟩))] 153));rw[ab,ab,ab]at this;exact this
     case lE=>intro u hu;simp only[aE]at hu;subst hu;rfl
     case lD=>unfold maxLen;omega
     case lC=>omega
     case lB=>have h1:=MT.lex.base;have h2:=MT.lex.lt.1;simp at h2⊢;omega
     case my=>simp
     intro g9 PV w4 Hg Hl rE EG;have hp5:=MT.push (wa:=((((w3.alloc (.cells #[.int .i64 7,.string (bs [44])] 242)).alloc (.cells #[.int .i64 1,.int .i64 i] 259)).alloc (.cells #[] 262)).alloc (.cells #[.iface 260 (.pointer (some ⟨w3.heap.size+1+1,0,none⟩))] 153))) (t:=.void) (v:=.iface 260 (.pointer (some ⟨w3.heap.size+1+1,0,none⟩))) (F:=[]) (by go_grown) (by simp[Tr]) (by simp) (by simp) Hg Hl (by simpa using rE) EG;have Wx:=aa hp5;clear Hg Hl rE EG hp5;go_wp2_with (at_builtin;refine wpList_append_lies _ rfl _ _ 237 rfl B 259 j0 (.agg #[.int .i64 0,.int .i64 0]) 2 16 underlying237 hj hy0 VC VB rfl (by decide) (.slice (some ⟨g10,0,none⟩) m Jt) m (fa lj) rfl ?qd1 ⟨w4.heap.size,0,none⟩ 1 1 [.int .i64 1,.int .i64 ((us.length:Int)+1)] rfl rfl ?qd2 ?qd3 (by decide) ?qd4 ?qd5 ?qd6 (w4.heap.size+1) ?qd7 ?_)
     case qd1=>exact(HOP0.out _ _ _ _ _ _ _ _ _ Wx.out).alloc _
     case qd2=>
      have:=World.news_of_block (heap_alloc_new w4 (.cells #[.int .i64 1,.int .i64 ((us.length:Int)+1)] 259))
      (try rw[aK]at this)
      exact this
     case qd3=>intro u hu;simp only[az,ba,or_false]at hu;rcases hu with rfl|rfl<;>rfl
     case qd4=>unfold maxLen;omega
     case qd5=>omega
     case qd6=>have h1:=Wx.lex.base;have h2:=Wx.lex.lt.1;simp at h2⊢;omega
     case qd7=>simp
     intro g cap w6 ho6 hg6 SE hl6;have Zv:=(Wx.grown (w1:=(w4).alloc (.cells #[.int .i64 1,.int .i64 ((us.length:Int)+1)] 259)) (by go_grown)).QY (ops':=(false,i+1)::lj) (vop':=.slice (some ⟨g,0,none⟩) (m+1) cap) hg6 (by
      have h:=ho6;have e:fa ((false,i+1)::lj)=fa lj++[.int .i64 1,.int .i64 ((us.length:Int)+1)]:=by simp only[fa];rw[HIE.out];rfl
      rw[e,show((false,i+1)::lj).length=m+1 by rw[HM.1];rfl];exact h) (λx hx=>by
      simp only[jY,aE]at hx;subst hx;rcases SE with e|e
      ·exact .inl (f'.2 e)
      ·right;rw[ab];(try rw[aK]);omega)
     clear ho6 hg6 SE hl6;have e9:st++[T.void]=st.take i++[lH (st.drop i)]:=by have h9:=HM.2.2;have h8:=HIE.out;rw[aP (by omega),aL (by omega)];rfl
     rw[e9]at Zv;have HQ:=aa (td.out _ _ _ _ _ _ _ _ _ Zv);clear Zv e9;go_wp2_with fail;go_roundg R.length
     case measure=>exact UJ.out
     case rel=>exact⟨R,tl',FC,Fo,qO,uC,_,_,_,_,rfl,HQ⟩
   |py=>
    as_aux_lemma=>
    simp only[oB,aX,aQ]at hp;obtain⟨m,hm,rfl,rfl⟩:=hp;have MR:Hid (k7 false (-1) (-1) none ts=some m/\∀t∈ts,dV t.str/\t.str.length<=1000000):=aa ⟨hm,λtq htq=>by have h1:=Oc (t:=tq) HI.out (eM HX.1 HJ.at'.lex.eP) tq htq;have h2:=HJ.stl;have h3:=HX.2.2.1;exact⟨h1.1,by omega⟩⟩;clear hm;go_wp2_with fail;refine qY.mono ?_;rintro e w3 ⟨rfl,FC,Fo,qO,uC,k1,k2⟩;have ow:=HJ.at'.rq k1 k2;rw[HV.1,HV.2]at ow;have HP:=aa (ow.grown (w1:=w3.alloc (.cells #[.int .i64 8,.string (bs [91])] 242)) (by go_grown));have Yq:=aa (f112 m HP.lex (HTJ.out _ HP.below) h31 (λt ht=>(MR.2 t ht).1) (λt ht=>(MR.2 t ht).2) MR.1);clear k1 k2 ow;obtain⟨i0,hi,gD,gB,gF⟩:=info_parts fG;go_wp2_with fail;refine Yq.mono ?_;rintro e w4 ⟨v,F,vq4,rfl,ll,Z8,hFl,k3,k4⟩;obtain⟨si,pi,rfl⟩:=ll.iface;have TZ:=aa (HP.rq k3 k4);have HF:=jS ll Z8 hFl;clear ll Z8 hFl k3 k4;go_wp2_with (at_builtin;refine wpList_append_lies _ rfl _ _ 236 rfl B 153 i0 .nilIface 1 16 underlying236 hi gD gB gF rfl (by decide) (.slice a9 us.length c9) us.length us rfl ?lG ⟨w4.heap.size,0,none⟩ 1 1 [.iface si pi] rfl rfl ?lF ?lE (by decide) ?lD ?lC ?lB (w4.heap.size+1) ?my ?_)
    case lG=>exact TZ.BD.alloc _
    case lF=>exact World.news_of_block (heap_alloc_new w4 (.cells #[.iface si pi] 153))
    case lE=>intro u hu;simp only[aE]at hu;subst hu;rfl
    case lD=>unfold maxLen;omega
    case lC=>omega
    case lB=>have h1:=TZ.lex.base;have h2:=TZ.lex.lt.1;simp;omega
    case my=>simp
    intro g cap w5 ho5 hg5 SF XI;have EE:=TZ.push (wa:=w4.alloc (.cells #[.iface si pi] 153)) (t:=m) (F:=F) (by go_grown) (Tr.keep (λb hb=>heap_alloc_old _ _ (by have h1:=TZ.lex.base;have h2:=TZ.lex.lt.1;omega)) m _ F HF.1 λb hb=>heap_alloc_old _ _ (HF.2.2 b hb).2.1) HF.2.1 (λx hx=>by
     obtain⟨f1,f2,f3⟩:=HF.2.2 x hx;have jh:=HP.all;refine⟨λe=> ?_,by have h1:=HP.lex.base;have h2:=HP.lex.lt.1;omega,by rw[ab];omega⟩;simp only[az,ar]at e;rcases e with e|e|e|e|e
     ·have:=(jh L (by simp)).2;omega
     ·exact f3 (f'.1 e)
     ·have:=(jh x (by simp[e])).2;omega
     ·have:=(jh x (by simp[e])).2;omega
     ·have:=(jh x (by simp[e])).2;omega) ho5 hg5 (by rw[ab];exact SF) XI
    have HQ:=aa (td.out _ _ _ _ _ _ _ _ _ EE);clear ho5 hg5 SF XI EE;go_wp2_with fail;go_roundg R.length
    case measure=>exact UJ.out
    case rel=>exact⟨R,tl',vq4,Fo,qO,uC,_,_,_,_,rfl,HQ⟩
   |jz=>exact absurd hp (by simp[oB])
   |lo _=>exact absurd hp (by simp[oB])
   |hi _=>exact absurd hp (by simp[oB])
   |PW=>exact absurd hp (by simp[oB])
   |uc=>
    as_aux_lemma=>
    cases ts with
    |cons _ _=>exact absurd hp (by simp[oB])
    |nil=>
    simp only[oB,ae,aQ]at hp;obtain⟨rfl,rfl⟩:=hp;go_wp2_with fail;refine qY.mono ?_;rintro e w3 ⟨rfl,FC,Fo,qO,uC,k1,k2⟩;have ow:=HJ.at'.rq k1 k2;rw[HV.1,HV.2]at ow;have HP:=aa (ow.grown (w1:=w3.alloc (.cells #[.int .i64 13,.string (bs [123])] 242)) (by go_grown));clear k1 k2 ow;obtain⟨i0,hi,gD,gB,gF⟩:=info_parts Tryz.L9;go_wp2_with (at_builtin;refine wpList_append_lies _ rfl _ _ 237 rfl B 259 i0 (.agg #[.int .i64 0,.int .i64 0]) 2 16 underlying237 hi gD gB gF rfl (by decide) (.slice a10 Xd Jt) Xd (fa ops) rfl ?lG ⟨w3.heap.size+1,0,none⟩ 2 2 [.int .i64 0,.int .i64 us.length,.int .i64 1,.int .i64 us.length] rfl rfl ?lF ?lE (by decide) ?lD ?lC ?lB (w3.heap.size+1+1) ?my ?_)
    case lG=>have h:=HP.Jj.alloc (.cells #[.int .i64 0,.int .i64 us.length,.int .i64 1,.int .i64 us.length] 259);rw[<-T3.out]at h;exact h
    case lF=>have:=World.news_of_block (heap_alloc_new (w3.alloc (.cells #[.int .i64 13,.string (bs [123])] 242)) (.cells #[.int .i64 0,.int .i64 us.length,.int .i64 1,.int .i64 us.length] 259));rw[ab]at this;exact this
    case lE=>intro u hu;simp only[az,ba,or_false]at hu;rcases hu with rfl|rfl|rfl|rfl<;>rfl
    case lD=>unfold maxLen;omega
    case lC=>omega
    case lB=>have h1:=HP.lex.base;have h2:=HP.lex.lt.1;rw[ab]at h2;simp;omega
    case my=>simp
    intro g cap w4 Hg Hl rE EG;have hul2:=HP.len;have EE:=(HP.grown (w1:=(w3.alloc (.cells #[.int .i64 13,.string (bs [123])] 242)).alloc (.cells #[.int .i64 0,.int .i64 us.length,.int .i64 1,.int .i64 us.length] 259)) (by go_grown)).QY (ops':=(false,st.length)::(true,st.length)::ops) (vop':=.slice (some ⟨g,0,none⟩) (Xd+2) cap) Hl (by rw[<-hul2];have h:=Hg;rw[T3.out]at h⊢;simpa[fa]using h) (λx hx=>by
     simp only[jY,aE]at hx;subst hx;rcases rE with e|e
     ·exact .inl (f'.2 e)
     ·right;rw[ab,ab];omega)
    have HQ:=aa (td.out _ _ _ _ _ _ _ _ _ EE);clear Hg Hl rE EG EE;go_wp2_with fail;go_roundg R.length
    case measure=>exact UJ.out
    case rel=>exact⟨R,tl',FC,Fo,qO,uC,_,_,_,_,rfl,HQ⟩
   |pW=>
    as_aux_lemma=>
    cases ts with
    |cons _ _=>exact absurd hp (by simp[oB])
    |nil=>
    cases ops with
    |nil=>exact absurd hp (by simp[oB])
    |cons o1 ops1=>
    obtain⟨k1,i⟩:=o1;cases k1 with
    |true=>exact absurd hp (by simp[oB])
    |false=>
    cases ops1 with
    |nil=>exact absurd hp (by simp[oB])
    |cons o2 lj=>
    obtain⟨k2,j⟩:=o2;cases k2 with
    |false=>exact absurd hp (by simp[oB])
    |true=>
    simp only[oB]at hp;have hij:j<=i/\i<=st.length:=by
     by_cases h:j<=i/\i<=st.length
     ·exact h
     ·rw[if_neg h]at hp;cases hp
    rw[if_pos hij]at hp;simp only[ae,aQ]at hp;obtain⟨rfl,rfl⟩:=hp;have OD:=HJ.at'.len;obtain⟨m,hm⟩:=dS lj.length;obtain⟨p,hpm⟩:=dS (m+1);have qo:((false,i)::(true,j)::lj).length=p+1:=(by rw[hpm,hm];rfl);have hnm:Xd=p+1:=T3.trans qo;subst hnm;obtain⟨g10,c10',J1,J6,OJ,hq3,hq4⟩:=iR HJ.at'.Jj (by simp);rw[qo]at J1;have GX:=HV.2.symm.trans J1;simp only[au]at GX;obtain⟨rfl,vz,rfl⟩:=GX;rw[qo]at J6;have y7:(p:Int)<=(Jt:Int):=by omega
    have y7':p<=Jt:=(by omega);have x7:(m:Int)<=(Jt:Int):=by omega
    have x7':m<=Jt:=(by omega);have x5:(m:Int)<(p:Int):=by omega
    have x1:IntKind.i64.wrap ((p:Int)-1)=(m:Int):=(by rw[aW]<;>omega);have x2:decide ((m:Int)<0)=false:=by simp
    have x3:(0:Int)<=(m:Int):=(by omega);have HM:=rr hm qo OD hpm hij;clear vz hm qo OD J1 J6 OJ hq3 hq4 hpm hij;have T2:Hid (Calls prog 110 #[.pointer (some ⟨L,0,none⟩)] wr λe w'=>e=.returned (.agg #[.int .i64 14,.string (bs [125])])/\∃fb lr' lsz' hr',er w' B L txt R tl' [] fb lr' lsz' hr'/\kA wr w' L xF fb):=qY;go_wp2_with fail;refine T2.mono ?_;rintro e w3 ⟨rfl,FC,Fo,qO,uC,k1,k2⟩;have ow:=HJ.at'.rq k1 k2;rw[HV.1,HV.2]at ow;have HP:=aa (ow.grown (w1:=w3.alloc (.cells #[.int .i64 14,.string (bs [125])] 242)) (by go_grown));clear k1 k2 ow;obtain⟨_,_,Md,_,_,nH,_⟩:=iR HP.Jj (by simp);simp only[au,ae,aY,and_true,true_and]at Md;obtain⟨rfl,vz,rfl⟩:=Md;clear vz;have z0:(w3.alloc (.cells #[.int .i64 14,.string (bs [125])] 242)).cell? ⟨g10,p*2,none⟩=some (.int .i64 1):=nH (p*2) _ (by rw[HM.2.2.2.1,HM.1,<-aH (a:=(true,j))];rw[fa,aR (by rw[en];exact af _),en,cO];rfl);have z1:(w3.alloc (.cells #[.int .i64 14,.string (bs [125])] 242)).cell? ⟨g10,p*2+1,none⟩=some (.int .i64 i):=nH (p*2+1) _ (by rw[HM.2.2.2.1,HM.1,<-aH (a:=(true,j))];rw[fa,aR (by rw[en];omega),en,dq];rfl);clear nH;have y1:IntKind.i64.wrap (((p+1:Nat):Int)-1)=(p:Int):=(by rw[aW]<;>omega);have y1':IntKind.i64.wrap ((p:Int)+1-1)=(p:Int):=by rw[show(p:Int)+1-1=(p:Int)by omega,aW]<;>omega
    have y2:decide ((p:Int)<0)=false:=(by simp);have y3:(0:Int)<=(p:Int):=by omega
    have y4:(p:Int)<(p:Int)+1:=(by omega);have y5:(p:Int)<((p+1:Nat):Int):=by omega
    have MT:=aa (HP.grown (w1:=(w3.alloc (.cells #[.int .i64 14,.string (bs [125])] 242)).alloc (.cells #[.int .i64 1,.int .i64 i] 259)) (by go_grown));have HOP1:Hid (∀(w9:World) (Uj:Value) (Uq BS:Int) (OI:Bool) (Um:List T) (BO:Value) (Uk:List Value) (G9:List Nat),rU w1 w9 B L txt R tl' [] Uj Uq BS OI Um ((false,i)::(true,j)::lj) BO (.slice (some ⟨g10,0,none⟩) (p+1) Jt) Uk G9->rU w1 w9 B L txt R tl' [] Uj Uq BS OI Um ((true,j)::lj) BO (.slice (some ⟨g10,0,none⟩) p Jt) Uk G9):=aa λw9 Uj Uq BS OI Um BO Uk G9 h=>by
     have h1:=h.Jj;rw[HM.2.1]at h1;have h2:=Ea h1 (Nat.le_succ p);have e0:((true,j)::lj).length=p:=by rw[HM.2.2.2.1,HM.1];rfl
     have e:(fa ((false,i)::(true,j)::lj)).take (p*2)=fa ((true,j)::lj):=(by rw[fa,<-e0,<-en,cR]);rw[e]at h2;exact h.QY (uN _ _) (by rw[e0];exact h2) (λx hx=>.inl hx)
    have HOP2:Hid (∀(w9:World) (Uj:Value) (Uq BS:Int) (OI:Bool) (Um:List T) (BO:Value) (Uk:List Value) (G9:List Nat),rU w1 w9 B L txt R tl' [] Uj Uq BS OI Um ((true,j)::lj) BO (.slice (some ⟨g10,0,none⟩) p Jt) Uk G9->rU w1 w9 B L txt R tl' [] Uj Uq BS OI Um lj BO (.slice (some ⟨g10,0,none⟩) m Jt) Uk G9):=aa λw9 Uj Uq BS OI Um BO Uk G9 h=>by
     have h1:=h.Jj;have e0:((true,j)::lj).length=p:=by rw[HM.2.2.2.1,HM.1];rfl
     rw[e0]at h1;have h2:=Ea h1 (show m<=p by rw[HM.2.2.2.1];omega);have e:(fa ((true,j)::lj)).take (m*2)=fa lj:=by rw[fa,HM.1,<-en,cR]
     rw[e]at h2;exact h.QY (uN _ _) (by rw[<-HM.1];exact h2) (λx hx=>.inl hx)
    obtain⟨i0,hi,gD,gB,gF⟩:=info_parts fG;go_wp2_with fail;refine wp_loop_rounds 2 ?_;rw[rounds_succ];rcases aV i us.length with rA|rA
    ·have y6:((i:Int)==(us.length:Int))=false:=(by rw[beq_eq_false_iff_ne];omega);obtain⟨g9,c9',RB,hq9,_,lJ,_⟩:=iR MT.BD (by omega);simp only[au]at RB;obtain⟨rfl,vz,rfl⟩:=RB;have y8:¬c9=i:=(by omega);have y9:(i:Int)<=(us.length:Int):=by omega
     have y10:(0:Int)<=(i:Int):=(by omega);have y11:(i:Int)<(us.length:Int):=by omega
     have y12:(i:Int)+1<=(c9:Int):=(by omega);have y13:=gW ((i:Int)+1) (by omega);have y14:(i:Int)<(c9:Int):=(by omega);have Ay:∀u∈us.drop i,u.oneCell'=true:=λu hu=>by obtain⟨j,Mm⟩:=List.getElem?_of_mem (cL hu);obtain⟨t,F1,_,ll,_⟩:=eW.at _ _ _ j u MT.tr Mm;obtain⟨s,p,rfl⟩:=ll.iface;rfl
     have T8:=aa (f113 g9 i (us.length-i) (c9-i) (us.drop i) ((w3.alloc (.cells #[.int .i64 14,.string (bs [125])] 242)).alloc (.cells #[.int .i64 1,.int .i64 i] 259)) (by simp) (by omega) Ay (λj u hu=>lJ (i+j) u (by rw[cK]at hu;exact hu)));clear vz lJ Ay;go_wp2_with fail;refine T8.mono ?_;rintro e w4 ⟨v',rfl,gh,qS,mZ⟩;obtain⟨a4,c4,hv4,_,_⟩:=d' gh;obtain⟨z2,z3,G5,mW⟩:=MT.fold rA mZ gh false;obtain⟨u5,hu5⟩:∃u,us[i]? =some u:=⟨us[i],ah rA⟩;rw[hu5]at z2;simp only[aM,if_false]at mW;subst hv4;have Qg:g9<w3.heap.size+1:=by have h:=(HP.all g9 (by simp[jY])).2;rw[ab]at h;exact h
     have xb0:w4.cell? ⟨w3.heap.size+1,0,none⟩=some (.int .i64 1):=dF mZ _ _ (by have h:=bC (w3.alloc (.cells #[.int .i64 14,.string (bs [125])] 242)) #[.int .i64 1,.int .i64 i] 259 0;rw[ab]at h;exact h);have xne:g9≠w3.heap.size+1:=(by omega);have xne':w3.heap.size+1≠g9:=by omega
     have xb1:(w4.setCell ⟨g9,i,none⟩ (.iface 263 (.slice a4 (us.length-i) c4))).cell? ⟨w3.heap.size+1,0,none⟩=some (.int .i64 1):=(by rw[aF (w:=w4) (a:=⟨w3.heap.size+1,0,none⟩) (aq w4 ⟨g9,i,none⟩ _ _ xne')];exact xb0);obtain⟨W5,yF⟩:=dS (w4.setCell ⟨g9,i,none⟩ (.iface 263 (.slice a4 (us.length-i) c4)));obtain⟨kB,Ez⟩:=dS (us.take i++[Value.iface 263 (.slice a4 (us.length-i) c4)]);obtain⟨sH,qP⟩:=dS (st.take i++[T.dH (st.drop i)]);rw[<-yF,<-Ez,<-qP]at mW;obtain⟨n1,tF⟩:=dS (i+1);have ov:Hid (kB.length=n1/\j<n1/\sH=st.take i++[T.dH (st.drop i)]/\n1<=1000001):=aa ⟨by rw[Ez,aj,bn,tF];simp;omega,by have:=HM.2.2.2.2;omega,qP,by omega⟩;have Ww:=aa (HOP1.out _ _ _ _ _ _ _ _ _ mW);have HW5:=eo yF tF;clear gh qS mZ mW hu5 Ez qP yF tF Qg;go_wp2_with fail;rw[rounds_succ];rw[<-HW5.1,<-HW5.2];obtain⟨_,_,Md,J6,OJ,nH,_⟩:=iR Ww.Jj (by simp);simp only[au,ae,aY,and_true,true_and]at Md;obtain⟨rfl,vz,rfl⟩:=Md;have q0:W5.cell? ⟨g10,m*2,none⟩=some (.int .i64 0):=nH (m*2) _ (by rw[HM.1,fa,aR (by rw[en];exact af _),en,cO];rfl);have q1:W5.cell? ⟨g10,m*2+1,none⟩=some (.int .i64 j):=nH (m*2+1) _ (by rw[HM.1,fa,aR (by rw[en];omega),en,dq];rfl);obtain⟨_,_,RB,Zp,_,lJ,_⟩:=iR Ww.BD (by have:=ov.out;omega);simp only[au,ae,aY,and_true,true_and]at RB;obtain⟨rfl,qI,rfl⟩:=RB;rw[ov.1]at Zp;have gM:j<n1:=ov.2.1;have hn6:n1<=1000001:=ov.2.2.2;have v8:¬c9=j:=by omega
     have v9:(j:Int)<=(n1:Int):=(by omega);have v10:(0:Int)<=(j:Int):=by omega
     have v11:(j:Int)<(n1:Int):=(by omega);have v12:(j:Int)+1<=(c9:Int):=by omega
     have v13:=gW ((j:Int)+1) (by omega);have v14:(j:Int)<(c9:Int):=by omega
     have v6:((j:Int)==(n1:Int))=false:=(by rw[beq_eq_false_iff_ne];omega);have HP7:=aa (Ww.grown (w1:=W5.alloc (.cells #[.int .i64 0,.int .i64 j] 259)) (by go_grown));have Ay:∀u∈kB.drop j,u.oneCell'=true:=λu hu=>by obtain⟨j',Mm⟩:=List.getElem?_of_mem (cL hu);obtain⟨t,F1,_,ll,_⟩:=eW.at _ _ _ j' u HP7.tr Mm;obtain⟨s,p,rfl⟩:=ll.iface;rfl
     have HCL3:=aa (f113 g9 j (n1-j) (c9-j) (kB.drop j) (W5.alloc (.cells #[.int .i64 0,.int .i64 j] 259)) (by rw[bT,ov.1]) (by omega) Ay (λj' u hu=>dJ (lJ (j+j') u (by rw[cK]at hu;exact hu)) _));clear vz qI lJ Ay nH J6 OJ;go_wp2_with fail;refine HCL3.mono ?_;rintro e w7 ⟨v',rfl,gh,qS,tH⟩;obtain⟨a7,c7,hv7,_,_⟩:=d' gh;obtain⟨s2,s3,G7,mW⟩:=HP7.fold (i:=j) (by rw[ov.1];exact gM) tH (by rw[ov.1];exact gh) true;obtain⟨u7,OE⟩:∃u,kB[j]? =some u:=⟨kB[j]'(by rw[ov.1];exact gM),ah _⟩;rw[OE]at s2;simp only[if_true]at mW;subst hv7;have ZJ:g9<W5.heap.size:=(Ww.all g9 (by simp[jY])).2;have wb0:w7.cell? ⟨W5.heap.size,0,none⟩=some (.int .i64 0):=dF tH _ _ (bC W5 #[.int .i64 0,.int .i64 j] 259 0);have wne:g9≠W5.heap.size:=by omega
     have Yx:W5.heap.size≠g9:=(by omega);have wb1:(w7.setCell ⟨g9,j,none⟩ (.iface 265 (.slice a7 (n1-j) c7))).cell? ⟨W5.heap.size,0,none⟩=some (.int .i64 0):=by rw[aF (w:=w7) (a:=⟨W5.heap.size,0,none⟩) (aq w7 ⟨g9,j,none⟩ _ _ Yx)];exact wb0
     have qP:sH.take j++[T.alt (sH.drop j)]=st.take j++[T.alt ((st.take i).drop j++[T.dH (st.drop i)])]:=by
      obtain⟨h1,h2,h3,h4,h5⟩:=HM.out;have hl:(st.take i).length=i:=by rw[bn];omega
      rw[ov.2.2.1,cP (by omega),List.drop_append_of_le_length (by omega),List.take_take,cD h5.1]
     have Zu:=HOP2.out _ _ _ _ _ _ _ _ _ mW;rw[qP]at Zu;have HQ:=aa (td.out _ _ _ _ _ _ _ _ _ Zu);clear gh qS tH mW OE qP Zu ZJ;go_wp2_with fail;go_roundg R.length
     case measure=>exact UJ.out
     case rel=>exact⟨R,tl',FC,Fo,qO,uC,_,_,_,_,rfl,HQ⟩
    ·obtain rfl:i=us.length:=by have h:=HM.out;omega
     have y6:((us.length:Int)==(us.length:Int))=true:=(by rw[beq_iff_eq]);have y10:(0:Int)<=(us.length:Int):=by omega
     have hc9:us.length<=c9:=(by obtain⟨_,_,e,h1,h2⟩:=d' MT.BD;simp only[au]at e;obtain⟨_,_,rfl⟩:=e;exact h1);have y14:(us.length:Int)<=(c9:Int):=(by omega);obtain⟨A,hA⟩:∃A,(if c9=us.length then a9 else Option.map (λx=>x.add us.length) a9)=A:=⟨_,rfl⟩;have ka:Calls prog 113 #[.slice A 0 (c9-us.length)] ((w3.alloc (.cells #[.int .i64 14,.string (bs [125])] 242)).alloc (.cells #[.int .i64 1,.int .i64 us.length] 259)) λe w'=>∃a' c',e=.returned (.slice a' 0 c')/\Below ((w3.alloc (.cells #[.int .i64 14,.string (bs [125])] 242)).alloc (.cells #[.int .i64 1,.int .i64 us.length] 259)).heap.size ((w3.alloc (.cells #[.int .i64 14,.string (bs [125])] 242)).alloc (.cells #[.int .i64 1,.int .i64 us.length] 259)) w':=by
      have hsh:a9=none\/∃g,a9=some ⟨g,0,none⟩:=by
       rcases MT.BD.2 with⟨e,_⟩|⟨g,cap,cur,e,_⟩
       ·simp only[au]at e;exact .inl e.1
       ·simp only[au]at e;exact .inr ⟨g,e.1⟩
      have hsA:A=none\/∃g o,A=some ⟨g,o,none⟩:=by
       rw[<-hA];rcases hsh with rfl|⟨g,rfl⟩
       ·left;split<;>rfl
       ·right;split
        ·exact⟨g,0,rfl⟩
        ·exact⟨g,0+us.length,by cases us<;>simp[Addr.add]⟩
      rcases hsA with rfl|⟨g,o,rfl⟩
      ·refine(f113n 0 (c9-us.length) _).mono ?_;rintro e w' ⟨rfl,rfl⟩;exact⟨none,0,rfl,ay _ _⟩
      ·refine(f113 g o 0 (c9-us.length) [] _ rfl (by decide) (by simp) (by simp)).mono ?_;rintro e w' ⟨v',rfl,gh,_,hb⟩;obtain⟨a',c',rfl,_,_⟩:=d' gh;exact⟨a',c',rfl,hb⟩
     have T8:=aa ka;clear ka;go_wp2_with fail;refine T8.mono ?_;rintro e w4 ⟨a4,c4,rfl,mZ⟩;have xb0:w4.cell? ⟨w3.heap.size+1,0,none⟩=some (.int .i64 1):=dF mZ _ _ (by have h:=bC (w3.alloc (.cells #[.int .i64 14,.string (bs [125])] 242)) #[.int .i64 1,.int .i64 us.length] 259 0;rw[ab]at h;exact h);have hp4:=MT.grown mZ;have TZ:=aa hp4;have OG:w3.heap.size+1+1<=w4.heap.size:=(by have h:=mZ.size;rw[ab,ab]at h;exact h);have HS4:=aa OG;clear hp4 mZ OG;go_wp2_with (at_builtin;refine wpList_append_lies _ rfl _ _ 236 rfl B 153 i0 .nilIface 1 16 underlying236 hi gD gB gF rfl (by decide) (.slice a9 us.length c9) us.length us rfl ?lG ⟨w4.heap.size,0,none⟩ 1 1 [.iface 263 (.slice a4 0 c4)] rfl rfl ?lF ?lE (by decide) ?lD ?lC ?lB (w4.heap.size+1) ?my ?_)
     case lG=>exact TZ.BD.alloc _
     case lF=>exact World.news_of_block (heap_alloc_new w4 (.cells #[.iface 263 (.slice a4 0 c4)] 153))
     case lE=>intro u hu;simp only[aE]at hu;subst hu;rfl
     case lD=>unfold maxLen;omega
     case lC=>omega
     case lB=>have h1:=TZ.lex.base;have h2:=TZ.lex.lt.1;simp;omega
     case my=>simp
     intro g9 c9' w5 ho5 hg5 SF XI;have hp5:=TZ.push (wa:=w4.alloc (.cells #[.iface 263 (.slice a4 0 c4)] 153)) (t:=.dH []) (v:=.iface 263 (.slice a4 0 c4)) (F:=[]) (by go_grown) (by simp only[Tr];exact⟨_,[],[],[],rfl,rfl,.inl ⟨rfl,rfl,_,_,rfl⟩,by simp[eW]⟩) (by simp) (by simp) ho5 hg5 (by rw[ab];exact SF) XI;have xb1:w5.cell? ⟨w3.heap.size+1,0,none⟩=some (.int .i64 1):=by
      have h1:some (w3.heap.size+1)≠(Value.slice a9 us.length c9).ownBlock:=λe=>by have h:=(HP.BD.lt _ e.symm).2;rw[ab]at h;omega
      have h2:=hg5.block (w3.heap.size+1) (by rw[ab];have:=HS4.out;omega) h1;rw[aF (w:=w4.alloc (.cells #[.iface 263 (.slice a4 0 c4)] 153)) (a:=⟨w3.heap.size+1,0,none⟩) h2];exact dJ xb0 _
     obtain⟨kB,Ez⟩:=dS (us++[Value.iface 263 (.slice a4 0 c4)]);obtain⟨sH,qP⟩:=dS (st++[T.dH []]);obtain⟨n1,tF⟩:=dS (us.length+1);rw[<-Ez,<-qP,<-tF]at hp5;have ov:Hid (kB.length=n1/\j<n1/\sH=st.take us.length++[T.dH (st.drop us.length)]/\n1<=1000001):=aa ⟨by rw[Ez,tF];simp,by have:=HM.2.2.2.2;omega,by have h:=HM.2.2.1;rw[qP,aP (by omega),aL (by omega)],by omega⟩;have Ww:=aa (HOP1.out _ _ _ _ _ _ _ _ _ hp5);have HN1:=aa tF;clear ho5 hg5 SF XI hp5 Ez qP tF;go_wp2_with fail;rw[rounds_succ];rw[<-HN1.out];clear hc9 y14;obtain⟨_,_,Md,J6,OJ,nH,_⟩:=iR Ww.Jj (by simp);simp only[au,ae,aY,and_true,true_and]at Md;obtain⟨rfl,vz,rfl⟩:=Md;have q0:w5.cell? ⟨g10,m*2,none⟩=some (.int .i64 0):=nH (m*2) _ (by rw[HM.1,fa,aR (by rw[en];exact af _),en,cO];rfl);have q1:w5.cell? ⟨g10,m*2+1,none⟩=some (.int .i64 j):=nH (m*2+1) _ (by rw[HM.1,fa,aR (by rw[en];omega),en,dq];rfl);obtain⟨_,_,RB,Zp,_,lJ,_⟩:=iR Ww.BD (by have:=ov.out;omega);simp only[au,ae,aY,and_true,true_and]at RB;obtain⟨rfl,qI,rfl⟩:=RB;rw[ov.1]at Zp;have gM:j<n1:=ov.2.1;have hn6:n1<=1000001:=ov.2.2.2;have v8:¬c9'=j:=by omega
     have v9:(j:Int)<=(n1:Int):=(by omega);have v10:(0:Int)<=(j:Int):=by omega
     have v11:(j:Int)<(n1:Int):=(by omega);have v12:(j:Int)+1<=(c9':Int):=by omega
     have v13:=gW ((j:Int)+1) (by omega);have v14:(j:Int)<(c9':Int):=by omega
     have v6:((j:Int)==(n1:Int))=false:=(by rw[beq_eq_false_iff_ne];omega);have HP7:=aa (Ww.grown (w1:=w5.alloc (.cells #[.int .i64 0,.int .i64 j] 259)) (by go_grown));have Ay:∀u∈kB.drop j,u.oneCell'=true:=λu hu=>by obtain⟨j',Mm⟩:=List.getElem?_of_mem (cL hu);obtain⟨t,F1,_,ll,_⟩:=eW.at _ _ _ j' u HP7.tr Mm;obtain⟨s,p,rfl⟩:=ll.iface;rfl
     have HCL3:=aa (f113 g9 j (n1-j) (c9'-j) (kB.drop j) (w5.alloc (.cells #[.int .i64 0,.int .i64 j] 259)) (by rw[bT,ov.1]) (by omega) Ay (λj' u hu=>dJ (lJ (j+j') u (by rw[cK]at hu;exact hu)) _));clear vz qI lJ Ay nH J6 OJ;go_wp2_with fail;refine HCL3.mono ?_;rintro e w7 ⟨v',rfl,gh,qS,tH⟩;obtain⟨a7,c7,hv7,_,_⟩:=d' gh;obtain⟨s2,s3,G7,mW⟩:=HP7.fold (i:=j) (by rw[ov.1];exact gM) tH (by rw[ov.1];exact gh) true;obtain⟨u7,OE⟩:∃u,kB[j]? =some u:=⟨kB[j]'(by rw[ov.1];exact gM),ah _⟩;rw[OE]at s2;simp only[if_true]at mW;subst hv7;have ZJ:g9<w5.heap.size:=(Ww.all g9 (by simp[jY])).2;have wb0:w7.cell? ⟨w5.heap.size,0,none⟩=some (.int .i64 0):=dF tH _ _ (bC w5 #[.int .i64 0,.int .i64 j] 259 0);have wne:g9≠w5.heap.size:=by omega
     have Yx:w5.heap.size≠g9:=(by omega);have wb1:(w7.setCell ⟨g9,j,none⟩ (.iface 265 (.slice a7 (n1-j) c7))).cell? ⟨w5.heap.size,0,none⟩=some (.int .i64 0):=by rw[aF (w:=w7) (a:=⟨w5.heap.size,0,none⟩) (aq w7 ⟨g9,j,none⟩ _ _ Yx)];exact wb0
     have qP:sH.take j++[T.alt (sH.drop j)]=st.take j++[T.alt ((st.take us.length).drop j++[T.dH (st.drop us.length)])]:=by
      obtain⟨h1,h2,h3,h4,h5⟩:=HM.out;have hl:(st.take us.length).length=us.length:=by rw[bn];omega
      rw[ov.2.2.1,cP (by omega),List.drop_append_of_le_length (by omega),List.take_take,cD h5.1]
     have Zu:=HOP2.out _ _ _ _ _ _ _ _ _ mW;rw[qP]at Zu;have HQ:=aa (td.out _ _ _ _ _ _ _ _ _ Zu);clear gh qS tH mW OE qP Zu ZJ;go_wp2_with fail;go_roundg R.length
     case measure=>exact UJ.out
     case rel=>exact⟨R,tl',FC,Fo,qO,uC,_,_,_,_,rfl,HQ⟩
end Go.Proofs.YtfejflhgaphilaaGreatDoor
