/- A class is parsed, off the lexer's queue. What the compiler of patterns makes of a tree, and that it matches the same. -/
import Derived.Test.YtfejflhgaphilaaGreatDoorC14
import Derived.Maps.Views
import Derived.Maps.OwnSet
import Derived.Test.YtfejflhgaphilaaGreatDoorC02
set_option linter.all false
set_option maxRecDepth 100000
set_option maxHeartbeats 64000000
open Go.Proofs.Tryz
namespace Go.Proofs.YtfejflhgaphilaaGreatDoor
open Go.RowKit Go.Maps Gm
def k7:Bool->Int->Int->Option (List dE)->List Tok->Option T
 |_,_,_,_,[]=>none
 |n,lo,hi,cs,.jz::q=>if q.isEmpty then(if 0<=lo/\0<=hi then(match cs with|none=>some (.range lo hi n)|some _=>none)else match cs with|none=>none|some D=>some (.set D n))else none
 |_,lo,hi,cs,.not::q=>k7 true lo hi cs q
 |n,_,hi,cs,.lo c::q=>k7 n (c:Nat) hi cs q
 |n,lo,_,cs,.hi c::q=>if((c:Nat):Int)<lo then none else k7 n lo (c:Nat) cs q
 |n,lo,hi,cs,.PW::q=>k7 n lo hi cs q
 |n,lo,hi,cs,.text D::q=>(match cs with|none=>k7 n lo hi (some D) q|some _=>none)
 |_,_,_,_,_::_=>none
def lg (cs:List dE):DataW Unit:=setOf (.agg []) (cs.map λc=>Lit.int .i32 ((c:Nat):Int))
theorem Hx (cs:List dE) (c:Nat):Maps.has (lg cs) (.int .i32 (c:Int))=cs.contains c:=by
 unfold lg;rw[has_setOf _ _ _ (by intro x hx;obtain⟨c,_,rfl⟩:=dB.1 hx;trivial)];rw[List.any_map]
 induction cs with
 |nil=>rfl
 |cons d cs ih=>
  rw[List.any_cons,ih,List.contains_cons];congr 1;simp only[Function.comp,Lit.sameKey,true_and];rw[bO];simp only[decide_eq_true_eq,beq_iff_eq];constructor
  ·intro h;exact(dC h).symm
  ·intro h;exact congrArg Int.ofNat h.symm
theorem D3 (cs:List dE) (c:Nat):lg (cs++[c])=(lg cs).put (.int .i32 ((c:Nat):Int)) (.agg []):=by unfold lg;rw[cM,cX,cH,setOf_snoc]
def K6 (w:World) (B0:Nat) (v:Value) (cs:Option (List dE)):Prop:=match cs with
 |none=>v=.map none
 |some D=>∃mb,v=.map (some mb)/\B0<=mb/\∃n,w.ownsMap prog 21 unitElem mb n (lg D)
structure WJ (w wr:World) (B L:Nat) (txt rest:List dE) (tl:Nat) (vq:Value) (cs:Option (List dE)) (vc:Value) (qk:List Tok) (xE:Value) (lr gI:Int) (hr:Bool):Prop where
 lex:er wr B L txt rest tl qk xE lr gI hr
 fr:kA w wr L vq xE
 cs:K6 wr w.heap.size vc cs
 apart:∀mb,vc=.map (some mb)->xE.ownBlock≠some mb
 ok:∀t∈qk,dV t.str
 short:∀t∈qk,t.str.length<=1000000
theorem K6.keep {w w':World} {B0:Nat} {v:Value} {cs:Option (List dE)} (h:K6 w B0 v cs) (hs:∀mb,v=.map (some mb)->w'.heap[mb]? =w.heap[mb]?):K6 w' B0 v cs:=by
 cases cs with
 |none=>exact h
 |some D=>obtain⟨mb,rfl,h1,n,es,ck,h2,h3⟩:=h;exact⟨mb,rfl,h1,n,es,ck,(hs mb rfl).trans h2,h3⟩
theorem K6.lt {w:World} {B0:Nat} {v:Value} {cs:Option (List dE)} (h:K6 w B0 v cs):∀mb,v=.map (some mb)->B0<=mb/\mb<w.heap.size:=by
 intro mb e;cases cs with
 |none=>rw[show v=.map none from h]at e;cases e
 |some D=>obtain⟨mb',rfl,h1,n,h2⟩:=h;cases e;exact⟨h1,h2.lt⟩
section
variable {w:World} {B L tl:Nat} {txt rest:List dE} {q:List Tok} {vq:Value} {lr gI:Int} {hr:Bool}
theorem WJ.take {wr:World} {cs:Option (List dE)} {vc:Value} {tk:Tok} {qk:List Tok} {xE:Value} (HL:WJ w wr B L txt rest tl vq cs vc (tk::qk) xE lr gI hr) {w1:World} {xF:Value} (k1:er w1 B L txt rest tl qk xF lr gI hr) (k2:kA wr w1 L xE xF) (hL:L<w.heap.size) (o:Obj):WJ w (w1.alloc o) B L txt rest tl vq cs vc qk xF lr gI hr:=by
 have ka:=HL.cs.lt;have h1:K6 w1 w.heap.size vc cs:=HL.cs.keep λmb e=>k2.fo.same mb (ka mb e).2 λh=>by
  rcases h with h|h
  ·have:=(ka mb e).1;omega
  ·exact HL.apart mb e h
 refine⟨k1.below (by go_grown),(HL.fr.trans k2).trans (kA.ft (by go_grown)),h1.keep λmb e=>heap_alloc_old _ _ (h1.lt mb e).2,(λmb e h=> ?_),λt ht=>HL.ok t (bJ _ ht),λt ht=>HL.short t (bJ _ ht)⟩;rcases k2.own mb h with h|h
 ·exact HL.apart mb e h
 ·have:=(ka mb e).2;omega
theorem WJ.drew {wr:World} {cs:Option (List dE)} {vc:Value} {qk:List Tok} {xE:Value} (HL:WJ w wr B L txt rest tl vq cs vc qk xE lr gI hr) {w1:World} (hb:Below wr.heap.size wr w1):WJ w w1 B L txt rest tl vq cs vc qk xE lr gI hr:=⟨HL.lex.below hb,HL.fr.trans (kA.ft hb),HL.cs.keep λmb e=>hb.block mb (HL.cs.lt mb e).2,HL.apart,HL.ok,HL.short⟩
theorem f112 (t:T) (h:er w B L txt rest tl q vq lr gI hr) (hT:fE w) (nI:3<=B) (ez:∀t∈q,dV t.str) (hlen:∀t∈q,t.str.length<=1000000) (he:k7 false (-1) (-1) none q=some t):Calls prog 112 #[.pointer (some ⟨L,0,none⟩)] w λe w'=>∃v F fb,e=.returned (.tuple #[v,.nilIface])/\Tr w' B t v F/\F.Nodup/\(∀x∈F,w.heap.size<=x/\x<w'.heap.size/\fb.ownBlock≠some x)/\er w' B L txt rest tl [] fb lr gI hr/\kA w w' L vq fb:=by
 have R6:= @run_makeMap prog;have Z6:=h.lt.1;have hqB:∀b,vq.ownBlock=some b->B<=b:=λb hb=>(h.lt.2 b hb).1;have KV:=aa hqB;have Kk:=h.base;have H:=eo (show WJ w w B L txt rest tl vq none (.map none) q vq lr gI hr from⟨h,kA.refl _ _ _,rfl,(λ_ e=>by cases e),ez,hlen⟩) he;clear h ez he hqB hlen;go_enter func112,ntmps112;go_wp2_with fail;go_loopg [4,5,6,7] q.length (λk s4 s5 s6 s7 wr=>∃(n:Bool) (lo hi:Int) (cs:Option (List dE)) (qk:List Tok) (xE:Value),k=qk.length/\s4=.bool n/\s5=.int .i32 lo/\s6=.int .i32 hi/\Hid (WJ w wr B L txt rest tl vq cs s7 qk xE lr gI hr/\k7 n lo hi cs qk=some t))
 case atStart=>exact⟨false, -1, -1,none,q,vq,rfl,rfl,rfl,rfl,H.out⟩
 case round=>
  obtain⟨n,lo,hi,cs,qk,xE,rfl,rfl,rfl,rfl,HL⟩:=hrel;obtain⟨vc,hvc⟩:=dS u7;rw[<-hvc]at HL;have HVC:=aa hvc;subst hvc;cases qk with
  |nil=>exact absurd HL.2 (by simp[k7])
  |cons tk qk=>
  cases tk with
  |eof=>exact absurd HL.2 (by simp[k7])
  |any=>exact absurd HL.2 (by simp[k7])
  |fq=>exact absurd HL.2 (by simp[k7])
  |single=>exact absurd HL.2 (by simp[k7])
  |DS=>exact absurd HL.2 (by simp[k7])
  |py=>exact absurd HL.2 (by simp[k7])
  |uc=>exact absurd HL.2 (by simp[k7])
  |pW=>exact absurd HL.2 (by simp[k7])
  |not=>
   have he:=HL.2;simp only[k7]at he;have HE:=aa he;clear he;have qY:Hid (Calls prog 110 #[.pointer (some ⟨L,0,none⟩)] wr λe w'=>e=.returned (.agg #[.int .i64 6,.string (bs [33])])/\∃fb,er w' B L txt rest tl qk fb lr gI hr/\kA wr w' L xE fb):=aa (ya .not HL.1.lex);go_wp2_with fail;refine qY.mono ?_;rintro e w1 ⟨rfl,xF,k1,k2⟩;have HC:=aa (HL.1.take k1 k2 Z6 (.cells #[.int .i64 6,.string (bs [33])] 242));clear k1 k2;go_wp2_with fail;go_roundg qk.length
   case measure=>simp
   case rel=>exact⟨true,lo,hi,cs,qk,xF,rfl,rfl,rfl,rfl,aa ⟨HC.out,HE.out⟩⟩
  |PW=>
   have he:=HL.2;simp only[k7]at he;have HE:=aa he;clear he;have qY:Hid (Calls prog 110 #[.pointer (some ⟨L,0,none⟩)] wr λe w'=>e=.returned (.agg #[.int .i64 12,.string (bs [45])])/\∃fb,er w' B L txt rest tl qk fb lr gI hr/\kA wr w' L xE fb):=aa (ya .PW HL.1.lex);go_wp2_with fail;refine qY.mono ?_;rintro e w1 ⟨rfl,xF,k1,k2⟩;have HC:=aa (HL.1.take k1 k2 Z6 (.cells #[.int .i64 12,.string (bs [45])] 242));clear k1 k2;go_wp2_with fail;go_roundg qk.length
   case measure=>simp
   case rel=>exact⟨n,lo,hi,cs,qk,xF,rfl,rfl,rfl,rfl,aa ⟨HC.out,HE.out⟩⟩
  |lo c=>
   have he:=HL.2;simp only[k7]at he;have HE:=aa he;have J8:mz c:=HL.1.ok (.lo c) (cd ..) c (by simp[Tok.str]);have Sm:=iC (r:=[]) J8;have gJ:((bs [c]).size:Int)=((e1 c).length:Int):=by rw[dQ];simp
   have KY:=eo Sm gJ;clear he Sm gJ J8;have qY:Hid (Calls prog 110 #[.pointer (some ⟨L,0,none⟩)] wr λe w'=>e=.returned (.agg #[.int .i64 10,.string (bs [c])])/\∃fb,er w' B L txt rest tl qk fb lr gI hr/\kA wr w' L xE fb):=aa (ya (.lo c) HL.1.lex);go_wp2_with fail;refine qY.mono ?_;rintro e w1 ⟨rfl,xF,k1,k2⟩;have Hz:fE (w1.alloc (.cells #[.int .i64 10,.string (bs [c])] 242)):=(hT.Jk (HL.1.fr.trans k2) nI Kk KV.out).alloc _;have HC:=aa (HL.1.take k1 k2 Z6 (.cells #[.int .i64 10,.string (bs [c])] 242));have HT1:=aa Hz;clear k1 k2 Hz;go_wp2_with fail;refine(Tryz.utf8_DecodeRuneInString _ _ HT1.qN).mono ?_;rintro e w2 ⟨rfl,eT⟩;rw[KY.1];have jx:=aa (HC.drew eT);have z1:w2.cell? ⟨w1.heap.size,1,none⟩=some (.string (bs [c])):=dY (bC w1 #[.int .i64 10,.string (bs [c])] 242 1) eT (by rw[ab];omega);have eR:decide (((e1 c).length:Int)<((bs [c]).size:Int))=false:=(by rw[KY.2];simp);have Sa:decide ((e1 c).length<(bs [c]).size)=false:=by have:=KY.2;simp;omega
   clear eT;go_wp2_with fail;go_roundg qk.length
   case measure=>simp
   case rel=>exact⟨n,((c:Nat):Int),hi,cs,qk,xF,rfl,rfl,rfl,rfl,aa ⟨jx.out,HE.out⟩⟩
  |hi c=>
   have he:=HL.2;simp only[k7]at he;have J':¬((c:Nat):Int)<lo:=by intro h;rw[if_pos h]at he;cases he
   rw[if_neg J']at he;have hlod:decide (((c:Nat):Int)<lo)=false:=decide_eq_false J';have HE:=aa he;have J8:mz c:=HL.1.ok (.hi c) (cd ..) c (by simp[Tok.str]);have Sm:=iC (r:=[]) J8;have gJ:((bs [c]).size:Int)=((e1 c).length:Int):=by rw[dQ];simp
   have KY:=eo Sm gJ;clear he Sm gJ J8 J';have qY:Hid (Calls prog 110 #[.pointer (some ⟨L,0,none⟩)] wr λe w'=>e=.returned (.agg #[.int .i64 11,.string (bs [c])])/\∃fb,er w' B L txt rest tl qk fb lr gI hr/\kA wr w' L xE fb):=aa (ya (.hi c) HL.1.lex);go_wp2_with fail;refine qY.mono ?_;rintro e w1 ⟨rfl,xF,k1,k2⟩;have Hz:fE (w1.alloc (.cells #[.int .i64 11,.string (bs [c])] 242)):=(hT.Jk (HL.1.fr.trans k2) nI Kk KV.out).alloc _;have HC:=aa (HL.1.take k1 k2 Z6 (.cells #[.int .i64 11,.string (bs [c])] 242));have HT1:=aa Hz;clear k1 k2 Hz;go_wp2_with fail;refine(Tryz.utf8_DecodeRuneInString _ _ HT1.qN).mono ?_;rintro e w2 ⟨rfl,eT⟩;rw[KY.1];have jx:=aa (HC.drew eT);have z1:w2.cell? ⟨w1.heap.size,1,none⟩=some (.string (bs [c])):=dY (bC w1 #[.int .i64 11,.string (bs [c])] 242 1) eT (by rw[ab];omega);have eR:decide (((e1 c).length:Int)<((bs [c]).size:Int))=false:=(by rw[KY.2];simp);have Sa:decide ((e1 c).length<(bs [c]).size)=false:=by have:=KY.2;simp;omega
   clear eT;go_wp2_with fail;go_roundg qk.length
   case measure=>simp
   case rel=>exact⟨n,lo,((c:Nat):Int),cs,qk,xF,rfl,rfl,rfl,rfl,aa ⟨jx.out,HE.out⟩⟩
  |text D=>
   have he:=HL.2;cases cs with
   |some _=>simp[k7]at he
   |none=>
   simp only[k7]at he;have HE:=aa he;have hokD:dV D:=HL.1.ok (.text D) (cd ..);have HOKD:=eo hokD (HL.1.short (.text D) (cd ..));clear he hokD;have qY:Hid (Calls prog 110 #[.pointer (some ⟨L,0,none⟩)] wr λe w'=>e=.returned (.agg #[.int .i64 2,.string (bs D)])/\∃fb,er w' B L txt rest tl qk fb lr gI hr/\kA wr w' L xE fb):=aa (ya (.text D) HL.1.lex);go_wp2_with fail;refine qY.mono ?_;rintro e w1 ⟨rfl,xF,k1,k2⟩;have HC:=aa (HL.1.take k1 k2 Z6 (.cells #[.int .i64 2,.string (bs D)] 242));clear k1 k2;go_wp2_with fail;obtain⟨K,hK⟩:=dS (w1.heap.size+2);obtain⟨mb,hmb⟩:=dS (w1.heap.size+1);rw[show w1.heap.size+1+1=K from by rw[hK]];rw[<-hmb];obtain⟨W0,pV⟩:=dS (w1.alloc (.cells #[.int .i64 2,.string (bs D)] 242));rw[<-pV]at HC⊢;have qQ:W0.heap.size=mb:=(by rw[pV,ab,hmb]);have lz:((W0.alloc (.map #[] 0)).iter (bs D) 0).heap.size=K+1:=by rw[World.jt,ab,qQ,hK,hmb]
   have hKm:K=mb+1:=(by omega);have oK:Hid (∃u v,D=u++v/\((W0.alloc (.map #[] 0)).iter (bs D) 0).heap[K]? =some (.stringIter (bs D) (enc u).length)/\Hid (((W0.alloc (.map #[] 0)).iter (bs D) 0).ownsMap prog 21 unitElem mb u.length (lg u)/\Below mb W0 ((W0.alloc (.map #[] 0)).iter (bs D) 0)/\K<((W0.alloc (.map #[] 0)).iter (bs D) 0).heap.size)):=aa (by
    refine⟨[],D,rfl,?_,aa ⟨?_,?_,by rw[lz];omega⟩⟩
    ·have:=dz (W0.alloc (.map #[] 0)) (bs D) 0;rw[ab,qQ,<-hKm]at this;exact this
    ·have h1:=World.ownsMap_made (H:=Unit) W0 prog 21 unitElem;rw[qQ]at h1;exact h1.kept (World.grownBy_alloc _ _ none) (by simp)
    ·exact ku ((ay mb W0).alloc (by omega) _) (by rw[ab];omega) _ _)
   have HM:=eo qQ hKm;clear hK hmb qQ lz hKm pV
   go_loopw [] (λwx=>∃u v,D=u++v/\wx.heap[K]? =some (.stringIter (bs D) (enc u).length)/\Hid (wx.ownsMap prog 21 unitElem mb u.length (lg u)/\Below mb W0 wx/\K<wx.heap.size)) (λwx=>(bs D).size+1-wx.iterPos K)
   case atStart=>exact oK.out
   case round=>
    obtain⟨u,v,Zg,hk,HX⟩:=hrel;obtain⟨wo,rfl⟩:=dS (wr:World);have HP:=aa (iterPos_of hk);cases v with
    |nil=>
     simp only[bd]at Zg;subst Zg;have hn:=λty=>pD hk ty;have ka:WJ w wo B L txt rest tl vq (some D) (.map (some mb)) qk xF lr gI hr:=by
      have hC:=HC.out;have hX:=HX.out;have eR:=hC.lex.lt;have Mi:Below W0.heap.size W0 wo:=by rw[HM.1];exact hX.2.1
      refine⟨hC.lex.below Mi,hC.fr.trans (kA.ft Mi),⟨mb,rfl,?_,_,hX.1⟩,λm e h=> ?_,hC.ok,hC.short⟩
      ·rw[<-HM.1];exact hC.fr.fo.size
      ·cases e;have:=(eR.2 _ h).2;rw[HM.1]at this;omega
     have vE:=aa ka;clear ka hk HX HP;go_wp2_with fail;go_roundg qk.length
     case measure=>simp
     case rel=>exact⟨n,lo,hi,some D,qk,xF,rfl,rfl,rfl,rfl,aa ⟨vE.out,HE.out⟩⟩
    |cons c v=>
     subst Zg;have hc:mz c:=HOKD.1 c (by simp);have hn:=λty=>nF hc hk ty;have VR:=Xf hc;have ic:u.length<maxLen:=by have:=HOKD.2;simp only[Tok.str,aj,aH]at this;unfold maxLen;omega
     have hKmb:K≠mb:=(by have:=HM.2;omega);have hkit:=Lib.iterAt_heap wo K _ _ ((enc u).length+(e1 c).length) hk;have XB:(wo.iterAt K (bs (u++c::v)) ((enc u).length+(e1 c).length)).ownsMap prog 21 unitElem mb u.length (lg u):=by obtain⟨es,ck,h1,h2⟩:=HX.1;exact⟨es,ck,(Lib.iterAt_other _ _ _ _ _ (cE hKmb)).trans h1,h2⟩
     have eu:Below mb W0 (wo.iterAt K (bs (u++c::v)) ((enc u).length+(e1 c).length)):=Lib.below_iterAt HX.2.1 (by have:=HM.2;omega) _ _;have VH:=Lib.iterAt_size wo K (bs (u++c::v)) ((enc u).length+(e1 c).length);have HH:=rr XB eu VH hkit hk;clear hkit XB eu VH hk;go_wp2_with (at_mapUpdate;refine wpList_mapUpdate_own _ rfl (.tmp 96) (.tmp 97) (.tmp 98) 328 rfl 21 261 Xe underlying328 unitElem mb u.length (lg u) rfl HH.1 ic _ _ _ rfl rfl VR _ [] unitElem_mk ?c2)
     case c2=>
      intro w3 XA hg3;have HO3:=eo XA hg3;clear XA hg3 hn VR;go_wp2_with fail;have hkK:w3.heap[K]? =some (.stringIter (bs (u++c::v)) (enc (u++[c])).length):=by rw[HO3.2.block K (by rw[HH.2.2.1];exact HX.2.2) (by simpa using hKmb)];simpa using HH.2.2.2.1
      refine⟨⟨u++[c],v,by simp,hkK,aa ⟨?_,?_,?_⟩⟩,?_⟩
      ·rw[D3];simpa using HO3.1
      ·have hb:=HH.2.1;have hg:=HO3.2;exact⟨hg.os.trans hb.os,hg.tape.trans hb.tape,hg.output.trans hb.output,ao hb.size hg.size,λb uK=>(hg.block b (ai (by rw[HM.1];exact uK) hb.size) (by simp;omega)).trans (hb.block b uK)⟩
      ·exact ai (by rw[HH.2.2.1];exact HX.2.2) HO3.2.size
      ·rw[HP.out,iterPos_of hkK,dQ];have:=(ec c).1;simp;omega
  |jz=>
   have he:=HL.2;have Xx:qk=[]:=by
    cases qk with
    |nil=>rfl
    |cons a b=>simp[k7]at he
   subst Xx;simp only[k7,cy,if_true]at he;have lJ:=HL.1.cs;by_cases yz:0<=lo/\0<=hi
   ·rw[if_pos yz]at he;cases cs with
    |some D=>cases he
    |none=>
    simp only[ae]at he;subst he;obtain rfl:vc=.map none:=lJ;have hnm:=λ(w:World) (r:Option Nat)=>run_neq_map_nil (P:=prog) w 328 21 261 r underlying328;obtain⟨XJ,hh0⟩:=yz;have jg:decide ((0:Int)<=lo)=true:=decide_eq_true XJ;have Jp:decide ((0:Int)<=hi)=true:=decide_eq_true hh0;have qY:Hid (Calls prog 110 #[.pointer (some ⟨L,0,none⟩)] wr λe w'=>e=.returned (.agg #[.int .i64 9,.string (bs [93])])/\∃fb,er w' B L txt rest tl [] fb lr gI hr/\kA wr w' L xE fb):=aa (ya .jz HL.1.lex);go_wp2_with fail;refine qY.mono ?_;rintro e w1 ⟨rfl,xF,k1,k2⟩;have HC:=aa (HL.1.take k1 k2 Z6 (.cells #[.int .i64 9,.string (bs [93])] 242));clear k1 k2;go_wp2_with fail;go_ret2;have hC:=HC.out;have Fu:=hC.drew (w1:=(w1.alloc (.cells #[.int .i64 9,.string (bs [93])] 242)).alloc (.cells #[.int .i32 lo,.int .i32 hi,.bool n] 333)) (by go_grown);have eR:=hC.lex.lt;have pG:=heap_alloc_new (w1.alloc (.cells #[.int .i64 9,.string (bs [93])] 242)) (.cells #[.int .i32 lo,.int .i32 hi,.bool n] 333);rw[ab]at pG eR;refine⟨.iface 331 (.pointer (some ⟨w1.heap.size+1,0,none⟩)),[w1.heap.size+1],xF,rfl,⟨w1.heap.size+1,rfl,rfl,pG⟩,by simp,λx hx=> ?_,Fu.lex,Fu.fr⟩;simp only[aE]at hx;subst hx;have:=hC.fr.fo.size;rw[ab]at this;refine⟨this,by rw[ab,ab];omega,λe=> ?_⟩;have:=(eR.2 _ e).2;omega
   ·rw[if_neg yz]at he;cases cs with
    |none=>cases he
    |some D=>
    simp only[ae]at he;subst he;obtain⟨mb,rfl,hmb1,nn,hmb2⟩:=lJ;have hnm:=λ(w:World) (r:Option Nat)=>run_neq_map_nil (P:=prog) w 328 21 261 r underlying328;have mY:decide ((0:Int)<=lo)=false\/(decide ((0:Int)<=lo)=true/\decide ((0:Int)<=hi)=false):=by
     by_cases h1:0<=lo
     ·exact .inr ⟨decide_eq_true h1,decide_eq_false λh2=>yz ⟨h1,h2⟩⟩
     ·exact .inl (decide_eq_false h1)
    have HMB:=aa hmb1;clear yz hmb2 hmb1;rcases mY with jg|⟨jg,Jp⟩
    all_goals
     have qY:Hid (Calls prog 110 #[.pointer (some ⟨L,0,none⟩)] wr λe w'=>e=.returned (.agg #[.int .i64 9,.string (bs [93])])/\∃fb,er w' B L txt rest tl [] fb lr gI hr/\kA wr w' L xE fb):=aa (ya .jz HL.1.lex);go_wp2_with fail;refine qY.mono ?_;rintro e w1 ⟨rfl,xF,k1,k2⟩;have HC:=aa (HL.1.take k1 k2 Z6 (.cells #[.int .i64 9,.string (bs [93])] 242));clear k1 k2;go_wp2_with fail;go_ret2;have hC:=HC.out;have Fu:=hC.drew (w1:=(w1.alloc (.cells #[.int .i64 9,.string (bs [93])] 242)).alloc (.cells #[.map (some mb),.bool n] 336)) (by go_grown);have eR:=hC.lex.lt;have pG:=heap_alloc_new (w1.alloc (.cells #[.int .i64 9,.string (bs [93])] 242)) (.cells #[.map (some mb),.bool n] 336);rw[ab]at pG eR;have qo:=hC.cs.lt mb rfl;rw[ab]at qo;have gJ:=hC.fr.fo.size;rw[ab]at gJ;obtain⟨mb',e,_,n2,gh⟩:=Fu.cs;cases e;refine⟨.iface 334 (.pointer (some ⟨w1.heap.size+1,0,none⟩)),[w1.heap.size+1,mb],xF,rfl,⟨w1.heap.size+1,mb,rfl,rfl,pG,n2,lg D,gh,λc _=>Hx D c⟩,by simp;omega,λx hx=> ?_,Fu.lex,Fu.fr⟩;simp only[az,ba,or_false]at hx;rcases hx with rfl|rfl
     ·refine⟨gJ,by rw[ab,ab];omega,λe=> ?_⟩;have:=(eR.2 _ e).2;omega
     ·exact⟨qo.1,by rw[ab,ab];omega,hC.apart _ rfl⟩
end
end Go.Proofs.YtfejflhgaphilaaGreatDoor
namespace Go.Proofs.YtfejflhgaphilaaGreatDoor.Gm
mutual
def push:T->List T->List T
 |.dH l,out=>fv l out
 |.void,out=>out
 |.text t,out=>match out.getLast? with
  |some (.text p)=>out.dropLast++[.text (p++t)]
  |_=>out++[.text t]
 |.star sep nx tm,out=>match out.getLast? with
  |some (.star yq _ _)=>if !yq.isEmpty&&sep.isEmpty then out.dropLast++[.star sep nx tm]else out
  |_=>out++[.star sep nx tm]
 |t,out=>out++[t]
def fv:List T->List T->List T
 | [],out=>out
 |t::ts,out=>fv ts (push t out)
end
def T.eV:T->Bool
 |.dH _=>true
 |_=>false
def T.isVoid:T->Bool
 |.void=>true
 |_=>false
def T.fz:T->Bool
 |.text _=>true
 |_=>false
def T.eL:T->Bool
 |.star _ _ _=>true
 |_=>false
def fD:Option T->List T->Bool
 |_,[]=>false
 |p,t::ts=>t.eV||t.isVoid||(t.fz&&(p.map T.fz).getD false)||(t.eL&&(p.map T.eL).getD false)||fD (some t) ts
def norm (ms:List T):List T:=if fD none ms then fv ms []else ms
def oneOf (f:List T->T):List T->T
 | []=>.void
 | [t]=>t
 |l=>f l
mutual
def simp:T->T
 |.dH l=>oneOf .dH (norm (fh l))
 |.alt l=>oneOf .alt (fh l)
 |t=>t
def fh:List T->List T
 | []=>[]
 |t::ts=>simp t::fh ts
end
def gz:T->T->Option T
 |.text t,.star sep _ _=>some (.pre t sep)
 |.star sep _ _,.text t=>some (.eP t sep)
 |.text p,.pre t sep=>some (.pre (p++t) sep)
 |.star s _ _,.pre t s'=>if s.isEmpty&&s'.isEmpty then some (.cont t)else none
 |.text p,.eP s sep=>some (.dN p s sep)
 |.star s _ _,.cont t=>if s.isEmpty then some (.cont t)else none
 |_,_=>none
def dZ:List T->List T
 | []=>[]
 |t::ts=>match dZ ts with
  | [u]=>(match gz t u with|some c=>[c]|none=>[t,u])
  |l=>t::l
def fk:List T->T
 | [t]=>t
 |l=>.dH l
mutual
def jD:Bool->T->T
 |τ,.alt l=>.alt (ki τ l)
 |τ,.dH l=>if τ then fk (dZ (gx τ l))else .dH (gx τ l)
 |_,t=>t
def ki:Bool->List T->List T
 |_,[]=>[]
 |τ,t::ts=>jD τ t::ki τ ts
def gx:Bool->List T->List T
 |_,[]=>[]
 |τ,t::ts=>jD (τ&&ts.isEmpty) t::gx τ ts
end
def lead:T->List dE
 |.text t=>t
 |.pre t _=>t
 |.dN p _ _=>p
 |_=>[]
def fA:List T->T->T
 |u::_,.star sep _ tm=>.star sep (lead u) tm
 |_,t=>t
mutual
def js:Bool->T->T
 |τ,.dH l=>.dH (kn τ l)
 |τ,.alt l=>.alt (mR τ l)
 |τ,.star sep nx _=>.star sep nx τ
 |_,t=>t
def mR:Bool->List T->List T
 |_,[]=>[]
 |τ,t::ts=>js τ t::mR τ ts
def kn:Bool->List T->List T
 |_,[]=>[]
 |τ,t::ts=>fA ts (js (τ&&ts.isEmpty) t)::kn τ ts
end
mutual
def needs:T->Bool
 |.alt _=>true
 |.dH l=>iA l
 |.star _ _ tm=> !tm
 |_=>false
def iA:List T->Bool
 | []=>false
 |t::ts=>needs t||iA ts
end
mutual
def ji:Bool->T->T
 |τ,.dH l=>.dH (jC τ l)
 |τ,.alt l=>if τ&& !iA (jr τ l)then .eh (jr τ l)else .alt (jr τ l)
 |_,t=>t
def jr:Bool->List T->List T
 |_,[]=>[]
 |τ,t::ts=>ji τ t::jr τ ts
def jC:Bool->List T->List T
 |_,[]=>[]
 |τ,t::ts=>ji (τ&&ts.isEmpty) t::jC τ ts
end
def comp (t:T):T:=ji true (js true (jD true (simp t)))
mutual
def fX (S:List dE):T->Prop
 |.star sep _ _=>sep=[]\/sep=S
 |.dH l=>e8 S l
 |.alt l=>e8 S l
 |.eh l=>e8 S l
 |_=>True
def e8 (S:List dE):List T->Prop
 | []=>True
 |t::ts=>fX S t/\e8 S ts
end
theorem gN {S:List dE}:∀(a b:List T),e8 S (a++b)↔e8 S a/\e8 S b
 | [],b=>by simp[e8]
 |t::a,b=>by simp[e8,gN a b,and_assoc]
theorem ou (t:T) (r r':List dE):Ds [t] r r'↔D t r r':=by
 simp only[Ds];constructor
 ·rintro⟨m,h,rfl⟩;exact h
 ·exactλh=>⟨r',h,rfl⟩
theorem oM (l:List T) (t:T) (r r':List dE):Ds (l++[t]) r r'↔∃m,Ds l r m/\D t m r':=by rw[jy];simp only[ou]
theorem Bt (l:List T) (t u:T) (r r':List dE):Ds (l++[t]++[u]) r r'↔∃m,Ds l r m/\∃k,D t m k/\D u k r':=by
 rw[oM];simp only[oM];constructor
 ·rintro⟨k,⟨m,h1,h2⟩,h3⟩;exact⟨m,h1,k,h2,h3⟩
 ·rintro⟨m,h1,k,h2,h3⟩;exact⟨k,⟨m,h1,h2⟩,h3⟩
theorem WE (p t r r':List dE):D (.text (p++t)) r r'↔∃k,D (.text p) r k/\D (.text t) k r':=by
 simp only[D];constructor
 ·intro h;exact⟨t++r',by simpa using h,rfl⟩
 ·rintro⟨k,rfl,rfl⟩;simp
theorem WG {S sep yq:List dE} (nx Lz nx0:List dE) (tm P9 tm0:Bool) (h:sep=[]\/sep=S) (h':yq=[]\/yq=S) (r r':List dE):D (.star (if !yq.isEmpty&&sep.isEmpty then sep else yq) nx0 tm0) r r'↔∃k,D (.star yq Lz P9) r k/\D (.star sep nx tm) k r':=by
 simp only[D];constructor
 ·rintro⟨u,rfl,hu⟩;split at hu
  ·exact⟨u++r',⟨[],rfl,by simp⟩,u,rfl,hu⟩
  ·exact⟨r',⟨u,rfl,hu⟩,[],rfl,by simp⟩
 ·rintro⟨k,⟨u,rfl,hu⟩,v,rfl,hv⟩;refine⟨u++v,by simp,λc hc=> ?_⟩;split
  ·rename_i pU;simp only[al,cQ,cN]at pU;rw[pU.2];simp
  ·rename_i pU;rcases ar.1 hc with hc|hc
   ·exact hu c hc
   ·rcases h' with rfl|rfl
    ·simp
    ·rcases h with rfl|rfl
     ·cases yq with
      |nil=>simp
      |cons a b=>simp at pU
     ·exact hv c hc
theorem gH {α:Type} (l:List α):l=[]\/∃i x,l=i++[x]:=by
 rcases List.eq_nil_or_concat l with h|⟨i,x,h⟩
 ·exact .inl h
 ·exact .inr ⟨i,x,by simpa using h⟩
mutual
theorem D_push {S:List dE}:∀(t:T) (out:List T),fX S t->e8 S out->e8 S (push t out)/\∀r r',Ds (push t out) r r'↔Ds (out++[t]) r r'
 |.dH l,out,ht,ho=>by simp only[push];obtain⟨h1,h2⟩:=Fh (S:=S) l out (by simpa[fX]using ht) ho;refine⟨h1,λr r'=> ?_⟩;rw[h2,jy,oM];simp only[D]
 |.void,out,ht,ho=>by simp only[push];refine⟨ho,λr r'=> ?_⟩;rw[oM];simp only[D,exists_eq_right]
 |.text t,out,ht,ho=>by
  simp only[push];rcases gH out with rfl|⟨i,x,rfl⟩
  ·simp[e8,fX]
  ·simp only[bZ,b6];cases x<;>(try (refine⟨by simp[gN,e8,fX]at ho⊢;exact ho,λr r'=>dD⟩));rename_i p;refine⟨by simp[gN,e8,fX]at ho⊢;exact ho,λr r'=> ?_⟩;rw[Bt,oM];simp only[WE]
 |.star sep nx tm,out,ht,ho=>by
  simp only[push];simp only[fX]at ht;rcases gH out with rfl|⟨i,x,rfl⟩
  ·simp[e8,fX,ht]
  ·simp only[bZ,b6];cases x<;>dsimp only<;>(try (exact⟨(gN _ _).2 ⟨ho,by simpa only[e8,fX,and_true]using ht⟩,λr r'=>dD⟩));rename_i yq Lz P9;simp only[gN,e8,fX,and_true]at ho;have hD:=λ(nx0:List dE) (tm0:Bool) (m r':List dE)=>WG (S:=S) nx Lz nx0 tm P9 tm0 ht ho.2 m r';split
   ·rename_i hc;refine⟨by simp only[gN,e8,fX,and_true];exact⟨ho.1,ht⟩,λr r'=> ?_⟩;rw[Bt,oM];have:=hD nx tm;rw[if_pos hc]at this;exact exists_congr λm=>and_congr dD (this m r')
   ·rename_i hc;refine⟨by simp only[gN,e8,fX,and_true];exact ho,λr r'=> ?_⟩;rw[Bt,oM];have:=hD Lz P9;rw[if_neg hc]at this;exact exists_congr λm=>and_congr dD (this m r')
 |.char _,out,ht,ho|.range _ _ _,out,ht,ho|.set _ _,out,ht,ho|.pre _ _,out,ht,ho|.eP _ _,out,ht,ho|.dN _ _ _,out,ht,ho|.cont _,out,ht,ho=>by simp only[push];exact⟨by simp[gN,e8,fX,ho],λr r'=>by first|exact dD|trivial⟩
 |.alt _,out,ht,ho|.eh _,out,ht,ho=>by simp only[push];exact⟨by simp only[gN,e8,and_true];exact⟨ho,ht⟩,λr r'=>by first|exact dD|trivial⟩
theorem Fh {S:List dE}:∀(l:List T) (out:List T),e8 S l->e8 S out->e8 S (fv l out)/\∀r r',Ds (fv l out) r r'↔Ds (out++l) r r'
 | [],out,hl,ho=>by simp[fv,ho]
 |t::ts,out,hl,ho=>by simp only[fv];simp only[e8]at hl;obtain⟨h1,h2⟩:=D_push t out hl.1 ho;obtain⟨h3,h4⟩:=Fh ts (push t out) hl.2 h1;refine⟨h3,λr r'=> ?_⟩;rw[h4,jy,show out++t::ts=(out++[t])++ts by simp,jy];simp only[h2]
end
theorem D_norm {S:List dE} (l:List T) (hl:e8 S l):e8 S (norm l)/\∀r r',Ds (norm l) r r'↔Ds l r r':=by
 unfold norm;split
 ·exact Fh l [] hl (by simp[e8])
 ·exact⟨hl,λ_ _=>dD⟩
theorem K3 {S:List dE} (l:List T) (hl:e8 S l):fX S (oneOf .dH l)/\∀r r',D (oneOf .dH l) r r'↔Ds l r r':=by
 match l,hl with
 | [],_=>simp[oneOf,fX,D,Ds]
 | [t],hl=>exact⟨hl.1,λr r'=>by simp only[oneOf,ou]⟩
 |t::u::l,hl=>exact⟨by simpa only[oneOf,fX]using hl,λr r'=>by simp only[oneOf,D]⟩
theorem Uf {S:List dE} (l:List T) (eK:l≠[]) (hl:e8 S l):fX S (oneOf .alt l)/\∀r r',D (oneOf .alt l) r r'↔Da l r r':=by
 match l,eK,hl with
 | [],h,_=>exact(h rfl).elim
 | [t],_,hl=>exact⟨hl.1,λr r'=>by simp[oneOf,Da]⟩
 |t::u::l,_,hl=>exact⟨by simpa only[oneOf,fX]using hl,λr r'=>by simp only[oneOf,D]⟩
theorem je:∀(l:List T),(fh l).length=l.length
 | []=>rfl
 |t::ts=>by simp[fh,je ts]
mutual
def T.full:T->Bool
 |.dH l=>x9 l
 |.alt l=> !l.isEmpty&&x9 l
 |.eh l=> !l.isEmpty&&x9 l
 |_=>true
def x9:List T->Bool
 | []=>true
 |t::ts=>t.full&&x9 ts
end
theorem QS {l:List T} (h:l≠[]):fh l≠[]:=λe=>h (b7.1 (by rw[<-je,e];rfl))
mutual
theorem K2 {S:List dE}:∀(t:T),fX S t->t.full=true->fX S (simp t)/\∀r r',D (simp t) r r'↔D t r r'
 |.dH l,h,hf=>by obtain⟨h1,h2,_⟩:=Fg l (by simpa[fX]using h) (by simpa[T.full]using hf);obtain⟨h3,h4⟩:=D_norm (fh l) h1;obtain⟨h5,h6⟩:=K3 (norm (fh l)) h3;exact⟨by simpa[simp]using h5,λr r'=>by simp only[simp];rw[h6,h4,h2];simp only[D]⟩
 |.alt l,h,hf=>by simp only[T.full,al,cQ,dh]at hf;obtain⟨h1,_,h2⟩:=Fg l (by simpa[fX]using h) hf.2;obtain⟨h5,h6⟩:=Uf (fh l) (QS hf.1) h1;exact⟨by simpa[simp]using h5,λr r'=>by simp only[simp];rw[h6,h2];simp only[D]⟩
 |.eh l,h,_=>by simpa[simp]using h
 |.star _ _ _,h,_=>by simpa[simp]using h
 |.text _,_,_|.char _,_,_|.range _ _ _,_,_|.set _ _,_,_|.void,_,_|.pre _ _,_,_|.eP _ _,_,_|.dN _ _ _,_,_|.cont _,_,_=>by simp[simp,fX]
theorem Fg {S:List dE}:∀(l:List T),e8 S l->x9 l=true->e8 S (fh l)/\(∀r r',Ds (fh l) r r'↔Ds l r r')/\∀r r',Da (fh l) r r'↔Da l r r'
 | [],_,_=>by simp[fh,e8]
 |t::ts,h,hf=>by
  simp only[e8]at h;simp only[x9,al]at hf;obtain⟨h1,h2⟩:=K2 t h.1 hf.1;obtain⟨h3,h4,h5⟩:=Fg ts h.2 hf.2;refine⟨by simp only[fh,e8];exact⟨h1,h3⟩,λr r'=> ?_,λr r'=> ?_⟩
  ·simp only[fh,Ds,h2,h4]
  ·simp only[fh,Da,h2,h5]
end
theorem WH {a b c:T} (h:gz a b=some c) (r:List dE):(∃m,D a r m/\D b m [])↔D c r []:=by
 unfold gz at h;split at h
 ·cases h;simp only[D];constructor
  ·rintro⟨m,rfl,u,rfl,hu⟩;exact⟨trivial,u,by simp,hu⟩
  ·rintro⟨_,u,rfl,hu⟩;exact⟨u,rfl,u,by simp,hu⟩
 ·cases h;simp only[D];constructor
  ·rintro⟨m,⟨u,rfl,hu⟩,rfl⟩;exact⟨trivial,u,by simp,hu⟩
  ·rintro⟨_,u,rfl,hu⟩;exact⟨_,⟨u,rfl,hu⟩,by simp⟩
 ·cases h;simp only[D];constructor
  ·rintro⟨m,rfl,_,u,rfl,hu⟩;exact⟨trivial,u,by simp,hu⟩
  ·rintro⟨_,u,rfl,hu⟩;exact⟨_,by rw[aD],trivial,u,rfl,hu⟩
 ·split at h
  ·rename_i hc;simp only[al,cN]at hc;obtain⟨rfl,rfl⟩:=hc;cases h;simp only[D];constructor
   ·rintro⟨m,⟨u,rfl,_⟩,_,v,rfl,_⟩;exact⟨trivial,u,v,rfl⟩
   ·rintro⟨_,u,v,rfl⟩;exact⟨_,⟨u,rfl,by simp⟩,trivial,v,rfl,by simp⟩
  ·cases h
 ·cases h;simp only[D];constructor
  ·rintro⟨m,rfl,_,u,rfl,hu⟩;exact⟨trivial,u,by simp,hu⟩
  ·rintro⟨_,u,rfl,hu⟩;exact⟨_,rfl,trivial,u,rfl,hu⟩
 ·split at h
  ·rename_i hc;simp only[cN]at hc;subst hc;cases h;simp only[D];constructor
   ·rintro⟨m,⟨u,rfl,_⟩,_,v,x,rfl⟩;exact⟨trivial,u++v,x,by simp⟩
   ·rintro⟨_,u,v,rfl⟩;exact⟨_,⟨u,rfl,by simp⟩,trivial,[],v,rfl⟩
  ·cases h
 ·cases h
theorem Bu:∀(l:List T) (r:List dE),Ds (dZ l) r []↔Ds l r []
 | [],r=>dD
 |t::ts,r=>by
  simp only[dZ];have ih:=Bu ts;split
  ·rename_i u hu;rw[hu]at ih;have h1:Ds (t::ts) r []↔∃m,D t r m/\D u m []:=by
    simp only[Ds];constructor
    ·rintro⟨m,h,k⟩;exact⟨m,h,(ou u m []).1 ((ih m).2 k)⟩
    ·rintro⟨m,h,k⟩;exact⟨m,h,(ih m).1 ((ou u m []).2 k)⟩
   rw[h1];split
   ·rename_i c hc;rw[ou,WH hc]
   ·show Ds ([t]++[u]) r []↔_;rw[oM];simp only[ou]
  ·simp only[Ds];constructor
   ·rintro⟨m,h,k⟩;exact⟨m,h,(ih m).1 k⟩
   ·rintro⟨m,h,k⟩;exact⟨m,h,(ih m).2 k⟩
mutual
theorem ma:∀(t:T),jD false t=t
 |.alt l=>by simp only[jD,zM l]
 |.dH l=>by simp only[jD,zK l,aM,if_false]
 |.eh _|.star _ _ _|.text _|.char _|.range _ _ _|.set _ _|.void|.pre _ _|.eP _ _|.dN _ _ _|.cont _=>by simp only[jD]
theorem zM:∀(l:List T),ki false l=l
 | []=>rfl
 |t::ts=>by simp only[ki,ma t,zM ts]
theorem zK:∀(l:List T),gx false l=l
 | []=>rfl
 |t::ts=>by simp only[gx,cr,ma t,zK ts]
end
theorem Fj (l:List T) (r r':List dE):D (fk l) r r'↔Ds l r r':=by
 match l with
 | []=>simp[fk,D]
 | [t]=>simp only[fk,ou]
 |t::u::l=>simp only[fk,D]
mutual
theorem Ue:∀(t:T) (r:List dE),D (jD true t) r []↔D t r []
 |.alt l,r=>by simp only[jD,D];exact Ud l r
 |.dH l,r=>by simp only[jD,if_true];rw[Fj,Bu,Uc l];simp only[D]
 |.eh _,r|.star _ _ _,r|.text _,r|.char _,r|.range _ _ _,r|.set _ _,r|.void,r|.pre _ _,r|.eP _ _,r|.dN _ _ _,r|.cont _,r=>by simp only[jD]
theorem Ud:∀(l:List T) (r:List dE),Da (ki true l) r []↔Da l r []
 | [],r=>dD
 |t::ts,r=>by simp only[ki,Da];rw[Ue t r,Ud ts r]
theorem Uc:∀(l:List T) (r:List dE),Ds (gx true l) r []↔Ds l r []
 | [],r=>dD
 | [t],r=>by simp only[gx,cy,cG,ou];exact Ue t r
 |t::u::ts,r=>by
  have ih:=Uc (u::ts);have e:gx true (t::u::ts)=t::gx true (u::ts):=by rw[gx];simp only[cZ,cj,ma]
  rw[e];simp only[Ds]at ih⊢;constructor
  ·rintro⟨m,h,k⟩;exact⟨m,h,(ih m).1 k⟩
  ·rintro⟨m,h,k⟩;exact⟨m,h,(ih m).2 k⟩
end
theorem P8 (l:List T) (t:T) (r r':List dE):D (fA l t) r r'↔D t r r':=by
 cases l with
 |nil=>cases t<;>exact dD
 |cons u l=>cases t<;>simp only[fA,D]
mutual
theorem MY:∀(τ:Bool) (t:T) (r r':List dE),D (js τ t) r r'↔D t r r'
 |τ,.alt l,r,r'=>by simp only[js,D];exact Ui τ l r r'
 |τ,.dH l,r,r'=>by simp only[js,D];exact K5 τ l r r'
 |_,.eh _,r,r'|_,.star _ _ _,r,r'|_,.text _,r,r'|_,.char _,r,r'|_,.range _ _ _,r,r'|_,.set _ _,r,r'|_,.void,r,r'|_,.pre _ _,r,r'|_,.eP _ _,r,r'|_,.dN _ _ _,r,r'|_,.cont _,r,r'=>by simp only[js,D]
theorem Ui:∀(τ:Bool) (l:List T) (r r':List dE),Da (mR τ l) r r'↔Da l r r'
 |_,[],r,r'=>dD
 |τ,t::ts,r,r'=>by simp only[mR,Da];rw[MY τ t,Ui τ ts]
theorem K5:∀(τ:Bool) (l:List T) (r r':List dE),Ds (kn τ l) r r'↔Ds l r r'
 |_,[],r,r'=>dD
 |τ,t::ts,r,r'=>by
  simp only[kn,Ds,P8];constructor
  ·rintro⟨m,h,k⟩;exact⟨m,(MY _ t r m).1 h,(K5 τ ts m r').1 k⟩
  ·rintro⟨m,h,k⟩;exact⟨m,(MY _ t r m).2 h,(K5 τ ts m r').2 k⟩
end
mutual
theorem xm:∀(t:T),ji false t=t
 |.alt l=>by simp only[ji,AX l,cr,aM,if_false]
 |.dH l=>by simp only[ji,AV l]
 |.eh _|.star _ _ _|.text _|.char _|.range _ _ _|.set _ _|.void|.pre _ _|.eP _ _|.dN _ _ _|.cont _=>by simp only[ji]
theorem AX:∀(l:List T),jr false l=l
 | []=>rfl
 |t::ts=>by simp only[jr,xm t,AX ts]
theorem AV:∀(l:List T),jC false l=l
 | []=>rfl
 |t::ts=>by simp only[jC,cr,xm t,AV ts]
end
mutual
theorem Uh:∀(t:T) (r:List dE),D (ji true t) r []↔D t r []
 |.alt l,r=>by
  simp only[ji];split
  ·simp only[D,true_and];exact K4 l r
  ·simp only[D];exact K4 l r
 |.dH l,r=>by simp only[ji,D];exact Ug l r
 |.eh _,r|.star _ _ _,r|.text _,r|.char _,r|.range _ _ _,r|.set _ _,r|.void,r|.pre _ _,r|.eP _ _,r|.dN _ _ _,r|.cont _,r=>by simp only[ji]
theorem K4:∀(l:List T) (r:List dE),Da (jr true l) r []↔Da l r []
 | [],r=>dD
 |t::ts,r=>by simp only[jr,Da];rw[Uh t r,K4 ts r]
theorem Ug:∀(l:List T) (r:List dE),Ds (jC true l) r []↔Ds l r []
 | [],r=>dD
 | [t],r=>by simp only[jC,cy,cG,ou];exact Uh t r
 |t::u::ts,r=>by
  have ih:=Ug (u::ts);have e:jC true (t::u::ts)=t::jC true (u::ts):=by rw[jC];simp only[cZ,cj,xm]
  rw[e];simp only[Ds]at ih⊢;constructor
  ·rintro⟨m,h,k⟩;exact⟨m,h,(ih m).1 k⟩
  ·rintro⟨m,h,k⟩;exact⟨m,h,(ih m).2 k⟩
end
theorem D_comp {S:List dE} (t:T) (hs:fX S t) (hf:t.full=true) (r:List dE):D (comp t) r []↔D t r []:=by unfold comp;rw[Uh,MY,Ue,(K2 t hs hf).2]
end Go.Proofs.YtfejflhgaphilaaGreatDoor.Gm
