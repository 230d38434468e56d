/- A tree without checkpoints matches as its mirror says, with no state there. A light pattern's match of a short text. GlobMatch of the thin package, on light patterns. GlobMatches of the thin package, on light patterns. -/
import Derived.Test.YtfejflhgaphilaaGreatDoorC12
import Derived.Test.YtfejflhgaphilaaGreatDoorC45
set_option linter.all false
set_option maxRecDepth 100000
set_option maxHeartbeats 64000000
open Go.Proofs.Tryz
namespace Go.Proofs.YtfejflhgaphilaaGreatDoor
open Go.RowKit Gm
variable {v:Value} {B B' b:Nat} {l:List T} {t:T} {w w':World}
def Rs:List T->List dE->Option (List dE)
 | [],r=>some r
 |t::ts,r=>match res t r with
  |none=>none
  |some r'=>Rs ts r'
def Rt:List T->List dE->Option (List dE)
 | [],_=>none
 |t::ts,r=>if res t r=some []then some []else Rt ts r
theorem TQ:∀(l:List T),fW l=true->∀(i:Nat) (x:Ctx) (r:List dE) (s:St),x.path=[]->x.live=false->(Ms l 0 i x r s).1=Rs l r
 | [],_,i,x,r,s,_,_=>by simp[Ms,Rs]
 |t::ts,hs,i,x,r,s,hp,hl=>by
  simp only[fW,al]at hs;have hM:(M t x.next r s).1=res t r:=(np t hs.1 x.next ⟨[],0,false,0,false⟩ r s ⟨[],[]⟩ (by simp[Ctx.next,hp]) (by simp)).1;have ih:=TQ ts hs.2 (i+1) x;simp only[Ms,Rs];rw[if_neg (by simp[hl])];rw[<-hM];generalize M t x.next r s=m;obtain⟨o,s'⟩:=m;cases o with
  |none=>rfl
  |some r'=>exact ih r' s' hp hl
theorem TP:∀(l:List T),fW l=true->∀(x:Ctx) (r:List dE) (s:St),x.path.length<=x.depth->(Mt l x r s).1=Rt l r
 | [],_,x,r,s,_=>by simp[Mt,Rt]
 |t::ts,hs,x,r,s,hx=>by
  simp only[fW,al]at hs;have hM:(M t x r s).1=res t r:=(np t hs.1 x ⟨[],0,false,0,false⟩ r s ⟨[],[]⟩ hx (by simp)).1;have ih:=TP ts hs.2 x r;simp only[Mt,Rt];rw[<-hM];generalize M t x r s=m;obtain⟨o,s'⟩:=m
  match o with
  |none=>simp only[reduceCtorEq,if_false];exact ih s' hx
  |some []=>simp
  |some (a::b)=>simp only[ae,reduceCtorEq,if_false];exact ih s' hx
theorem N7 (hs:fW l=true) (r:List dE):res (.dH l) r=Rs l r:=by simp only[res,M];exact TQ l hs 0 _ r _ rfl rfl
theorem QX (hs:fW l=true) (r:List dE):res (.eh l) r=Rt l r:=by simp only[res,M];exact TP l hs _ r _ (by simp)
theorem JL {r r':List dE} (h:res t r=some r'):r'<:+r:=vi _ _ _ _ _ h
def TS (t:T) (u:Value) (B:Nat):Prop:=∃ty v f,u=.iface ty v/\(∀w,(method 570 ty v "Match").run prog w=.ok (f,v) w)/\(∀args w,(callFunc f args).run prog w=.ok (.enter f args) w)/\∀(w:World) (r:List dE) (o:Int) (d:Nat) (kd fl:Int),Rp w B t u->fE w->B<=w.heap.size->dV r->(enc r).length<=1000000->0<=o->o+(enc r).length<=2000000->d+uH t<=1000000->Calls prog f #[v,.agg #[.int .i64 o,.slice none 0 0,.int .i64 d,.pointer none,.int .i64 kd,.int .i64 fl],.string (bs r)] w λe w'=>e=.returned (gC r (res t r))/\Below w.heap.size w w'
structure QLoop (w wr:World) (o:Int) (d:Nat) (kd fl:Int) (r:List dE) (l:List T) (Z:Option (List dE)) (j:Nat) (rj:List dE):Prop where
 eP:rj<:+r
 box:wr.heap[w.heap.size]? =some (.cells #[.int .i64 o,.slice none 0 0,.int .i64 d,.pointer none,.int .i64 kd,.int .i64 fl] 151 (0,0))
 below:Below w.heap.size w wr
 size:w.heap.size<wr.heap.size
 eq:Z=Rs (l.drop j) rj
theorem f261c (b o cap B:Nat) (l:List T) (r:List dE) (z:Int) (d:Nat) (kd fl:Int) (w:World) (hT:fE w) (nI:3<=B) (uL:b<B) (H':B<=w.heap.size) (hM:∀(j:Nat) (t:T) (u:Value),l[j]? =some t->w.cell? ⟨b,o+j,none⟩=some u->TS t u B) (uB:rT w B b l o) (hl:l.length<=1000000) (ez:dV r) (hlen:(enc r).length<=1000000) (hz:0<=z) (VA:z+(enc r).length<=2000000) (hd:d+(1+uG l)<=1000000):Calls prog 261 #[.slice (some ⟨b,o,none⟩) l.length cap,.agg #[.int .i64 z,.slice none 0 0,.int .i64 d,.pointer none,.int .i64 kd,.int .i64 fl],.string (bs r)] w λe w'=>e=.returned (gC r (Rs l r))/\Below w.heap.size w w':=by
 have HB:Below w.heap.size w (w.alloc (.cells #[.int .i64 z,.slice none 0 0,.int .i64 d,.pointer none,.int .i64 kd,.int .i64 fl] 151)):=by go_grown
 obtain⟨n,hn⟩:=dS l.length;rw[<-hn]at hl⊢;obtain⟨Z,hZ⟩:=dS (Rs l r);rw[<-hZ];have HN:=aa hn;have HZ:=aa hZ;have HM:=aa hM;have Jv:=aa uB;have iw:=rr ez hlen hz VA hd;have qZ:=aa HB;clear hn hZ hM uB ez hlen hz VA hd HB;go_enter func261,ntmps261;go_wp2_with fail;refine(f223 _ [] d _ (eF.empty _)).mono ?_;rintro e w1 ⟨rfl,eu⟩;rw[show(([]:List Nat).getD d 0:Nat)=0 from rfl];go_wp2_with fail;have o4:Hid (Below w.heap.size w w1):=aa (qZ.trans (eu.mono (by rw[ab];omega)));have Qn:=aa ((eu.block w.heap.size (by rw[ab];omega)).trans (heap_alloc_new w (.cells #[.int .i64 z,.slice none 0 0,.int .i64 d,.pointer none,.int .i64 kd,.int .i64 fl] 151)));have tR:w.heap.size<w1.heap.size:=by have:=eu.size;rw[ab]at this;omega
 clear eu;go_loopg [6,8] n (λk s6 s8 wr=>∃(j:Nat) (rj:List dE),k=n-j/\s8=.int .i64 j/\s6=.int .i64 ((enc r).length- (enc rj).length:Int)/\j<=n/\Hid (QLoop w wr z d kd fl r l Z j rj))
 case atStart=>exact⟨0,r,rfl,rfl,by rw[Int.sub_self],aU _,aa ⟨cF _,Qn.out,o4.out,tR,by rw[bK];exact HZ.out⟩⟩
 case round=>
  obtain⟨j,rj,rfl,rfl,rfl,hj,HL⟩:=hrel;obtain⟨z0,z1,z2,z3,z4,z5⟩:=eA HL.box;clear z4 z5 Qn o4 tR qZ;by_cases gM:j<n
  ·have kY:=gW ((j:Int)+1) (by omega);have jA:decide ((j:Int)<(n:Int))=true:=by simp;omega
   go_upto_region 4 with fail
   go_cut [6,8,30]from 15 to 56 (λs6 s8 s30 wx=>s6=.int .i64 ((enc r).length- (enc rj).length:Int)/\s8=.int .i64 j/\s30=.bool false/\Hid (Below wr.heap.size wr wx))
   case first=>
    go_wp2_with fail;refine(f223 _ [] d _ (eF.empty _)).mono ?_;rintro e w2 ⟨rfl,eT⟩;rw[show(([]:List Nat).getD d 0:Nat)=0 from rfl];have jR:=aa eT;have oJ:Hid (w2.heap[w.heap.size]? =some (.cells #[.int .i64 z,.slice none 0 0,.int .i64 d,.pointer none,.int .i64 kd,.int .i64 fl] 151 (0,0))):=aa ((eT.block w.heap.size HL.size).trans HL.box);clear eT z0 z1 z2 z3;obtain⟨z0,z1,z2,z3,z4,z5⟩:=eA oJ.out;by_cases Ka:j=0
    ·have hb:((j:Int) != 0)=false:=(by simp[Ka]);clear Ka;go_wp2_with fail;go_meet
     case rel=>exact⟨rfl,rfl,rfl,jR⟩
    ·have hb:((j:Int) != 0)=true:=(by simp;omega);clear Ka;go_wp2_with fail;go_meet
     case rel=>exact⟨rfl,rfl,rfl,jR⟩
   case rest=>
   obtain⟨rfl,rfl,rfl,jR⟩:=hcut;obtain⟨w5,rfl⟩:=dS wc;have oJ:Hid (w5.heap[w.heap.size]? =some (.cells #[.int .i64 z,.slice none 0 0,.int .i64 d,.pointer none,.int .i64 kd,.int .i64 fl] 151 (0,0))):=aa ((jR.block w.heap.size HL.size).trans HL.box);have Fe:Hid (Below w.heap.size w w5):=aa (HL.below.trans (jR.mono (by have:=HL.size;omega)));have tR:Hid (w.heap.size<w5.heap.size):=aa (ai HL.size jR.size);clear z0 z1 z2 z3;obtain⟨z0,z1,z2,z3,z4,z5⟩:=eA oJ.out;have Jd:Hid ((enc rj).length<=(enc r).length):=aa (by obtain⟨v,hv⟩:=HL.eP;rw[<-hv];simp);obtain⟨z',hz'⟩:=dS (z+((enc r).length- (enc rj).length:Int));have fI:=f264 z ((enc r).length- (enc rj).length:Int) d kd fl none 0 0 none w5 (by have h1:=Jd.out;obtain⟨_,h2,h3,h4,_⟩:=iw.out;rw[aW];omega) (by obtain⟨_,_,_,_,h⟩:=iw.out;rw[aW];omega);obtain⟨d1,xV⟩:=dS (d+1);rw[show(d:Int)+1=(d1:Int)from by rw[xV];rfl,<-hz']at fI;have HD1:=aa xV;have sD:=aa hz';have vu:=aa fI;clear fI xV hz';go_wp2_with fail;refine vu.mono ?_;rintro e w6 ⟨rfl,xW⟩;have Jg:=aa xW;clear xW z0 z1 z2 z3 z4 z5;go_wp2_with fail;obtain⟨t,ht⟩:∃t,l[j]? =some t:=⟨l[j]'(by rw[<-HN.out];exact gM),ah _⟩;obtain⟨u,hu,OU⟩:=rT.at l o j t Jv.out ht;obtain⟨ty,v,f,rfl,hm,UB,hC⟩:=HM.out j t u ht hu;have HT:=aa ht;have Bs:=aa hC;have TY:=aa OU;have HU:=aa hu;clear ht hC OU hu;have Fw:Hid (Below w5.heap.size w5 (w6.alloc (.cells #[.int .i64 z',.slice none 0 0,.int .i64 d1,.pointer none,.int .i64 kd,.int .i64 fl] 151)).drew):=aa (Jg.trans (by have:=Jg.size;go_grown));have Ua:=aa (Fe.trans (Fw.mono (Nat.le_of_lt tR.out)));have Wy:=aa (Old.ft Ua.out H');have KR:=aa (heap_alloc_new w6 (.cells #[.int .i64 z',.slice none 0 0,.int .i64 d1,.pointer none,.int .i64 kd,.int .i64 fl] 151));obtain⟨y0,y1,y2,y3,y4,y5⟩:=eA KR.out;have OE:(w6.alloc (.cells #[.int .i64 z',.slice none 0 0,.int .i64 d1,.pointer none,.int .i64 kd,.int .i64 fl] 151)).cell? ⟨b,o+j,none⟩=some (.iface ty v):=(Wy.cell uL).trans HU.out;have i1:(0:Int)<=(j:Int):=(by omega);have i2:(j:Int)<(n:Int):=by omega
   have s1:(0:Int)<=((enc r).length- (enc rj).length:Int):=(by have:=Jd.out;omega);have s2:((enc r).length- (enc rj).length:Int)<=((bs r).size:Int):=by rw[dQ];have:=Jd.out;omega
   obtain⟨k0,vC⟩:=dS ((enc r).length- (enc rj).length);have s3:((enc r).length- (enc rj).length:Int).toNat=k0:=by have:=Jd.out;omega
   have s4:(bs r).extract k0 (bs r).size=bs rj:=(by rw[vC];exact Be HL.eP);have s5:k0<=(bs r).size:=by rw[dQ];omega
   have s6:(enc rj).length<=(enc r).length:=Jd.out;have HK0:=aa vC;clear vC;refine dP (λw'=>w'.cell? ⟨w6.heap.size,0,none⟩=some (.int .i64 z')/\w'.cell? ⟨w6.heap.size,1,none⟩=some (.slice none 0 0)/\w'.cell? ⟨w6.heap.size,2,none⟩=some (.int .i64 d1)/\w'.cell? ⟨w6.heap.size,3,none⟩=some (.pointer none)/\w'.cell? ⟨w6.heap.size,4,none⟩=some (.int .i64 kd)/\w'.cell? ⟨w6.heap.size,5,none⟩=some (.int .i64 fl)/\w'.cell? ⟨b,o+j,none⟩=some (.iface ty v)) [(true,0),(true,1),(true,2),(true,3),(true,4),(true,5),(true,6),(true,7),(true,8),(true,9),(false,10),(false,11),(true,12),(true,13),(false,14)] (by kernel_rfl) (by kernel_rfl) ⟨y0,y1,y2,y3,y4,y5,OE⟩ (λhHeld=> ?_);iterate 10
    refine dL (v:= ?_) rfl (λ_ _ _ h=>h) (by rfl) ?_ hHeld ?_;rotate_left
    ·intro w hSw;(try dsimp only at hSw);go_simp
     try with_reducible rfl
    simp only[Act.put,iX]
   refine dM rfl (λK hK=> ?_);go_simp;have pH:l.drop j=t::l.drop (j+1):=by obtain⟨h1,h2⟩:=aB.1 HT.out;rw[<-h2];exact bo h1
   have T6:=aa pH;clear pH s1 s2 s3 s4 s5 s6 i1 i2;have OQ:fE (w6.alloc (.cells #[.int .i64 z',.slice none 0 0,.int .i64 d1,.pointer none,.int .i64 kd,.int .i64 fl] 151)).drew:=hT.keep Ua.size (Wy.same 1 (by omega)) (Wy.same 2 (by omega));have fI:=Bs.out _ rj z' d1 kd fl (Rp.keep Wy.out t _ TY.out) OQ (ao H' Ua.size) (eM iw.1 HL.eP) (by have:=Jd.out;have:=iw.2.1;omega) (by have:=sD.out;have:=Jd.out;have:=iw.2.2.1;omega) (by have:=sD.out;have:=Jd.out;have:=iw.2.2.2.1;omega) (by have:=HD1.out;have:=su HT.out;have:=iw.2.2.2.2;omega);refine fI.mono ?_;clear fI OQ;rintro e w7 ⟨rfl,e1⟩;obtain⟨k,ok,ie⟩:=mg rj (res t rj);rw[ie];have Cn:=aa ie;have q8:=aa e1;have K1:=aa (Ua.trans (e1.mono Ua.size));have Wr:=aa ((Old.ft K1.out H').cell (o:=o+j) uL);have HY:=aa (e1.block w6.heap.size (by simp));have E7:Hid (w.heap.size<w7.heap.size):=aa (ai (ai tR.out Fw.size) e1.size);have MV:=aa ((e1.block w.heap.size (ai tR.out Fw.size)).trans ((Fw.block w.heap.size tR.out).trans oJ.out));clear e1 ie y0 y1 y2 y3 y4 y5;obtain⟨y0,y1,y2,y3,y4,y5⟩:=eA (HY.trans KR.out);dsimp only;refine hK.out _ _ ⟨y0,y1,y2,y3,y4,y5,Wr.trans HU.out⟩ (λhHeld=> ?_);clear hK K y0 y1 y2 y3 y4 y5 OE;refine dM rfl (λK hK=> ?_);go_simp;refine hK.out _ _ hHeld (λdW=> ?_);clear hK K dW;iterate 2
    refine dL (v:= ?_) rfl (λ_ _ _ h=>h) (by rfl) ?_ hHeld ?_;rotate_left
    ·intro w hSw;(try dsimp only at hSw);go_simp
     try with_reducible rfl
    simp only[Act.put,iX]
   refine dM rfl (λK hK=> ?_);go_simp;refine hK.out _ _ hHeld (λdW=> ?_);clear hK K dW;refine dX rfl ?_;clear hHeld;cases oe:res t rj with
   |none=>have ie:=Cn.out;rw[oe]at ie;have rF:Z=none:=(by rw[HL.eq,T6.out,Rs,oe]);have vo:=aa rF;simp only[gC,bS,cl,bq,b8,bX,true_and,and_true]at ie;obtain⟨rfl,rfl⟩:=ie;clear oe rF;go_wp2_with fail;go_ret2;exact⟨by rw[vo.out];rfl,K1.out⟩
   |some rn=>
    have J4:rn<:+rj:=JL oe;have ie:=Cn.out;rw[oe]at ie;have rF:Z=Rs (l.drop (j+1)) rn:=by rw[HL.eq,T6.out,Rs,oe]
    have vo:=aa rF;have HRN:=aa J4;have hlen:(enc rn).length<=(enc rj).length:=(by obtain⟨v,hv⟩:=J4;rw[<-hv];simp);simp only[gC,bS,cl,bq,b8,bX,true_and,and_true]at ie;obtain⟨rfl,rfl⟩:=ie;have mN:IntKind.i64.wrap (((enc r).length- (enc rj).length:Int)+((enc rj).length- (enc rn).length:Int))=((enc r).length- (enc rn).length:Int):=by have:=Jd.out;have:=iw.2.1;rw[aW];omega
    clear oe rF J4 hlen;go_wp2_with fail;go_roundg (n- (j+1))
    case measure=>omega
    case rel=>exact⟨j+1,rn,rfl,rfl,rfl,by omega,aa ⟨HRN.trans HL.eP,MV.out,K1.out,E7.out,vo.out⟩⟩
  ·have AB:j=n:=(by omega);have jA:decide ((j:Int)<(n:Int))=false:=by simp;omega
   have rF:Z=some rj:=(by rw[HL.eq,aL (by rw[<-HN.out];omega)];simp[Rs]);have vo:=aa rF;clear rF AB z0 z1 z2 z3;go_wp2_with fail;go_ret2;exact⟨by rw[vo.out];rfl,HL.below⟩
structure ULoop (w wr:World) (z:Int) (d:Nat) (kd fl:Int) (r:List dE) (l:List T) (Z:Option (List dE)) (j:Nat):Prop where
 box:wr.heap[w.heap.size]? =some (.cells #[.int .i64 z,.slice none 0 0,.int .i64 d,.pointer none,.int .i64 kd,.int .i64 fl] 151 (0,0))
 below:Below w.heap.size w wr
 size:w.heap.size<wr.heap.size
 eq:Z=Rt (l.drop j) r
theorem f301c (b o cap B:Nat) (l:List T) (r:List dE) (z:Int) (d:Nat) (kd fl:Int) (w:World) (hT:fE w) (nI:3<=B) (uL:b<B) (H':B<=w.heap.size) (hM:∀(j:Nat) (t:T) (u:Value),l[j]? =some t->w.cell? ⟨b,o+j,none⟩=some u->TS t u B) (uB:rT w B b l o) (hl:l.length<=1000000) (ez:dV r) (hlen:(enc r).length<=1000000) (hz:0<=z) (VA:z+(enc r).length<=2000000) (hd:d+uG l<=1000000):Calls prog 301 #[.slice (some ⟨b,o,none⟩) l.length cap,.agg #[.int .i64 z,.slice none 0 0,.int .i64 d,.pointer none,.int .i64 kd,.int .i64 fl],.string (bs r)] w λe w'=>e=.returned (gC r (Rt l r))/\Below w.heap.size w w':=by
 have HB:Below w.heap.size w (w.alloc (.cells #[.int .i64 z,.slice none 0 0,.int .i64 d,.pointer none,.int .i64 kd,.int .i64 fl] 151)):=by go_grown
 obtain⟨n,hn⟩:=dS l.length;rw[<-hn]at hl⊢;obtain⟨Z,hZ⟩:=dS (Rt l r);rw[<-hZ];have HN:=aa hn;have HZ:=aa hZ;have HM:=aa hM;have Jv:=aa uB;have iw:=rr ez hlen hz VA hd;have qZ:=aa HB;have V1:((bs r).size:Int)=(enc r).length:=by rw[dQ]
 clear hn hZ hM uB ez hlen hz VA hd HB;go_enter func301,ntmps301;go_wp2_with fail;go_loopg [14] n (λk U7 wr=>∃j:Nat,k=n-j/\U7=.int .i64 j/\j<=n/\Hid (ULoop w wr z d kd fl r l Z j))
 case atStart=>exact⟨0,rfl,rfl,aU _,aa ⟨heap_alloc_new w _,qZ.out,by simp,by rw[bK];exact HZ.out⟩⟩
 case round=>
  obtain⟨j,rfl,rfl,hj,HL⟩:=hrel;obtain⟨z0,z1,z2,z3,z4,z5⟩:=eA HL.box;by_cases gM:j<n
  ·have kY:=gW ((j:Int)+1) (by omega);have jA:decide ((j:Int)<(n:Int))=true:=by simp;omega
   obtain⟨t,ht⟩:∃t,l[j]? =some t:=⟨l[j]'(by rw[<-HN.out];exact gM),ah _⟩;obtain⟨u,hu,OU⟩:=rT.at l o j t Jv.out ht;obtain⟨ty,v,f,rfl,hm,UB,hC⟩:=HM.out j t u ht hu;have HT:=aa ht;have Bs:=aa hC;have TY:=aa OU;have HU:=aa hu;have HO:=aa (Old.ft HL.below H');have OE:wr.cell? ⟨b,o+j,none⟩=some (.iface ty v):=(HO.cell uL).trans HU.out;have i1:(0:Int)<=(j:Int):=by omega
   have i2:(j:Int)<(n:Int):=(by omega);clear ht hC OU hu;have pH:l.drop j=t::l.drop (j+1):=by obtain⟨h1,h2⟩:=aB.1 HT.out;rw[<-h2];exact bo h1
   have T6:=aa pH;clear pH;have fI:=Bs.out wr r z d kd fl (Rp.keep HO.out t _ TY.out) (hT.keep HL.below.size (HO.same 1 (by omega)) (HO.same 2 (by omega))) (ao H' HL.below.size) iw.1 iw.2.1 iw.2.2.1 iw.2.2.2.1 (by have:=iw.2.2.2.2;have:=su HT.out;omega);have vu:=aa fI;clear fI;go_wp2_with fail;refine vu.mono ?_;rintro e w7 ⟨rfl,e1⟩;obtain⟨k,ok,ie⟩:=mg r (res t r);rw[ie];have Cn:=aa ie;have K1:=aa (HL.below.trans (e1.mono HL.below.size));have MV:=aa ((e1.block w.heap.size HL.size).trans HL.box);have E7:=aa (ai HL.size e1.size);clear e1 ie z0 z1 z2 z3 z4 z5;by_cases oe:res t r=some []
   ·have ie:=Cn.out;rw[oe]at ie;have rF:Z=some []:=(by rw[HL.eq,T6.out,Rt,if_pos oe]);have vo:=aa rF;simp only[gC,gd,aG,Int.natCast_zero,Int.sub_zero,bS,cl,bq,b8,bX,true_and,and_true]at ie;obtain⟨rfl,rfl⟩:=ie;have hq:(((enc r).length:Int)==((bs r).size:Int))=true:=(by rw[V1];simp);clear oe rF;go_wp2_with fail;go_ret2;exact⟨by rw[vo.out];simp only[gC,gd,aG,Int.natCast_zero,Int.sub_zero];rfl,K1.out⟩
   ·have rF:Z=Rt (l.drop (j+1)) r:=(by rw[HL.eq,T6.out,Rt,if_neg oe]);have vo:=aa rF;clear rF;cases yB:res t r with
    |none=>
     have ie:=Cn.out;rw[yB]at ie;simp only[gC,bS,cl,bq,b8,bX,true_and,and_true]at ie;obtain⟨rfl,rfl⟩:=ie;clear oe yB;go_wp2_with fail;go_roundg (n- (j+1))
     case measure=>omega
     case rel=>exact⟨j+1,rfl,rfl,by omega,aa ⟨MV.out,K1.out,E7.out,vo.out⟩⟩
    |some rn=>
     have ie:=Cn.out;rw[yB]at ie;simp only[gC,bS,cl,bq,b8,bX,true_and,and_true]at ie;obtain⟨rfl,rfl⟩:=ie;have hq:(((enc r).length- (enc rn).length:Int)==(enc r).length)=false:=by
      rw[beq_eq_false_iff_ne];cases rn with
      |nil=>exact(oe yB).elim
      |cons c rn=>rw[et,aj];have:=(ec c).1;omega
     clear oe yB;go_wp2_with fail;go_roundg (n- (j+1))
     case measure=>omega
     case rel=>exact⟨j+1,rfl,rfl,by omega,aa ⟨MV.out,K1.out,E7.out,vo.out⟩⟩
  ·have jA:decide ((j:Int)<(n:Int))=false:=(by simp;omega);have rF:Z=none:=by
    rw[HL.eq,aL (by rw[<-HN.out];omega)];simp[Rt]
   have vo:=aa rF;clear rF z0 z1 z2 z3 z4 z5;go_wp2_with fail;go_ret2;exact⟨by rw[vo.out];rfl,HL.below⟩
theorem kj (ty:TypeId) (f:FuncId) (hm:∀w,(method 570 ty v "Match").run prog w=.ok (f,v) w) (UB:∀args w,(callFunc f args).run prog w=.ok (.enter f args) w) (hC:∀(w:World) (r:List dE) (c0 c1 c2 c3 c4 c5:Value),Rp w B t (.iface ty v)->fE w->dV r->(enc r).length<=1000000->Calls prog f #[v,.agg #[c0,c1,c2,c3,c4,c5],.string (bs r)] w λe w'=>e=.returned (gC r (res t r))/\Below w.heap.size w w'):TS t (.iface ty v) B:=⟨ty,v,f,rfl,hm,UB,λw r _ _ _ _ hR hT _ hr hl _ _ _=>hC w r _ _ _ _ _ _ hR hT hr hl⟩
mutual
theorem MB {B:Nat} (nI:3<=B):∀(t:T) (w0:World) (u:Value),Rp w0 B t u->t.still=true->TS t u B
 |.text t,w0,u,h,_=>by obtain⟨b,⟨rfl,_⟩,_⟩:=h;refine kj 250 249 (LX _) Yk λw r c0 c1 c2 c3 c4 c5 hR hT oc oa=> ?_;obtain⟨b',⟨e,_⟩,h1,h2,_⟩:=hR;simp only[bA,bD,ae,aY,and_true,true_and]at e;subst e;exact f249 _ _ _ _ _ _ _ _ _ w h2 oc h1
 |.char sep,w0,u,h,_=>by obtain⟨b,vs,⟨rfl,_⟩,_⟩:=h;refine kj 247 247 (LY _) Yl λw r c0 c1 c2 c3 c4 c5 hR hT oc oa=> ?_;obtain⟨b',vs',⟨e,_⟩,h1,h2,h3,h4⟩:=hR;simp only[bA,bD,ae,aY,and_true,true_and]at e;subst e;exact f247 _ _ _ _ _ _ _ _ _ _ w hT h4 oc h1 h2
 |.star sep nx tm,w0,u,h,hs=>by obtain⟨b,vs,⟨rfl,_⟩,_⟩:=h;simp only[T.still]at hs;subst hs;refine kj 255 253 (LW _) Yj λw r c0 c1 c2 c3 c4 c5 hR hT oc oa=> ?_;obtain⟨b',vs',⟨e,_⟩,h1,h2,h3,h4,h5,h6⟩:=hR;simp only[bA,bD,ae,aY,and_true,true_and]at e;subst e;refine(X7 _ _ _ _ r _ _ _ _ _ _ w h1 h3 oc oa).mono ?_;rintro e w' ⟨rfl,hb⟩;exact⟨by simp[res,M],hb⟩
 |.range lo hi neg,w0,u,h,_=>by obtain⟨b,⟨rfl,_⟩,_⟩:=h;refine kj 331 297 (LR _) Yg λw r c0 c1 c2 c3 c4 c5 hR hT oc oa=> ?_;obtain⟨b',⟨e,_⟩,h1,h2,h3⟩:=hR;simp only[bA,bD,ae,aY,and_true,true_and]at e;subst e;exact f297 _ _ _ _ _ _ _ _ _ _ _ w hT oc h1 h2 h3
 |.set cs neg,w0,u,h,_=>by obtain⟨b,mb,⟨rfl,_⟩,_⟩:=h;refine kj 334 299 (LQ _) Yf λw r c0 c1 c2 c3 c4 c5 hR hT oc oa=> ?_;obtain⟨b',mb',⟨e,_⟩,h1,h2,h3,_⟩:=hR;simp only[bA,bD,ae,aY,and_true,true_and]at e;subst e;exact f299 _ _ _ _ _ _ _ _ _ _ _ w hT oc h1 h2 h3
 |.void,w0,u,h,_=>by obtain⟨b,rfl⟩:=h;refine kj 260 259 (LV _) Yi λw r c0 c1 c2 c3 c4 c5 hR hT oc oa=> ?_;exact f259 _ _ _ _ _ _ _ _ w
 |.pre t sep,w0,u,h,_=>by obtain⟨b,⟨rfl,_⟩,_⟩:=h;refine kj 344 303 (LO _) Yd λw r c0 c1 c2 c3 c4 c5 hR hT oc oa=> ?_;obtain⟨b',⟨e,_⟩,h1,h2,h3,h4⟩:=hR;simp only[bA,bD,ae,aY,and_true,true_and]at e;subst e;exact f303 _ _ _ _ _ _ _ _ _ _ w h3 h4 oc oa h1 h2
 |.eP t sep,w0,u,h,_=>by obtain⟨b,⟨rfl,_⟩,_⟩:=h;refine kj 347 307 (LN _) Yc λw r c0 c1 c2 c3 c4 c5 hR hT oc oa=> ?_;obtain⟨b',⟨e,_⟩,h1,h2,h3,h4⟩:=hR;simp only[bA,bD,ae,aY,and_true,true_and]at e;subst e;exact f307 _ _ _ _ _ _ _ _ _ _ w h3 h4 oc oa h1 h2
 |.dN p q sep,w0,u,h,_=>by obtain⟨b,⟨rfl,_⟩,_⟩:=h;refine kj 349 309 (LM _) Yb λw r c0 c1 c2 c3 c4 c5 hR hT oc oa=> ?_;obtain⟨b',⟨e,_⟩,h1,h2,h3,h4,h5,h6,h7,h8⟩:=hR;simp only[bA,bD,ae,aY,and_true,true_and]at e;subst e;exact f309 _ _ _ _ _ _ _ _ _ _ _ w h4 h5 h6 oc oa h7 h8 h1 h2 h3
 |.cont t,w0,u,h,_=>by obtain⟨b,⟨rfl,_⟩,_⟩:=h;refine kj 352 311 (LL _) Ya λw r c0 c1 c2 c3 c4 c5 hR hT oc oa=> ?_;obtain⟨b',⟨e,_⟩,h1,h2,h3,h4⟩:=hR;simp only[bA,bD,ae,aY,and_true,true_and]at e;subst e;exact f311 _ _ _ _ _ _ _ _ _ w h2 h3 oc oa h4 h1
 |.dH l,w0,u,h,hs=>by obtain⟨b,o,cap,rfl,uL,hl,_⟩:=h;simp only[T.still]at hs;refine⟨263,_,261,rfl,LU _,Yh,?_⟩;intro w r z d kd fl hR hT H' hr uD hz VA hd;obtain⟨b',o',oY,e,_,_,uB⟩:=hR;simp only[bA,au,ae,aY,and_true,true_and]at e;obtain⟨⟨rfl,rfl⟩,rfl⟩:=e;rw[N7 hs];exact f261c b o cap B l r z d kd fl w hT nI uL H' (Bc nI l w b o uB hs) uB hl hr uD hz VA (by simpa only[uH]using hd)
 |.alt l,w0,u,h,hs=>by simp[T.still]at hs
 |.eh l,w0,u,h,hs=>by obtain⟨b,o,cap,rfl,uL,hl,_⟩:=h;simp only[T.still]at hs;refine⟨342,_,301,rfl,LP _,Ye,?_⟩;intro w r z d kd fl hR hT H' hr uD hz VA hd;obtain⟨b',o',oY,e,_,_,uB⟩:=hR;simp only[bA,au,ae,aY,and_true,true_and]at e;obtain⟨⟨rfl,rfl⟩,rfl⟩:=e;rw[QX hs];exact f301c b o cap B l r z d kd fl w hT nI uL H' (Bc nI l w b o uB hs) uB hl hr uD hz VA (by simpa only[uH]using hd)
theorem Bc {B:Nat} (nI:3<=B):∀(l:List T) (w0:World) (b o:Nat),rT w0 B b l o->fW l=true->∀(j:Nat) (t:T) (u:Value),l[j]? =some t->w0.cell? ⟨b,o+j,none⟩=some u->TS t u B
 | [],_,_,_,_,_,j,t,u,h,_=>by simp at h
 |t::l,w0,b,o,hR,hs,0,t',u,h,hc=>by simp only[aN,ae]at h;subst h;simp only[fW,al]at hs;obtain⟨⟨v,h1,h2⟩,_⟩:=hR;rw[bL,h1]at hc;simp only[ae]at hc;subst hc;exact MB nI t w0 v h2 hs.1
 |t::l,w0,b,o,hR,hs,j+1,t',u,h,hc=>by simp only[fW,al]at hs;exact Bc nI l w0 b (o+1) hR.2 hs.2 j t' u (by simpa using h) (by rw[show o+1+j=o+(j+1)by omega];exact hc)
end
theorem f30c (b:Nat) (root:T) (u:Value) (ed:Nat) (eP s:List dE) (w:World) (hP:Bk w b u false ed eP) (hR:Rp w w.heap.size root u) (hT:fE w) (h3:3<=w.heap.size) (ez:dV s) (hlen:(enc s).length<=1000000) (iW:root.still=true) (hh:uH root<=1000000) (PY:Bool) (EL:PY=true↔res root s=some []):Calls prog 30 #[.pointer (some ⟨b,0,none⟩),.string (bs s)] w λe w'=>e=.returned (.bool PY)/\Below w.heap.size w w':=by
 obtain⟨p1,p2,p3,p4⟩:=hP;have uK:b<w.heap.size:=bp w _ p1;obtain⟨ty,v,f,rfl,hm,UB,hC⟩:=MB h3 root w u hR iW;have q1:=dJ p1 (.cells #[.int .i64 0,.slice none 0 0,.int .i64 0,.pointer none,.int .i64 0,.int .i64 0] 151);have q2:=dJ p2 (.cells #[.int .i64 0,.slice none 0 0,.int .i64 0,.pointer none,.int .i64 0,.int .i64 0] 151);have Ub:=aa EL;have HR:=aa hR;have iw:=jS ez hlen hh;have Bs:=aa hC;have Qi:((bs s).size:Int)=(enc s).length:=by rw[dQ]
 have s1:(0:Int)<=0:=Int.le_refl _;have s2:(0:Int)<=((bs s).size:Int):=by omega
 have s4:(bs s).extract 0 (bs s).size=bs s:=by apply fC;rw[Lib.extract_data];simp[bs,ByteArray.size]
 clear EL hR ez hlen hh hC iW
 go_enter_defers func30,ntmps30
 go_wp2_with fail;go_loopg [] 0 (λk wr=>k=0/\wr=w.alloc (.cells #[.int .i64 0,.slice none 0 0,.int .i64 0,.pointer none,.int .i64 0,.int .i64 0] 151))
 case atStart=>exact⟨rfl,rfl⟩
 case round=>
  obtain⟨rfl,rfl⟩:=hrel;obtain⟨z0,z1,z2,z3,z4,z5⟩:=eA (heap_alloc_new w (.cells #[.int .i64 0,.slice none 0 0,.int .i64 0,.pointer none,.int .i64 0,.int .i64 0] 151));go_wp2_with fail;refine wp_region_noPanic ?_;refine dP (λw'=>w'.cell? ⟨w.heap.size,0,none⟩=some (.int .i64 0)/\w'.cell? ⟨w.heap.size,1,none⟩=some (.slice none 0 0)/\w'.cell? ⟨w.heap.size,2,none⟩=some (.int .i64 0)/\w'.cell? ⟨w.heap.size,3,none⟩=some (.pointer none)/\w'.cell? ⟨w.heap.size,4,none⟩=some (.int .i64 0)/\w'.cell? ⟨w.heap.size,5,none⟩=some (.int .i64 0)/\w'.cell? ⟨b,3,none⟩=some (.iface ty v)) [(true,0),(true,1),(true,2),(true,3),(true,4),(true,5),(true,6),(true,7),(true,8),(true,9),(true,10),(false,11),(false,12),(true,13),(true,14),(false,15)] (by kernel_rfl) (by kernel_rfl) ⟨z0,z1,z2,z3,z4,z5,q1⟩ (λhHeld=> ?_);iterate 11
   refine dL (v:= ?_) rfl (λ_ _ _ h=>h) (by rfl) ?_ hHeld ?_;rotate_left
   ·intro w hSw;(try dsimp only at hSw);go_simp
    try with_reducible rfl
   simp only[Act.put,iX]
  refine dM rfl (λK hK=> ?_);go_simp;have qZ:Hid (Below w.heap.size w (w.alloc (.cells #[.int .i64 0,.slice none 0 0,.int .i64 0,.pointer none,.int .i64 0,.int .i64 0] 151)).drew):=aa (by go_grown);have HO:=aa (Old.ft qZ.out (af _));have fI:=Bs.out _ s 0 0 0 0 (Rp.keep HO.out root _ HR.out) (hT.keep qZ.size (HO.same 1 (by omega)) (HO.same 2 (by omega))) qZ.size iw.1 iw.2.1 (Int.le_refl _) (by have:=iw.2.1;omega) (by have:=iw.2.2;omega);refine fI.mono ?_;clear fI;rintro e w7 ⟨rfl,e1⟩;obtain⟨k',ok,ie⟩:=mg s (res root s);rw[ie];have Cn:=aa ie;have Fe:=aa (qZ.trans (e1.mono qZ.size));have KR:=aa ((e1.block w.heap.size (by show w.heap.size<(w.alloc _).heap.size;rw[ab];omega)).trans (heap_alloc_new w (.cells #[.int .i64 0,.slice none 0 0,.int .i64 0,.pointer none,.int .i64 0,.int .i64 0] 151)));have Wr:=aa (((Old.ft Fe.out (af _)).cell uK).trans p1);clear e1 ie z0 z1 z2 z3 z4 z5;obtain⟨z0,z1,z2,z3,z4,z5⟩:=eA KR.out;dsimp only;refine hK.out _ _ ⟨z0,z1,z2,z3,z4,z5,Wr.out⟩ (λhHeld=> ?_);clear hK K q1 q2;refine dM rfl (λK hK=> ?_);go_simp;refine hK.out _ _ hHeld (λdW=> ?_);clear hK K dW;iterate 2
   refine dL (v:= ?_) rfl (λ_ _ _ h=>h) (by rfl) ?_ hHeld ?_;rotate_left
   ·intro w hSw;(try dsimp only at hSw);go_simp
    try with_reducible rfl
   simp only[Act.put,iX]
  refine dM rfl (λK hK=> ?_);go_simp;refine hK.out _ _ hHeld (λdW=> ?_);clear hK K dW;refine dX rfl ?_;clear hHeld;by_cases oe:res root s=some []
  ·have ie:=Cn.out;rw[oe]at ie;simp only[gC,gd,aG,Int.natCast_zero,Int.sub_zero,bS,cl,bq,b8,bX,true_and,and_true]at ie;obtain⟨rfl,rfl⟩:=ie;have hq:(((enc s).length:Int)==((bs s).size:Int))=true:=(by rw[dQ];simp);have hD:=Ub.2 oe;subst hD;clear oe;go_wp2_with fail;refine NoPanic.normal ?_;go_wp2_with fail;exact⟨_,results_tmp rfl _ _ _,rfl,Fe.out⟩
  ·have mY:ok=false\/(ok=true/\(k'==((bs s).size:Int))=false):=by
    have ie:=Cn.out;cases yB:res root s with
    |none=>rw[yB]at ie;simp only[gC,bS,cl,bq,b8,bX,true_and,and_true]at ie;exact .inl ie.2.symm
    |some rn=>
     rw[yB]at ie;simp only[gC,bS,cl,bq,b8,bX,true_and,and_true]at ie;refine .inr ⟨ie.2.symm,?_⟩;rw[<-ie.1,beq_eq_false_iff_ne,dQ];cases rn with
     |nil=>exact(oe yB).elim
     |cons c rn=>rw[et,aj];have:=(ec c).1;omega
   have Qa:PY=false:=by
    cases PY with
    |false=>rfl
    |true=>exact(oe (Ub.1 rfl)).elim
   subst Qa;clear oe;rcases mY with rfl|⟨rfl,hq⟩
   all_goals
    go_wp2_with fail;refine NoPanic.normal ?_;go_wp2_with fail;exact⟨_,results_tmp rfl _ _ _,rfl,Fe.out⟩
theorem Gy (S:List dE) (gl:List Gb) (pb:Nat) (s:List dE) (w:World) (h:yk S gl) (hC:Ji w pb S gl) (hT:fE w) (h3:3<=w.heap.size) (ez:dV s) (hs:(enc s).length<=100) (pT:gl≠[]->(enc s).length<=30):Calls prog 30 #[.pointer (some ⟨pb,0,none⟩),.string (bs s)] w λe w'=>e=.returned (.bool (lp S gl s))/\Below w.heap.size w w':=by
 obtain⟨u,hP,hR⟩:=hC;have hf:=h.fine;obtain⟨t,ht⟩:=dS (T.dH (j8 S gl));have hg:=Kp (S:=S) (s:=s) gl;rw[<-ht]at hP hR hf hg;have hh:uH (comp t)<=1000000:=by have:=Sg (comp t);have:=hf.sz;omega
 cases hn:needs (comp t)with
 |true=>
  rw[hn,if_pos rfl,if_pos rfl]at hP;have eK:gl≠[]:=by rintro rfl;rw[ht]at hn;simp only[j8]at hn;exact absurd hn (by decide)
  have hl:s.length<=30:=by have:=(eI s).1;have:=pT eK;omega
  obtain⟨B0,eu,eT⟩:=hf.budget s.length hl;exact f30 pb (comp t) u _ _ s w hP hR hT h3 ez (ud _ (EN _ hf.iK hf.lL)).1 (by omega) hf.right hh B0 eu eT (lp S gl s) (hg.trans (hf.D s).symm) (Re _ s)
 |false=>rw[hn]at hP;have iW:=nP _ _ hf.fin hn;refine f30c pb (comp t) u _ _ s w hP hR hT h3 ez (by omega) iW hh (lp S gl s) (hg.trans ((hf.D s).symm.trans ⟨λhd=>qA _ hf.fin iW s hd,λhr=> ?_⟩));exact vj _ ⟨[],0,false,0,false⟩ s [] ⟨[],[]⟩ rfl rfl hr
theorem f28 (S:List dE) (gl:List Gb) (s:List dE) (w:World) (h:yk S gl) (hlen:(enc (fm gl)).length<=1000000) (hT:fE w) (h3:3<=w.heap.size) (ez:dV s) (hs:(enc s).length<=100) (pT:gl≠[]->(enc s).length<=30):Calls prog 28 #[.string (bs (fm gl)),.string (bs S),.bool false,.string (bs s)] w λe w'=>e=.returned (.tuple #[.bool (lp S gl s),.bool true])/\Below w.heap.size w w':=by have HC:=aa (f29 S gl w h hlen hT h3);have H:=rr h hT ez hs pT;clear h hT ez hs pT;go_enter func28,ntmps28;go_wp2_with fail;refine HC.mono ?_;rintro e w2 ⟨pb,rfl,hC,hb⟩;have HM:=aa (Gy S gl pb s w2 H.1 hC (H.2.1.below hb (af _)) (by have:=hb.size;omega) H.2.2.1 H.2.2.2.1 H.2.2.2.2);have HB:=aa hb;clear hC hb;go_wp2_with fail;refine HM.mono ?_;rintro e w3 ⟨rfl,gQ⟩;have DK:=aa (HB.trans (gQ.mono HB.size));clear gQ;go_wp2_with fail;go_ret2;exact⟨rfl,DK.out⟩
def Bg:List Gb:=[.text [97],.any,.text [99]]
theorem yh:yk [] Bg:=by
 refine⟨?_,?_,by decide,⟨(true,false),rfl⟩,⟨by decide,.inl rfl⟩,by decide,by decide,eS,by decide⟩
 ·simp only[Bg,iY,sN,beside,and_true,true_and];exact⟨⟨by simp,eQ (fZ (by omega)) eS⟩,by simp,eQ (fZ (by omega)) eS⟩
 ·simp only[Bg,fU,kc,and_true,true_and];exact⟨by decide,by decide⟩
theorem f8 (w:World) (hT:fE w) (h3:3<=w.heap.size):Calls prog 8 #[] w λe w'=>e=.returned (.bool true)/\Below w.heap.size w w':=by have uF:dV [97,98,98,99]:=eQ (fZ (by omega)) (eQ (fZ (by omega)) (eQ (fZ (by omega)) (eQ (fZ (by omega)) eS)));have EI:dV [97,98,98,100]:=eQ (fZ (by omega)) (eQ (fZ (by omega)) (eQ (fZ (by omega)) (eQ (fZ (by omega)) eS)));have HC:Hid (Calls prog 28 #[.string ⟨#[97,42,99]⟩,.string ⟨#[]⟩,.bool false,.string ⟨#[97,98,98,99]⟩] w λe w'=>e=.returned (.tuple #[.bool true,.bool true])/\Below w.heap.size w w'):=aa (f28 [] Bg [97,98,98,99] w yh (by decide) hT h3 uF (by decide) (λ_=>by decide));have H:=eo hT EI;clear hT uF EI;go_enter func8,ntmps8;go_wp2_with fail;refine HC.mono ?_;rintro e w2 ⟨rfl,hb⟩;have jx:Hid (Calls prog 28 #[.string ⟨#[97,42,99]⟩,.string ⟨#[]⟩,.bool false,.string ⟨#[97,98,98,100]⟩] w2 λe w'=>e=.returned (.tuple #[.bool false,.bool true])/\Below w2.heap.size w2 w'):=aa (f28 [] Bg [97,98,98,100] w2 yh (by decide) (H.1.below hb (af _)) (by have:=hb.size;omega) H.2 (by decide) (λ_=>by decide));have HB:=aa hb;clear hb;go_wp2_with fail;refine jx.mono ?_;rintro e w3 ⟨rfl,gQ⟩;have DK:=aa (HB.trans (gQ.mono HB.size));clear gQ;go_wp2_with fail;go_ret;exact⟨rfl,DK.out⟩
theorem At.up {t:TypeId} (hB:B<=B') (h:At t B b v):At t B' b v:=⟨h.1,ai h.2 hB⟩
theorem lx.up (hB:B<=B') (h:lx B v):lx B' v:=λb hb=>ai (h b hb) hB
mutual
theorem Rp.up {w:World} {B B':Nat} (hB:B<=B'):∀(t:T) (v:Value),Rp w B t v->Rp w B' t v
 |.text t,v,⟨b,h1,h2⟩=>⟨b,h1.up hB,h2⟩
 |.char sep,v,⟨b,vs,h1,h2,h3,h4,h5⟩=>⟨b,vs,h1.up hB,h2,h3,h4.up hB,h5⟩
 |.star sep nx tm,v,⟨b,vs,h1,h2,h3,h4⟩=>⟨b,vs,h1.up hB,h2,h3.up hB,h4⟩
 |.range lo hi neg,v,⟨b,h1,h2⟩=>⟨b,h1.up hB,h2⟩
 |.set cs neg,v,⟨b,mb,h1,h2,h3,h4,h5⟩=>⟨b,mb,h1.up hB,h2,h3,h4,ai h5 hB⟩
 |.void,v,h=>h
 |.pre t sep,v,⟨b,h1,h2⟩=>⟨b,h1.up hB,h2⟩
 |.eP t sep,v,⟨b,h1,h2⟩=>⟨b,h1.up hB,h2⟩
 |.dN p q sep,v,⟨b,h1,h2⟩=>⟨b,h1.up hB,h2⟩
 |.cont t,v,⟨b,h1,h2⟩=>⟨b,h1.up hB,h2⟩
 |.dH l,v,⟨b,o,cap,h1,h2,h3,h4⟩=>⟨b,o,cap,h1,ai h2 hB,h3,rT.up hB l b o h4⟩
 |.alt l,v,⟨b,o,cap,h1,h2,h3,h4⟩=>⟨b,o,cap,h1,ai h2 hB,h3,rT.up hB l b o h4⟩
 |.eh l,v,⟨b,o,cap,h1,h2,h3,h4⟩=>⟨b,o,cap,h1,ai h2 hB,h3,rT.up hB l b o h4⟩
theorem rT.up {w:World} {B B':Nat} (hB:B<=B'):∀(l:List T) (b o:Nat),rT w B b l o->rT w B' b l o
 | [],_,_,_=>trivial
 |t::l,b,o,⟨⟨u,h1,h2⟩,h3⟩=>⟨⟨u,h1,Rp.up hB t u h2⟩,rT.up hB l b (o+1) h3⟩
end
theorem Bk.keep {u:Value} {st:Bool} {m:Nat} {eP:List dE} (h:Bk w b u st m eP) (hk:∀p v,w.cell? p=some v->w'.cell? p=some v):Bk w' b u st m eP:=by obtain⟨p1,p2,p3,p4⟩:=h;exact⟨hk _ _ p1,hk _ _ p2,hk _ _ p3,hk _ _ p4⟩
theorem Ji.keep {pb:Nat} {S:List dE} {gl:List Gb} (h:Ji w pb S gl) (hb:Below w.heap.size w w'):Ji w' pb S gl:=by obtain⟨u,h1,h2⟩:=h;exact⟨u,h1.keep (dF hb),Rp.up hb.size _ _ (Rp.keep (Old.ft hb (af _)) _ _ h2)⟩
theorem Tryz.info4:(prog.info? 4).map (λi=>(i.zero,i.size,i.bytes))=some (some (.bool false),1,1):=by kernel_rfl
theorem f9 (S:List dE) (gl:List Gb) (ks:List (List dE)) (kv:Value) (w:World) (h:yk S gl) (hlen:(enc (fm gl)).length<=1000000) (hT:fE w) (h3:3<=w.heap.size) (ie:P0 w (ks.map bs) kv) (hu:∀u∈ks,dV u/\(enc u).length<=100/\(gl≠[]->(enc u).length<=30)) (Hh:ks.length<=1000000):Calls prog 9 #[.string (bs (fm gl)),.string (bs S),.bool false,kv] w λe w'=>∃v B,e=.returned (.tuple #[v,.bool true])/\w.heap.size<=B/\w'.ownsRow B 4 1 v ks.length (ks.map λu=>.bool (lp S gl u))/\Below w.heap.size w w':=by
 obtain⟨i0,hi,gD,gB,gF⟩:=info_parts Tryz.info4;obtain⟨a,c,rfl,q7,mT⟩:=ie;rw[bU]at*;obtain⟨n,hn⟩:=dS ks.length;rw[<-hn]at q7 Hh⊢;have HC:=aa (f29 S gl w h hlen hT h3);have H:=rr hn mT h hT hu;have HI:=sW hi gD gB gF;clear h hT hu hn mT hi gD gB gF q7;go_enter func9,ntmps9;go_wp2_with fail;refine HC.mono ?_;rintro e w2 ⟨pb,rfl,hC,hb⟩;have HB:=eo hC hb;clear hC hb;go_wp2_with fail;go_loopg [25,8] n (λk s25 s8 wr=>∃j:Nat,k=n-j/\s25=.int .i64 j/\j<=n/\Hid (Below w2.heap.size w2 wr/\wr.ownsRow w2.heap.size 4 1 s8 j ((ks.take j).map λu=>.bool (lp S gl u))))
 case atStart=>exact⟨0,rfl,rfl,aU _,aa ⟨ay _ _,rfl,.inl ⟨rfl,rfl⟩⟩⟩
 case round=>
  obtain⟨j,rfl,rfl,hj,HJ⟩:=hrel;by_cases gM:j<n
  ·have kY:=gW ((j:Int)+1) (by omega);have jA:decide ((j:Int)<(n:Int))=true:=by simp;omega
   have i1:(0:Int)<=(j:Int):=(by omega);have i2:(j:Int)<(n:Int):=by omega
   have mV:j<ks.length:=(by rw[<-H.1];exact gM);obtain⟨u,hu⟩:∃u,ks[j]? =some u:=⟨_,ah mV⟩;obtain⟨b,o,rfl,hS⟩:=H.2.1 (by intro e;rw[List.map_eq_nil_iff]at e;rw[e]at mV;simp at mV);have jq:Below w.heap.size w wr:=HB.2.trans (HJ.1.mono HB.2.size);have hc:=dF jq _ _ (hS j (bs u) (by rw[cq,hu];rfl)).1;obtain⟨k1,k2,k3⟩:=H.2.2.2.2 u (bh.2 ⟨j,hu⟩);have HM:=aa (Gy S gl pb u wr H.2.2.1 (HB.1.keep HJ.1) (H.2.2.2.1.below jq (af _)) (by have:=jq.size;omega) k1 k2 k3);have HU:=aa hu;obtain⟨X,hX⟩:=dS (lp S gl u);rw[<-hX]at HM;have HX:=aa hX;obtain⟨a8,c8,Zf,_,_⟩:=d' HJ.2;subst Zf;clear hu hS jq k1 k2 k3 hX;go_wp2_with fail;refine HM.mono ?_;rintro e w4 ⟨rfl,mZ⟩;have gO:(w4.alloc (.cells #[.bool X] 4)).ownsRow w2.heap.size 4 1 (.slice a8 j c8) j ((ks.take j).map λu=>.bool (lp S gl u)):=(dI HJ.2 λg hg=>mZ.block g (HJ.2.lt g hg).2).alloc _;have xC:=aa gO;have P7:=aa mZ;clear gO mZ;go_wp2_with (at_builtin;refine wpList_append_own _ rfl (.tmp 29) (.tmp 33) 40 rfl w2.heap.size 4 i0 (.bool false) 1 1 underlying40 HI.1 HI.2.1 HI.2.2.1 HI.2.2.2 rfl (by decide) (.slice a8 j c8) j _ rfl xC.out ⟨w4.heap.size,0,none⟩ 1 1 [.bool X] rfl rfl ?c1 ?c2 ?c3 ?c4 ?c5 ?c6)
   case c1=>
    intro i v hv;cases i with
    |zero=>simp only[aN,ae]at hv;subst hv;exact cell_of (heap_alloc_new w4 _) rfl
    |succ i=>simp at hv
   case c2=>intro v hv;simp only[aE]at hv;subst hv;rfl
   case c3=>unfold maxLen;omega
   case c4=>omega
   case c5=>rw[ab];have:=P7.size;have:=HJ.1.size;omega
   case c6=>
    intro v' w5 ho hg _;have jF:Below w2.heap.size w2 w5:=by have mQ:Below w2.heap.size w2 (w4.alloc (.cells #[.bool X] 4)):=HJ.1.trans ((show Below wr.heap.size wr (w4.alloc (.cells #[.bool X] 4))from P7.trans (by go_grown;exact P7.size)).mono HJ.1.size);obtain⟨q1,q2,q3,q4,q5⟩:=hg;refine mQ.trans ⟨q1,q2,q3,q4,λb hb=>q5 b (ai hb mQ.size) λe=> ?_⟩;have:=(HJ.2.lt b e.symm).1;omega
    have HO:=eo ho jF;clear ho hg jF;go_wp2_with fail;go_roundg (n- (j+1))
    case measure=>omega
    case rel=>exact⟨j+1,rfl,rfl,by omega,aa ⟨HO.2,by have h1:=HO.1;rw[ca,HU.out,cM];simp only[Option.toList,cX,cH];rw[<-HX.out,List.map_take];exact h1⟩⟩
  ·have jA:decide ((j:Int)<(n:Int))=false:=(by simp;omega);go_wp2_with fail;go_ret2;have h2:=HJ.2;have AB:j=n:=(by omega);rw[aP (by rw[<-H.1];omega)]at h2;exact⟨_,w2.heap.size,rfl,HB.2.size,by rw[<-AB];exact h2,HB.2.trans (HJ.1.mono HB.2.size)⟩
end Go.Proofs.YtfejflhgaphilaaGreatDoor
