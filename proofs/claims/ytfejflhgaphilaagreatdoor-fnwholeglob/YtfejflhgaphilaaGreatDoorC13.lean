/- The lexer's tokens are put in a row and taken from its front. The lexer reads a run of literal characters. -/
import Derived.Test.YtfejflhgaphilaaGreatDoorC12
import Derived.Laws.CopyRow
import Derived.Laws.Cover4
set_option linter.all false
set_option maxRecDepth 100000
set_option maxHeartbeats 64000000
open Go.Proofs.Tryz
namespace Go.Proofs.YtfejflhgaphilaaGreatDoor
open Go.RowKit Gm
variable {w w':World} {P:Program} {v fb:Value}
theorem sS (w:World) (dT sT ty elem:TypeId) (S g o IJ Wc:Nat) (a:Addr) (FQ U5:Nat) (cur:Array Value) (t:TypeId) (cs:List Value) (hu:P.underlying dT=some (.slice elem)) (hs:(P.info? elem).map (·.size)=some S) (hg:w.heap[g]? =some (.cells cur t (0,0))) (hn:cs.length=Nat.min FQ IJ*S) (Ze:∀j v,cs[j]? =some v->w.cell? (a.add j)=some v) (oS:o+cs.length<=cur.size) (h1:∀v∈cs,v.oneCell'=true):(Builtin.copy_ #[dT,sT] ty #[.slice (some ⟨g,o,none⟩) IJ Wc,.slice (some a) FQ U5]).run P w=.ok (goInt (Nat.min FQ IJ)) (w.setRow g (cur.toList.take o++cs++cur.toList.drop (o+cs.length)).toArray):=by
 have hl:=run_loadCells_list (P:=P) w a cs Ze;have iW:=run_storeCells_at P g o t cs 0 cur w hg (by simpa using oS) h1;rw[hn]at hl;cases hq:P.info? elem with
 |none=>simp[hq]at hs
 |some i=>
  have hi:i.size=S:=by simpa[hq]using hs
  simp[Builtin.copy_,run_underlying hu,Builtin.lenOf,Builtin.firstCells,sizeOf,typeInfo,hq,hi,hl,iW]
theorem iM {ops:Array Oper} {rest:List Oper} {o:Oper} {a:Act} {Q:Exit->Act->World->Prop} (hgd:o.guard=none) (d s:Operand) (dT sT:TypeId) (ho:o.op=.call {callee:=.builtin .copy,args:=#[d,s],argTypes:=#[dT,sT]}) (elem:TypeId) (S:Nat) (hu:P.underlying dT=some (.slice elem)) (gJ:(P.info? elem).map (·.size)=some S) (g off IJ Wc:Nat) (ad:Addr) (FQ U5:Nat) (hd:a.eval d=.slice (some ⟨g,off,none⟩) IJ Wc) (hs:a.eval s=.slice (some ad) FQ U5) (cur:Array Value) (t:TypeId) (hg:w.heap[g]? =some (.cells cur t (0,0))) (cs:List Value) (hn:cs.length=Nat.min FQ IJ*S) (Ze:∀j v,cs[j]? =some v->w.cell? (ad.add j)=some v) (oS:off+cs.length<=cur.size) (h1:∀v∈cs,v.oneCell'=true) (h:wpList P ops Q rest (a.put o.dst (goInt (Nat.min FQ IJ))) (w.setRow g (cur.toList.take off++cs++cur.toList.drop (off+cs.length)).toArray)):wpList P ops Q (o::rest) a w:=by refine wpList_plain hgd λK hK=> ?_;have RN:=sS (P:=P) w dT sT o.type elem S g off IJ Wc ad FQ U5 cur t cs hu gJ hg hn Ze oS h1;unfold Oper.wp;rw[aD]at h RN;simp[execOp,ho,resolve,invoke,builtin,hd,hs,RN,Result.andThen];exact hK _ _ h
theorem Tryz.Vv:(prog.info? 242).map (λi=>(i.zero,i.size,i.bytes))=some (some (.agg #[.int .i64 0,.string ⟨#[]⟩]),2,24):=by kernel_rfl
theorem Tryz.U2:(prog.info? 242).map (·.size)=some 2:=by kernel_rfl
section
variable {w:World} {B L tl:Nat} {txt rest:List dE} {q:List Tok} {vq:Value} {lr gI:Int} {hr:Bool}
theorem Vd (k:IntKind) (z:Int) (s:ByteArray):∀u∈[Value.int k z,.string s],u.oneCell'=true:=by intro u hu;simp only[az,ba,or_false]at hu;rcases hu with rfl|rfl<;>rfl
theorem f172 (t:Tok) (h:er w B L txt rest tl q vq lr gI hr) (hq:q.length<=1000000):Calls prog 172 #[.pointer (some ⟨L,3,none⟩),.agg #[.int .i64 (t.num:Nat),.string (bs t.str)]] w λe w'=>e=.returned (.tuple #[])/\∃fb,er w' B L txt rest tl (q++[t]) fb lr gI hr/\kA w w' L vq fb:=by
 obtain⟨i0,hi,gD,gB,gF⟩:=info_parts Tryz.Vv;obtain⟨_,_,_,c3,_,_,_,_,cf⟩:=gg h.gu;have l1:=h.lt.1;have l2:=h.lt.2;have hB:=h.base;obtain⟨x,hx⟩:=dS (((t.num:Nat):Int):Int);obtain⟨y,hy⟩:=dS (bs t.str);rw[<-hx,<-hy];have HX:=aa hx;have HY:=aa hy;have H:=aa h;have L2:=aa l2;have HO:∀wx:World,Below w.heap.size w wx->wx.ownsRow B 242 2 vq q.length (fp q):=λwx hb=>dI H.q λg hg=>hb.block g (L2.out g hg).2;have HO':=aa HO;have z3:=dJ c3 (.cells #[.int .i64 x,.string y] 242);have z0:=bC w #[.int .i64 x,.string y] 242 0;have z1:=bC w #[.int .i64 x,.string y] 242 1;have HN:Hid (some w.heap.size≠vq.ownBlock):=λe=>by have:=(L2.out _ e.symm).2;omega
 have HK:Hid (some L≠vq.ownBlock):=λe=>h.apart e.symm;clear HO h hx hy l2 cf;go_enter func172,ntmps172;go_wp2_with fail;refine ev (λw'=>w'.cell? ⟨L,3,none⟩=some vq/\w'.cell? ⟨w.heap.size,0,none⟩=some (.int .i64 x)/\w'.cell? ⟨w.heap.size,1,none⟩=some (.string y)) [0,1,2,3,4] [5,6,7] (by kernel_rfl) (by kernel_rfl) ?_ (λhHeld=> ?_)
 ·exact⟨z3,z0,z1⟩
 iterate 5
  refine fc (v:= ?_) rfl (λ_ _ _ h=>h) (by rfl) ?_ hHeld ?_;rotate_left
  ·intro w hSw;(try dsimp only at hSw);go_simp
   try with_reducible rfl
  simp only[Act.put,iX]
 refine fe ?_;refine ep rfl (λK hK=> ?_);go_simp;refine hK.out _ _ ⟨dJ z3 _,dJ z0 _,dJ z1 _⟩ (λdW=> ?_);clear hK K hHeld dW;refine ep rfl (λK hK=> ?_);refine step_append_lies _ rfl (.tmp 7) (.tmp 9) 325 rfl B 242 i0 (.agg #[.int .i64 0,.string ⟨#[]⟩]) 2 24 underlying325 hi gD gB gF rfl (by decide) vq q.length (fp q) rfl ?_ ⟨w.heap.size+1,0,none⟩ 1 1 [.int .i64 x,.string y] rfl rfl ?_ ?_ (by decide) ?_ ?_ ?_ (w.heap.size+1+1) ?_ ?_
 ·exact HO'.out _ (by go_grown)
 ·exact me (by simp) _ _ _
 ·exact Vd _ _ _
 ·unfold maxLen;omega
 ·omega
 ·simp;omega
 ·simp
 intro g cap w1 ly gT gK jg;have HW:Below w.heap.size w ((w.alloc (.cells #[.int .i64 x,.string y] 242)).drew.alloc (.cells #[.int .i64 x,.string y] 242)):=by go_grown
 have xe:=(gT.block L (by simp;omega) HK.out).trans ((HW.block L l1).trans H.gu);have HBLK:=aa xe;obtain⟨_,_,_,d3,_,_,_,_,df⟩:=gg xe;have d3f:=df 3;have HS:(w1.cell? ⟨L,3,none⟩=some vq/\w1.cell? ⟨w.heap.size,0,none⟩=some (.int .i64 x)/\w1.cell? ⟨w.heap.size,1,none⟩=some (.string y)):=by
  refine⟨d3,?_,?_⟩
  ·exact(gT.cell_far ⟨w.heap.size,0,none⟩ (by simp;omega) HN.out).trans (dJ z0 _)
  ·exact(gT.cell_far ⟨w.heap.size,1,none⟩ (by simp;omega) HN.out).trans (dJ z1 _)
 have T1:=aa ly;have HG1:=aa gT;have HAT:=aa gK;clear xe df ly gT gK;refine hK.out _ _ HS (λdW=> ?_);clear hK K;simp only[Act.put,iX];refine ep rfl (λK hK=> ?_);go_simp;refine hK.out _ _ HS (λdW=> ?_);clear hK K;refine ff rfl ?_;go_wp2_with fail;go_end0;have hgL:g≠L:=by
  rcases HAT.out with h|h
  ·exactλe=>HK.out (by rw[<-e];exact h.symm)
  ·omega
 have ZP:fp (q++[t])=fp q++[.int .i64 x,.string y]:=by rw[qG,HX.out,HY.out];rfl
 refine⟨rfl,_,⟨dG HBLK.out _,H.eP,hB,?_,?_,H.mem⟩,?_,?_⟩
 ·rw[ZP,aj];refine dI T1.out λg' zk=> ?_;have e:g'=g:=by simp only[Value.ownBlock,ae]at zk;exact zk.symm
  exact aq _ _ _ _ (show g'≠L by rw[e];exact hgL)
 ·simp only[Value.ownBlock,ne_eq,ae];exact hgL
 ·refine ei.trans (w1:=w1) ?_ (ei.cell (S:=λb=>b=L\/vq.ownBlock=some b) (.inl rfl)) (λ_ _ h=>h) (λ_ _ h=>h);refine⟨HG1.os,HG1.tape,HG1.output,ao (by simp;omega) HG1.size,λb hb hn=> ?_⟩;exact(HG1.block b (by simp;omega) (λe=>hn (.inr e.symm))).trans (HW.block b hb)
 ·intro b hb;simp only[Value.ownBlock,ae]at hb;subst hb;rcases HAT.out with h|h
  ·exact .inl h
  ·right;omega
theorem F7:∀(q:List Tok),∀v∈fp q,v.oneCell'=true
 | [],v,h=>by simp[fp]at h
 |t::q,v,h=>by
  simp only[fp,az]at h;rcases h with rfl|rfl|h
  ·rfl
  ·rfl
  ·exact F7 q v h
theorem f150 (t:Tok) (h:er w B L txt rest tl (t::q) vq lr gI hr):Calls prog 150 #[.pointer (some ⟨L,3,none⟩)] w λe w'=>e=.returned (.agg #[.int .i64 (t.num:Nat),.string (bs t.str)])/\∃fb,er w' B L txt rest tl q fb lr gI hr/\kA w w' L vq fb:=by
 obtain⟨_,_,_,c3,_,_,_,_,cf⟩:=gg h.gu;have l1:=h.lt.1;have hB:=h.base;obtain⟨m,hm⟩:=dS q.length;obtain⟨hxl,hx⟩:=h.q;rcases hx with⟨_,h0⟩|⟨g,cap,cur,rfl,hBg,hgc,hnc,mX,lJ,tD⟩
 ·simp at h0
 rw[aH,<-hm]at c3 hnc tD hxl;have hgL:g≠L:=λe=>h.apart (by rw[<-e];rfl);have Jq:g<w.heap.size:=(bc.1 hgc).1;unfold maxLen at mX;have eB:∀j u,(fp (t::q))[j]? =some u->w.cell? ⟨g,j,none⟩=some u:=λj u hj=>by
  rw[<-tD]at hj;have Kb:cur[j]? =some u:=by
   rw[dw]at hj;split at hj
   ·simpa using hj
   ·cases hj
  simp[World.cell?,hgc,Kb]
 obtain⟨x,hx⟩:=dS (((t.num:Nat):Int):Int);obtain⟨y,hy⟩:=dS (bs t.str);have g0:w.cell? ⟨g,0,none⟩=some (.int .i64 x):=eB 0 _ (by rw[hx];rfl);have g1:w.cell? ⟨g,1,none⟩=some (.string y):=eB 1 _ (by rw[hy];rfl);rw[<-hx,<-hy];have hw:IntKind.i64.wrap (((m+1:Nat):Int)-1)=(m:Int):=by rw[aW];omega
 have hw':IntKind.i64.wrap ((m:Int)+1-1)=(m:Int):=by rw[aW];omega
 have nZ:=gW (m:Int) (by omega);have i1:(0:Int)<=(m:Int):=by omega
 have i2:(m:Int)<((m+1:Nat):Int):=by omega
 have i3:(m:Int)<=(cap:Int):=by omega
 have i4:(1:Int)<=((m+1:Nat):Int):=by omega
 have z3:=dJ c3 (.cells #[.int .i64 0,.string ⟨#[]⟩] 242);have z0:=dJ g0 (.cells #[.int .i64 0,.string ⟨#[]⟩] 242);have z1:=dJ g1 (.cells #[.int .i64 0,.string ⟨#[]⟩] 242);have y3:=dJ c3 (.cells #[.int .i64 x,.string y] 242);have i5:(1:Int)<=(m:Int)+1:=by omega
 obtain⟨ad,Qe,had⟩:∃ad:Addr,(if cap=1 then some (⟨g,0,none⟩:Addr)else some ⟨g,2,none⟩)=some ad/\(0<m->ad=⟨g,2,none⟩):=by
  by_cases hc:cap=1
  ·exact⟨⟨g,0,none⟩,by rw[if_pos hc],λh=>by omega⟩
  ·exact⟨⟨g,2,none⟩,by rw[if_neg hc],λ_=>rfl⟩
 have HAD:=aa had;have HXL:Hid ((fp q).length=m*2):=aa (by rw[qF,hm]);have H:=aa h;have HX:=aa hx;have HY:=aa hy;have HM:=aa hm;have HG:=aa hgc;have HC:=aa eB;have HT:=aa tD;have HCS:=aa lJ;clear h hx hy hm hgc eB tD lJ cf hxl had;go_enter func150,ntmps150;go_wp2_with fail;refine dP (λw'=>w'.cell? ⟨L,3,none⟩=some (.slice (some ⟨g,0,none⟩) (m+1) cap)) [(true,0),(true,1),(true,2),(true,3),(true,4),(true,5),(true,6)] (by kernel_rfl) (by kernel_rfl) y3 (λhHeld=> ?_);iterate 6
  refine dL (v:= ?_) rfl (λ_ _ _ h=>h) (by rfl) ?_ hHeld ?_;rotate_left
  ·intro w hSw;(try dsimp only at hSw);go_simp
   try with_reducible rfl
  simp only[Act.put,iX]
 refine dL (v:= ?_) rfl (λ_ _ _ h=>h) (by rfl) ?_ hHeld ?_;rotate_left
 ·intro w hSw;(try dsimp only at hSw);go_simp
  try with_reducible rfl
 simp only[Act.put,iX];refine dX rfl ?_;clear hHeld;have VO:Nat.min m (m+1)=m:=cD (by omega);have hW:Below w.heap.size w (w.alloc (.cells #[.int .i64 x,.string y] 242)).drew:=by go_grown
 refine iM rfl (.tmp 10) (.tmp 14) 325 325 rfl 242 2 underlying325 Tryz.U2 g 0 (m+1) cap ad m (cap-1) rfl rfl cur 242 ((hW.block g Jq).trans HG.out) (fp q) (by rw[VO];exact HXL.out) ?_ ?_ ?_ ?_
 ·intro j v hj;have mV:j<(fp q).length:=(aB.1 hj).1;rw[HXL.out]at mV;rw[HAD.out (by omega)];have:(⟨g,2,none⟩:Addr).add j=⟨g,j+2,none⟩:=by simp[Addr.add,Nat.add_comm]
  rw[this];exact dY (HC.out (j+2) v (by simpa[fp]using hj)) hW Jq
 ·have:=HXL.out;have:=HCS.out;omega
 ·exact F7 q
 obtain⟨W1,gZ⟩:=dS (w.alloc (.cells #[.int .i64 x,.string y] 242)).drew;rw[<-gZ]at hW⊢;have gT:W1.heap[g]? =some (.cells cur 242 (0,0)):=(hW.block g Jq).trans HG.out;have hH1:W1.heap[w.heap.size]? =some (.cells #[.int .i64 x,.string y] 242 (0,0)):=by rw[gZ];exact heap_alloc_new w _
 have kR:W1.heap.size=w.heap.size+1:=by rw[gZ];exact ab ..
 obtain⟨nw,hnw⟩:=dS (cur.toList.take 0++fp q++cur.toList.drop (0+(fp q).length)).toArray;rw[<-hnw];have VM:nw.size=cap*2:=by rw[hnw];simp;have:=HXL.out;have:=HCS.out;omega
 have VL:nw.toList.take (m*2)=fp q:=by rw[hnw];simp[HXL.out]
 obtain⟨W2,lz⟩:=dS (W1.setRow g nw);rw[<-lz];have OO:W2.heap[g]? =some (.cells nw 242 (0,0)):=by rw[lz];exact setRow_heap W1 g cur _ _ _ gT
 have Jo:∀b,b≠g->W2.heap[b]? =W1.heap[b]? :=λb hb=>by rw[lz];exact setRow_other W1 g b _ hb
 have pT:W2.heap.size=w.heap.size+1:=by rw[lz,<-kR];simp[World.setRow]
 have V5:W2.heap[L]? =w.heap[L]? :=(Jo L (cE hgL)).trans (hW.block L l1);have hH2:=(Jo w.heap.size (by omega)).trans hH1;have sK:W2.os=w.os/\W2.tape=w.tape/\W2.output=w.output:=by rw[lz,gZ];exact⟨rfl,rfl,rfl⟩
 obtain⟨_,_,_,d3,_,_,_,_,df⟩:=gg (V5.trans H.gu);rw[aH,<-HM.out]at d3;have yB:(Value.slice (some ⟨g,0,none⟩) (m+1) cap)=.slice (some ⟨g,0,none⟩) (m+1) cap:=rfl;have df3:=df 3;have yl:=jj9 OO Jo pT V5 hH2 sK VM VL hW;clear OO Jo pT V5 hH2 sK VM VL lz hnw kR hH1 gT gZ yB df y3 z3 z0 z1 VO hW;go_wp2_with fail;refine dP (λw'=>w'.cell? ⟨L,3,none⟩=some (.slice (some ⟨g,0,none⟩) (m+1) cap)) [(true,0),(true,1),(true,2),(true,3),(true,4),(true,5),(true,6),(true,7),(true,8),(true,9),(true,10)] (by kernel_rfl) (by kernel_rfl) d3 (λhHeld=> ?_);iterate 11
  refine dL (v:= ?_) rfl (λ_ _ _ h=>h) (by rfl) ?_ hHeld ?_;rotate_left
  ·intro w hSw;(try dsimp only at hSw);go_simp
   try with_reducible rfl
  simp only[Act.put,iX]
 refine dX rfl ?_;clear hHeld;go_wp2_with fail;obtain⟨OO,Jo,pT,V5,hH2,sK,VM,VL,hW⟩:=yl.out;have iq:(W2.drew.setCell ⟨L,3,none⟩ (.slice (some ⟨g,0,none⟩) m cap)).heap[w.heap.size]? =some (.cells #[.int .i64 x,.string y] 242 (0,0)):=(aq W2.drew ⟨L,3,none⟩ _ w.heap.size (show w.heap.size≠L by omega)).trans hH2
 (try simp only[Exit.inBlock,Exit.then])
 refine bodyPost_ret (results_cell_row rfl _ _ _ _ _ _ _ rfl iq underlying242 rfl (by kernel_rfl)) rfl ?_;have hlen:(fp (t::q))=.int .i64 (t.num:Nat):: .string (bs t.str)::fp q:=rfl;refine⟨rfl,.slice (some ⟨g,0,none⟩) m cap,⟨?_,H.eP,hB,?_,?_,H.mem⟩,?_,?_⟩
 ·exact dG (w:=W2.drew) (V5.trans H.gu) _
 ·refine⟨by rw[HXL.out,HM.out],.inr ⟨g,cap,nw,by rw[HM.out],hBg,?_,by rw[<-HM.out];omega,by unfold maxLen;omega,VM,by rw[<-HM.out];exact VL⟩⟩;exact(aq W2.drew ⟨L,3,none⟩ _ g hgL).trans OO
 ·simp only[Value.ownBlock,ne_eq,ae];exact hgL
 ·refine⟨sK.1,sK.2.1,sK.2.2,?_,λb hb hn=> ?_⟩
  ·show w.heap.size<=(W2.setCell _ _).heap.size;rw[aK];omega
  ·show(W2.setCell _ _).heap[b]? =_;rw[aq W2 ⟨L,3,none⟩ _ b (show b≠L fromλe=>hn (.inl e))];exact(Jo b (λe=>hn (.inr (by rw[e];rfl)))).trans (hW.block b hb)
 ·intro b hb;exact .inl hb
end
def eZ (brk:List dE):Bool->List dE->Option (List dE×List dE)
 |BJ,[]=>if BJ then none else some ([],[])
 |true,c::r=>(eZ brk false r).map λp=>(c::p.1,p.2)
 |false,c::r=>if c=92 then eZ brk true r else if brk.contains c then some ([],c::r)else(eZ brk false r).map λp=>(c::p.1,p.2)
theorem BP:∀(rs:List dE),dV rs->runesBytes (rs.map λc=>((c:Nat):Int))=bs rs:=by
 have key:∀(rs:List dE),dV rs->∀(s:ByteArray),((rs.map λc=>((c:Nat):Int)).foldl (λr n=>r++Utf8.encode n) s).data.toList=s.data.toList++enc rs:=by
  intro rs
  induction rs with
  |nil=>intro _ s;simp
  |cons c rs ih=>intro h s;simp only[cX,List.foldl_cons];rw[ih (gf h)];have:=DB (fg h);simp only[ByteArray.data_append,Array.toList_append,this,et,aD]
 intro rs h;apply fC;rw[eE];have:=key rs h ByteArray.empty;simpa[runesBytes]using this
theorem qx {rs:List dE} (h:ek w v rs) (ez:dV rs):(convert 98 9 v).run prog w=.ok (.string (bs rs)) w:=by
 rcases h with⟨rfl,rfl⟩|⟨b,o,cap,rfl,h1,h2,h3,h4⟩
 ·rw[run_convert_runes_nil w 98 9 21 0 0 underlying98 underlying21 underlying9];rfl
 ·have hl:rs.length=(rs.map λc=>((c:Nat):Int)).length:=by simp
  rw[run_convert_runes w 98 9 21 ⟨b,o,none⟩ rs.length cap (rs.map λc=>((c:Nat):Int)) (by simp) underlying98 underlying21 underlying9 ?_]
  ·rw[aP (by simp),BP rs ez]
  ·intro j hj;have Kb:j<rs.length:=by simpa using hj
   have:=h4 j Kb;rw[show(⟨b,o,none⟩:Addr).add j=⟨b,o+j,none⟩by simp[Addr.add]];rw[this];simp[List.getD,Kb]
theorem ek.wS {B:Nat} {rs:List dE} (h:w.ownsRow B 21 1 v rs.length (rs.map λc=>.int .i32 (c:Nat))):ek w v rs:=by
 obtain⟨h1,h2⟩:=h;rcases h2 with⟨rfl,h0⟩|⟨g,cap,cur,rfl,h3,h4,h5,h6,h7,h8⟩
 ·exact .inl ⟨rfl,b7.1 h0⟩
 ·refine .inr ⟨g,0,cap,rfl,h5,h6,(bc.1 h4).1,λi hi=> ?_⟩;have:(rs.map λc=>Value.int .i32 ((c:Nat):Int))[i]? =some (.int .i32 (rs[i]:Nat)):=by simp[hi]
  rw[<-h8,dw,if_pos (by omega)]at this;have h9:cur[i]? =some (.int .i32 (rs[i]:Nat)):=by simpa using this
  simp[World.cell?,h4,h9]
theorem Tryz.Ry:(prog.info? 21).map (λi=>(i.zero,i.size,i.bytes))=some (some (.int .i32 0),1,4):=by kernel_rfl
theorem nD (brk:List dE):∀(r:List dE) (BJ:Bool) (D R:List dE),eZ brk BJ r=some (D,R)->dV r->dV D
 | [],BJ,D,R,h,_=>by
   cases BJ with
   |true=>simp[eZ]at h
   |false=>simp only[eZ,aM,if_false,ae,aQ]at h;rw[<-h.1];intro c hc;simp at hc
 |c::r,true,D,R,h,hr=>by
  simp only[eZ,aX,aQ]at h;obtain⟨⟨D',R'⟩,h1,h2,_⟩:=h;rw[<-h2];have:=nD brk r false D' R' h1 (gf hr);intro d hd;rcases az.1 hd with rfl|hd
  ·exact fg hr
  ·exact this d hd
 |c::r,false,D,R,h,hr=>by
  simp only[eZ]at h;split at h
  ·exact nD brk r true D R h (gf hr)
  ·split at h
   ·simp only[ae,aQ]at h;rw[<-h.1];intro c hc;simp at hc
   ·simp only[aX,aQ]at h;obtain⟨⟨D',R'⟩,h1,h2,_⟩:=h;rw[<-h2];have:=nD brk r false D' R' h1 (gf hr);intro d hd;rcases az.1 hd with rfl|hd
    ·exact fg hr
    ·exact this d hd
structure FTx (w wr:World) (B L:Nat) (txt rest:List dE) (tl:Nat) (q:List Tok) (vq:Value) (brk D R:List dE) (BJ:Bool) (d:List dE) (vd:Value) (lr gI:Int) (hr:Bool):Prop where
 lex:er wr B L txt rest tl q vq lr gI hr
 fr:kA w wr L vq vq
 row:wr.ownsRow w.heap.size 21 1 vd d.length (d.map λc=>.int .i32 (c:Nat))
 eq:∃D',eZ brk BJ rest=some (D',R)/\D=d++D'
 len:d.length+rest.length<=txt.length
section
variable {w:World} {B L tl:Nat} {txt rest:List dE} {q:List Tok} {vq:Value} {lr gI:Int} {hr:Bool}
theorem fE.Jk (hT:fE w) (h:kA w w' L vq fb) (hB:3<=B) (hL:B<=L) (hq:∀b,vq.ownBlock=some b->B<=b):fE w':=hT.keep h.fo.size (h.fo.same 1 (by have:=hT.size;omega) (λe=>by rcases e with e|e;omega;have:=hq 1 e;omega)) (h.fo.same 2 (by have:=hT.size;omega) (λe=>by rcases e with e|e;omega;have:=hq 2 e;omega))
theorem ek.Jk {vb:Value} {rs:List dE} (h:ek w vb rs) (hf:kA w w' L vq fb) (ha:∀b,vb.ownBlock=some b->b≠L/\vq.ownBlock≠some b):ek w' vb rs:=by
 refine h.keep λb hb=> ?_;have eR:b<w.heap.size:=by
  rcases h with⟨rfl,_⟩|⟨b',o,cap,rfl,_,_,h3,_⟩
  ·simp[Value.ownBlock]at hb
  ·simp only[Value.ownBlock,ae]at hb;subst hb;exact h3
 exact⟨ai eR hf.fo.size,hf.fo.same b eR λe=>by rcases e with e|e;exact(ha b hb).1 e;exact(ha b hb).2 e⟩
theorem f180 (vb:Value) (brk D R:List dE) (h:er w B L txt rest tl q vq lr gI hr) (hT:fE w) (nI:3<=B) (ez:dV txt) (hlen:(enc txt).length<=1000000) (hq:q.length<=1000000) (hvb:ek w vb brk) (Uu:∀b,vb.ownBlock=some b->b≠L/\vq.ownBlock≠some b) (sy:brk.length<=100000) (kS:eZ brk false rest=some (D,R)):Calls prog 180 #[.pointer (some ⟨L,0,none⟩),vb] w λe w'=>e=.returned (.tuple #[])/\∃fb lr' lsz' hr',er w' B L txt R tl (if D=[]then q else q++[.text D]) fb lr' lsz' hr'/\kA w w' L vq fb:=by
 obtain⟨i0,hi,gD,gB,gF⟩:=info_parts Tryz.Ry;have oa:rest.length<=txt.length:=h.eP.length_le;have yw:txt.length<=1000000:=ao (eI txt).1 hlen;have H:=aa h;have HVB:=eo hvb Uu;have Cl:=aa kS;have iw:=eo ez hlen;have Kk:=h.base;have hqB:=h.lt;have KV:=aa hqB;clear h hvb Uu kS ez hlen hqB;go_enter func180,ntmps180;go_wp2_with fail
 go_step3
 go_wp2_with fail
 go_step3
 go_wp2_with fail;go_loopg [4,5] rest.length (λk s4 s5 wr=>∃(rk:List dE) (BJ:Bool) (d:List dE) (da:Option Addr) (dc:Nat) (lr gI:Int) (hr:Bool),k=rk.length/\s4=.slice da d.length dc/\s5=.bool BJ/\Hid (FTx w wr B L txt rk tl q vq brk D R BJ d (.slice da d.length dc) lr gI hr))
 case atStart=>exact⟨rest,false,[],none,0,lr,gI,hr,rfl,rfl,rfl,aa ⟨H.out,kA.refl _ _ _,World.ownsRow_nil _ _ _ _,⟨D,Cl.out,rfl⟩,by simpa using oa⟩⟩
 case round=>
  obtain⟨rk,BJ,d,da,dc,lr,gI,hr,rfl,rfl,rfl,HL⟩:=hrel;have GZ:=f171 HL.lex (hT.Jk HL.fr nI Kk λb hb=>(KV.2 b hb).1) iw.1 iw.2;have gU:=aa GZ;clear GZ;have gh:∀(wx:World),kA wr wx L vq vq->wx.ownsRow w.heap.size 21 1 (.slice da d.length dc) d.length (d.map λc=>.int .i32 (c:Nat)):=λwx hf=>dI HL.row λg hg=>by
   have eR:=HL.row.lt g hg;exact hf.fo.same g eR.2 λe=>by
    rcases e with e|e
    ·have:=KV.1;omega
    ·have:=(KV.2 g e).2;omega
  have T0:=aa gh;clear gh;cases rk with
  |nil=>
   have hesc:BJ=false:=by
    obtain⟨D',h1,_⟩:=HL.eq;cases BJ with
    |false=>rfl
    |true=>simp[eZ]at h1
   subst hesc;have Z9:D=d/\R=[]:=by obtain⟨D',h1,h2⟩:=HL.eq;simp only[eZ,aM,if_false,ae,aQ]at h1;rw[h2,<-h1.1,<-h1.2];simp
   have HDD:=aa Z9.1;have TY:=aa Z9.2;clear Z9;go_wp2_with fail;refine gU.mono ?_;rintro e w1 ⟨rfl,e1,e2⟩;have P4:=jS (by rw[TY.out];exact e1:er w1 B L txt R tl q vq (hd []) (wd []) false) (HL.fr.trans e2) (ek.wS (T0.out w1 e2));clear e1 e2;have h1:((-1:Int)== -1)=true:=rfl;rw[show hd []= -1 from rfl];have hdl:d.length<=1000000:=(by have:=HL.len;omega);by_cases Ho:d=[]
   ·have hdd:decide (0<d.length)=false:=(by rw[Ho];rfl);have Qe:(if D=[]then q else q++[Tok.text D])=q:=by rw[HDD.out,Ho];simp
    have HIF:=aa Qe;clear Qe Ho;go_wp2_with fail;rw[Exit.noGoto_normal];go_end0;exact⟨rfl,vq,_,_,_,by rw[HIF.out];exact P4.1,P4.2.1⟩
   ·have hdd:decide (0<d.length)=true:=decide_eq_true (bG.2 Ho);have Qe:(if D=[]then q else q++[Tok.text D])=q++[Tok.text d]:=by rw[HDD.out,if_neg Ho]
    have HIF:=aa Qe;have RW:dV d:=by rw[<-HDD.out];exact nD _ _ _ _ _ Cl.out (eM iw.1 H.eP)
    have sM:(convert 98 9 (.slice da d.length dc)).run prog w1.drew=.ok (.string (bs d)) w1.drew:=qx (P4.2.2.keep λb hb=>⟨(by
     rcases P4.2.2 with⟨e,_⟩|⟨b',o,cap,e,_,_,h3,_⟩
     ·rw[e]at hb;simp[Value.ownBlock]at hb
     ·rw[e]at hb;simp only[Value.ownBlock,ae]at hb;subst hb;exact h3),rfl⟩) RW
    have HCV:=aa sM;clear Qe Ho RW sM;go_wp2_with fail;refine dP (λw'=>(convert 98 9 (.slice da d.length dc)).run prog w'=.ok (.string (bs d)) w'/\w'=w1.drew) [(true,0),(true,1),(true,2),(true,3),(true,4),(true,5)] (by kernel_rfl) (by kernel_rfl) ⟨HCV.out,rfl⟩ (λhHeld=> ?_);iterate 6
     refine dL (v:= ?_) rfl (λ_ _ _ h=>h) (by rfl) ?_ hHeld ?_;rotate_left
     ·rintro w ⟨hSw,_⟩;(try dsimp only at hSw);go_simp
      try with_reducible rfl
     simp only[Act.put,iX]
    refine dX rfl ?_;clear hHeld;have Hb:=f172 (.text d) (P4.1.below (w':=w1.drew) (by go_grown)) hq;have xD:=aa Hb;clear Hb;go_wp2_with fail;refine xD.mono ?_;rintro e w9 ⟨rfl,fb,k1,k2⟩;have HK:=eo k1 k2;clear k1 k2;go_wp2_with fail;rw[Exit.noGoto_normal];go_end0;exact⟨rfl,fb,_,_,_,by rw[HIF.out];exact HK.1,(P4.2.1.trans (kA.ft (by go_grown))).trans HK.2⟩
  |cons c r=>
   have h1:(((c:Nat):Int)== -1)=false:=beq_eq_false_iff_ne.2 (λh=>by have:(0:Int)<=((c:Nat):Int):=Int.natCast_nonneg _;omega);cases BJ with
   |true=>
    have sZ:d.length+1+r.length<=txt.length:=(by have:=HL.len;simp only[aH]at this;omega);have sE:Hid (∃D',eZ brk false r=some (D',R)/\D=(d++[c])++D'):=aa (by obtain⟨D',k1,k2⟩:=HL.eq;simp only[eZ,aX,aQ]at k1;obtain⟨⟨D1,R1⟩,k3,k4,k5⟩:=k1;simp only at k4 k5;exact⟨D1,by rw[k3,k5],by rw[k2,<-k4];simp⟩);go_wp2_with fail;refine gU.mono ?_;rintro e w1 ⟨rfl,e1,e2⟩;rw[show hd (c::r)=((c:Nat):Int)from rfl];have HE:=eo e1 e2;have T1:=aa (T0.out w1 e2);have tR:=aa (ao HL.fr.fo.size e2.fo.size);clear e1 e2;go_wp2_with (at_builtin;refine wpList_append_own _ rfl (.tmp 23) (.tmp 25) 98 rfl w.heap.size 21 i0 (.int .i32 0) 1 4 underlying98 hi gD gB gF rfl (by decide) (.slice da d.length dc) d.length (d.map λc=>.int .i32 (c:Nat)) rfl (T1.alloc _) ⟨w1.heap.size,0,none⟩ 1 1 [.int .i32 ((c:Nat):Int)] rfl rfl ?c1 ?c2 ?c3 ?c4 ?c5 ?c6)
    case c1=>
     intro j u hj;cases j with
     |zero=>simp only[aN,ae]at hj;subst hj;exact bC w1 #[.int .i32 ((c:Nat):Int)] 21 0
     |succ j=>simp at hj
    case c2=>intro u hu;simp only[az,ba,or_false]at hu;subst hu;rfl
    case c3=>unfold maxLen;omega
    case c4=>omega
    case c5=>have:=tR.out;simp;omega
    case c6=>
     intro v' w2 Jo OO _;have HO2:=aa Jo;have E9:=aa OO;clear Jo OO;obtain⟨da',dc',rfl⟩:∃da' dc',v'=.slice da' (d.length+1) dc':=by
      rcases HO2.2 with⟨e,h0⟩|⟨g,cap,cur,e,_⟩
      ·omega
      ·exact⟨_,_,e⟩
     go_wp2_with fail;go_roundg r.length
     case measure=>simp
     case rel=>
      have hW:Below w1.heap.size w1 (w1.alloc (.cells #[.int .i32 ((c:Nat):Int)] 21)):=(by go_grown);have eK:∀b,b=L\/vq.ownBlock=some b->w2.heap[b]? =w1.heap[b]? :=λb hb=>by
       have eR:b<w1.heap.size:=by
        rcases hb with rfl|hb
        ·exact HE.1.lt.1
        ·exact(HE.1.lt.2 b hb).2
       have jq:b<w.heap.size:=by
        rcases hb with rfl|hb
        ·exact KV.1
        ·exact(KV.2 b hb).2
       exact(E9.block b (ai eR (by simp)) (λe=>by have:=T1.lt b e.symm;omega)).trans (hW.block b eR)
      refine⟨r,false,d++[c],da',dc',_,_,_,rfl,by simp,rfl,aa ⟨HE.1.keep eK,?_,?_,sE.out,by simp;omega⟩⟩
      ·refine⟨⟨E9.os.trans (HE.2.fo.os.trans HL.fr.fo.os),E9.tape.trans (HE.2.fo.tape.trans HL.fr.fo.tape),E9.output.trans (HE.2.fo.output.trans HL.fr.fo.output),ao tR.out (ao (by simp) E9.size),λb hb hn=> ?_⟩,λ_ h=>.inl h⟩;exact((E9.block b (by have:=tR.out;simp;omega) (λe=>by have:=T1.lt b e.symm;omega)).trans (hW.block b (ai hb tR.out))).trans ((HL.fr.trans HE.2).fo.same b hb hn)
      ·have e1:(d++[c]).length=d.length+1:=(by simp);have e2:((d++[c]).map λc=>Value.int .i32 ((c:Nat):Int))=(d.map λc=>Value.int .i32 ((c:Nat):Int))++[.int .i32 ((c:Nat):Int)]:=by simp
       rw[e1,e2];exact HO2.out
   |false=>
    by_cases Qk:c=92
    ·subst Qk;have sE:Hid (∃D',eZ brk true r=some (D',R)/\D=d++D'):=aa (by
      obtain⟨D',k1,k2⟩:=HL.eq;simp only[eZ,if_true]at k1;exact⟨D',k1,k2⟩)
     go_wp2_with fail;refine gU.mono ?_;rintro e w1 ⟨rfl,e1,e2⟩;rw[show hd (92::r)=92 from rfl];have HE:=eo e1 e2;have T1:=aa (T0.out w1 e2);clear e1 e2 h1;go_wp2_with fail;go_roundg r.length
     case measure=>simp
     case rel=>exact⟨r,true,d,da,dc,_,_,_,rfl,rfl,rfl,aa ⟨HE.1,HL.fr.trans HE.2,T1.out,sE.out,by have:=HL.len;simp only[aH]at this;omega⟩⟩
    ·have HN92:Hid ((((c:Nat):Int)==92)=false):=aa (beq_eq_false_iff_ne.2 (λh=>Qk (dC (show((c:Nat):Int)=((92:Nat):Int)from h))));by_cases XU:brk.contains c=true
     ·have Z9:D=d/\R=c::r:=by
       obtain⟨D',k1,k2⟩:=HL.eq;simp only[eZ,Qk,if_false,XU,if_true,ae,aQ]at k1;rw[k2,<-k1.1,<-k1.2];simp
      have HDD:=aa Z9.1;have TY:=aa Z9.2;have HBK:=aa XU;have ry:=HL.lex.eP;clear Z9 Qk XU;go_wp2_with fail;refine gU.mono ?_;rintro e w1 ⟨rfl,e1,e2⟩;rw[show hd (c::r)=((c:Nat):Int)from rfl];have Y7:=f177 (r0:=c::r) e1 ry iw.2;have P2:=aa Y7;have HE:=eo e1 e2;clear e1 e2 Y7;have h92':(((c:Nat):Int)==92)=false:=HN92.out;go_wp2_with fail;refine(f158 brk c _ _ ((HVB.1.Jk HL.fr HVB.2).Jk HE.2 HVB.2) sy).mono ?_;rintro e w1 ⟨rfl,rfl⟩;rw[HBK.out];go_wp2_with fail;refine P2.mono ?_;rintro e w3 ⟨rfl,e3,e4⟩;have P4:=jS (by rw[TY.out];exact e3:er w3 B L txt R tl q vq (hd (c::r)) (wd (c::r)) true) ((HL.fr.trans HE.2).trans e4) (ek.wS (T0.out w3 (HE.2.trans e4)));clear e3 e4;have hdl:d.length<=1000000:=by have:=HL.len;omega
      by_cases Ho:d=[]
      ·have hdd:decide (0<d.length)=false:=(by rw[Ho];rfl);have Qe:(if D=[]then q else q++[Tok.text D])=q:=by rw[HDD.out,Ho];simp
       have HIF:=aa Qe;clear Qe Ho;go_wp2_with fail;rw[Exit.noGoto_normal];go_end0;exact⟨rfl,vq,_,_,_,by rw[HIF.out];exact P4.1,P4.2.1⟩
      ·have hdd:decide (0<d.length)=true:=decide_eq_true (bG.2 Ho);have Qe:(if D=[]then q else q++[Tok.text D])=q++[Tok.text d]:=by rw[HDD.out,if_neg Ho]
       have HIF:=aa Qe;have RW:dV d:=by rw[<-HDD.out];exact nD _ _ _ _ _ Cl.out (eM iw.1 H.eP)
       have sM:(convert 98 9 (.slice da d.length dc)).run prog w3.drew=.ok (.string (bs d)) w3.drew:=qx (P4.2.2.keep λb hb=>⟨(by
        rcases P4.2.2 with⟨e,_⟩|⟨b',o,cap,e,_,_,h3,_⟩
        ·rw[e]at hb;simp[Value.ownBlock]at hb
        ·rw[e]at hb;simp only[Value.ownBlock,ae]at hb;subst hb;exact h3),rfl⟩) RW
       have HCV:=aa sM;clear Qe Ho RW sM;go_wp2_with fail;refine dP (λw'=>(convert 98 9 (.slice da d.length dc)).run prog w'=.ok (.string (bs d)) w'/\w'=w3.drew) [(true,0),(true,1),(true,2),(true,3),(true,4),(true,5)] (by kernel_rfl) (by kernel_rfl) ⟨HCV.out,rfl⟩ (λhHeld=> ?_);iterate 6
        refine dL (v:= ?_) rfl (λ_ _ _ h=>h) (by rfl) ?_ hHeld ?_;rotate_left
        ·rintro w ⟨hSw,_⟩;(try dsimp only at hSw);go_simp
         try with_reducible rfl
        simp only[Act.put,iX]
       refine dX rfl ?_;clear hHeld;have Hb:=f172 (.text d) (P4.1.below (w':=w3.drew) (by go_grown)) hq;have xD:=aa Hb;clear Hb;go_wp2_with fail;refine xD.mono ?_;rintro e w9 ⟨rfl,fb,k1,k2⟩;have HK:=eo k1 k2;clear k1 k2;go_wp2_with fail;rw[Exit.noGoto_normal];go_end0;exact⟨rfl,fb,_,_,_,by rw[HIF.out];exact HK.1,(P4.2.1.trans (kA.ft (by go_grown))).trans HK.2⟩
     ·have HNB:=eo Qk (bF.2 XU);clear Qk XU;have sZ:d.length+1+r.length<=txt.length:=(by have:=HL.len;simp only[aH]at this;omega);have sE:Hid (∃D',eZ brk false r=some (D',R)/\D=(d++[c])++D'):=aa (by
       obtain⟨D',k1,k2⟩:=HL.eq;simp only[eZ,HNB.1,HNB.2,if_false,aM,aX,aQ]at k1;obtain⟨⟨D1,R1⟩,k3,k4,k5⟩:=k1;simp only at k4 k5;exact⟨D1,by rw[k3,k5],by rw[k2,<-k4];simp⟩)
      go_wp2_with fail;refine gU.mono ?_;rintro e w1 ⟨rfl,e1,e2⟩;rw[show hd (c::r)=((c:Nat):Int)from rfl];have HE:=eo e1 e2;have T1:=aa (T0.out w1 e2);have tR:=aa (ao HL.fr.fo.size e2.fo.size);clear e1 e2;have h92':(((c:Nat):Int)==92)=false:=HN92.out;go_wp2_with fail;refine(f158 brk c _ _ ((HVB.1.Jk HL.fr HVB.2).Jk HE.2 HVB.2) sy).mono ?_;rintro e w1 ⟨rfl,rfl⟩;rw[HNB.2];go_wp2_with (at_builtin;refine wpList_append_own _ rfl (.tmp 23) (.tmp 25) 98 rfl w.heap.size 21 i0 (.int .i32 0) 1 4 underlying98 hi gD gB gF rfl (by decide) (.slice da d.length dc) d.length (d.map λc=>.int .i32 (c:Nat)) rfl (T1.alloc _) ⟨w1.heap.size,0,none⟩ 1 1 [.int .i32 ((c:Nat):Int)] rfl rfl ?c1 ?c2 ?c3 ?c4 ?c5 ?c6)
      case c1=>
       intro j u hj;cases j with
       |zero=>simp only[aN,ae]at hj;subst hj;exact bC w1 #[.int .i32 ((c:Nat):Int)] 21 0
       |succ j=>simp at hj
      case c2=>intro u hu;simp only[az,ba,or_false]at hu;subst hu;rfl
      case c3=>unfold maxLen;omega
      case c4=>omega
      case c5=>have:=tR.out;simp;omega
      case c6=>
       intro v' w2 Jo OO _;have HO2:=aa Jo;have E9:=aa OO;clear Jo OO;obtain⟨da',dc',rfl⟩:∃da' dc',v'=.slice da' (d.length+1) dc':=by
        rcases HO2.2 with⟨e,h0⟩|⟨g,cap,cur,e,_⟩
        ·omega
        ·exact⟨_,_,e⟩
       go_wp2_with fail;go_roundg r.length
       case measure=>simp
       case rel=>
        have hW:Below w1.heap.size w1 (w1.alloc (.cells #[.int .i32 ((c:Nat):Int)] 21)):=(by go_grown);have eK:∀b,b=L\/vq.ownBlock=some b->w2.heap[b]? =w1.heap[b]? :=λb hb=>by
         have eR:b<w1.heap.size:=by
          rcases hb with rfl|hb
          ·exact HE.1.lt.1
          ·exact(HE.1.lt.2 b hb).2
         have jq:b<w.heap.size:=by
          rcases hb with rfl|hb
          ·exact KV.1
          ·exact(KV.2 b hb).2
         exact(E9.block b (ai eR (by simp)) (λe=>by have:=T1.lt b e.symm;omega)).trans (hW.block b eR)
        refine⟨r,false,d++[c],da',dc',_,_,_,rfl,by simp,rfl,aa ⟨HE.1.keep eK,?_,?_,sE.out,by simp;omega⟩⟩
        ·refine⟨⟨E9.os.trans (HE.2.fo.os.trans HL.fr.fo.os),E9.tape.trans (HE.2.fo.tape.trans HL.fr.fo.tape),E9.output.trans (HE.2.fo.output.trans HL.fr.fo.output),ao tR.out (ao (by simp) E9.size),λb hb hn=> ?_⟩,λ_ h=>.inl h⟩;exact((E9.block b (by have:=tR.out;simp;omega) (λe=>by have:=T1.lt b e.symm;omega)).trans (hW.block b (ai hb tR.out))).trans ((HL.fr.trans HE.2).fo.same b hb hn)
        ·have e1:(d++[c]).length=d.length+1:=(by simp);have e2:((d++[c]).map λc=>Value.int .i32 ((c:Nat):Int))=(d.map λc=>Value.int .i32 ((c:Nat):Int))++[.int .i32 ((c:Nat):Int)]:=by simp
         rw[e1,e2];exact HO2.out
end
end Go.Proofs.YtfejflhgaphilaaGreatDoor
