/- The sorted map with numbers: its head takes one key. The sorted map's iterator, over one leaf. The closure that pushes items onto a row: lists, and so all. A sequence is normalized: a new row, where there is something to rewrite. -/
import Derived.Test.YtfejflhgaphilaaGreatDoorC29
import Derived.Test.YtfejflhgaphilaaGreatDoorC27
import Derived.Test.YtfejflhgaphilaaGreatDoorC24
import Derived.Laws.EntriesVeiled
set_option linter.all false
set_option maxRecDepth 100000
set_option maxHeartbeats 64000000
open Go.Proofs.Tryz
namespace Go.Proofs.YtfejflhgaphilaaGreatDoor
open Go.RowKit Gm
variable {w w':World} {L E I c M B lo Sb:Nat} {l:List Int} {j d:Int} {v2 v:Value} {G F:List Nat} {us:List Value}
def ik (k:Int):Int:=k
def Wn (l:List Int):Prop:=True
def iB (l:List Int) (k:Int):List Int:=l++[k]
theorem GL (k:Int):iB [] k=[k]:=rfl
theorem Rj (k y:Int) (l:List Int):y∈iB l k↔y∈l\/y=k:=by simp[iB]
theorem GM (k:Int) (l:List Int):(iB l k).length<=l.length+1:=by simp[iB]
theorem taI3 (v:Value) (w:World):(Instr.typeAssert (.iface 2 v) 20 3 true).run prog w=.ok (.tuple #[.int .i64 0,.bool false]) w:=by kernel_rfl
theorem QF (v:Value) (w:World):(Instr.typeAssert (.iface 2 v) 20 371 true).run prog w=.ok (.tuple #[.int .i8 0,.bool false]) w:=by kernel_rfl
theorem QE (v:Value) (w:World):(Instr.typeAssert (.iface 2 v) 20 372 true).run prog w=.ok (.tuple #[.int .i16 0,.bool false]) w:=by kernel_rfl
theorem W8 (v:Value) (w:World):(Instr.typeAssert (.iface 2 v) 20 21 true).run prog w=.ok (.tuple #[.int .i32 0,.bool false]) w:=by kernel_rfl
theorem QH (v:Value) (w:World):(Instr.typeAssert (.iface 2 v) 20 102 true).run prog w=.ok (.tuple #[.int .u64 0,.bool false]) w:=by kernel_rfl
theorem taI5 (v:Value) (w:World):(Instr.typeAssert (.iface 2 v) 20 5 true).run prog w=.ok (.tuple #[.int .u8 0,.bool false]) w:=by kernel_rfl
theorem QD (v:Value) (w:World):(Instr.typeAssert (.iface 2 v) 20 373 true).run prog w=.ok (.tuple #[.int .u16 0,.bool false]) w:=by kernel_rfl
theorem WZ (v:Value) (w:World):(Instr.typeAssert (.iface 2 v) 20 56 true).run prog w=.ok (.tuple #[.int .u32 0,.bool false]) w:=by kernel_rfl
theorem QG (v:Value) (w:World):(Instr.typeAssert (.iface 2 v) 20 178 true).run prog w=.ok (.tuple #[.int .u64 0,.bool false]) w:=by kernel_rfl
theorem Xa (v:Value) (w:World):(Instr.typeAssert (.iface 2 v) 20 12 true).run prog w=.ok (.tuple #[.int .u64 0,.bool false]) w:=by kernel_rfl
theorem taI9 (v:Value) (w:World):(Instr.typeAssert (.iface 2 v) 20 9 true).run prog w=.ok (.tuple #[.string ⟨#[]⟩,.bool false]) w:=by kernel_rfl
theorem taI2 (v:Value) (w:World):(Instr.typeAssert (.iface 2 v) 20 2 true).run prog w=.ok (.tuple #[v,.bool true]) w:=by kernel_rfl
theorem f144 (A:Int) (w:World):Calls prog 144 #[.int .i64 A] w λe w'=>e=.returned (.iface 382 (.pointer (some ⟨w.heap.size,0,none⟩)))/\w'=w.alloc (.cells #[] 383):=by have h3:=taI3 (.int .i64 A);have h371:=QF (.int .i64 A);have h372:=QE (.int .i64 A);have h21:=W8 (.int .i64 A);have h102:=QH (.int .i64 A);have h5:=taI5 (.int .i64 A);have h373:=QD (.int .i64 A);have h56:=WZ (.int .i64 A);have h178:=QG (.int .i64 A);have Ql:=Xa (.int .i64 A);have h9:=taI9 (.int .i64 A);have h2:=taI2 (.int .i64 A);go_enter func144,ntmps144;go_wp2_with fail;go_ret;exact⟨rfl,rfl⟩
theorem f145 (M:Nat) (sz:Int) (r c:Value) (w:World) (h:w.heap[M]? =some (.cells #[.int .i64 sz,r,c] 218)) (hrc:(r=.nilIface/\c=.nilIface)\/∃p q,r=.iface 228 p/\c=.iface 382 q):Calls prog 145 #[.pointer (some ⟨M,0,none⟩)] w λe w'=>e=.returned (.pointer (some ⟨w.heap.size,0,none⟩))/\w'=w.alloc (.cells #[.int .i64 sz,r,c] 218):=by
 have c0:w.cell? ⟨M,0,none⟩=some (.int .i64 sz):=cell_of h rfl;have c1:w.cell? ⟨M,1,none⟩=some r:=cell_of h rfl;have c2:w.cell? ⟨M,2,none⟩=some c:=cell_of h rfl;clear h;rcases hrc with⟨rfl,rfl⟩|⟨p,q,rfl,rfl⟩<;>
 ·go_enter func145,ntmps145;go_wp2_with fail;go_ret;exact⟨rfl,rfl⟩
theorem f57 (w:World):Calls prog 57 #[.nilIface] w λe w'=>e=.returned (.pointer (some ⟨w.heap.size,0,none⟩))/\w'=w.alloc (.cells #[.int .i64 0,.nilIface,.nilIface] 218):=by go_enter func57,ntmps57;go_wp2_with fail;go_ret;exact⟨rfl,rfl⟩
theorem f67 (n v:Value) (w:World):Calls prog 67 #[n,v] w λe w'=>e=.returned n/\w'=w:=by go_enter func67,ntmps67;go_wp2_with fail;go_ret;exact⟨rfl,rfl⟩
theorem f69 (k:Int) (n:Int) (w:World):Calls prog 69 #[.int .i64 k,.int .i64 n] w λe w'=>e=.returned (.agg #[.int .i64 k,.string ⟨#[]⟩,.int .i64 n])/\Below w.heap.size w w':=by go_enter func69,ntmps69;go_wp2_with fail;refine bodyPost_ret (results_cell_row rfl _ _ _ _ _ _ _ rfl (heap_alloc_new _ _) underlying39 rfl (by kernel_rfl)) rfl ?_;exact⟨rfl,by go_grown⟩
theorem f26 (w:World):Calls prog 26 #[] w λe w'=>e=.returned (.agg #[.func (.func 67) #[] #[],.func (.func 68) #[] #[],.func (.func 69) #[] #[]])/\Below w.heap.size w w':=by go_enter func26,ntmps26;go_wp2_with fail;refine bodyPost_ret (results_cell_row rfl _ _ _ _ _ _ _ rfl (heap_alloc_new _ _) underlying83 rfl (by kernel_rfl)) rfl ?_;exact⟨rfl,by go_grown⟩
theorem f27 (n:Int) (w:World):Calls prog 27 #[.agg #[.int .u8 0,.int .i64 n]] w λe w'=>e=.returned .nilIface/\Below w.heap.size w w':=by go_enter func27,ntmps27;go_wp2_with fail;go_ret;exact⟨rfl,by go_grown⟩
theorem f63 (M:Nat) (sz:Int) (r c:Value) (w:World) (h:w.heap[M]? =some (.cells #[.int .i64 sz,r,c] 218)):Calls prog 63 #[.pointer (some ⟨M,0,none⟩)] w λe w'=>e=.returned (.int .i64 sz)/\w'=w:=by have c0:w.cell? ⟨M,0,none⟩=some (.int .i64 sz):=cell_of h rfl;clear h;go_enter func63,ntmps63;go_wp2_with fail;go_ret;exact⟨rfl,rfl⟩
theorem f65 (I:Nat) (d:Int) (w:World) (h:w.cell? ⟨I,65,none⟩=some (.int .i64 d)):Calls prog 65 #[.pointer (some ⟨I,0,none⟩)] w λe w'=>e=.returned (.bool (decide (d= -1)))/\w'=w:=by go_enter func65,ntmps65;go_wp2_with fail;go_ret;exact⟨rfl,rfl⟩
def DL (w:World) (E:Nat) (l:List Int):Prop:=∀i k,l[i]? =some k->w.cell? ⟨E,i*2,none⟩=some (.int .i64 (ik k))/\w.cell? ⟨E,i*2+1,none⟩=some (.int .i64 7)
theorem DL.below (h:DL w E l) (hb:Below w.heap.size w w'):DL w' E l:=λi k hk=>⟨dF hb _ _ (h i k hk).1,dF hb _ _ (h i k hk).2⟩
structure kf (w:World) (L E:Nat) (l:List Int) (c:Nat):Prop where
 head:w.heap[L]? =some (.cells #[.slice (some ⟨E,0,none⟩) l.length c] 234 (0,0))
 ir:DL w E l
 cap:l.length<=c
 small:c<=1000
 gu:E<w.heap.size
theorem kf.lt (h:kf w L E l c):L<w.heap.size:=by
 rcases aV L w.heap.size with e|e
 ·exact e
 ·have:=h.head;rw[aO e]at this;cases this
theorem kf.below (h:kf w L E l c) (hb:Below w.heap.size w w'):kf w' L E l c:=⟨(hb.block L h.lt).trans h.head,λi k hk=>⟨dF hb _ _ (h.ir i k hk).1,dF hb _ _ (h.ir i k hk).2⟩,h.cap,h.small,ai h.gu hb.size⟩
theorem kf.fo {Rz:Nat} (h:kf w L E l c) (hc:ei (λb=>b=Rz) w w') (h1:L≠Rz) (h2:E≠Rz):kf w' L E l c:=⟨(hc.same L h.lt h1).trans h.head,λi k hk=>⟨(aF (w:=w) (hc.same E h.gu h2)).trans (h.ir i k hk).1,(aF (w:=w) (hc.same E h.gu h2)).trans (h.ir i k hk).2⟩,h.cap,h.small,ai h.gu hc.size⟩
def Of:List Int->List Value
 | []=>[]
 |k::l=>.int .i64 (ik k):: .int .i64 7::Of l
theorem D8:∀(l:List Int) (i:Nat) (k:Int),l[i]? =some k->(Of l)[i*2]? =some (.int .i64 (ik k))/\(Of l)[i*2+1]? =some (.int .i64 7)
 | [],i,k,h=>by simp at h
 |x::l,0,k,h=>by simp at h;subst h;exact⟨rfl,rfl⟩
 |x::l,i+1,k,h=>by have:=D8 l i k (by simpa using h);rw[show(i+1)*2=i*2+1+1 by omega];simpa[Of]using this
def ML (w:World) (N:Nat) (l:List Int):Prop:=w.heap[N]? =some (.cells (Of l).toArray 231 (0,0))
theorem ML.ir {N:Nat} (h:ML w N l):DL w N l:=λi k hk=>⟨cell_of h (by simpa using(D8 l i k hk).1),cell_of h (by simpa using(D8 l i k hk).2)⟩
structure kW (w:World) (M:Nat) (l:List Int):Prop where
 Un:Wn l
 body:(l=[]/\w.heap[M]? =some (.cells #[.int .i64 0,.nilIface,.nilIface] 218 (0,0)))\/(l≠[]/\∃L E c q,w.heap[M]? =some (.cells #[.int .i64 (l.length:Nat),.iface 228 (.pointer (some ⟨L,0,none⟩)),.iface 382 (.pointer q)] 218 (0,0))/\kf w L E l c)
theorem kW.lt (h:kW w M l):M<w.heap.size:=by
 rcases aV M w.heap.size with e|e
 ·exact e
 ·rcases h.body with⟨_,h1⟩|⟨_,_,_,_,_,h1,_⟩<;>(rw[aO e]at h1;cases h1)
theorem kW.below (h:kW w M l) (hb:Below w.heap.size w w'):kW w' M l:=by
 refine⟨h.Un,?_⟩;rcases h.body with⟨h0,h1⟩|⟨h0,L,E,c,q,h1,h2⟩
 ·exact .inl ⟨h0,(hb.block M h.lt).trans h1⟩
 ·exact .inr ⟨h0,L,E,c,q,(hb.block M h.lt).trans h1,h2.below hb⟩
def Ff (w:World) (M lo:Nat):Prop:=lo<=M/\∀L,w.cell? ⟨M,1,none⟩=some (.iface 228 (.pointer (some ⟨L,0,none⟩)))->lo<=L/\∀E n c,w.cell? ⟨L,0,none⟩=some (.slice (some ⟨E,0,none⟩) n c)->lo<=E
theorem Ff.intro {v0:Value} {n:Nat} (h:w.heap[M]? =some (.cells #[v0,.iface 228 (.pointer (some ⟨L,0,none⟩)),v2] 218 (0,0))) (h2:w.heap[L]? =some (.cells #[.slice (some ⟨E,0,none⟩) n c] 234 (0,0))) (h3:lo<=M) (h4:lo<=L) (h5:lo<=E):Ff w M lo:=by refine⟨h3,λL' hL=> ?_⟩;rw[cell_of (v:=.iface 228 (.pointer (some ⟨L,0,none⟩))) h (i:=1) rfl]at hL;simp only[ae,bA,bD,aY,true_and,and_true]at hL;subst hL;refine⟨h4,λE' n' c' hE=> ?_⟩;rw[cell_of (v:=.slice (some ⟨E,0,none⟩) n c) h2 (i:=0) rfl]at hE;simp only[ae,au,aY,and_true]at hE;rw[<-hE.1];exact h5
theorem kW.keep (h:kW w M l) (hf:Ff w M lo) (hk:∀b,lo<=b->b<w.heap.size->w'.heap[b]? =w.heap[b]?) (hs:w.heap.size<=w'.heap.size):kW w' M l/\Ff w' M lo:=by
 have hM:=hk M hf.1 h.lt;rcases h.body with⟨h0,h1⟩|⟨h0,L,E,c,q,h1,h2⟩
 ·refine⟨⟨h.Un,.inl ⟨h0,hM.trans h1⟩⟩,hf.1,λL hL=> ?_⟩;rw[cell_of (v:=.nilIface) (hM.trans h1) (i:=1) rfl]at hL;simp at hL
 ·obtain⟨f1,f2⟩:=hf.2 L (cell_of h1 rfl);have f3:=f2 E _ _ (cell_of h2.head rfl);have hL:=hk L f1 h2.lt;have hE:=hk E f3 h2.gu;exact⟨⟨h.Un,.inr ⟨h0,L,E,c,q,hM.trans h1,⟨hL.trans h2.head,λi k ZI=>⟨(aF hE).trans (h2.ir i k ZI).1,(aF hE).trans (h2.ir i k ZI).2⟩,h2.cap,h2.small,ai h2.gu hs⟩⟩⟩,Ff.intro (hM.trans h1) (hL.trans h2.head) hf.1 f1 f3⟩
theorem f102n (M:Nat) (k:Int) (w:World) (h:kW w M []):Calls prog 102 #[.pointer (some ⟨M,0,none⟩),.int .i64 (ik k),.int .i64 7,.bool false] w λe w'=>∃M',e=.returned (.pointer (some ⟨M',0,none⟩))/\kW w' M' [k]/\Below w.heap.size w w'/\Ff w' M' w.heap.size:=by
 have hh:w.heap[M]? =some (.cells #[.int .i64 0,.nilIface,.nilIface] 218 (0,0)):=by
  rcases h.body with⟨_,h1⟩|⟨h0,_⟩
  ·exact h1
  ·exact absurd rfl h0
 have y1:w.cell? ⟨M,1,none⟩=some .nilIface:=cell_of hh rfl;have y2:w.cell? ⟨M,2,none⟩=some .nilIface:=cell_of hh rfl;have eR:=h.lt;have HC:=aa (f144 (ik k) w);have eu:Below w.heap.size w (w.alloc (.cells #[] 383)):=by go_grown
 obtain⟨W1,gZ⟩:=dS (w.alloc (.cells #[] 383));rw[<-gZ]at HC eu;have kR:W1.heap.size=w.heap.size+1:=by rw[gZ,ab]
 have Jp:=(eu.block M eR).trans hh;have jx:=aa (f145 M 0 .nilIface .nilIface W1 Jp (.inl ⟨rfl,rfl⟩));have z1:W1.cell? ⟨M,1,none⟩=some .nilIface:=cell_of Jp rfl;obtain⟨K,hK⟩:=dS (ik k);rw[<-hK]at HC⊢;have H:=rr eu kR eR Jp hK;clear hh h eR eu kR gZ Jp hK;go_enter func102,ntmps102;go_wp2_with fail;refine HC.mono ?_;rintro e w1 ⟨rfl,rfl⟩;go_wp2_with fail;refine jx.mono ?_;rintro e w2 ⟨rfl,rfl⟩;go_upto_region 8 with fail
 have x1:=dJ z1 (.cells #[.int .i64 0,.nilIface,.iface 382 (.pointer (some ⟨w.heap.size,0,none⟩))] 218);go_wp2_with fail;go_ret;obtain⟨a1,a2,a3⟩:=AE w1 (.cells #[.int .i64 1,.iface 228 (.pointer (some ⟨w1.heap.size+1+1,0,none⟩)),.iface 382 (.pointer (some ⟨w.heap.size,0,none⟩))] 218) (.cells #[.int .i64 K,.int .i64 7] 231) (.cells #[.slice (some ⟨w1.heap.size+1,0,none⟩) 1 1] 234);rw[H.2.2.2.2]at a2;refine⟨w1.heap.size,rfl,⟨by simp[Wn],.inr ⟨by simp,w1.heap.size+1+1,w1.heap.size+1,1,some ⟨w.heap.size,0,none⟩,a1,⟨a3,(show ML _ _ [k]from by rw[H.2.2.2.2];exact a2).ir,af _,by omega,by rw[ab,ab,ab];omega⟩⟩⟩,H.1.trans ?_,Ff.intro a1 a3 (by have:=H.2.1;omega) (by have:=H.2.1;omega) (by have:=H.2.1;omega)⟩;have:Below w1.heap.size w1 (((w1.alloc (.cells #[.int .i64 1,.iface 228 (.pointer (some ⟨w1.heap.size+1+1,0,none⟩)),.iface 382 (.pointer (some ⟨w.heap.size,0,none⟩))] 218)).alloc (.cells #[.int .i64 K,.int .i64 7] 231)).alloc (.cells #[.slice (some ⟨w1.heap.size+1,0,none⟩) 1 1] 234)):=by go_grown
 exact this.mono H.1.size
theorem f58 (M:Nat) (l:List Int) (k:Int) (w:World) (h:kW w M l) (hlen:l.length<=0):Calls prog 58 #[.pointer (some ⟨M,0,none⟩),.int .i64 (ik k),.int .i64 7] w λe w'=>∃M',e=.returned (.pointer (some ⟨M',0,none⟩))/\kW w' M' (iB l k)/\Below w.heap.size w w'/\Ff w' M' w.heap.size:=by
 have hC:Calls prog 102 #[.pointer (some ⟨M,0,none⟩),.int .i64 (ik k),.int .i64 7,.bool false] w λe w'=>∃M',e=.returned (.pointer (some ⟨M',0,none⟩))/\kW w' M' (iB l k)/\Below w.heap.size w w'/\Ff w' M' w.heap.size:=by have eK:l=[]:=bM (by omega);subst eK;rw[GL];exact f102n M k w h
 have HC:=aa hC;clear hC h;go_enter func58,ntmps58;go_wp2_with fail;refine HC.mono ?_;rintro e w2 ⟨M',rfl,h1,h2⟩;have H2:=eo h1 h2;clear h1 h2;go_wp2_with fail;go_ret;exact⟨M',rfl,H2.1,H2.2⟩
def Iter (w:World) (I L:Nat) (j d:Int):Prop:=∃cs:Array Value,w.heap[I]? =some (.cells cs 206 (0,0))/\cs[1]? =some (.iface 208 (.pointer (some ⟨L,0,none⟩)))/\cs[2]? =some (.int .i64 j)/\cs[65]? =some (.int .i64 d)
theorem Iter.lt (h:Iter w I L j d):I<w.heap.size:=by
 obtain⟨cs,h1,_⟩:=h;rcases aV I w.heap.size with e|e
 ·exact e
 ·rw[aO e]at h1;cases h1
theorem Iter.cells (h:Iter w I L j d):w.cell? ⟨I,1,none⟩=some (.iface 208 (.pointer (some ⟨L,0,none⟩)))/\w.cell? ⟨I,2,none⟩=some (.int .i64 j)/\w.cell? ⟨I,65,none⟩=some (.int .i64 d)/\∀i,w.frozen? ⟨I,i,none⟩=false:=by obtain⟨cs,h1,h2,h3,h4⟩:=h;exact⟨cell_of h1 h2,cell_of h1 h3,cell_of h1 h4,λi=>el h1⟩
theorem Iter.index (h:Iter w I L j d) (x:Int):Iter (w.setCell ⟨I,2,none⟩ (.int .i64 x)) I L x d:=by obtain⟨cs,h1,h2,h3,h4⟩:=h;have hs:2<cs.size:=(bc.1 h3).1;exact⟨_,dG h1 _,by simpa using h2,by simp[hs],by simpa using h4⟩
theorem Iter.depth (h:Iter w I L j d) (x:Int):Iter (w.setCell ⟨I,65,none⟩ (.int .i64 x)) I L j x:=by obtain⟨cs,h1,h2,h3,h4⟩:=h;have hs:65<cs.size:=(bc.1 h4).1;exact⟨_,dG h1 _,by simpa using h2,by simpa using h3,by simp[hs]⟩
theorem Iter.same (h:Iter w I L j d) (e:w'.heap[I]? =w.heap[I]?):Iter w' I L j d:=by obtain⟨cs,h1,h2⟩:=h;exact⟨cs,e.trans h1,h2⟩
def I6 (w':World) (I L j n:Nat):Prop:=if j+1<n then Iter w' I L (j+1:Nat) 0 else∃x,Iter w' I L x (-1)
theorem YC (v:Value) (w:World):(Instr.typeAssert (.iface 208 v) 196 298 true).run prog w=.ok (.tuple #[.pointer none,.bool false]) w:=by kernel_rfl
theorem QC (v:Value) (w:World):(Instr.typeAssert (.iface 208 v) 196 208 true).run prog w=.ok (.tuple #[v,.bool true]) w:=by kernel_rfl
theorem U0 (v:Value) (w:World):(Instr.typeAssert (.iface 208 v) 196 208 false).run prog w=.ok v w:=by kernel_rfl
theorem f139 (I L:Nat) (j:Int) (w:World) (h:Iter w I L j 0):Calls prog 139 #[.pointer (some ⟨I,0,none⟩)] w λe w'=>e=.returned (.tuple #[])/\Iter w' I L 0 0/\ei (λb=>b=I) w w':=by
 obtain⟨c1,c2,c3,c4⟩:=h.cells;have H:=aa h;have t1:=YC (.pointer (some ⟨L,0,none⟩));have t2:=QC (.pointer (some ⟨L,0,none⟩));have Yn:=c4 2;clear h c4;go_enter func139,ntmps139;go_wp2_with fail;go_loopg [] 1 (λk wr=>k=1/\wr=w)
 case atStart=>exact⟨rfl,rfl⟩
 case round=>
  obtain⟨rfl,oG⟩:=hrel;replace oG:=oG.symm;subst oG;go_wp2_with fail;go_big_quiet (fail);have hd:=(below_drewN (ay w.heap.size w) nq);have d1:=dF hd _ _ c1;have hI:Iter (w.drewN nq) I L j 0:=H.same rfl;obtain⟨e1,e2,e3,e4⟩:=hI.cells;have HI:=eo hI hd;have e42:=e4 2;have ln:=hI.index 0;obtain⟨W2,lz⟩:=dS ((w.drewN nq).setCell ⟨I,2,none⟩ (.int .i64 0));have f1:W2.cell? ⟨I,1,none⟩=some (.iface 208 (.pointer (some ⟨L,0,none⟩))):=by rw[lz];exact ln.cells.1
  clear hI hd e4 ln;go_upto_region 2 with fail
  rw[<-lz];have yl:=aa lz;clear lz;go_wp2_with fail;refine bodyPost_ret (results_none rfl _ _ _) rfl ?_;rw[yl.out];exact⟨rfl,HI.1.index 0,(ei.grown HI.2).store _ rfl⟩
theorem f138 (I L E c j:Nat) (l:List (List UInt8)) (w:World) (h:Iter w I L j 0) (hL:jQ w L E l c) (hj:j<l.length) (XZ:L≠I):Calls prog 138 #[.pointer (some ⟨I,0,none⟩)] w λe w'=>e=.returned (.tuple #[])/\I6 w' I L j l.length/\ei (λb=>b=I) w w':=by
 obtain⟨n,hn⟩:=dS l.length;obtain⟨c1,c2,c3,c4⟩:=h.cells;have y0:w.cell? ⟨L,0,none⟩=some (.slice (some ⟨E,0,none⟩) n c):=by rw[hn];exact cell_of hL.head rfl
 have hnc:n<=1000:=by have:=hL.cap;have:=hL.small;omega
 rw[<-hn]at hj⊢;have H:=aa h;have t2:=QC (.pointer (some ⟨L,0,none⟩));have Yn:=c4 2;have TF:=c4 65;have hwn:=gW ((n:Int)-1) (by omega);have hwj:=gW ((j:Int)+1) (by omega);clear h c4 hL hn;go_enter func138,ntmps138;go_wp2_with fail;go_loopg [] 2 (λk wr=>(k=2/\wr=w)\/(k=1/\¬(j:Int)<(n:Int)-1/\Hid (Iter wr I L j (-1)/\ei (λb=>b=I) w wr)))
 case atStart=>exact .inl ⟨rfl,rfl⟩
 case round=>
  rcases hrel with⟨rfl,oG⟩|⟨rfl,gM,HI⟩
  ·replace oG:=oG.symm;subst oG;go_wp2_with fail;go_big_quiet (fail);obtain⟨q1,rfl⟩:=dS nq;have d1:=dF (below_drewN (ay w.heap.size w) q1) _ _ c1;have d2:=dF (below_drewN (ay w.heap.size w) q1) _ _ c2;have d0:=dF (below_drewN (ay w.heap.size w) q1) _ _ y0;go_wp2_with fail;have Kj:Iter (w.drewN q1) I L j 0:=H.same rfl;have j7:ei (λb=>b=I) w (w.drewN q1):=ei.grown (below_drewN (ay w.heap.size w) q1);obtain⟨W1,gZ⟩:=dS (w.drewN q1);rw[<-gZ]at d1 d2 d0 Kj j7⊢;have H1:=eo Kj j7;clear Kj j7 gZ y0 c1 c2 c3 Yn TF;by_cases gM:(j:Int)<(n:Int)-1
   ·have hd:decide ((j:Int)<(n:Int)-1)=true:=decide_eq_true gM;go_big_quiet (fail);have ln:Iter (W1.drewN nq) I L j 0:=H1.1.same rfl;have kb:ei (λb=>b=I) W1 (W1.drewN nq):=ei.grown (below_drewN (ay _ _) nq);have e2:=ln.cells.2.1;have e3:=ln.cells.2.2.2 2;have H2:=eo ln kb;clear ln kb;go_wp2_with fail;refine bodyPost_ret (results_none rfl _ _ _) rfl ?_;exact⟨rfl,by unfold I6;rw[if_pos (by omega)];exact H2.1.index ((j:Int)+1),(H1.2.then H2.2).store _ rfl⟩
   ·have hd:decide ((j:Int)<(n:Int)-1)=false:=decide_eq_false gM;go_big_quiet (fail);have ln:Iter (W1.drewN nq) I L j 0:=H1.1.same rfl;have kb:ei (λb=>b=I) W1 (W1.drewN nq):=ei.grown (below_drewN (ay _ _) nq);have e2:=ln.cells.2.2.1;have e3:=ln.cells.2.2.2 65;have H2:=eo ln kb;clear ln kb;go_wp2_with fail;go_roundg 1
    case measure=>omega
    case rel=>exact .inr ⟨rfl,gM,aa ⟨H2.1.depth (-1),(H1.2.then H2.2).store _ rfl⟩⟩
  ·have hI65:=HI.1.cells.2.2.1;go_wp2_with fail
   first|(go_end0;skip)|refine bodyPost_ret (results_none rfl _ _ _) rfl ?_
   exact⟨rfl,by unfold I6;rw[if_neg (by omega)];exact⟨_,HI.1⟩,HI.2⟩
theorem f97 (I L E c j:Nat) (l:List (List UInt8)) (k:List UInt8) (w:World) (h:Iter w I L j 0) (hL:jQ w L E l c) (hj:l[j]? =some k) (XZ:L≠I) (hIE:E≠I):Calls prog 97 #[.pointer (some ⟨I,0,none⟩)] w λe w'=>e=.returned (.tuple #[.string (sk k),.int .i64 0,.bool true])/\I6 w' I L j l.length/\ei (λb=>b=I) w w':=by
 have mV:j<l.length:=(aB.1 hj).1;obtain⟨c1,c2,c3,c4⟩:=h.cells;have HC:=aa (f51 I 0 w c3);obtain⟨n,hn⟩:=dS l.length;have y0:w.cell? ⟨L,0,none⟩=some (.slice (some ⟨E,0,none⟩) n c):=by rw[hn];exact cell_of hL.head rfl
 obtain⟨y1,y2⟩:=hL.ir j k hj;have H:=sW h hL hn mV;have gM:(j:Int)<(n:Int):=by omega
 have BG:(0:Int)<=(j:Int):=by omega
 obtain⟨K,hK⟩:=dS (sk k);rw[<-hK]at y1⊢;rw[<-hn];have t3:=U0 (.pointer (some ⟨L,0,none⟩));clear h hL hn mV hj hK;go_enter func97,ntmps97;go_wp2_with fail;refine HC.mono ?_;rintro e w1 ⟨rfl,rfl⟩;go_wp2_with fail;go_big_quiet (fail);obtain⟨q1,rfl⟩:=dS nq;have hb:=below_drewN (ay w1.heap.size w1) q1;have d1:=dF hb _ _ c1;have d2:=dF hb _ _ c2;have d0:=dF hb _ _ y0;go_wp2_with fail;go_big_quiet (fail);obtain⟨q2,rfl⟩:=dS nq;have eT:=below_drewN hb q2;have g1:=dF eT _ _ y1;have g2:=dF eT _ _ y2;go_wp2_with fail;go_big_quiet (fail);have gQ:=below_drewN (ay w1.heap.size w1) (q1+q2+nq);have Fu:=f138 I L E c j l _ (H.1.same (w':=w1.drewN (q1+q2+nq)) rfl) (H.2.1.below gQ) H.2.2.2 XZ;rw[<-H.2.2.1]at Fu;have jx:=eo Fu gQ;clear Fu gQ hb eT;go_wp2_with fail;refine jx.1.mono ?_;rintro e w4 ⟨rfl,h1,h2⟩;have H4:=eo h1 h2;clear h1 h2;go_wp2_with fail
 go_ret3
 exact⟨rfl,H4.1,(ei.grown jx.2).then H4.2⟩
theorem MM.trans {w1 w2:World} {v1:Value} {G1 F1 G2:List Nat} (h:MM w w1 Sb v v1 G F G1) (k:MM w1 w2 Sb v1 v2 G1 F1 G2) (hF:∀x∈F1,x∈F):MM w w2 Sb v v2 G F G2:=by
 refine⟨h.fo.trans k.fo (λ_ _ h=>h) (λb hb e=> ?_),λx hx=> ?_,λg hg=> ?_⟩
 ·rcases e with e|e
  ·exact .inl e
  ·rcases h.row b e with h1|h1
   ·exact .inr h1
   ·omega
 ·rcases k.mem x hx with h1|h1|h1
  ·exact h.mem x h1
  ·exact .inr (.inl (hF x h1))
  ·exact .inr (.inr (ao h.fo.size h1))
 ·rcases k.row g hg with h1|h1
  ·exact h.row g h1
  ·exact .inr (ao h.fo.size h1)
structure PLp (w wr:World) (B Sb C:Nat) (vq:Value) (out:List T) (us:List Value) (G F:List Nat) (l:List T) (sv:Value) (sG:List Value) (bl:List Nat) (j:Nat) (Fl:Value) (Fm:List Value) (Gj Fr:List Nat):Prop where
 at':iv wr B Sb C Fl (fv (l.take j) out) Fm Gj
 fr:MM w wr Sb vq Fl G F Gj
 row:oI wr sv sG bl
 tr:eW wr B (l.drop j) (sG.drop j) Fr
 nodup:(Fr++Gj).Nodup
 off:∀b∈bl,b≠Sb/\b≠C/\Fl.ownBlock≠some b/\b<w.heap.size
 Gh:Sb∉Fr/\C∉Fr/\∀g,Fl.ownBlock=some g->g∉Fr
 lt:∀x∈Fr,x<w.heap.size/\B<=x/\x∈F
 len:Fm.length+fF (l.drop j)<=us.length+fF l
 ts:eD (fv (l.take j) out)+eD (l.drop j)<=eD out+eD l
theorem M4 {l:List T} {j:Nat} {t:T} (h:l[j]? =some t):eD (l.drop j)=ix t+eD (l.drop (j+1)):=by rw[iu h,eD]
theorem PLp.step {wr:World} {C:Nat} {vq:Value} {out:List T} {l:List T} {sv:Value} {sG:List Value} {bl:List Nat} {j:Nat} {Fl:Value} {Fm:List Value} {Gj Fr:List Nat} (h:PLp w wr B Sb C vq out us G F l sv sG bl j Fl Fm Gj Fr) (hj:j<l.length) (hlen:us.length+fF l<=1000000000) (fY:eD out+eD l<=4000000000000000000):∃t u F1 F2 b o cap,l[j]? =some t/\sv=.slice (some ⟨b,o,none⟩) sG.length cap/\wr.cell? ⟨b,o+j,none⟩=some u/\Fit wr B Sb C Fl Gj t u F1/\Fm.length+iJ t<=1000000000/\eD (fv (l.take j) out)+ix t<=4000000000000000000/\∀(w1:World) (fb:Value) (fV:List Value) (G':List Nat),iv w1 B Sb C fb (push t (fv (l.take j) out)) fV G'->MM wr w1 Sb Fl fb Gj F1 G'->fV.length<=Fm.length+iJ t->PLp w w1 B Sb C vq out us G F l sv sG bl (j+1) fb fV G' F2:=by
 obtain⟨t,ht⟩:∃t,l[j]? =some t:=⟨l[j],ah hj⟩;have ll:=h.tr;rw[iu ht]at ll;simp only[eW]at ll;obtain⟨u,us4,F1,F2,hu,rfl,h1,h2⟩:=ll;have hju:sG[j]? =some u:=by have:=congrArg (λx=>x[0]?) hu;simpa using this
 have Hn:sG.drop (j+1)=us4:=by have:=congrArg List.tail hu;simpa using this
 obtain⟨b,o,cap,pS,sy,eB⟩:=h.row.cell hju;have lI:=h.nodup;rw[aD,aZ]at lI;obtain⟨n1,n2,n3⟩:=lI;have n2':=n2;rw[aZ]at n2';have gJ:=h.fr.fo.size;have jg:=h.len;rw[Cq ht]at jg;have Za:=h.ts;rw[M4 ht]at Za;refine⟨t,u,F1,F2,b,o,cap,ht,pS,eB,⟨h1,?_,⟨λe=>h.Gh.1 (by simp[e]),λe=>h.Gh.2.1 (by simp[e]),λg hg e=>h.Gh.2.2 g hg (by simp[e])⟩,λx hx=> ?_,λx hx=>(h.lt x (by simp[hx])).2.1⟩,by omega,by omega,?_⟩
 ·rw[aZ];exact⟨n1,n2'.2.1,λx hx y hy e=>n3 x hx y (bg _ hy) e⟩
 ·have:=(h.lt x (by simp[hx])).1;omega
 ·intro w1 fb fV G' ho hf yC;have XC:∀g,fb.ownBlock=some g->g<w.heap.size->Fl.ownBlock=some g:=λg hg eR=>by
   rcases hf.row g hg with h1|h1
   ·exact h1
   ·omega
  have gE:∀b,b<B->w1.heap[b]? =wr.heap[b]? :=λb hb=>by
   refine hf.fo.same b (by have:=h.at'.ge.1;have:=h.at'.lt.1;omega) λe=> ?_;rcases e with e|e
   ·have:=h.at'.ge.1;omega
   ·have:=(h.at'.own.lt b e).1;omega
  refine⟨?_,h.fr.trans hf (λx hx=>(h.lt x (by simp[hx])).2.2),h.row.keep λc hc=> ?_,?_,?_,λc hc=> ?_,?_,λx hx=>h.lt x (by simp[hx]),?_,?_⟩
  ·rw[ko ht,Aa];exact ho
  ·have:=h.off c hc;exact hf.fo.same c (by omega) λe=>by
    rcases e with e|e
    ·exact this.1 e
    ·exact this.2.2.1 e
  ·rw[Hn];refine eW.keep gE _ _ _ h2 λc hc=> ?_;have j7:=h.lt c (by simp[hc]);refine hf.fo.same c (by omega) λe=> ?_;rcases e with e|e
   ·exact h.Gh.1 (by rw[<-e];simp[hc])
   ·exact h.Gh.2.2 c e (by simp[hc])
  ·rw[aZ];refine⟨n2'.1,ho.nodup,λx hx y hy e=> ?_⟩;subst e;have vz:=(h.lt x (by simp[hx])).1;rcases hf.mem x hy with h3|h3|h3
   ·exact n2'.2.2 x hx x h3 rfl
   ·exact n3 x h3 x (bu _ hx) rfl
   ·omega
  ·have:=h.off c hc;exact⟨this.1,this.2.1,λe=>this.2.2.1 (XC c e this.2.2.2),this.2.2.2⟩
  ·refine⟨λe=>h.Gh.1 (by simp[e]),λe=>h.Gh.2.1 (by simp[e]),λg hg e=> ?_⟩;have:=(h.lt g (by simp[e])).1;exact h.Gh.2.2 g (XC g hg this) (by simp[e])
  ·omega
  ·rw[ko ht,Aa];have:=FY t (fv (l.take j) out);omega
theorem Kw (l:List T) (hM:∀t∈l,ke t):ke (.dH l):=by
 intro w B Sb C vq out us G v F ho hf hlen fY;have e:push (.dH l) out=fv l out:=by simp[push]
 rw[e];clear e;have h:=hf.tr;simp only[Tr]at h;obtain⟨sv,sG,bl,G3,rfl,rfl,h1,h2⟩:=h;obtain⟨a,c,rfl⟩:=h1.len;have ic:=eW.length l sG G3 h2;have kr:=h1.small;simp only[iJ]at hlen;simp only[ix]at fY;have lI:=hf.nodup;rw[aD,aZ]at lI;have H0:PLp w w B Sb C vq out us G (bl++G3) l (.slice a sG.length c) sG bl 0 vq us G G3:=⟨by simpa[fv]using ho,⟨ei.refl _ _,λ_ h=>.inl h,λ_ h=>.inl h⟩,h1,by simpa using h2,lI.2.1,λb hb=>⟨λe=>hf.off.1 (by simp[<-e,hb]),λe=>hf.off.2.1 (by simp[<-e,hb]),λe=>hf.off.2.2 b e (by simp[hb]),hf.lt b (by simp[hb])⟩,⟨λe=>hf.off.1 (by simp[e]),λe=>hf.off.2.1 (by simp[e]),λg hg e=>hf.off.2.2 g hg (by simp[e])⟩,λx hx=>⟨hf.lt x (by simp[hx]),hf.ge x (by simp[hx]),by simp[hx]⟩,by simp,by simp[fv]⟩;obtain⟨n,hn⟩:=dS sG.length;rw[<-hn]at H0 ic kr⊢;have sq:n<=9223372036854775807:=by unfold maxLen at kr;omega
 have HN:=eo hn ic;have HM:=aa hM;have HS:=aa H0;have fP:=eo (show us.length+fF l<=1000000000 by omega) fY;have eH:=ij (.slice a n c);clear hn ic hM H0 hlen fY kr lI h1 h2 ho hf;go_enter func184,ntmps184;go_wp2_with fail;go_loopg [20] n (λk s20 wr=>∃(j:Nat) (Fl:Value) (Fm:List Value) (Gj Fr:List Nat),k=n-j/\s20=.int .i64 j/\j<=n/\Hid (PLp w wr B Sb C vq out us G (bl++G3) l (.slice a n c) sG bl j Fl Fm Gj Fr))
 case atStart=>exact⟨0,vq,us,G,G3,rfl,rfl,aU _,HS⟩
 case round=>
  obtain⟨j,Fl,Fm,Gj,Fr,rfl,rfl,hj,HJ⟩:=hrel;by_cases gM:j<n
  ·have kY:=gW ((j:Int)+1) (by omega);have jA:decide ((j:Int)<(n:Int))=true:=by simp;omega
   obtain⟨t,u,F1,F2,b,o,cap,ht,pS,eB,oS,jg,Za,fw⟩:=HJ.step (by rw[<-HN.2];exact gM) fP.1 fP.2;simp only[au]at pS;obtain⟨rfl,qJ,rfl⟩:=pS;have i1:(0:Int)<=(j:Int):=by omega
   have i2:(j:Int)<(n:Int):=(by omega);have hC:=HJ.at'.cells.2;unfold clo at hC;obtain⟨sI,pI,rfl⟩:=oS.tr.iface;have HC:=aa (HM.out t (bm ht) wr B Sb C Fl _ Fm Gj _ F1 HJ.at' oS jg Za);have oK:=aa fw;clear ht qJ oS jg Za fw;go_wp2_with fail;refine HC.mono ?_;rintro e w1 ⟨rfl,fb,fV,G',k1,k2,k3⟩;have HP:=aa (oK.out w1 fb fV G' k1 k2 k3);clear k1 k2 k3;go_wp2_with fail;go_roundg (n- (j+1))
   case measure=>omega
   case rel=>exact⟨j+1,fb,fV,G',F2,rfl,rfl,by omega,HP⟩
  ·have jA:decide ((j:Int)<(n:Int))=false:=(by simp;omega);have hp:=HJ.out;have mV:l.length<=j:=(by rw[<-HN.2];omega);have ho:=hp.at';rw[aP mV]at ho;have HE:=jS ho hp.fr hp.len;clear ho hp;go_wp2_with fail;refine bodyPost_ret (results_none rfl _ _ _) rfl ?_;exact⟨rfl,Fl,Fm,Gj,HE.1,HE.2.1,by have:=HE.2.2;simp only[iJ];omega⟩
mutual
theorem Lp:∀(t:T),ke t
 |.text t=>O4 t
 |.char s=>O8 s
 |.star s n m=>O6 s n m
 |.range a b n=>Kv a b n
 |.set s n=>SZ s n
 |.void=>O3
 |.pre t s=>S0 t s
 |.eP t s=>SY t s
 |.dN p q s=>Iv p q s
 |.cont t=>O7 t
 |.dH l=>Kw l (FZ l)
 |.alt l=>S4 l
 |.eh l=>O5 l
theorem FZ:∀(l:List T),∀t∈l,ke t
 | [],t,h=>by simp at h
 |u::l,t,h=>by
  rcases az.1 h with e|h
  ·rw[e];exact Lp u
  ·exact FZ l t h
end
structure TN (w w':World) (B:Nat) (bl G:List Nat) (l':List T) (BC:Value) (fV:List Value) (tP G':List Nat):Prop where
 row:oI w' BC fV tP
 tr:eW w' B l' fV G'
 nodup:(tP++G').Nodup
 own:∀x∈tP++G',x∈bl++G\/w.heap.size<=x
 lt:∀x∈tP++G',x<w'.heap.size
 fo:ei (λ_=>False) w w'
theorem tB (h:w.ownsRow B 153 1 v us.length us):∃bl,oI w v us bl/\∀x,x∈bl↔(v.ownBlock=some x/\us≠[]):=by
 rcases h.2 with⟨rfl,e⟩|⟨g,cap,cur,rfl,hB,hg,hn,hc,lJ,tD⟩
 ·have:us=[]:=b7.1 e;subst this;exact⟨[],.inl ⟨rfl,rfl,none,0,rfl⟩,by simp⟩
 ·cases us with
  |nil=>exact⟨[],.inl ⟨rfl,rfl,_,_,rfl⟩,by simp⟩
  |cons u us=>
   refine⟨[g],.inr ⟨g,0,cap,cur,rfl,rfl,hg,λi hi=> ?_,by simpa using hn,hc⟩,λx=>by simp[Value.ownBlock,eq_comm]⟩;have e:(cur.toList.take ((u::us).length*1))[i]? =(u::us)[i]? :=by rw[tD]
   rw[cS (by omega),ah hi]at e;simpa using e
theorem f155 (B:Nat) (l:List T) (a:Option Addr) (n c:Nat) (us:List Value) (bl G:List Nat) (w:World) (h1:oI w (.slice a n c) us bl) (h2:eW w B l us G) (lI:(bl++G).Nodup) (eR:∀x∈bl++G,x<w.heap.size) (rB:∀x∈bl++G,B<=x) (hB:B<=w.heap.size) (hw:fF l<=1000000000) (ht:eD l<=4000000000000000000) (sq:n<=1000000000):Calls prog 155 #[.slice a n c] w λe w'=>∃a' n' c' fV tP G',e=.returned (.slice a' n' c')/\TN w w' B bl G (norm l) (.slice a' n' c') fV tP G':=by
 have ic:=eW.length l us G h2;have hn:n=us.length:=by obtain⟨a',c',e⟩:=h1.len;simp only[au]at e;exact e.2.1
 have Bq:=aa (f183 B l a n c us bl G w h1 h2);cases hq:fD none l with
 |false=>
  have e:norm l=l:=by unfold norm;rw[hq];rfl
  rw[hq]at Bq;have HR:=aa (show TN w w B bl G (norm l) (.slice a n c) us bl G from⟨h1,by rw[e];exact h2,lI,λx hx=>.inl hx,eR,ei.refl _ _⟩);clear h1 h2 lI eR rB ic hn e hq;go_enter func155,ntmps155;go_wp2_with fail;refine Bq.mono ?_;rintro e w1 ⟨rfl,rfl⟩;go_wp2_with fail;go_ret;exact⟨a,n,c,us,bl,G,rfl,HR.out⟩
 |true=>
  rw[hq]at Bq;have e:norm l=fv l []:=by unfold norm;rw[hq];rfl
  rw[e];obtain⟨i0,hi,gD,gB,gF⟩:=info_parts fG;have ZA:∀wx:World,(Instr.makeSlice 236 (.int .i64 0) (.int .i64 n)).run prog wx=.ok (.slice (some ⟨wx.heap.size,0,none⟩) 0 n) (wx.alloc (.cells (madeCells #[.nilIface] n) 153)):=by intro wx;have:=run_make (P:=prog) wx 236 153 i0 .nilIface underlying236 hi gD .i64 .i64 0 n (by omega) (by omega) (by rw[gF];omega) (by omega);simpa[gB,Value.cells]using this
  have HH:=rr h1 h2 lI eR rB;have HN:=eo hn ic;clear h1 h2 lI eR rB ic hn e hq;go_enter func155,ntmps155;go_wp2_with fail;refine Bq.mono ?_;rintro e w1 ⟨rfl,rfl⟩;go_wp2_with fail;obtain⟨W,UC⟩:=dS (((w.alloc (.cells (madeCells #[.nilIface] n) 153)).alloc (.cells #[.slice (some ⟨w.heap.size,0,none⟩) 0 n] 236)).alloc (.cells #[.func (.func 184) #[] #[.pointer (some ⟨w.heap.size+1+1,0,none⟩),.pointer (some ⟨w.heap.size+1,0,none⟩)]] 393));rw[<-UC];have Sy:Below w.heap.size w W:=by rw[UC];go_grown
  have gJ:W.heap.size=w.heap.size+1+1+1:=by rw[UC,ab,ab,ab]
  have gO:W.ownsRow B 153 1 (.slice (some ⟨w.heap.size,0,none⟩) 0 n) 0 []:=by rw[UC];exact((World.ownsRow_made w _ n hB (by unfold maxLen;omega) (by simp[madeCells])).alloc _).alloc _
  have Mi:W.heap[w.heap.size+1]? =some (.cells #[.slice (some ⟨w.heap.size,0,none⟩) 0 n] 236 (0,0)):=by rw[UC,heap_alloc_old _ _ (by rw[ab,ab];omega)];have:=heap_alloc_new (w.alloc (.cells (madeCells #[.nilIface] n) 153)) (.cells #[.slice (some ⟨w.heap.size,0,none⟩) 0 n] 236);rw[ab]at this;exact this
  have hcb:W.heap[w.heap.size+1+1]? =some (.cells #[clo (w.heap.size+1+1) (w.heap.size+1)] 393 (0,0)):=by rw[UC];have:=heap_alloc_new ((w.alloc (.cells (madeCells #[.nilIface] n) 153)).alloc (.cells #[.slice (some ⟨w.heap.size,0,none⟩) 0 n] 236)) (.cells #[clo (w.heap.size+1+1) (w.heap.size+1)] 393);rw[ab,ab]at this;exact this
  have ho:iv W B (w.heap.size+1) (w.heap.size+1+1) (.slice (some ⟨w.heap.size,0,none⟩) 0 n) [] [] []:=⟨Mi,hcb,gO,by simp[eW],⟨by simp[Value.ownBlock],by simp[Value.ownBlock];omega,by omega⟩,⟨by simp,by simp,by simp⟩,by simp,⟨by omega,by omega,λg hg=>by simp only[Value.ownBlock,ae]at hg;omega,by simp⟩,⟨by omega,by omega,by simp⟩⟩;have hS:PLp W W B (w.heap.size+1) (w.heap.size+1+1) (.slice (some ⟨w.heap.size,0,none⟩) 0 n) [] [] [] G l (.slice a n c) us bl 0 (.slice (some ⟨w.heap.size,0,none⟩) 0 n) [] [] G:=by
   obtain⟨h1,h2,h3,h4,h5⟩:=HH.out;have h4b:∀x∈bl,x<w.heap.size:=λx hx=>h4 x (by simp[hx]);have h4G:∀x∈G,x<w.heap.size:=λx hx=>h4 x (by simp[hx]);refine⟨by simpa[fv]using ho,⟨ei.refl _ _,λ_ h=>.inl h,λ_ h=>.inl h⟩,h1.keep λb hb=>Sy.block b (h4b b hb),?_,?_,λb hb=> ?_,⟨λe=> ?_,λe=> ?_,λg hg e=> ?_⟩,λx hx=>⟨?_,h5 x (by simp[hx]),hx⟩,by simp,by simp[fv,eD]⟩
   ·rw[bK,bK];exact eW.keep (λb hb=>Sy.block b (by omega)) l us G h2 λb hb=>Sy.block b (h4G b hb)
   ·rw[bd];exact(aZ.1 h3).2.1
   ·have:=h4b b hb;exact⟨by omega,by omega,λe=>by simp only[Value.ownBlock,ae]at e;omega,by omega⟩
   ·have:=h4G _ e;omega
   ·have:=h4G _ e;omega
   ·have:=h4G _ e;simp only[Value.ownBlock,ae]at hg;omega
   ·have:=h4G x hx;omega
  obtain⟨Sb,hSb⟩:=dS (w.heap.size+1);obtain⟨C,hC⟩:=dS (w.heap.size+1+1);obtain⟨vq0,Y5⟩:=dS (Value.slice (some ⟨w.heap.size,0,none⟩) 0 n);have HF:=sW Sy gJ hSb Y5;have HS:=aa hS;have hnl2:n<=9223372036854775807:=by omega
  clear UC Sy gO Mi hcb ho hS gJ ZA;rw[<-hC,<-hSb,<-Y5]at HS;rw[<-hC,<-hSb];clear hSb hC Y5;go_loopg [17] n (λk s17 wr=>∃(j:Nat) (Fl:Value) (Fm:List Value) (Gj Fr:List Nat),k=n-j/\s17=.int .i64 j/\j<=n/\Hid (PLp W wr B Sb C vq0 [] [] [] G l (.slice a n c) us bl j Fl Fm Gj Fr))
  case atStart=>exact⟨0,vq0,[],[],G,rfl,rfl,aU _,HS⟩
  case round=>
   obtain⟨j,Fl,Fm,Gj,Fr,rfl,rfl,hj,HJ⟩:=hrel;by_cases gM:j<n
   ·have kY:=gW ((j:Int)+1) (by omega);have jA:decide ((j:Int)<(n:Int))=true:=by simp;omega
    obtain⟨t,u,F1,F2,b,o,cap,mS,pS,eB,oS,jg,Za,fw⟩:=HJ.step (by have:=HN.out;omega) (by simpa using hw) (by simpa[eD]using ht);simp only[au]at pS;obtain⟨rfl,qJ,rfl⟩:=pS;have i1:(0:Int)<=(j:Int):=by omega
    have i2:(j:Int)<(n:Int):=(by omega);have hCc:=HJ.at'.cells.2;unfold clo at hCc;obtain⟨sI,pI,rfl⟩:=oS.tr.iface;have HC:=aa (Lp t wr B Sb C Fl _ Fm Gj _ F1 HJ.at' oS jg Za);have oK:=aa fw;clear mS qJ oS jg Za fw;go_wp2_with fail;refine HC.mono ?_;rintro e w1 ⟨rfl,fb,fV,G',k1,k2,k3⟩;have HP:=aa (oK.out w1 fb fV G' k1 k2 k3);clear k1 k2 k3;go_wp2_with fail;go_roundg (n- (j+1))
    case measure=>omega
    case rel=>exact⟨j+1,fb,fV,G',F2,rfl,rfl,by omega,HP⟩
   ·have jA:decide ((j:Int)<(n:Int))=false:=(by simp;omega);have mV:l.length<=j:=by have:=HN.out;omega
    have hs:=HJ.at'.cells.1;obtain⟨a1,c1,hv⟩:=HJ.at'.shape;rw[hv]at hs;have HV:=aa hv;clear hv;go_wp2_with fail;go_ret;have hp:=HJ.out;have ho:=hp.at';rw[aP mV,HV.out]at ho;obtain⟨tP,b1,b2⟩:=tB ho.own;obtain⟨f1,f2,f3,f4⟩:=HF.out;have gh:∀x,(Value.slice a1 Fm.length c1).ownBlock=some x->w.heap.size<=x:=λx hx=>by
     rcases hp.fr.row x (by rw[HV.out];exact hx)with h|h
     ·rw[f4]at h;simp only[Value.ownBlock,ae]at h;omega
     ·omega
    refine⟨a1,Fm.length,c1,Fm,tP,Gj,rfl,b1,ho.tr,?_,λx hx=> ?_,λx hx=> ?_,?_⟩
    ·rw[aZ];refine⟨?_,ho.nodup,λx hx y hy e=>ho.off.2.2 x ((b2 x).1 hx).1 (e▸hy)⟩;rcases b1 with⟨_,e,_⟩|⟨b,o,cap,cs,_,e,_⟩
     ·rw[e];simp
     ·rw[e];simp
    ·rcases ar.1 hx with h|h
     ·exact .inr (gh x ((b2 x).1 h).1)
     ·rcases hp.fr.mem x h with h|h|h
      ·simp at h
      ·exact .inl (bg _ h)
      ·right;omega
    ·rcases ar.1 hx with h|h
     ·exact ho.lt.2.2.1 x ((b2 x).1 h).1
     ·exact ho.lt.2.2.2 x h
    ·refine(ei.grown (S:=λ_=>False) f1).trans hp.fr.fo (λ_ _ h=>h) (λb hb e=> ?_);rcases e with e|e
     ·omega
     ·rw[f4]at e;simp only[Value.ownBlock,ae]at e;omega
end Go.Proofs.YtfejflhgaphilaaGreatDoor
