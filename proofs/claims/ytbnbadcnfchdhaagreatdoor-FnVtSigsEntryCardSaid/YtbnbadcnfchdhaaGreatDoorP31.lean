/- Lemmas for FnVtSigsEntry; no conditions. -/
import Derived.Test.YtbnbadcnfchdhaaGreatDoorP30
set_option maxRecDepth 100000
set_option maxHeartbeats 16000000
set_option linter.all false
namespace Go.Proofs.YtbnbadcnfchdhaaGreatDoor
open Go.RowKit
structure MM(w:World)(r:Nat)(A:Option Addr)(n c:Nat)(ts:List AW)(i:Nat):Prop where
 blk:w.heap[r]?=some (.cells #[.slice A n c,.int .i64 i] 84 (0,0))
 row:w.ownsRow 0 118 2 (.slice A n c) n (FH ts)
 len:n=ts.length
 ne:(Value.slice A n c).ownBlock≠some r
 fit:i<=n
 small:n<=100000
theorem MM.lt{w:World}{r n c i:Nat}{A:Option Addr}{ts:List AW}(h:MM w r A n c ts i):r<w.heap.size:=(Array.getElem?_eq_some_iff.1 h.blk).1
theorem MM.below{w W:World}{r n c i:Nat}{A:Option Addr}{ts:List AW}(h:MM w r A n c ts i)(hb:Below w.heap.size w W):MM W r A n c ts i:=
 ⟨(hb.block r h.lt).trans h.blk,AD h.row hb,h.len,h.ne,h.fit,h.small⟩
theorem MM.step{w W:World}{r n c i:Nat}{A:Option Addr}{ts:List AW}(h:MM w r A n c ts i)(hg:w.grownBy W (some r)){j:Nat}(hb:W.heap[r]?=some (.cells #[.slice A n c,.int .i64 j] 84 (0,0)))(hj:j<=n):MM W r A n c ts j:=
 ⟨hb,AR h.row (λg hg2 hl=>hg.block g hl (λe=>h.ne (by rw[hg2];exact e))),h.len,h.ne,hj,h.small⟩
theorem MM.maps{w W:World}{r n c i:Nat}{A:Option Addr}{ts:List AW}(h:MM w r A n c ts i)(hg:w.grownBy W (some r)):BZ w W:=BZ.grown hg (λq hq=>by cases hq;exact⟨_,_,_,h.blk⟩)
theorem MM.tok{w:World}{r n c i:Nat}{A:Option Addr}{ts:List AW}(h:MM w r A n c ts i)(hi:i<ts.length):∃g,A=some ⟨g,0,none⟩/\w.cell? ⟨g,i*2,none⟩=some (.int .u8 (ts[i]).1)/\w.cell? ⟨g,i*2+1,none⟩=some (.string (ts[i]).2):=by
 obtain⟨A',c',he,hA⟩:=AF h.row;simp only[Value.slice.injEq]at he;obtain⟨rfl,_,rfl⟩:=he;have hn:=h.len;obtain⟨g,rfl,_⟩:=hA Om;have hc:=AV h.row g c rfl;have hl:∀(l:List AW) (j:Nat) (hj:j<l.length),(FH l)[j*2]?=some (.int .u8 (l[j]).1)/\(FH l)[j*2+1]?=some (.string (l[j]).2):=by
  intro l;induction l with
  |nil=>intro j hj;simp at hj
  |cons t l ih=>
   intro j hj
   cases j with
   |zero=>simp[FH]
   |succ j=>have:=ih j (by simpa using hj);rw[show (j+1)*2=j*2+1+1 by omega,show j*2+1+1+1=(j*2+1)+1+1 by omega];simpa[FH] using this
 obtain⟨h1,h2⟩:=hl ts i hi;exact⟨g,rfl,by rw[hc _ Om];exact h1,by rw[hc _ Om];exact h2⟩
theorem AY{wx:World}{b:Nat}{v0 v1:Value}{t:TypeId}(h:wx.heap[b]?=some (.cells #[v0,v1] t (0,0))):wx.cell? ⟨b,0,none⟩=some v0/\wx.cell? ⟨b,1,none⟩=some v1:=by refine⟨?_,?_⟩<;>simp[World.cell?,h]
def AQf(w:World)(r:Nat)(A:Option Addr)(n c:Nat)(ts:List AW)(i k:Nat)(x:ByteArray)(e:Ending)(w':World):Prop:=e=.returned (.agg #[.int .u8 k,.string x])/\MM w' r A n c ts (i+1)/\w.grownBy w' (some r)
theorem AO{w:World}{r n c i k:Nat}{A:Option Addr}{ts:List AW}{x:ByteArray}{rest:List AW}(h:MM w r A n c ts i)(hd:ts.drop i=(k,x)::rest):Calls Tryz.prog 69 #[.pointer (some ⟨r,0,none⟩)] w (AQf w r A n c ts i k x):=by
 have hi:i<ts.length:=by
  rcases Nat.lt_or_ge i ts.length with h|h
  .exact h
  rw[List.drop_eq_nil_of_le h]at hd;cases hd
 have ht:ts[i]=(k,x):=by rw[List.drop_eq_getElem_cons hi]at hd;exact(List.cons.inj hd).1
 have hin:i<n:=by rw[h.len];exact hi
 have hsm:=h.small;have hrl:=h.lt;obtain⟨g,rfl,t0,t1⟩:=h.tok hi;rw[ht]at t0 t1;simp only at t0 t1;obtain⟨c0,c1⟩:=AY h.blk;have f1:=AB h.blk 1;have hw1:IntKind.i64.wrap ((i:Int)+1)=(i:Int)+1:=CF Om Om;have g1:(i:Int)<(n:Int):=Om;have hgl:g<w.heap.size:=by
  have:(w.heap[g]?).isSome=true:=by
   cases hq:w.heap[g]? with
   |some o=>rfl
   |none=>simp[World.cell?,hq]at t0
  simpa using this
 have H:=Hd h;clear h hd ht;go_enter Tryz.func69,Tryz.ntmps69;go_upto_region 1 with fail;have hb0:Below w.heap.size w (w.alloc (.cells #[.int .u8 0,.string ⟨#[]⟩] 118)):=Bl.alloc Nl _;have hn0:=heap_alloc_new w (.cells #[.int .u8 0,.string ⟨#[]⟩] 118);have hs0:(w.alloc (.cells #[.int .u8 0,.string ⟨#[]⟩] 118)).heap.size=w.heap.size+1:=by simp
 have HCW:=Hd (λ(W:World) (hW:Below w.heap.size w W)=>(⟨(hW.cell (p:=⟨r,0,none⟩) hrl).trans c0,(hW.cell (p:=⟨r,1,none⟩) hrl).trans c1,(hW.cell (p:=⟨g,i*2,none⟩) hgl).trans t0,(hW.cell (p:=⟨g,i*2+1,none⟩) hgl).trans t1⟩:W.cell? ⟨r,0,none⟩=some (.slice (some ⟨g,0,none⟩) n c)/\W.cell? ⟨r,1,none⟩=some (.int .i64 i)/\W.cell? ⟨g,i*2,none⟩=some (.int .u8 k)/\W.cell? ⟨g,i*2+1,none⟩=some (.string x)));generalize w.alloc (.cells #[.int .u8 0,.string ⟨#[]⟩] 118)=wb at *;have HB0:=Hd hb0;go_region_held3 (λW=>W.cell? ⟨r,0,none⟩=some (.slice (some ⟨g,0,none⟩) n c)/\W.cell? ⟨r,1,none⟩=some (.int .i64 i)/\W.cell? ⟨g,i*2,none⟩=some (.int .u8 k)/\W.cell? ⟨g,i*2+1,none⟩=some (.string x)) (exact HCW.out _ hb0.drew) ((fail));go_upto_region 2 with fail;have g0:(0:Int)<=(i:Int):=Om;have HSB:=Hd (show w.heap.size<=wb.drew.drew.heap.size from hb0.size);go_region_held3 (λW=>W.cell? ⟨r,0,none⟩=some (.slice (some ⟨g,0,none⟩) n c)/\W.cell? ⟨r,1,none⟩=some (.int .i64 i)/\W.cell? ⟨g,i*2,none⟩=some (.int .u8 k)/\W.cell? ⟨g,i*2+1,none⟩=some (.string x)) (first|exact HCW.out _ hb0.drew.drew|exact HCW.out _ (hb0.drew.drew.alloc HSB.out _)|exact HCW.out _ ((hb0.drew.drew.alloc HSB.out _).setCell (p:=⟨wb.heap.size,0,none⟩) hb0.size _)|exact HCW.out _ (((hb0.drew.drew.alloc HSB.out _).setCell (p:=⟨wb.heap.size,0,none⟩) hb0.size _).setCell (p:=⟨wb.heap.size,1,none⟩) hb0.size _)) ((fail));have hb2:Below w.heap.size w (wb.alloc (.cells #[.int .u8 k,.string x] 118)).drew.drew:=(hb0.alloc hb0.size _).drew.drew;have hx2:(wb.alloc (.cells #[.int .u8 k,.string x] 118)).drew.drew.heap[w.heap.size+1]?=some (.cells #[.int .u8 k,.string x] 118 (0,0)):=by rw[<-hs0];exact heap_alloc_new wb _
 have hy2:(wb.alloc (.cells #[.int .u8 k,.string x] 118)).drew.drew.heap[w.heap.size]?=some (.cells #[.int .u8 0,.string ⟨#[]⟩] 118 (0,0)):=(Below.heap_alloc wb _ w.heap.size Om).trans hn0;have hr2:(wb.alloc (.cells #[.int .u8 k,.string x] 118)).drew.drew.heap[r]?=some (.cells #[.slice (some ⟨g,0,none⟩) n c,.int .i64 i] 84 (0,0)):=(hb2.block r hrl).trans H.out.blk;generalize (wb.alloc (.cells #[.int .u8 k,.string x] 118)).drew.drew=w2 at *;clear HCW HB0 HSB hb0 hn0 hs0 c0 c1 t0 t1 f1;obtain⟨c0,c1⟩:=AY hr2;have f1:=AB hr2 1;have x01:=AY hx2;have y01:=AY hy2;have fy0:=AB hy2 0;have fy1:=AB hy2 1;obtain⟨x0,x1⟩:=x01;obtain⟨y0,y1⟩:=y01;have HB2:=Hd hb2;have HR2:=Hd hr2;have HY2:=Hd hy2;have HX2:=Hd hx2;clear hb2 hr2 hy2 hx2;go_upto_region 4 with fail;have hr3:=AH HR2.out 1 (.int .i64 ((i:Int)+1));have hx3:=(heap_set w2 ⟨r,1,none⟩ (.int .i64 ((i:Int)+1)) (b:=w.heap.size+1) (by show _≠r;omega)).trans HX2.out;have hy3:=(heap_set w2 ⟨r,1,none⟩ (.int .i64 ((i:Int)+1)) (b:=w.heap.size) (by show _≠r;omega)).trans HY2.out;have hg3:=C9 w2 r 1 (.int .i64 ((i:Int)+1));have hg2:w.grownBy w2 (some r):=⟨HB2.out.os,HB2.out.tape,HB2.out.output,HB2.out.size,λq hq _=>HB2.out.block q hq⟩;have hg:w.grownBy (w2.setCell ⟨r,1,none⟩ (.int .i64 ((i:Int)+1))) (some r):=hg2.andThen hg3 (λj hj=>.inr hj);generalize w2.setCell ⟨r,1,none⟩ (.int .i64 ((i:Int)+1))=w3 at *;clear c0 c1 f1 x0 x1 y0 y1 fy0 fy1 HB2 HR2 HY2 HX2 hg2 hg3;obtain⟨x0,x1⟩:=AY hx3;obtain⟨y0,y1⟩:=AY hy3;have fy0:=AB hy3 0;have fy1:=AB hy3 1;have hr4:((w3.setCell ⟨w.heap.size,0,none⟩ (.int .u8 k)).setCell ⟨w.heap.size,1,none⟩ (.string x)).heap[r]?=some (.cells #[.slice (some ⟨g,0,none⟩) n c,.int .i64 ((i:Int)+1)] 84 (0,0)):=(heap_set _ _ _ (by show r≠w.heap.size;omega)).trans ((heap_set _ _ _ (by show r≠w.heap.size;omega)).trans hr3);have hy4:((w3.setCell ⟨w.heap.size,0,none⟩ (.int .u8 k)).setCell ⟨w.heap.size,1,none⟩ (.string x)).heap[w.heap.size]?=some (.cells #[.int .u8 k,.string x] 118 (0,0)):=AH (AH hy3 0 (.int .u8 k)) 1 (.string x);have hg4:w.grownBy ((w3.setCell ⟨w.heap.size,0,none⟩ (.int .u8 k)).setCell ⟨w.heap.size,1,none⟩ (.string x)) (some r):=(hg.andThen (C9 w3 w.heap.size 0 _) (λj hj=>.inl (by cases hj;exact Nl))).andThen (C9 _ w.heap.size 1 _) (λj hj=>.inl (by cases hj;exact Nl));have HG4:=Hd hg4;have HR4:=Hd hr4;have HY4:=Hd hy4;clear hg hr3 hx3 hy3 hr4 hg4 hy4;go_wp2_with fail;obtain⟨q0,q1⟩:=AY HY4.out;refine bodyPost_ret (v:=.agg #[.int .u8 k,.string x]) (by simp[results,Tryz.results69,go_sem,q0,q1]) rfl ?_;exact⟨rfl,H.out.step HG4.out (j:=i+1) HR4.out Om,HG4.out⟩
theorem EP{w:World}{r n c i:Nat}{A:Option Addr}{ts:List AW}(h:MM w r A n c ts (i+1)):Calls Tryz.prog 102 #[.pointer (some ⟨r,0,none⟩)] w λe w'=>e=.returned (.tuple #[])/\MM w' r A n c ts i/\w.grownBy w' (some r):=by
 obtain⟨c0,c1⟩:=AY h.blk;have f1:=AB h.blk 1;have hfit:=h.fit;have hsm:=h.small;have hw1:IntKind.i64.wrap (((i+1:Nat):Int)-1)=(i:Int):=by rw[CF Om Om];omega
 have H:=Hd h;clear h;generalize hI:((i+1:Nat):Int)=I at *;go_enter Tryz.func102,Tryz.ntmps102;go_wp2_with fail;go_end0;exact⟨rfl,H.out.step (C9 w r 1 _) (AH H.out.blk 1 (.int .i64 i)) Om,C9 w r 1 _⟩
theorem ALe(s:ByteArray)(hs:s=⟨#[116,114,117,101]⟩)(w:World):Calls Tryz.prog 101 #[.string s] w λe w'=>e=.returned (.tuple #[.bool true,.nilIface])/\w=w':=by
 have b0:(s.toList==[49])=false:=by rw[AE,hs];decide
 have b1:(s.toList==[116])=false:=by rw[AE,hs];decide
 have b2:(s.toList==[84])=false:=by rw[AE,hs];decide
 have b3:(s.toList==[116,114,117,101])=true:=by rw[AE,hs];decide
 have b4:(s.toList==[84,82,85,69])=false:=by rw[AE,hs];decide
 have b5:(s.toList==[84,114,117,101])=false:=by rw[AE,hs];decide
 have b6:(s.toList==[48])=false:=by rw[AE,hs];decide
 have b7:(s.toList==[102])=false:=by rw[AE,hs];decide
 have b8:(s.toList==[70])=false:=by rw[AE,hs];decide
 have b9:(s.toList==[102,97,108,115,101])=false:=by rw[AE,hs];decide
 have b10:(s.toList==[70,65,76,83,69])=false:=by rw[AE,hs];decide
 have b11:(s.toList==[70,97,108,115,101])=false:=by rw[AE,hs];decide
 clear hs;go_enter Tryz.func101,Tryz.ntmps101;go_wp2_with fail
 first|(rw[Exit.noGoto_ret];go_ret2)|go_ret2
 exact⟨rfl,rfl⟩
theorem AIq(s:ByteArray)(hs:s=⟨#[102,97,108,115,101]⟩)(w:World):Calls Tryz.prog 101 #[.string s] w λe w'=>e=.returned (.tuple #[.bool false,.nilIface])/\w=w':=by
 have b0:(s.toList==[49])=false:=by rw[AE,hs];decide
 have b1:(s.toList==[116])=false:=by rw[AE,hs];decide
 have b2:(s.toList==[84])=false:=by rw[AE,hs];decide
 have b3:(s.toList==[116,114,117,101])=false:=by rw[AE,hs];decide
 have b4:(s.toList==[84,82,85,69])=false:=by rw[AE,hs];decide
 have b5:(s.toList==[84,114,117,101])=false:=by rw[AE,hs];decide
 have b6:(s.toList==[48])=false:=by rw[AE,hs];decide
 have b7:(s.toList==[102])=false:=by rw[AE,hs];decide
 have b8:(s.toList==[70])=false:=by rw[AE,hs];decide
 have b9:(s.toList==[102,97,108,115,101])=true:=by rw[AE,hs];decide
 have b10:(s.toList==[70,65,76,83,69])=false:=by rw[AE,hs];decide
 have b11:(s.toList==[70,97,108,115,101])=false:=by rw[AE,hs];decide
 clear hs;go_enter Tryz.func101,Tryz.ntmps101;go_wp2_with fail
 first|(rw[Exit.noGoto_ret];go_ret2)|go_ret2
 exact⟨rfl,rfl⟩
theorem NS(s:ByteArray)(hs:s=⟨#[116,114,117,101]⟩\/s=⟨#[102,97,108,115,101]⟩)(w:World):Calls Tryz.prog 73 #[.string s] w λe w'=>∃b,e=.returned (.tuple #[.bool b,.nilIface])/\w=w':=by
 obtain⟨b,hb⟩:∃b,∀w,Calls Tryz.prog 101 #[.string s] w λe w'=>e=.returned (.tuple #[.bool b,.nilIface])/\w=w':=by
  rcases hs with hs|hs
  .exact⟨true,λw=>ALe s hs w⟩
  exact⟨false,λw=>AIq s hs w⟩
 clear hs;go_enter Tryz.func73,Tryz.ntmps73;go_wp2_with (go_at_call 101;refine(hb _).mono ?_;rintro e w2 ⟨rfl,rfl⟩)
 first|(rw[Exit.noGoto_ret];go_ret2)|go_ret2
 exact⟨b,rfl,rfl⟩
def AD7(G:World->Prop)(sg x:ByteArray):Prop:=∀W,G W->Calls Tryz.prog 99 #[.string x,.agg #[.string sg]] W λe w'=>∃T y,e=.returned (.tuple #[.iface T y,.nilIface])/\Below W.heap.size W w'
def AEo(G:World->Prop)(x:ByteArray):Prop:=∀W,G W->Calls Tryz.prog 100 #[.string x] W λe w'=>∃t,e=.returned (.tuple #[.string t,.nilIface])/\Below W.heap.size W w'
def AEx(G:World->Prop)(x:ByteArray):Prop:=∀W,G W->Calls Tryz.prog 78 #[.string x] W λe w'=>∃(A:Option Addr) (n c:Nat),e=.returned (.tuple #[.slice A n c,.nilIface])/\Below W.heap.size W w'
def ANd(X:List ByteArray)(W:World)(e:Ending)(w':World):Prop:=∃v,e=.returned (.tuple #[v,.nilIface])/\MN w' v X/\Below W.heap.size W w'
def DC(G:World->Prop)(B:Nat):Prop:=∀W W',G W->Below B W W'->G W'
theorem AAl{G:World->Prop}{B:Nat}(hG:DC G B)(k:Nat)(sg x:ByteArray)(h:sg.size≠0->AD7 G sg x)(hsg:sg.size<=1000)(hx:x.size<=100000)(ha:∀i,i<x.size->AA x i<128)(W:World)(hW:G W)(hB:B<=W.heap.size) :
 Calls Tryz.prog 71 #[.agg #[.int .u8 k,.string x],.agg #[.string sg]] W (ANd (QH sg x) W):=by
 have hb0:Below W.heap.size W ((W.alloc (.cells #[.int .u8 k,.string x] 118)).alloc (.cells #[.string sg] 115)):=(Bl.alloc Nl _).alloc Sm _
 have hc0:((W.alloc (.cells #[.int .u8 k,.string x] 118)).alloc (.cells #[.string sg] 115)).heap[W.heap.size]?=some (.cells #[.int .u8 k,.string x] 118 (0,0)):=(Below.heap_alloc _ _ W.heap.size Sm).trans (heap_alloc_new W _)
 have hc1:((W.alloc (.cells #[.int .u8 k,.string x] 118)).alloc (.cells #[.string sg] 115)).heap[W.heap.size+1]?=some (.cells #[.string sg] 115 (0,0)):=by have:=heap_alloc_new (W.alloc (.cells #[.int .u8 k,.string x] 118)) (.cells #[.string sg] 115);simpa using this
 have hsz:((W.alloc (.cells #[.int .u8 k,.string x] 118)).alloc (.cells #[.string sg] 115)).heap.size=W.heap.size+2:=by simp
 have HGB:=Hd (hG _ _ hW (hb0.mono hB))
 have HA:=Hd ha
 have HN:=Hd h
 clear ha h hG hW
 go_enter Tryz.func71,Tryz.ntmps71
 go_upto_region 1 with fail
 generalize (W.alloc (.cells #[.int .u8 k,.string x] 118)).alloc (.cells #[.string sg] 115)=wb at *
 have x0:=(AY hc0).2
 have x1:=BE hc1
 have HB0:=Hd hb0
 by_cases hz:sg.size=0
 .obtain rfl:=O6 hz
  clear hz;go_wp2_with fail
  first|(rw[Exit.noGoto_ret];go_ret2)|go_ret2
  exact⟨_,rfl,ABr ⟨#[]⟩ x .nilIface De hx HA.out,HB0.out⟩
 have hie:=LS hz
 have HX:=Hd (show QH sg x=QH sg ⟨#[]⟩ by unfold QH;rw[if_neg hz,if_neg hz])
 have HC1:=Hd hc1
 go_wp2_with (go_at_call 99;refine(HN.out hz _ HGB.out).mono ?_;rintro e w2 ⟨T,y,rfl,hb2⟩;have x2:=BE ((hb2.block (W.heap.size+1) Om).trans HC1.out);have HB2:=Hd (HB0.out.trans (hb2.mono HB0.out.size));clear hb2)
 first|(rw[Exit.noGoto_ret];go_ret2)|go_ret2
 exact⟨_,rfl,by rw[HX.out];exact ABr sg ⟨#[]⟩ (.iface T y) hsg De (λi hi=>absurd hi (Nat.not_lt_zero i)),HB2.out⟩
theorem ABt{G:World->Prop}{B:Nat}(hG:DC G B)(k:Nat)(sg x:ByteArray)(h:AEo G x)(hsg:sg=⟨#[]⟩\/sg=⟨#[115]⟩\/sg=⟨#[103]⟩\/sg=⟨#[111]⟩)(W:World)(hW:G W)(hB:B<=W.heap.size) :
 Calls Tryz.prog 72 #[.agg #[.int .u8 k,.string x],.agg #[.string sg]] W (ANd (YS sg) W):=by
 have hb0:Below W.heap.size W ((W.alloc (.cells #[.int .u8 k,.string x] 118)).alloc (.cells #[.string sg] 115)):=(Bl.alloc Nl _).alloc Sm _
 have hc0:((W.alloc (.cells #[.int .u8 k,.string x] 118)).alloc (.cells #[.string sg] 115)).heap[W.heap.size]?=some (.cells #[.int .u8 k,.string x] 118 (0,0)):=(Below.heap_alloc _ _ W.heap.size Sm).trans (heap_alloc_new W _)
 have hc1:((W.alloc (.cells #[.int .u8 k,.string x] 118)).alloc (.cells #[.string sg] 115)).heap[W.heap.size+1]?=some (.cells #[.string sg] 115 (0,0)):=by have:=heap_alloc_new (W.alloc (.cells #[.int .u8 k,.string x] 118)) (.cells #[.string sg] 115);simpa using this
 have hsz:((W.alloc (.cells #[.int .u8 k,.string x] 118)).alloc (.cells #[.string sg] 115)).heap.size=W.heap.size+2:=by simp
 have HGB:=Hd (hG _ _ hW (hb0.mono hB))
 have HN:=Hd h
 clear h hG hW
 rcases hsg with rfl|rfl|rfl|rfl
 all_goals
  go_enter Tryz.func72,Tryz.ntmps72;go_upto_region 1 with fail;generalize (W.alloc (.cells #[.int .u8 k,.string x] 118)).alloc (.cells #[.string _] 115)=wb at *;have x0:=(AY hc0).2;have x1:=BE hc1;have HB0:=Hd hb0;have HC1:=Hd hc1;go_upto_if 35 with(go_at_call 100;refine(HN.out _ HGB.out).mono ?_;rintro e w2 ⟨t,rfl,hb2⟩;have x2:=BE ((hb2.block (W.heap.size+1) Om).trans HC1.out);have HB2:=Hd (HB0.out.trans (hb2.mono HB0.out.size));have HC2:=Hd ((hb2.block (W.heap.size+1) Om).trans HC1.out);have HSZ2:=Hd (show W.heap.size+2<=w2.heap.size by have:=hb2.size;omega);clear hb2);go_upto_region 7 with fail;have hsz2:=HB2.out.size;have hw2:W.heap.size+2<=w2.heap.size:=HSZ2.out;have hb3:Below W.heap.size W (w2.alloc (.cells #[.string ⟨#[]⟩,.string t,.nilIface] 156)):=HB2.out.alloc Om _;have hc3:(w2.alloc (.cells #[.string ⟨#[]⟩,.string t,.nilIface] 156)).heap[W.heap.size+1]?=some (.cells #[.string _] 115 (0,0)):=(Below.heap_alloc w2 _ (W.heap.size+1) Om).trans HC2.out;have hn3:=heap_alloc_new w2 (.cells #[.string ⟨#[]⟩,.string t,.nilIface] 156);obtain⟨q,hq⟩:∃q,w2.heap.size=q:=⟨_,rfl⟩;rw[hq]at hn3 hw2 ⊢;clear x0 x1 x2 hq;generalize w2.alloc (.cells #[.string ⟨#[]⟩,.string t,.nilIface] 156)=w3 at *;have HB3:=Hd hb3;have HC3:=Hd hc3;have HN3:=Hd hn3;have x3:=BE hc3;obtain⟨n0,n1,n2⟩:=DT hn3;have f0:=AB hn3 0;have f2:=AB hn3 2;clear hb3 hc3 hn3
 .go_wp2_with fail
  first|(rw[Exit.noGoto_ret];go_ret2)|go_ret2
  exact⟨_,rfl,QG ⟨#[]⟩ t .nilIface De,HB3.out⟩
 .go_upto_region 10 with fail
  have hc4:=(heap_set w3 ⟨q,0,none⟩ (.string ⟨#[115]⟩) (b:=W.heap.size+1) (by show _≠q;omega)).trans HC3.out;have hn4:(w3.setCell ⟨q,0,none⟩ (.string ⟨#[115]⟩)).heap[q]?=some (.cells #[.string ⟨#[115]⟩,.string t,.nilIface] 156 (0,0)):=AH HN3.out 0 (.string ⟨#[115]⟩);have hb4:Below W.heap.size W (w3.setCell ⟨q,0,none⟩ (.string ⟨#[115]⟩)):=HB3.out.setCell (p:=⟨q,0,none⟩) (by show _<=q;omega) _;generalize w3.setCell ⟨q,0,none⟩ (.string ⟨#[115]⟩)=w4 at *;clear x3 n0 n1 n2 f0 f2;have x4:=BE hc4;obtain⟨n0,n1,n2⟩:=DT hn4;have f2:=AB hn4 2;have HN4:=Hd hn4;have HB4:=Hd hb4;clear hn4 hc4 hb4;go_upto_region 17 with fail;have hn5:=AH HN4.out 2 (.iface 9 (.string t));have hb5:Below W.heap.size W (w4.setCell ⟨q,2,none⟩ (.iface 9 (.string t))):=HB4.out.setCell (p:=⟨q,2,none⟩) (by show _<=q;omega) _;generalize w4.setCell ⟨q,2,none⟩ (.iface 9 (.string t))=w5 at *;clear x4 n0 n1 n2 f2;obtain⟨n0,n1,n2⟩:=DT hn5;have HB5:=Hd hb5;clear hn5 hb5;go_wp2_with fail
  first|(rw[Exit.noGoto_ret];go_ret2)|go_ret2
  exact⟨_,rfl,QG ⟨#[115]⟩ t _ De,HB5.out⟩
 .go_upto_region 10 with fail
  have hc4:=(heap_set w3 ⟨q,0,none⟩ (.string ⟨#[103]⟩) (b:=W.heap.size+1) (by show _≠q;omega)).trans HC3.out;have hn4:(w3.setCell ⟨q,0,none⟩ (.string ⟨#[103]⟩)).heap[q]?=some (.cells #[.string ⟨#[103]⟩,.string t,.nilIface] 156 (0,0)):=AH HN3.out 0 (.string ⟨#[103]⟩);have hb4:Below W.heap.size W (w3.setCell ⟨q,0,none⟩ (.string ⟨#[103]⟩)):=HB3.out.setCell (p:=⟨q,0,none⟩) (by show _<=q;omega) _;generalize w3.setCell ⟨q,0,none⟩ (.string ⟨#[103]⟩)=w4 at *;clear x3 n0 n1 n2 f0 f2;have x4:=BE hc4;obtain⟨n0,n1,n2⟩:=DT hn4;have f2:=AB hn4 2;have HN4:=Hd hn4;have HB4:=Hd hb4;clear hn4 hc4 hb4;go_upto_region 17 with fail;have hn5:=AH HN4.out 2 (.iface 115 (.agg #[.string t]));have hb5:Below W.heap.size W (w4.setCell ⟨q,2,none⟩ (.iface 115 (.agg #[.string t]))):=HB4.out.setCell (p:=⟨q,2,none⟩) (by show _<=q;omega) _;generalize w4.setCell ⟨q,2,none⟩ (.iface 115 (.agg #[.string t]))=w5 at *;clear x4 n0 n1 n2 f2;obtain⟨n0,n1,n2⟩:=DT hn5;have HB5:=Hd hb5;clear hn5 hb5;go_wp2_with fail
  first|(rw[Exit.noGoto_ret];go_ret2)|go_ret2
  exact⟨_,rfl,QG ⟨#[103]⟩ t _ De,HB5.out⟩
 go_upto_region 10 with fail
 have hc4:=(heap_set w3 ⟨q,0,none⟩ (.string ⟨#[111]⟩) (b:=W.heap.size+1) (by show _≠q;omega)).trans HC3.out
 have hn4:(w3.setCell ⟨q,0,none⟩ (.string ⟨#[111]⟩)).heap[q]?=some (.cells #[.string ⟨#[111]⟩,.string t,.nilIface] 156 (0,0)):=AH HN3.out 0 (.string ⟨#[111]⟩)
 have hb4:Below W.heap.size W (w3.setCell ⟨q,0,none⟩ (.string ⟨#[111]⟩)):=HB3.out.setCell (p:=⟨q,0,none⟩) (by show _<=q;omega) _
 generalize w3.setCell ⟨q,0,none⟩ (.string ⟨#[111]⟩)=w4 at *
 clear x3 n0 n1 n2 f0 f2
 have x4:=BE hc4
 obtain⟨n0,n1,n2⟩:=DT hn4
 have f2:=AB hn4 2
 have HN4:=Hd hn4
 have HB4:=Hd hb4
 clear hn4 hc4 hb4
 go_upto_region 17 with fail
 have hn5:=AH HN4.out 2 (.iface 157 (.string t))
 have hb5:Below W.heap.size W (w4.setCell ⟨q,2,none⟩ (.iface 157 (.string t))):=HB4.out.setCell (p:=⟨q,2,none⟩) (by show _<=q;omega) _
 generalize w4.setCell ⟨q,2,none⟩ (.iface 157 (.string t))=w5 at *
 clear x4 n0 n1 n2 f2
 obtain⟨n0,n1,n2⟩:=DT hn5
 have HB5:=Hd hb5
 clear hn5 hb5
 go_wp2_with fail
 first|(rw[Exit.noGoto_ret];go_ret2)|go_ret2
 exact⟨_,rfl,QG ⟨#[111]⟩ t _ De,HB5.out⟩
def MkP(w:World)(r:Nat)(A:Option Addr)(n c:Nat)(All:List AW)(i':Nat)(S:ByteArray->Prop)(e:Ending)(w':World):Prop:=∃v X,e=.returned (.tuple #[v,.nilIface])/\MN w' v X/\(∀t,t∈X↔S t)/\MM w' r A n c All i'/\w.grownBy w' (some r)
noncomputable def AQy:Code:=((Tryz.f45.body.bind G0).getD .skip)
structure X6(G:World->Prop)(w wr:World)(r:Nat)(A:Option Addr)(n c:Nat)(All:List AW)(i b:Nat)(sg:ByteArray):Prop where
 P:MM wr r A n c All i
 sig:wr.heap[b]?=some (.cells #[.string sg] 115 (0,0))
 lt:r<b
 new:w.heap.size<=b
 G:G wr
 g:w.grownBy wr (some r)
def MQ(w:World)(r:Nat)(A:Option Addr)(n c:Nat)(All:List AW)(i' b:Nat)(S:ByteArray->Prop)(Q:Exit->Act->World->Prop):Prop:=∀{u2 u3 u5 u6 u7 u8 u9 u10 u11 u12 u13 u14 u15 u16 u17 u18 u19 u20 u21 u22 u23 u24 u25 u26 u27 u28 u29 u30 u31 u32 u33 u34 u35 u36 u37 u38 u39 u40 u41 u42 u43 u44 u45 u46 u47 u48 u49 u50 u51 u52 u53 u54 u55 u56 u57 u58 u59 u60 u61 u62 u63 u64 u65 u66 u67 u68 u69 u70 u71 u72 u73 u74 u75 u76 u77 u78 u79 u80 u81 u82 u83 u84 u85 u86 u87 u88 u89 u90 u91 u92 u93 u94 u95 u96 u97 u98 u99 u100 u101 u102 u103 u104 u105 u106 u107 u108 u109 u110 u111 u112 u113 u114 u115 u116 u117 u118 u119 u120 u121 u122 u123 u124 u125 u126 u127 u128 u129 u130:Value} {w':World},MkP w r A n c All i' S (.returned (.tuple #[u2,u3])) w'->Q .ret ⟨#[.pointer (some ⟨r,0,none⟩),undef,u2,u3,.pointer (some ⟨b,0,none⟩),u5,u6,u7,u8,u9,u10,u11,u12,u13,u14,u15,u16,u17,u18,u19,u20,u21,u22,u23,u24,u25,u26,u27,u28,u29,u30,u31,u32,u33,u34,u35,u36,u37,u38,u39,u40,u41,u42,u43,u44,u45,u46,u47,u48,u49,u50,u51,u52,u53,u54,u55,u56,u57,u58,u59,u60,u61,u62,u63,u64,u65,u66,u67,u68,u69,u70,u71,u72,u73,u74,u75,u76,u77,u78,u79,u80,u81,u82,u83,u84,u85,u86,u87,u88,u89,u90,u91,u92,u93,u94,u95,u96,u97,u98,u99,u100,u101,u102,u103,u104,u105,u106,u107,u108,u109,u110,u111,u112,u113,u114,u115,u116,u117,u118,u119,u120,u121,u122,u123,u124,u125,u126,u127,u128,u129,u130],[]⟩ w'
def MK(G:World->Prop)(w:World)(r:Nat)(A:Option Addr)(n c:Nat)(All:List AW)(i' b:Nat)(sg:ByteArray)(K:Act->World->Prop):Prop:=∀{u2 u3 u5 u6 u7 u8 u9 u10 u11 u12 u13 u14 u15 u16 u17 u18 u19 u20 u21 u22 u23 u24 u25 u26 u27 u28 u29 u30 u31 u32 u33 u34 u35 u36 u37 u38 u39 u40 u41 u42 u43 u44 u45 u46 u47 u48 u49 u50 u51 u52 u53 u54 u55 u56 u57 u58 u59 u60 u61 u62 u63 u64 u65 u66 u67 u68 u69 u70 u71 u72 u73 u74 u75 u76 u77 u78 u79 u80 u81 u82 u83 u84 u85 u86 u87 u88 u89 u90 u91 u92 u93 u94 u95 u96 u97 u98 u99 u100 u101 u102 u103 u104 u105 u106 u107 u108 u109 u110 u111 u112 u113 u114 u115 u116 u117 u118 u119 u120 u121 u122 u123 u124 u125 u126 u127 u128 u129 u130:Value} {w':World},X6 G w w' r A n c All i' b sg->K ⟨#[.pointer (some ⟨r,0,none⟩),undef,u2,u3,.pointer (some ⟨b,0,none⟩),u5,u6,u7,u8,u9,u10,u11,u12,u13,u14,u15,u16,u17,u18,u19,u20,u21,u22,u23,u24,u25,u26,u27,u28,u29,u30,u31,u32,u33,u34,u35,u36,u37,u38,u39,u40,u41,u42,u43,u44,u45,u46,u47,u48,u49,u50,u51,u52,u53,u54,u55,u56,u57,u58,u59,u60,u61,u62,u63,u64,u65,u66,u67,u68,u69,u70,u71,u72,u73,u74,u75,u76,u77,u78,u79,u80,u81,u82,u83,u84,u85,u86,u87,u88,u89,u90,u91,u92,u93,u94,u95,u96,u97,u98,u99,u100,u101,u102,u103,u104,u105,u106,u107,u108,u109,u110,u111,u112,u113,u114,u115,u116,u117,u118,u119,u120,u121,u122,u123,u124,u125,u126,u127,u128,u129,u130],[]⟩ w'
def MW(r b:Nat)(wr:World)(K:Act->World->Prop)(Q:Exit->Act->World->Prop):Prop:=∀{u2 u3 u5 u6 u7 u8 u9 u10 u11 u12 u13 u14 u15 u16 u17 u18 u19 u20 u21 u22 u23 u24 u25 u26 u27 u28 u29 u30 u31 u32 u33 u34 u35 u36 u37 u38 u39 u40 u41 u42 u43 u44 u45 u46 u47 u48 u49 u50 u51 u52 u53 u54 u55 u56 u57 u58 u59 u60 u61 u62 u63 u64 u65 u66 u67 u68 u69 u70 u71 u72 u73 u74 u75 u76 u77 u78 u79 u80 u81 u82 u83 u84 u85 u86 u87 u88 u89 u90 u91 u92 u93 u94 u95 u96 u97 u98 u99 u100 u101 u102 u103 u104 u105 u106 u107 u108 u109 u110 u111 u112 u113 u114 u115 u116 u117 u118 u119 u120 u121 u122 u123 u124 u125 u126 u127 u128 u129 u130:Value},Code.wp Tryz.prog AQy (Exit.then K Q) ⟨#[.pointer (some ⟨r,0,none⟩),undef,u2,u3,.pointer (some ⟨b,0,none⟩),u5,u6,u7,u8,u9,u10,u11,u12,u13,u14,u15,u16,u17,u18,u19,u20,u21,u22,u23,u24,u25,u26,u27,u28,u29,u30,u31,u32,u33,u34,u35,u36,u37,u38,u39,u40,u41,u42,u43,u44,u45,u46,u47,u48,u49,u50,u51,u52,u53,u54,u55,u56,u57,u58,u59,u60,u61,u62,u63,u64,u65,u66,u67,u68,u69,u70,u71,u72,u73,u74,u75,u76,u77,u78,u79,u80,u81,u82,u83,u84,u85,u86,u87,u88,u89,u90,u91,u92,u93,u94,u95,u96,u97,u98,u99,u100,u101,u102,u103,u104,u105,u106,u107,u108,u109,u110,u111,u112,u113,u114,u115,u116,u117,u118,u119,u120,u121,u122,u123,u124,u125,u126,u127,u128,u129,u130],[]⟩ wr
section
variable{G:World->Prop}{B:Nat}{w wr:World}{r n c i b k:Nat}{A:Option Addr}{All rest:List AW}{x sg:ByteArray}{K:Act->World->Prop}{Q:Exit->Act->World->Prop}
theorem ANz(hG:DC G B)(hB:B<=r)(H:Hid (X6 G w wr r A n c All i b sg))(hQ:MQ w r A n c All (i+1) b (λt=>t∈QH sg x) Q)(hd:All.drop i=(2,x)::rest)(h:sg.size≠0->AD7 G sg x)(hsg:sg.size<=1000)(hx:x.size<=100000)(ha:∀i,i<x.size->AA x i<128):MW r b wr K Q:=by
 unfold MW;intros
 conv=>arg 2;whnf
 have hbl:b<wr.heap.size:=(Array.getElem?_eq_some_iff.1 H.out.sig).1;have hrb:=H.out.lt;have hrl:=H.out.P.lt;go_upto_region 3 with(go_at_call 69;refine(AO H.out.P hd).mono ?_;rintro e w2 ⟨rfl,hp2,hg2⟩);have hs2:w2.heap[b]?=some (.cells #[.string sg] 115 (0,0)):=(hg2.block b hbl (by simp;omega)).trans H.out.sig;have hb3:Below w2.heap.size w2 (w2.alloc (.cells #[.int .u8 2,.string x] 118)):=Bl.alloc Nl _;have hn3:=heap_alloc_new w2 (.cells #[.int .u8 2,.string x] 118);have hs3:=(hb3.block b (by have:=hg2.size;omega)).trans hs2;have HP3:=Hd (hp2.below hb3);have HG3:=Hd (hG _ _ (hG _ _ H.out.G ((⟨hg2.os,hg2.tape,hg2.output,hg2.size,λq hq=>hg2.block q Om (by simp;omega)⟩:Below B wr w2))) (hb3.mono (by have:=hg2.size;omega)));have HGR3:=Hd ((H.out.g.andThen hg2 (λj hj=>.inr hj)).andThen (⟨hb3.os,hb3.tape,hb3.output,hb3.size,λq hq _=>hb3.block q hq⟩:w2.grownBy (w2.alloc (.cells #[.int .u8 2,.string x] 118)) none) (λj hj=>by cases hj));obtain⟨q,hq⟩:∃q,w2.heap.size=q:=⟨_,rfl⟩;have hsz3:(w2.alloc (.cells #[.int .u8 2,.string x] 118)).heap.size=q+1:=by simp[hq]
 have hbq:b<q:=by have:=hg2.size;omega
 rw[hq]at hn3 ⊢;clear hg2 hp2 hb3 hs2 hq;generalize w2.alloc (.cells #[.int .u8 2,.string x] 118)=w3 at *;have x0:=(AY hn3).1;have x1:=(AY hn3).2;have y0:=BE hs3;have HS3:=Hd hs3;have HN3:=Hd hn3;clear hs3 hn3 hd;have HN:=Hd h;have HA:=Hd ha;clear h ha;go_wp2_with (go_at_call 71;refine(AAl hG 2 sg x HN.out hsg hx HA.out _ HG3.out Om).mono ?_;rintro e w4 ⟨v,rfl,hnode,hb4⟩);(try simp only[Exit.inBlock,Exit.then]);exact hQ ⟨v,_,rfl,hnode,λt=>Iff.rfl,HP3.out.below hb4,HGR3.out.andThen (⟨hb4.os,hb4.tape,hb4.output,hb4.size,λq hq _=>hb4.block q hq⟩:w3.grownBy w4 none) (λj hj=>by cases hj)⟩
end
section
variable{G:World->Prop}{B:Nat}{w wr:World}{r n c i b k:Nat}{A:Option Addr}{All rest:List AW}{x sg:ByteArray}{K:Act->World->Prop}{Q:Exit->Act->World->Prop}
theorem ANk(hG:DC G B)(hB:B<=r)(H:Hid (X6 G w wr r A n c All i b sg))(hQ:MQ w r A n c All (i+1) b (λt=>t∈YS sg) Q)(hd:All.drop i=(3,x)::rest)(h:AEo G x)(hsg:sg=⟨#[]⟩\/sg=⟨#[115]⟩\/sg=⟨#[103]⟩\/sg=⟨#[111]⟩):MW r b wr K Q:=by
 unfold MW;intros
 conv=>arg 2;whnf
 have hbl:b<wr.heap.size:=(Array.getElem?_eq_some_iff.1 H.out.sig).1;have hrb:=H.out.lt;have hrl:=H.out.P.lt;go_upto_region 3 with(go_at_call 69;refine(AO H.out.P hd).mono ?_;rintro e w2 ⟨rfl,hp2,hg2⟩);have hs2:w2.heap[b]?=some (.cells #[.string sg] 115 (0,0)):=(hg2.block b hbl (by simp;omega)).trans H.out.sig;have hb3:Below w2.heap.size w2 (w2.alloc (.cells #[.int .u8 3,.string x] 118)):=Bl.alloc Nl _;have hn3:=heap_alloc_new w2 (.cells #[.int .u8 3,.string x] 118);have hs3:=(hb3.block b (by have:=hg2.size;omega)).trans hs2;have HP3:=Hd (hp2.below hb3);have HG3:=Hd (hG _ _ (hG _ _ H.out.G ((⟨hg2.os,hg2.tape,hg2.output,hg2.size,λq hq=>hg2.block q Om (by simp;omega)⟩:Below B wr w2))) (hb3.mono (by have:=hg2.size;omega)));have HGR3:=Hd ((H.out.g.andThen hg2 (λj hj=>.inr hj)).andThen (⟨hb3.os,hb3.tape,hb3.output,hb3.size,λq hq _=>hb3.block q hq⟩:w2.grownBy (w2.alloc (.cells #[.int .u8 3,.string x] 118)) none) (λj hj=>by cases hj));obtain⟨q,hq⟩:∃q,w2.heap.size=q:=⟨_,rfl⟩;have hsz3:(w2.alloc (.cells #[.int .u8 3,.string x] 118)).heap.size=q+1:=by simp[hq]
 have hbq:b<q:=by have:=hg2.size;omega
 rw[hq]at hn3 ⊢;clear hg2 hp2 hb3 hs2 hq;generalize w2.alloc (.cells #[.int .u8 3,.string x] 118)=w3 at *;have x0:=(AY hn3).1;have x1:=(AY hn3).2;have y0:=BE hs3;have HS3:=Hd hs3;have HN3:=Hd hn3;clear hs3 hn3 hd;have HN:=Hd h;have HSG:=Hd hsg;clear h hsg;go_wp2_with (go_at_call 72;refine(ABt hG 3 sg x HN.out HSG.out _ HG3.out Om).mono ?_;rintro e w4 ⟨v,rfl,hnode,hb4⟩);(try simp only[Exit.inBlock,Exit.then]);exact hQ ⟨v,_,rfl,hnode,λt=>Iff.rfl,HP3.out.below hb4,HGR3.out.andThen (⟨hb4.os,hb4.tape,hb4.output,hb4.size,λq hq _=>hb4.block q hq⟩:w3.grownBy w4 none) (λj hj=>by cases hj)⟩
theorem AHk(hG:DC G B)(hB:B<=r)(H:Hid (X6 G w wr r A n c All i b sg))(hQ:MQ w r A n c All (i+1) b (λt=>t=bW) Q)(hd:All.drop i=(4,x)::rest)(h:x=⟨#[116,114,117,101]⟩\/x=⟨#[102,97,108,115,101]⟩)(hsg:sg=⟨#[]⟩):MW r b wr K Q:=by
 unfold MW;intros
 conv=>arg 2;whnf
 have hbl:b<wr.heap.size:=(Array.getElem?_eq_some_iff.1 H.out.sig).1;have hrb:=H.out.lt;have hrl:=H.out.P.lt;go_upto_region 3 with(go_at_call 69;refine(AO H.out.P hd).mono ?_;rintro e w2 ⟨rfl,hp2,hg2⟩);have hs2:w2.heap[b]?=some (.cells #[.string sg] 115 (0,0)):=(hg2.block b hbl (by simp;omega)).trans H.out.sig;have hb3:Below w2.heap.size w2 (w2.alloc (.cells #[.int .u8 4,.string x] 118)):=Bl.alloc Nl _;have hn3:=heap_alloc_new w2 (.cells #[.int .u8 4,.string x] 118);have hs3:=(hb3.block b (by have:=hg2.size;omega)).trans hs2;have HP3:=Hd (hp2.below hb3);have HG3:=Hd (hG _ _ (hG _ _ H.out.G ((⟨hg2.os,hg2.tape,hg2.output,hg2.size,λq hq=>hg2.block q Om (by simp;omega)⟩:Below B wr w2))) (hb3.mono (by have:=hg2.size;omega)));have HGR3:=Hd ((H.out.g.andThen hg2 (λj hj=>.inr hj)).andThen (⟨hb3.os,hb3.tape,hb3.output,hb3.size,λq hq _=>hb3.block q hq⟩:w2.grownBy (w2.alloc (.cells #[.int .u8 4,.string x] 118)) none) (λj hj=>by cases hj));obtain⟨q,hq⟩:∃q,w2.heap.size=q:=⟨_,rfl⟩;have hsz3:(w2.alloc (.cells #[.int .u8 4,.string x] 118)).heap.size=q+1:=by simp[hq]
 have hbq:b<q:=by have:=hg2.size;omega
 rw[hq]at hn3 ⊢;clear hg2 hp2 hb3 hs2 hq;generalize w2.alloc (.cells #[.int .u8 4,.string x] 118)=w3 at *;have x0:=(AY hn3).1;have x1:=(AY hn3).2;have y0:=BE hs3;have HS3:=Hd hs3;have HN3:=Hd hn3;clear hs3 hn3 hd;have HN:=Hd (NS x h);subst hsg;clear h;go_wp2_with (go_at_call 73;refine(HN.out _).mono ?_;rintro e w4 ⟨v,rfl,rfl⟩);(try simp only[Exit.inBlock,Exit.then]);exact hQ ⟨_,_,rfl,W5 v,λt=>by rw[List.mem_singleton];exact Iff.rfl,HP3.out,HGR3.out⟩
theorem AIs(hG:DC G B)(hB:B<=r)(H:Hid (X6 G w wr r A n c All i b sg))(hQ:MQ w r A n c All (i+1) b (λt=>t=bW) Q)(hd:All.drop i=(4,x)::rest)(h:x=⟨#[116,114,117,101]⟩\/x=⟨#[102,97,108,115,101]⟩)(hsg:sg=⟨#[98]⟩):MW r b wr K Q:=by
 unfold MW;intros
 conv=>arg 2;whnf
 have hbl:b<wr.heap.size:=(Array.getElem?_eq_some_iff.1 H.out.sig).1;have hrb:=H.out.lt;have hrl:=H.out.P.lt;go_upto_region 3 with(go_at_call 69;refine(AO H.out.P hd).mono ?_;rintro e w2 ⟨rfl,hp2,hg2⟩);have hs2:w2.heap[b]?=some (.cells #[.string sg] 115 (0,0)):=(hg2.block b hbl (by simp;omega)).trans H.out.sig;have hb3:Below w2.heap.size w2 (w2.alloc (.cells #[.int .u8 4,.string x] 118)):=Bl.alloc Nl _;have hn3:=heap_alloc_new w2 (.cells #[.int .u8 4,.string x] 118);have hs3:=(hb3.block b (by have:=hg2.size;omega)).trans hs2;have HP3:=Hd (hp2.below hb3);have HG3:=Hd (hG _ _ (hG _ _ H.out.G ((⟨hg2.os,hg2.tape,hg2.output,hg2.size,λq hq=>hg2.block q Om (by simp;omega)⟩:Below B wr w2))) (hb3.mono (by have:=hg2.size;omega)));have HGR3:=Hd ((H.out.g.andThen hg2 (λj hj=>.inr hj)).andThen (⟨hb3.os,hb3.tape,hb3.output,hb3.size,λq hq _=>hb3.block q hq⟩:w2.grownBy (w2.alloc (.cells #[.int .u8 4,.string x] 118)) none) (λj hj=>by cases hj));obtain⟨q,hq⟩:∃q,w2.heap.size=q:=⟨_,rfl⟩;have hsz3:(w2.alloc (.cells #[.int .u8 4,.string x] 118)).heap.size=q+1:=by simp[hq]
 have hbq:b<q:=by have:=hg2.size;omega
 rw[hq]at hn3 ⊢;clear hg2 hp2 hb3 hs2 hq;generalize w2.alloc (.cells #[.int .u8 4,.string x] 118)=w3 at *;have x0:=(AY hn3).1;have x1:=(AY hn3).2;have y0:=BE hs3;have HS3:=Hd hs3;have HN3:=Hd hn3;clear hs3 hn3 hd;have HN:=Hd (NS x h);subst hsg;clear h;go_wp2_with (go_at_call 73;refine(HN.out _).mono ?_;rintro e w4 ⟨v,rfl,rfl⟩);(try simp only[Exit.inBlock,Exit.then]);exact hQ ⟨_,_,rfl,W5 v,λt=>by rw[List.mem_singleton];exact Iff.rfl,HP3.out,HGR3.out⟩
theorem AMj(hG:DC G B)(hB:B<=r)(H:Hid (X6 G w wr r A n c All i b sg))(hQ:MQ w r A n c All (i+1) b (λt=>t=ayW) Q)(hd:All.drop i=(14,x)::rest)(h:AEx G x)(hsg:sg=⟨#[]⟩):MW r b wr K Q:=by
 unfold MW;intros
 conv=>arg 2;whnf
 have hbl:b<wr.heap.size:=(Array.getElem?_eq_some_iff.1 H.out.sig).1;have hrb:=H.out.lt;have hrl:=H.out.P.lt;go_upto_region 3 with(go_at_call 69;refine(AO H.out.P hd).mono ?_;rintro e w2 ⟨rfl,hp2,hg2⟩);have hs2:w2.heap[b]?=some (.cells #[.string sg] 115 (0,0)):=(hg2.block b hbl (by simp;omega)).trans H.out.sig;have hb3:Below w2.heap.size w2 (w2.alloc (.cells #[.int .u8 14,.string x] 118)):=Bl.alloc Nl _;have hn3:=heap_alloc_new w2 (.cells #[.int .u8 14,.string x] 118);have hs3:=(hb3.block b (by have:=hg2.size;omega)).trans hs2;have HP3:=Hd (hp2.below hb3);have HG3:=Hd (hG _ _ (hG _ _ H.out.G ((⟨hg2.os,hg2.tape,hg2.output,hg2.size,λq hq=>hg2.block q Om (by simp;omega)⟩:Below B wr w2))) (hb3.mono (by have:=hg2.size;omega)));have HGR3:=Hd ((H.out.g.andThen hg2 (λj hj=>.inr hj)).andThen (⟨hb3.os,hb3.tape,hb3.output,hb3.size,λq hq _=>hb3.block q hq⟩:w2.grownBy (w2.alloc (.cells #[.int .u8 14,.string x] 118)) none) (λj hj=>by cases hj));obtain⟨q,hq⟩:∃q,w2.heap.size=q:=⟨_,rfl⟩;have hsz3:(w2.alloc (.cells #[.int .u8 14,.string x] 118)).heap.size=q+1:=by simp[hq]
 have hbq:b<q:=by have:=hg2.size;omega
 rw[hq]at hn3 ⊢;clear hg2 hp2 hb3 hs2 hq;generalize w2.alloc (.cells #[.int .u8 14,.string x] 118)=w3 at *;have x0:=(AY hn3).1;have x1:=(AY hn3).2;have y0:=BE hs3;have HS3:=Hd hs3;have HN3:=Hd hn3;clear hs3 hn3 hd;have HN:=Hd h;subst hsg;clear h;go_wp2_with (go_at_call 78;refine(HN.out _ HG3.out).mono ?_;rintro e w4 ⟨Ab,nb,cb,rfl,hb4⟩);(try simp only[Exit.inBlock,Exit.then]);exact hQ ⟨_,_,rfl,ABq Ab nb cb,λt=>by rw[List.mem_singleton];exact Iff.rfl,HP3.out.below hb4,HGR3.out.andThen (⟨hb4.os,hb4.tape,hb4.output,hb4.size,λq hq _=>hb4.block q hq⟩:w3.grownBy w4 none) (λj hj=>by cases hj)⟩
theorem ALf(hG:DC G B)(hB:B<=r)(H:Hid (X6 G w wr r A n c All i b sg))(hQ:MQ w r A n c All (i+1) b (λt=>t=ayW) Q)(hd:All.drop i=(14,x)::rest)(h:AEx G x)(hsg:sg=⟨#[97,121]⟩):MW r b wr K Q:=by
 unfold MW;intros
 conv=>arg 2;whnf
 have hbl:b<wr.heap.size:=(Array.getElem?_eq_some_iff.1 H.out.sig).1;have hrb:=H.out.lt;have hrl:=H.out.P.lt;go_upto_region 3 with(go_at_call 69;refine(AO H.out.P hd).mono ?_;rintro e w2 ⟨rfl,hp2,hg2⟩);have hs2:w2.heap[b]?=some (.cells #[.string sg] 115 (0,0)):=(hg2.block b hbl (by simp;omega)).trans H.out.sig;have hb3:Below w2.heap.size w2 (w2.alloc (.cells #[.int .u8 14,.string x] 118)):=Bl.alloc Nl _;have hn3:=heap_alloc_new w2 (.cells #[.int .u8 14,.string x] 118);have hs3:=(hb3.block b (by have:=hg2.size;omega)).trans hs2;have HP3:=Hd (hp2.below hb3);have HG3:=Hd (hG _ _ (hG _ _ H.out.G ((⟨hg2.os,hg2.tape,hg2.output,hg2.size,λq hq=>hg2.block q Om (by simp;omega)⟩:Below B wr w2))) (hb3.mono (by have:=hg2.size;omega)));have HGR3:=Hd ((H.out.g.andThen hg2 (λj hj=>.inr hj)).andThen (⟨hb3.os,hb3.tape,hb3.output,hb3.size,λq hq _=>hb3.block q hq⟩:w2.grownBy (w2.alloc (.cells #[.int .u8 14,.string x] 118)) none) (λj hj=>by cases hj));obtain⟨q,hq⟩:∃q,w2.heap.size=q:=⟨_,rfl⟩;have hsz3:(w2.alloc (.cells #[.int .u8 14,.string x] 118)).heap.size=q+1:=by simp[hq]
 have hbq:b<q:=by have:=hg2.size;omega
 rw[hq]at hn3 ⊢;clear hg2 hp2 hb3 hs2 hq;generalize w2.alloc (.cells #[.int .u8 14,.string x] 118)=w3 at *;have x0:=(AY hn3).1;have x1:=(AY hn3).2;have y0:=BE hs3;have HS3:=Hd hs3;have HN3:=Hd hn3;clear hs3 hn3 hd;have HN:=Hd h;subst hsg;clear h;go_wp2_with (go_at_call 78;refine(HN.out _ HG3.out).mono ?_;rintro e w4 ⟨Ab,nb,cb,rfl,hb4⟩);(try simp only[Exit.inBlock,Exit.then]);exact hQ ⟨_,_,rfl,ABq Ab nb cb,λt=>by rw[List.mem_singleton];exact Iff.rfl,HP3.out.below hb4,HGR3.out.andThen (⟨hb4.os,hb4.tape,hb4.output,hb4.size,λq hq _=>hb4.block q hq⟩:w3.grownBy w4 none) (λj hj=>by cases hj)⟩
end
