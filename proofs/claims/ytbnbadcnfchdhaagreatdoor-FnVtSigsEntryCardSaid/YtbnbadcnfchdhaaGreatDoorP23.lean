/- Lemmas for FnVtSigsEntry; no conditions. -/
import Derived.Test.YtbnbadcnfchdhaaGreatDoorP22
set_option maxRecDepth 100000
set_option maxHeartbeats 16000000
set_option linter.all false
namespace Go.Proofs.YtbnbadcnfchdhaaGreatDoor
open Go.RowKit
theorem i64_in{z:Int}(h0:-9223372036854775808<=z)(h1:z<=9223372036854775807):IntKind.i64.wrap z=z:=by unfold IntKind.wrap;simp[IntKind.bits,IntKind.signed];omega
theorem ACs{w:World}{B:Nat}{A:Option Addr}{n c:Nat}(h:I5 w B A n c){b:Nat}(hb:b<B)(o:Nat)(u:Value):I5 (w.setCell ⟨b,o,none⟩ u) B A n c:=by obtain⟨xs,h1,h2⟩:=h;refine⟨xs,OY h1 hb o u,λi hi=>?_⟩;obtain⟨g,cc,K,N,S,ka,kn,kc,x4,x5,x6,x7,e1,e2,e3,e4⟩:=h2 i hi;exact⟨g,cc,K,N,S,ka,kn,kc,x4,x5,x6,x7,e1,e2,e3,(heap_set _ _ _ (by show g≠b;omega)).trans e4⟩
def APq(T F:Nat->Nat)(p:Ph)(sg:ByteArray)(wr wx:World)(v vb:Value):Prop:=
 ∃(bt:Nat) (K N2:Int) (S:ByteArray) (A2:Option Addr) (n2 c2:Nat) (ok2:Bool),v=.pointer (some ⟨bt,0,none⟩)/\vb=.bool ok2/\Hid (ok2=true->NU T F p sg)/\Below wr.heap.size wr wx/\wr.heap.size<=bt/\wx.heap[bt]?=some (.cells #[.int .u8 K,.int .u64 N2,.string S,.slice A2 n2 c2] 26 (0,0))
theorem AIr(T F:Nat->Nat){N:Nat}(ih:AFt T F N){kids:List Ph}{rows:Nat->List Value}(hsz:K8 kids<=N)(h5:K8 kids<=5000)(hdd:H8 kids<=2)(hg:FB kids)(hlv:lvL QT kids)(x:ByteArray)(A:Option Addr)(n c:Nat)(b:Bool)(t sig:ByteArray)(hs1:1<=sig.size)(hsL:sig.size<=100000)(w:World)(M:Nat)(hT:MX T F w M)(hE:FN w)(hn:n=kids.length)
 (hrow:w.ownsRow 0 37 5 (.slice A n c) n ((List.range n).flatMap rows)) (hkid:∀(i:Nat) (h:i<kids.length),PhAt w (λ_=>True) (rows i) kids[i]) (hs5:5<=sig.size) (hev:kids.length%2=0) (hf:D1 kids (sig.extract 2 3) (sig.extract 3 (sig.size-1))):Calls Tryz.prog 27 #[.agg #[.int .i64 7,.string x,.slice A n c,.bool b,.string t],.string sig] w (UI (K4 T F kids (sig.extract 2 3) (sig.extract 3 (sig.size-1))) w):=by
 have hx1:(sig.extract 2 3).size<=100000:=by simp[ByteArray.size_extract];omega
 have hx2:(sig.extract 3 (sig.size-1)).size<=100000:=by simp[ByteArray.size_extract];omega
 have HX1:=Hd hx1
 have HX2:=Hd hx2
 have HF:=Hd hf
 have HEV:=Hd hev
 clear hf hx1 hx2 hev
 have hn5:n<=5000:=by have:=GP kids;omega
 have HN:=Hd hn
 have HRow:=Hd hrow
 have HK:=Hd hkid
 have HVC:=Hd (λ(i:Nat) (h:i<kids.length) (sg:ByteArray) (hs:sg.size<=100000) (hf:CO kids[i] sg) (W:World) (hW:Below w.heap.size w W) (k1:Nat) (x1:ByteArray) (A1:Option Addr) (n1 c1:Nat) (b1:Bool) (t1:ByteArray) (hat:PhAt W (λ_=>True) (NX k1 x1 A1 n1 c1 b1 t1) kids[i])=>ih kids[i] (by have:=CW kids i h;omega) (by have:=CW kids i h;omega) (by have:=DF kids i h;omega) (BD kids i h hg) (T4 kids i h hlv) W M (D2 hT hW) (BH hE hW) k1 x1 A1 n1 c1 b1 t1 sg hs hf hat)
 have HDC:=Hd (λ(i:Nat) (h:i<kids.length) (W:World) (k1:Nat) (x1:ByteArray) (A1:Option Addr) (n1 c1:Nat) (b1:Bool) (t1:ByteArray) (hat:PhAt W (λ_=>True) (NX k1 x1 A1 n1 c1 b1 t1) kids[i])=>(⟨OP _ kids[i] Nl (by have:=CW kids i h;omega) (by have:=DF kids i h;omega) (BD kids i h hg) W k1 x1 A1 n1 c1 b1 t1 hat,λsg hs=>NH _ kids[i] Nl W k1 x1 A1 n1 c1 b1 t1 sg (M4 _ (BD kids i h hg)) hs hat,SY (by have:=CW kids i h;omega) (by have:=DF kids i h;omega)⟩:Calls Tryz.prog 25 #[.agg #[.int .i64 k1,.string x1,.slice A1 n1 c1,.bool b1,.string t1]] W (AIf (λz=>z.size<=Lm kids[i].sz kids[i].dd) W)/\(∀sg:ByteArray,sg.size<=100000->Calls Tryz.prog 26 #[.agg #[.int .i64 k1,.string x1,.slice A1 n1 c1,.bool b1,.string t1],.string sg] W (ID (λr=>r=true->CO kids[i] sg) W))/\Lm kids[i].sz kids[i].dd<=70000))
 clear ih hsz h5 hdd hg hlv hT hE hn hrow hkid
 have hi1:(1:Int)<=(sig.size:Int):=Om
 have hs2:(2:Int)<=(sig.size:Int):=Om
 have hs3:(3:Int)<=(sig.size:Int):=Om
 have hs4:(3:Int)<=(sig.size:Int)-1:=Om
 have hs6:(sig.size:Int)-1<=(sig.size:Int):=Om
 have hsN:(((sig.size:Int)-1).toNat)=sig.size-1:=Om
 have hs0:(0:Int)<(sig.size:Int):=Om
 have hp0:0<sig.size:=Om
 have e0:=AJ hp0
 generalize AA sig 0=c0 at *
 go_enter Tryz.func27,Tryz.ntmps27
 go_upto_region 2 with fail
 have hvw:VW w (((w.alloc (.cells #[.int .i64 7,.string x,.slice A n c,.bool b,.string t] 37)).alloc (.cells #[.int .u8 0,.int .u64 0,.string ⟨#[]⟩,.slice none 0 0] 26)).alloc (.cells #[.int .u8 c0,.int .u64 0,.string ⟨#[]⟩,.slice none 0 0] 26)) #[.int .i64 7,.string x,.slice A n c,.bool b,.string t] c0 0 ⟨#[]⟩ none 0 0:=PU w _ c0
 change Code.wp _ _ _ _ (((w.alloc (.cells #[.int .i64 7,.string x,.slice A n c,.bool b,.string t] 37)).alloc (.cells #[.int .u8 0,.int .u64 0,.string ⟨#[]⟩,.slice none 0 0] 26)).alloc (.cells #[.int .u8 c0,.int .u64 0,.string ⟨#[]⟩,.slice none 0 0] 26))
 generalize ((w.alloc (.cells #[.int .i64 7,.string x,.slice A n c,.bool b,.string t] 37)).alloc (.cells #[.int .u8 0,.int .u64 0,.string ⟨#[]⟩,.slice none 0 0] 26)).alloc (.cells #[.int .u8 c0,.int .u64 0,.string ⟨#[]⟩,.slice none 0 0] 26)=wb at *
 have HVW:=Hd hvw
 clear hvw
 obtain⟨⟨q0,q1,q2⟩,⟨z0,z1,z2,z3⟩,⟨y0,y1,y2,y3⟩,⟨f0,f1,f2,f3⟩,g1,g2,g3⟩:=HVW.out.cells
 go_upto_region 29 with fail
 have HV0:=Hd (HVW.out.setS (sig.extract 1 sig.size))
 clear q0 q1 q2 z0 z1 z2 z3 y0 y1 y2 y3 f0 f1 f2 f3 g1 g2 g3
 clear HVW
 generalize hS1:sig.extract 1 sig.size=S1 at *
 clear hS1
 go_wp2_with fail
 go_loopw [16] (λv16 wr=>∃(m:Nat) (A':Option Addr) (q cc:Nat),v16=.int .i64 m/\m<=n/\m%2=0/\q<=m/\Hid (VW w wr #[.int .i64 7,.string x,.slice A n c,.bool b,.string t] c0 0 S1 A' q cc)/\Hid (I5 wr (w.heap.size+3) A' q cc)/\Hid (K4 T F (kids.drop m) (sig.extract 2 3) (sig.extract 3 (sig.size-1))->K4 T F kids (sig.extract 2 3) (sig.extract 3 (sig.size-1)))) (λv _=>n-(intOf v).toNat)
 case atStart=>exact⟨0,none,0,0,rfl,Nat.zero_le _,rfl,Nl,HV0,AJz _ _,λh=>h⟩
 obtain⟨m,A',q,cc,rfl,hm,hpar,hqm,HV,HR,HM⟩:=hrel
 obtain⟨⟨q0,q1,q2⟩,⟨z0,z1,z2,z3⟩,⟨y0,y1,y2,y3⟩,⟨f0,f1,f2,f3⟩,g1,g2,g3⟩:=HV.out.cells
 have hws:=HV.out.size
 by_cases hlt:(m:Int)<(n:Int)
 .have hmn:m<kids.length:=by have:=HN.out;omega
  have hmn1:m+1<kids.length:=by have:=HEV.out;omega
  have hlt1:(m:Int)+1<(n:Int):=by have:=HN.out;omega
  have hm1N:((m:Int)+1).toNat=m+1:=Om;have hm10:(0:Int)<=(m:Int)+1:=Om;have hwr1:IntKind.i64.wrap ((m:Int)+1)=(m:Int)+1:=i64_in Om Om;have hwr2:IntKind.i64.wrap ((sig.size:Int)-1)=(sig.size:Int)-1:=i64_in Om Om;obtain⟨A2',c2',he,hA⟩:=AF HRow.out;simp only[Value.slice.injEq]at he;obtain⟨rfl,_,rfl⟩:=he;obtain⟨g,rfl,hgl⟩:=hA Om;clear hA;obtain⟨k1,x1,A1,n1,cc1,b1,t1,hat1,c10,c11,c12,c13,c14⟩:=PhAt.kid HN.out (AD HRow.out HV.out.below) (λi h=>(HK.out i h).keep HV.out.below) m hmn;have HAT1:=Hd (λ(W:World) (hW:Below wr.heap.size wr W)=>hat1.keep hW);clear hat1;have HC1:=Hd (λ(W:World) (hW:Below wr.heap.size wr W)=>HVC.out m hmn (sig.extract 2 3) HX1.out (by have h:=PQ _ _ _ HF.out m hmn;rw[if_pos hpar]at h;exact h) W (HV.out.below.trans (hW.mono HV.out.below.size)) k1 x1 A1 n1 cc1 b1 t1 (HAT1.out W hW));clear HAT1;go_upto_region 37 with fail;have hgw1:g<wr.heap.size:=by have:=HV.out.size;omega
  go_cut [19,20] from 153 to 163 (λv vb wx=>APq T F kids[m] ((sig.extract 2 3)) wr wx v vb)
  case first=>
   have HSK:=Hd (λ(W:World) (hW:Below wr.heap.size wr W)=>(⟨(hW.cell (p:=⟨w.heap.size,2,none⟩) (by show w.heap.size<_;omega)).trans q2,(hW.cell (p:=⟨g,m*5,none⟩) hgw1).trans c10,(hW.cell (p:=⟨g,m*5+1,none⟩) hgw1).trans c11,(hW.cell (p:=⟨g,m*5+2,none⟩) hgw1).trans c12,(hW.cell (p:=⟨g,m*5+3,none⟩) hgw1).trans c13,(hW.cell (p:=⟨g,m*5+4,none⟩) hgw1).trans c14⟩:W.cell? ⟨w.heap.size,2,none⟩=some (.slice (some ⟨g,0,none⟩) n c)/\W.cell? ⟨g,m*5,none⟩=some (.int .i64 k1)/\W.cell? ⟨g,m*5+1,none⟩=some (.string x1)/\W.cell? ⟨g,m*5+2,none⟩=some (.slice A1 n1 cc1)/\W.cell? ⟨g,m*5+3,none⟩=some (.bool b1)/\W.cell? ⟨g,m*5+4,none⟩=some (.string t1)));go_region_held3 (λW=>W.cell? ⟨w.heap.size,2,none⟩=some (.slice (some ⟨g,0,none⟩) n c)/\W.cell? ⟨g,m*5,none⟩=some (.int .i64 k1)/\W.cell? ⟨g,m*5+1,none⟩=some (.string x1)/\W.cell? ⟨g,m*5+2,none⟩=some (.slice A1 n1 cc1)/\W.cell? ⟨g,m*5+3,none⟩=some (.bool b1)/\W.cell? ⟨g,m*5+4,none⟩=some (.string t1)) (exact HSK.out _ (by first|exact Bl.drew|exact(Bl.drew).alloc Nl _|exact(Bl.alloc Nl _).drew|exact HB3.out|exact HB3.out.alloc HB3.out.size _|exact MD HB3.out Nl 0 _ _ _ _|exact MD HB3.out HB3.out.size 0 _ _ _ _|exact MD (HB3.out.alloc HB3.out.size _) HB3.out.size 0 _ _ _ _)) ((go_at_call 27;refine(HC1.out _ (by first|exact Bl.drew|exact(Bl.drew).alloc Nl _|exact(Bl.alloc Nl _).drew)).mono ?_;rintro e w3 ⟨K,N2,S,A2,n2,c2,ok2,rfl,hok,hb3⟩;have HOK:=Hd hok;(first|(have hnw:=(hb3.block wr.heap.size (by first|(have h:=D0 wr (.cells #[.int .u8 0,.int .u64 0,.string ⟨#[]⟩,.slice none 0 0] 26);rw[h];omega)|simp)).trans (heap_alloc_new wr (.cells #[.int .u8 0,.int .u64 0,.string ⟨#[]⟩,.slice none 0 0] 26));obtain⟨p0,p1,p2,p3⟩:=A5 hnw;have o0:=AB hnw 0;have o1:=AB hnw 1;have o2:=AB hnw 2;have o3:=AB hnw 3;have HNW:=Hd hnw;have HB3:=Hd ((((Below.refl wr.heap.size wr).alloc Nl (.cells #[.int .u8 0,.int .u64 0,.string ⟨#[]⟩,.slice none 0 0] 26)).drew).trans (hb3.mono (by first|(have h:=D0 wr (.cells #[.int .u8 0,.int .u64 0,.string ⟨#[]⟩,.slice none 0 0] 26);rw[h];omega)|simp)));clear hnw)|(have HB3:=Hd (((Below.refl wr.heap.size wr).drew).trans hb3)));clear hok hb3))
   .have hnew:=heap_alloc_new w3 (.cells #[.int .u8 K,.int .u64 N2,.string S,.slice A2 n2 c2] 26)
    have hbq:=HB3.out.alloc HB3.out.size (.cells #[.int .u8 K,.int .u64 N2,.string S,.slice A2 n2 c2] 26);have HNE:=Hd hnew;have HBQ:=Hd hbq;clear hnew hbq HSK;generalize w3.alloc (.cells #[.int .u8 K,.int .u64 N2,.string S,.slice A2 n2 c2] 26)=w4 at *;have hle:=HB3.out.size;go_wp2_with fail;go_meet;exact⟨_,K,N2,S,A2,n2,c2,ok2,rfl,rfl,HOK,HBQ.out,hle,HNE.out⟩
   have hnew:=AH (AH (AH (AH HNW.out 0 (.int .u8 K)) 1 (.int .u64 N2)) 2 (.string S)) 3 (.slice A2 n2 c2);have hbq:=MD HB3.out Nl 0 (.int .u8 K) (.int .u64 N2) (.string S) (.slice A2 n2 c2);simp only[Nat.zero_add]at hnew hbq;have HNE:=Hd hnew;have HBQ:=Hd hbq;clear hnew hbq HSK p0 p1 p2 p3 o0 o1 o2 o3 HNW;change Exit.then _ _ _ _ ((((w3.setCell ⟨wr.heap.size,0,none⟩ (.int .u8 K)).setCell ⟨wr.heap.size,1,none⟩ (.int .u64 N2)).setCell ⟨wr.heap.size,2,none⟩ (.string S)).setCell ⟨wr.heap.size,3,none⟩ (.slice A2 n2 c2));generalize (((w3.setCell ⟨wr.heap.size,0,none⟩ (.int .u8 K)).setCell ⟨wr.heap.size,1,none⟩ (.int .u64 N2)).setCell ⟨wr.heap.size,2,none⟩ (.string S)).setCell ⟨wr.heap.size,3,none⟩ (.slice A2 n2 c2)=w4 at *;go_wp2_with fail;go_meet;exact⟨_,K,N2,S,A2,n2,c2,ok2,rfl,rfl,HOK,HBQ.out,Nl,HNE.out⟩
  obtain⟨bt1,K1,N1,S0,a1,m1,d1,ok1,rfl,rfl,HO1,hb1,hbt1,hc1⟩:=hcut;generalize wc=w4 at *;have HV4:=Hd (HV.out.call hb1);have HR4:=Hd (KL HR.out hb1);have HCL1:=Hd hc1;have hbt1l:bt1<w4.heap.size:=(Array.getElem?_eq_some_iff.1 hc1).1;clear hb1 hc1 c10 c11 c12 c13 c14 HV HR HC1;clear q0 q1 q2 z0 z1 z2 z3 y0 y1 y2 y3 f0 f1 f2 f3 g1 g2 g3;obtain⟨⟨q0,q1,q2⟩,⟨z0,z1,z2,z3⟩,⟨y0,y1,y2,y3⟩,⟨f0,f1,f2,f3⟩,g1,g2,g3⟩:=HV4.out.cells;obtain⟨k7,x7,A7,n7,cc7,b7,t7,hat7,c70,c71,c72,c73,c74⟩:=PhAt.kid HN.out (AD HRow.out HV4.out.below) (λi h=>(HK.out i h).keep HV4.out.below) (m+1) hmn1;have HAT7:=Hd (λ(W:World) (hW:Below w4.heap.size w4 W)=>hat7.keep hW);clear hat7;have HC7:=Hd (λ(W:World) (hW:Below w4.heap.size w4 W)=>HVC.out (m+1) hmn1 (sig.extract 3 (sig.size-1)) HX2.out (by have h:=PQ _ _ _ HF.out (m+1) hmn1;rw[if_neg Om]at h;exact h) W (HV4.out.below.trans (hW.mono HV4.out.below.size)) k7 x7 A7 n7 cc7 b7 t7 (HAT7.out W hW));clear HAT7;go_upto_region 38 with fail;have hgw7:g<w4.heap.size:=by have:=HV4.out.size;omega
  go_cut [21,22] from 164 to 178 (λv vb wx=>APq T F kids[(m+1)] ((sig.extract 3 (sig.size-1))) w4 wx v vb)
  case first=>
   have HSK:=Hd (λ(W:World) (hW:Below w4.heap.size w4 W)=>(⟨(hW.cell (p:=⟨w.heap.size,2,none⟩) (by show w.heap.size<_;omega)).trans q2,(hW.cell (p:=⟨g,(m+1)*5,none⟩) hgw7).trans c70,(hW.cell (p:=⟨g,(m+1)*5+1,none⟩) hgw7).trans c71,(hW.cell (p:=⟨g,(m+1)*5+2,none⟩) hgw7).trans c72,(hW.cell (p:=⟨g,(m+1)*5+3,none⟩) hgw7).trans c73,(hW.cell (p:=⟨g,(m+1)*5+4,none⟩) hgw7).trans c74⟩:W.cell? ⟨w.heap.size,2,none⟩=some (.slice (some ⟨g,0,none⟩) n c)/\W.cell? ⟨g,(m+1)*5,none⟩=some (.int .i64 k7)/\W.cell? ⟨g,(m+1)*5+1,none⟩=some (.string x7)/\W.cell? ⟨g,(m+1)*5+2,none⟩=some (.slice A7 n7 cc7)/\W.cell? ⟨g,(m+1)*5+3,none⟩=some (.bool b7)/\W.cell? ⟨g,(m+1)*5+4,none⟩=some (.string t7)));go_region_held3 (λW=>W.cell? ⟨w.heap.size,2,none⟩=some (.slice (some ⟨g,0,none⟩) n c)/\W.cell? ⟨g,(m+1)*5,none⟩=some (.int .i64 k7)/\W.cell? ⟨g,(m+1)*5+1,none⟩=some (.string x7)/\W.cell? ⟨g,(m+1)*5+2,none⟩=some (.slice A7 n7 cc7)/\W.cell? ⟨g,(m+1)*5+3,none⟩=some (.bool b7)/\W.cell? ⟨g,(m+1)*5+4,none⟩=some (.string t7)) (exact HSK.out _ (by first|exact Bl.drew|exact(Bl.drew).alloc Nl _|exact(Bl.alloc Nl _).drew|exact HB3.out|exact HB3.out.alloc HB3.out.size _|exact MD HB3.out Nl 0 _ _ _ _|exact MD HB3.out HB3.out.size 0 _ _ _ _|exact MD (HB3.out.alloc HB3.out.size _) HB3.out.size 0 _ _ _ _)) ((go_at_call 27;refine(HC7.out _ (by first|exact Bl.drew|exact(Bl.drew).alloc Nl _|exact(Bl.alloc Nl _).drew)).mono ?_;rintro e w3 ⟨K,N2,S,A2,n2,c2,ok2,rfl,hok,hb3⟩;have HOK:=Hd hok;(first|(have hnw:=(hb3.block w4.heap.size (by first|(have h:=D0 w4 (.cells #[.int .u8 0,.int .u64 0,.string ⟨#[]⟩,.slice none 0 0] 26);rw[h];omega)|simp)).trans (heap_alloc_new w4 (.cells #[.int .u8 0,.int .u64 0,.string ⟨#[]⟩,.slice none 0 0] 26));obtain⟨p0,p1,p2,p3⟩:=A5 hnw;have o0:=AB hnw 0;have o1:=AB hnw 1;have o2:=AB hnw 2;have o3:=AB hnw 3;have HNW:=Hd hnw;have HB3:=Hd ((((Below.refl w4.heap.size w4).alloc Nl (.cells #[.int .u8 0,.int .u64 0,.string ⟨#[]⟩,.slice none 0 0] 26)).drew).trans (hb3.mono (by first|(have h:=D0 w4 (.cells #[.int .u8 0,.int .u64 0,.string ⟨#[]⟩,.slice none 0 0] 26);rw[h];omega)|simp)));clear hnw)|(have HB3:=Hd (((Below.refl w4.heap.size w4).drew).trans hb3)));clear hok hb3))
   .have hnew:=heap_alloc_new w3 (.cells #[.int .u8 K,.int .u64 N2,.string S,.slice A2 n2 c2] 26)
    have hbq:=HB3.out.alloc HB3.out.size (.cells #[.int .u8 K,.int .u64 N2,.string S,.slice A2 n2 c2] 26);have HNE:=Hd hnew;have HBQ:=Hd hbq;clear hnew hbq HSK;generalize w3.alloc (.cells #[.int .u8 K,.int .u64 N2,.string S,.slice A2 n2 c2] 26)=w4 at *;have hle:=HB3.out.size;go_wp2_with fail;go_meet;exact⟨_,K,N2,S,A2,n2,c2,ok2,rfl,rfl,HOK,HBQ.out,hle,HNE.out⟩
   have hnew:=AH (AH (AH (AH HNW.out 0 (.int .u8 K)) 1 (.int .u64 N2)) 2 (.string S)) 3 (.slice A2 n2 c2);have hbq:=MD HB3.out Nl 0 (.int .u8 K) (.int .u64 N2) (.string S) (.slice A2 n2 c2);simp only[Nat.zero_add]at hnew hbq;have HNE:=Hd hnew;have HBQ:=Hd hbq;clear hnew hbq HSK p0 p1 p2 p3 o0 o1 o2 o3 HNW;change Exit.then _ _ _ _ ((((w3.setCell ⟨w4.heap.size,0,none⟩ (.int .u8 K)).setCell ⟨w4.heap.size,1,none⟩ (.int .u64 N2)).setCell ⟨w4.heap.size,2,none⟩ (.string S)).setCell ⟨w4.heap.size,3,none⟩ (.slice A2 n2 c2));generalize (((w3.setCell ⟨w4.heap.size,0,none⟩ (.int .u8 K)).setCell ⟨w4.heap.size,1,none⟩ (.int .u64 N2)).setCell ⟨w4.heap.size,2,none⟩ (.string S)).setCell ⟨w4.heap.size,3,none⟩ (.slice A2 n2 c2)=w4 at *;go_wp2_with fail;go_meet;exact⟨_,K,N2,S,A2,n2,c2,ok2,rfl,rfl,HOK,HBQ.out,Nl,HNE.out⟩
  obtain⟨bt2,K2,N2,S2,a2,m2,d2,ok2,rfl,rfl,HO2,hb2,hbt2,hc2⟩:=hcut;have HV5:=Hd (HV4.out.call hb2);have HR5:=Hd (KL HR4.out hb2);have hcl1:=(hb2.block bt1 hbt1l).trans HCL1.out;obtain⟨p0,p1,p2,p3⟩:=A5 hcl1;obtain⟨o0,o1,o2,o3⟩:=A5 hc2;clear hb2 hc2 hcl1 c70 c71 c72 c73 c74 HCL1 HR4 HV4 HC7;clear q0 q1 q2 z0 z1 z2 z3 y0 y1 y2 y3 f0 f1 f2 f3 g1 g2 g3;obtain⟨⟨q0,q1,q2⟩,⟨z0,z1,z2,z3⟩,⟨y0,y1,y2,y3⟩,⟨f0,f1,f2,f3⟩,g1,g2,g3⟩:=HV5.out.cells
  cases ok1 with
  |false=>go_wp2_with fail;refine bodyPost_ret (v:=.tuple #[.agg #[.int .u8 0,.int .u64 0,.string ⟨#[]⟩,.slice none 0 0],.bool false]) (by simp[results,Tryz.results27,go_sem,z0,z1,z2,z3]) rfl ?_;exact⟨0,0,⟨#[]⟩,none,0,0,false,rfl,λh=>by simp at h,AM HV5.out.below Om _ _ _ _⟩
  |true=>
   cases ok2 with
   |false=>go_wp2_with fail;refine bodyPost_ret (v:=.tuple #[.agg #[.int .u8 0,.int .u64 0,.string ⟨#[]⟩,.slice none 0 0],.bool false]) (by simp[results,Tryz.results27,go_sem,z0,z1,z2,z3]) rfl ?_;exact⟨0,0,⟨#[]⟩,none,0,0,false,rfl,λh=>by simp at h,AM HV5.out.below Om _ _ _ _⟩
   |true=>
    have HM2:Hid (K4 T F (kids.drop (m+2)) (sig.extract 2 3) (sig.extract 3 (sig.size-1))->K4 T F kids (sig.extract 2 3) (sig.extract 3 (sig.size-1))):=λh=>HM.out (WF T F kids _ _ m hmn (HO1.out (by first|exact trivial|rfl)) (WF T F kids _ _ (m+1) hmn1 (HO2.out (by first|exact trivial|rfl)) h));have hws5:=HV5.out.size;clear HM HO1 HO2;go_wp2_with (go_at_call 44;refine(WQ (B:=w.heap.size+3) Om (by first|exact hws5|(show _<=wc.drew.heap.size;exact hws5)) (by first|exact HR5.out|exact KL HR5.out Bl.drew) K1 N1 S0 a1 m1 d1 K2 N2 S2 a2 m2 d2).mono ?_;rintro e w6 ⟨A6,n6,c6,rfl,hn6,he6,hb6⟩;have HE6:=Hd he6;have HV6:=Hd (HV5.out.step (by first|exact hb6|exact(Bl.drew).trans hb6));clear he6 hb6;clear q0 q1 q2 z0 z1 z2 z3 y0 y1 y2 y3 f0 f1 f2 f3 g1 g2 g3;obtain⟨⟨q0,q1,q2⟩,⟨z0,z1,z2,z3⟩,⟨y0,y1,y2,y3⟩,⟨f0,f1,f2,f3⟩,g1,g2,g3⟩:=HV6.out.cells);have HV7:=Hd (HV6.out.setK A6 n6 c6);go_roundw
    case rel=>exact⟨m+2,A6,n6,c6,by go_num,Om,Om,Om,HV7,ACs HE6.out Om 3 _,HM2⟩
    simp[intOf];omega
 go_wp2_with fail
 refine bodyPost_ret (v:=.tuple #[.agg #[.int .u8 c0,.int .u64 0,.string S1,.slice A' q cc],.bool true]) (by simp[results,Tryz.results27,go_sem,z0,z1,z2,z3]) rfl ?_
 exact⟨c0,0,S1,A',q,cc,true,rfl,λ_=>HM.out (by rw[List.drop_eq_nil_of_le (by have:=HN.out;omega)];exact trivial),AM HV.out.below Om _ _ _ _⟩
theorem I4{P P':Prop}{w:World}(h:P->P'):∀e w',UI P w e w'->UI P' w e w':=by rintro e w' ⟨K,N,S,A,n,c,ok,h1,h2,h3⟩;exact⟨K,N,S,A,n,c,ok,h1,λh4=>h (h2 h4),h3⟩
theorem AIz(T F:Nat->Nat)(hT8:∀i,T i<18446744073709551616)(hPl:∀i,i<23->GO (F i)=true)(N:Nat)(ih:AFt T F N):AFt T F (N+1):=by
 intro p hp hp5 hpd hgood hlv w M hT hE k x A n c b t sig hsL hfit hat;have hs1:=AH0 hlv hfit
 cases hat with
 |mk k x A n c kids ty rows hn hrow hP hA hkid=>
 have hsz:K8 kids<=N:=by simp[Ph.sz]at hp;omega
 have hs5:K8 kids<=5000:=by simp[Ph.sz]at hp5;omega
 have hddk:H8 kids<=2:=by simp only[Ph.dd]at hpd;omega
 simp only[Ph.good]at hgood;obtain⟨hx,_,hgk⟩:=hgood;simp only[Ph.lv]at hlv;obtain⟨hk,hlk⟩:=hlv;simp only[CO]at hfit;obtain⟨_,f2,f3,f4,f14,f9,f5,f7⟩:=hfit;rcases hk with⟨hk,hq,rfl⟩|⟨rfl,h1⟩|rfl|⟨rfl,h2⟩
 .rcases hk with rfl|rfl|rfl|rfl
  .refine(ALs T F hT8 hPl x A n c _ _ sig hs1 (hq.1 rfl) w M hT hE).mono (I4 λh=>?_)
   exact⟨λ_=>h,Om,Om,Om,Om,Om⟩
  .refine(AMu x A n c _ _ sig hs1 hx w).mono (I4 λh=>?_)
   exact⟨Om,λ_=>h,Om,Om,Om,Om⟩
  .refine(AKc x A n c _ _ sig hs1 w).mono (I4 λ_=>?_)
   exact⟨Om,Om,Om,Om,Om,Om⟩
  refine(AG0 x A n c _ _ sig hs1 hx (hq.2 rfl) w).mono (I4 λh=>?_);exact⟨Om,Om,λ_=>h,Om,Om,Om⟩
 .refine(ALn T F ih hsz hs5 hddk hgk hlk x A n c _ _ sig hs1 hsL w M hT hE hn hrow hkid h1).mono (I4 λh=>?_)
  exact⟨Om,Om,Om,λ_=>h,Om,Om⟩
 .obtain⟨g1,_,_,g2⟩:=f5 rfl
  refine(ALr T F ih hsz hs5 hddk hgk hlk x A n c _ _ sig hs1 hsL w M hT hE hn hrow hkid g1 g2).mono (I4 λh=>?_);exact⟨Om,Om,Om,Om,λ_=>h,Om⟩
 obtain⟨g1,_,g2⟩:=f7 rfl;refine(AIr T F ih hsz hs5 hddk hgk hlk x A n c _ _ sig hs1 hsL w M hT hE hn hrow hkid g1 h2 g2).mono (I4 λh=>?_);exact⟨Om,Om,Om,Om,Om,λ_=>h⟩
theorem AD9(T F:Nat->Nat)(hT8:∀i,T i<18446744073709551616)(hPl:∀i,i<23->GO (F i)=true):∀N,AFt T F N
 |0=>λp hp=>by have:=p.sz_pos;omega
 |N+1=>AIz T F hT8 hPl N (AD9 T F hT8 hPl N)
theorem AEg{c:Int}(h0:0<=c)(h1:c<=255)(h:low c=101):c=101\/c=69:=by have:=KN ⟨c.toNat,Om⟩;simp only at this;rw[show ((c.toNat:Nat):Int)=c by omega]at this;unfold low at h;rw[h]at this;split at this<;>omega
theorem D6{s:ByteArray}{n:Nat}(h:n<=s.size):(s.extract 0 n).size=n:=by simp[ByteArray.size_extract];omega
theorem JL{c:Int}(h:DD c=true):48<=c/\c<=57\/65<=c/\c<=70\/97<=c/\c<=102:=by unfold DD at h;simp only[Bool.or_eq_true,decide_eq_true_eq]at h;omega
theorem QI{s:ByteArray}{n i1 i2:Nat}{eneg:Bool}(hs:s.size<=100000)(hn:n<=s.size)(hsome:DV s<i1)(hfits:i1<=n)(hhead:48<=AA s (DV s)/\AA s (DV s)<=57)
 (p:Nat) (hmant:∀i,DV s<=i->i<i1->i=p/\AA s i=46\/48<=AA s i/\AA s i<=57)
 (htail:i1=n\/(AA s i1=101\/AA s i1=69)/\i2<n/\(i2=i1+1/\eneg=false\/i2=i1+2/\(eneg=false/\AA s (i1+1)=43\/eneg=true/\AA s (i1+1)=45))/\∀i,i2<=i->i<n->48<=AA s i/\AA s i<=57):EO (s.extract 0 n):=by
 have hsz:=D6 hn
 have hst:∀i,i<n->AA (s.extract 0 n) i=AA s i:=λi hi=>BU s n i hi
 refine .inr ⟨DV s,i1,i2,decide (AA s 0=45),eneg,Om,?_,hsome,Om,by rw[hst _ Om];exact hhead,λi h1 h2=>?_,λi j h1 h2 h3 h4=>?_,?_⟩
 .rw[hst 0 Om]
  unfold DV DL at *;by_cases h43:AA s 0=43
  .right;simp[h43]
  by_cases h45:AA s 0=45
  .right;simp[h45]
  left;simp only[h43,h45,decide_false,Bool.or_false,Bool.false_eq_true,if_false]at hhead ⊢;exact⟨trivial,trivial,hhead.1⟩
 .rw[hst _ Om]
  rcases hmant i h1 h2 with h|h
  .exact .inl h.2
  exact .inr h
 .rw[hst _ Om]at h4 ⊢
  rcases hmant i h1 Om with h|h
  .rcases hmant j Om h3 with g|g
   .omega
   omega
  omega
 rcases htail with h|⟨h1,h2,h3,h4⟩
 .exact .inl Om
 refine .inr ⟨by rw[hst _ Om];exact h1,Om,?_,λi g1 g2=>by rw[hst _ Om];exact h4 i g1 Om⟩
 rcases h3 with h3|⟨h3,h5⟩
 .exact .inl h3
 exact .inr ⟨h3,by rw[hst _ Om];exact h5⟩
theorem W9{s:ByteArray}(hs:s.size<=100000)(hp:0<s.size){n:Nat}(h:CT s=(n,true)):EO (s.extract 0 n):=by
 have hn:=P1 s hp h;rw[FX]at h;split at h
 .rename_i hz
  unfold ntZ at h;split at h
  .rename_i hx
   have hlen:=O1 s (DV s+1+1) Om;simp only[Prod.mk.injEq,Bool.and_eq_true,Bool.not_eq_true',Bool.or_eq_true,decide_eq_true_eq]at h;obtain⟨h1,h2,h3⟩:=h;have hi0:DV s=0:=by unfold DV;rw[h2];rfl
   rw[hi0]at h1 h3 hx hz hlen;have hrun:=AA1 s 2;have hn3:3<=n:=Om;have hsz:=D6 hn;refine .inl ⟨Om,Om,by rw[BU s n 0 Om];exact hz.2,by rw[BU s n 1 Om];exact hx.2,λi g1 g2=>?_⟩;rw[BU s n i Om];exact JL (hrun i g1 (by simp only[Nat.zero_add,Nat.reduceAdd]at h1;omega))
  split at h
  .rename_i hd
   simp only[Prod.mk.injEq,Bool.and_eq_true,decide_eq_true_eq]at h;obtain⟨h1,h2,_⟩:=h;have hrun:=KM s 55 (DV s+1+1);refine QI (i2:=0) (eneg:=false) hs hn (i1:=n) Om Nl Om (DV s+1) (λi g1 g2=>?_) (.inl rfl);by_cases e1:i=DV s
   .subst e1;right;omega
   by_cases e2:i=DV s+1
   .exact .inl ⟨e2,by rw[e2];exact hd.2⟩
   right;have:=hrun i Om Om;omega
  simp only[Prod.mk.injEq,Bool.and_eq_true,decide_eq_true_eq]at h;obtain⟨h1,_⟩:=h;have hrun:=KM s 55 (DV s+1);have hge:=FM s 55 (DV s+1);refine QI (i2:=0) (eneg:=false) hs hn (i1:=n) Om Nl Om (n+1) (λi g1 g2=>?_) (.inl rfl);right;by_cases e1:i=DV s
  .subst e1;omega
  have:=hrun i Om Om;omega
 unfold ntD at h;have hge:=FM s 57 (DV s);have hrun:=KM s 57 (DV s);split at h
 .simp at h
 rename_i hne;have hi0:DV s<BG s 57 (DV s):=Om;have hhead:=hrun (DV s) Nl hi0;have hle1:=EV s 57 (DV s) (by unfold DV;split<;>omega);have hm:∃e2 p,DV s<e2/\e2<=s.size/\ntT s e2=(n,true)/\∀i,DV s<=i->i<e2->i=p/\AA s i=46\/48<=AA s i/\AA s i<=57:=by
  split at h
  .rename_i hd
   refine⟨_,BG s 57 (DV s),?_,EV s 57 _ Om,h,λi g1 g2=>?_⟩
   .have:=FM s 57 (BG s 57 (DV s)+1);omega
   by_cases g3:i<BG s 57 (DV s)
   .exact .inr (hrun i g1 g3)
   by_cases g4:i=BG s 57 (DV s)
   .exact .inl ⟨g4,by rw[g4];exact hd.2⟩
   exact .inr (KM s 57 (BG s 57 (DV s)+1) i Om g2)
  exact⟨_,s.size+1,hi0,hle1,h,λi g1 g2=>.inr (hrun i g1 g2)⟩
 obtain⟨e2,p,m1,m2,m3,m4⟩:=hm;unfold ntT at m3;split at m3
 .rename_i he
  have hsat:=CJ s e2;have hE:=AEg hsat.1 hsat.2 he.2;by_cases hsg:e2+1<s.size/\(AA s (e2+1)=43\/AA s (e2+1)=45)
  .rw[if_pos hsg]at m3
   unfold ntE at m3;split at m3
   .simp at m3
   rename_i hne4;simp only[Prod.mk.injEq,and_true]at m3;have hg:=FM s 57 (e2+2);have hr:=KM s 57 (e2+2);refine QI (i1:=e2) (i2:=e2+2) (eneg:=decide (AA s (e2+1)=45)) hs hn m1 Om hhead p m4 (.inr ⟨hE,Om,.inr ⟨rfl,?_⟩,λi g1 g2=>hr i g1 Om⟩);rcases hsg.2 with h|h
   .exact .inl ⟨by rw[h];rfl,h⟩
   exact .inr ⟨by rw[h];rfl,h⟩
  rw[if_neg hsg]at m3;unfold ntE at m3;split at m3
  .simp at m3
  rename_i hne4;simp only[Prod.mk.injEq,and_true]at m3;have hg:=FM s 57 (e2+1);have hr:=KM s 57 (e2+1);exact QI (i1:=e2) (i2:=e2+1) (eneg:=false) hs hn m1 Om hhead p m4 (.inr ⟨hE,Om,.inl ⟨rfl,rfl⟩,λi g1 g2=>hr i g1 Om⟩)
 simp only[Prod.mk.injEq,and_true]at m3;subst m3;exact QI (i2:=0) (eneg:=false) hs hn m1 Nl hhead p m4 (.inl rfl)
def AKq(t:AW):Prop:=ON t/\QT t.1 t.2/\t.1≠0
theorem AEf{s:ByteArray}(hs:s.size<=100000)(hp:0<s.size)(hb:AX (AA s 0)=false)(h:(B3 s).2.2=true)(h1:(B3 s).2.1≠1):AKq ((B3 s).2.1,s.extract 0 (B3 s).1):=by
 obtain⟨l1,l2,l3⟩:=ML hp hb h h1;have hsz:=D6 l2;have h0:(B3 s).2.1≠13->(B3 s).2.1≠2->(B3 s).2.1≠0->AKq ((B3 s).2.1,s.extract 0 (B3 s).1):=λa b c=>⟨⟨l3,by show (s.extract 0 _).size<=_;omega,λe=>absurd e a⟩,⟨λe=>absurd e b,λ_=>by show 1<=(s.extract 0 _).size;omega⟩,c⟩;unfold B3 at h h1 h0 l1 l2 l3 hsz ⊢;split at h
 .rename_i k hk
  have:=Q6 hk;simp only[hk]at h0 ⊢;by_cases e:5+k=13
  .omega
  exact h0 e Om Om
 rename_i hk;simp only[hk]at h0 l1 l2 l3 hsz h1 ⊢;split at h
 .rename_i g
  rw[if_pos g]at h0 l1 l2 l3 hsz h1 ⊢;have hl:=WC hp h h1;have hnum:EO (s.extract 0 (PG s (CT s)).1):=by
   generalize hr:CT s=r at *;obtain⟨n,ok⟩:=r;unfold PG at h h1 ⊢;split at h
   .simp at h
   rename_i g1;rw[if_neg g1]at h1 ⊢;split at h
   .rename_i g2
    rw[if_pos g2]at h1;simp at h1
   rename_i g2;rw[if_neg g2];have hok:ok=true:=by
    cases ok with
    |true=>rfl
    |false=>exact absurd (Or.inl rfl) g1
   subst hok;exact W9 hs hp hr
  rw[hl.2.2]at *;exact⟨⟨by show 2<=14;omega,by show (s.extract 0 _).size<=_;omega,λe=>by simp at e⟩,⟨λ_=>hnum,λe=>by simp at e⟩,by show (2:Nat)≠0;omega⟩
 rename_i g;rw[if_neg g]at h0 l1 l2 l3 hsz h1 ⊢;split at h
 .rename_i g2
  rw[if_pos g2]at h0 h1 ⊢;have:=QR h1;rw[this.2.2]at h0 ⊢;exact h0 De De De
 rename_i g2;rw[if_neg g2]at h0 l1 l2 l3 hsz h1 ⊢;split at h
 .rename_i g3
  rw[if_pos g3]at h0 h1 ⊢;have:=QR h1;rw[this.2.2]at h0 ⊢;exact h0 De De De
 rename_i g3;rw[if_neg g3]at h0 l1 l2 l3 hsz h1 ⊢;split at h
 .rename_i g4
  rw[if_pos g4]at h0 h1 ⊢;have:=NF g4.2.1 Om h;rw[this.2.2]at h0 ⊢;exact h0 De De De
 rename_i g4;rw[if_neg g4]at h0 l1 l2 l3 hsz h1 ⊢;split at h
 .rename_i g5
  rw[if_pos g5]at h0 h1 ⊢;have:=NF g5.2.1 Om h;rw[this.2.2]at h0 ⊢;exact h0 De De De
 rename_i g5;rw[if_neg g5]at h0 l1 l2 l3 hsz h1 ⊢;split at h
 .simp at h
 rename_i n hn;simp only[hn]at h0 l1 l2 l3 hsz h1 ⊢;have ll:=ADm (Nat.zero_le _) hn;unfold OD at h h1 l1 l2 hsz ⊢;split at h
 .simp at h
 rename_i g6;rw[if_neg g6]at h1 l1 l2 hsz ⊢;split at h
 .rename_i g7
  rw[if_pos g7]at h1;simp at h1
 rename_i g7;rw[if_neg g7]at l1 l2 hsz ⊢;have hsz':(s.extract 0 n).size=n:=hsz;have l1':1<=n:=l1;refine⟨⟨by simp,by show (s.extract 0 n).size<=_;omega,λ_=>⟨by show 0<(s.extract 0 n).size;omega,?_⟩⟩,⟨λe=>by simp at e,λe=>by simp at e⟩,by simp⟩;by_cases h64:AA s 0=64
 .left
  show EU (s.extract 0 n);by_cases hpr:OO (s.extract 0 n)=true
  .have hv:N5 (s.extract 1 n)=true/\RQ (s.extract 1 n)=true:=Classical.byContradiction λhh=>g6 ⟨h64,hpr,hh⟩
   exact UZ ll (SX hv.2) h64
  exact QX (by simpa using hpr)
 right;show AA (s.extract 0 n) 0≠64;rw[BU s n 0 (by simp at l1;omega)];exact h64
theorem ALm:∀(N:Nat) (s:ByteArray),s.size<=N->s.size<=100000->∀ts,BO s=some ts->ts≠[]/\∀t,t∈ts->AKq t\/t=(0,⟨#[]⟩)\/t=(1,⟨#[]⟩):=by
 intro N;induction N with
 |zero=>
  intro s hN hs ts h;rw[GZ Om]at h
  cases h
  exact⟨by simp,λt ht=>.inr (.inl (by simpa using ht))⟩
 |succ N ih=>
  intro s hN hs ts h;by_cases h0:s.size=0
  .rw[GZ h0]at h
   cases h
   exact⟨by simp,λt ht=>.inr (.inl (by simpa using ht))⟩
  cases hb:AX (AA s 0) with
  |true=>rw[F2 h0 hb]at h;exact ih _ (by rw[AU _ _ Om];omega) (by rw[AU _ _ Om];omega) ts h
  |false=>
   cases h1:(B3 s).2.2 with
   |false=>rw[KT h0 hb h1]at h;cases h
   |true=>
    by_cases h2:(B3 s).2.1=1
    .rw[L9 h0 hb h1 h2]at h
     cases h
     exact⟨by simp,λt ht=>.inr (.inr (by simpa using ht))⟩
    have hl:=ML Om hb h1 h2;rw[GW h0 hb h1 h2 ⟨hl.1,hl.2.1⟩]at h
    cases ht:BO (s.extract (B3 s).1 s.size) with
    |none=>rw[ht]at h;cases h
    |some l=>
     rw[ht]at h;simp only[Option.map_some,Option.some.injEq]at h;subst h;obtain⟨_,hl2⟩:=ih _ (by rw[AU _ _ hl.2.1];omega) (by rw[AU _ _ hl.2.1];omega) l ht;refine⟨by simp,λt hm=>?_⟩;rcases List.mem_cons.1 hm with rfl|hm
     .exact .inl (AEf hs Om hb h1 h2)
     exact hl2 t hm
theorem RO{s:ByteArray}(hs:s.size<=100000){ts:List AW}(h:EJ s=some ts):ts≠[]/\MB ts/\(∀t,t∈ts->t.2.size<=100000)/\∀t,t∈ts->(t.1=2\/t.1=3\/t.1=4\/t.1=14)->QT t.1 t.2:=by
 unfold EJ at h;split at h
 .cases h
 obtain⟨h1,h2⟩:=ALm _ s Nl hs ts h;have hg:MB ts:=λt ht=>by
  rcases h2 t ht with h|rfl|rfl
  .exact h.1
  .exact⟨De,De,λe=>by simp at e⟩
  exact⟨De,De,λe=>by simp at e⟩
 refine⟨h1,hg,λt ht=>(hg t ht).2.1,λt ht hk=>?_⟩;rcases h2 t ht with h|rfl|rfl
 .exact h.2.1
 .simp at hk
 simp at hk
