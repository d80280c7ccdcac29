/- Lemmas for FnVtSigsEntry; no conditions. -/
import Derived.Test.YtbnbadcnfchdhaaGreatDoorP21
set_option maxRecDepth 100000
set_option maxHeartbeats 16000000
set_option linter.all false
namespace Go.Proofs.YtbnbadcnfchdhaaGreatDoor
open Go.RowKit
theorem ALs(T F:Nat->Nat)(hT8:∀i,T i<18446744073709551616)(hPl:∀i,i<23->GO (F i)=true)(x:ByteArray)(A:Option Addr)(n c:Nat)(b:Bool)(t sig:ByteArray)(hs1:1<=sig.size)(hx:EO x)(w:World)(N:Nat)(hT:MX T F w N)(hE:FN w) :
 Calls Tryz.prog 27 #[.agg #[.int .i64 2,.string x,.slice A n c,.bool b,.string t],.string sig] w (UI (RX T F x (AA sig 0)) w):=by
 have hc:=CJ sig 0
 have HNC:=Hd (λ(c:Int) (h0:0<=c) (h1:c<=255) (W:World) (hW:Below w.heap.size w W)=>VF T F hT8 hPl hx c h0 h1 (D2 hT hW) (BH hE hW))
 clear hT hE hx hT8 hPl
 have hs0:(0:Int)<(sig.size:Int):=Om
 have hp0:0<sig.size:=Om
 have e0:=AJ hp0
 generalize AA sig 0=c0 at *
 go_enter Tryz.func27,Tryz.ntmps27
 go_upto_region 2 with fail
 have hvw:VW w (((w.alloc (.cells #[.int .i64 2,.string x,.slice A n c,.bool b,.string t] 37)).alloc (.cells #[.int .u8 0,.int .u64 0,.string ⟨#[]⟩,.slice none 0 0] 26)).alloc (.cells #[.int .u8 c0,.int .u64 0,.string ⟨#[]⟩,.slice none 0 0] 26)) #[.int .i64 2,.string x,.slice A n c,.bool b,.string t] c0 0 ⟨#[]⟩ none 0 0:=PU w _ c0
 change Code.wp _ _ _ _ (((w.alloc (.cells #[.int .i64 2,.string x,.slice A n c,.bool b,.string t] 37)).alloc (.cells #[.int .u8 0,.int .u64 0,.string ⟨#[]⟩,.slice none 0 0] 26)).alloc (.cells #[.int .u8 c0,.int .u64 0,.string ⟨#[]⟩,.slice none 0 0] 26))
 generalize ((w.alloc (.cells #[.int .i64 2,.string x,.slice A n c,.bool b,.string t] 37)).alloc (.cells #[.int .u8 0,.int .u64 0,.string ⟨#[]⟩,.slice none 0 0] 26)).alloc (.cells #[.int .u8 c0,.int .u64 0,.string ⟨#[]⟩,.slice none 0 0] 26)=wb at *
 have HVW:=Hd hvw
 clear hvw
 obtain⟨⟨q0,q1,q2⟩,⟨z0,z1,z2,z3⟩,⟨y0,y1,y2,y3⟩,⟨f0,f1,f2,f3⟩,g1,g2,g3⟩:=HVW.out.cells
 go_upto_region 4 with fail
 have HVD:=Hd (HVW.out.call (Bl.drew))
 go_region_with ((go_at_call 41;refine(HNC.out c0 hc.1 hc.2 _ HVD.out.below).mono ?_;rintro e w2 ⟨K,N2,S,A2,n2,c2,ok,rfl,hok,hb2⟩;have HOK:=Hd hok;have HV2:=Hd (HVD.out.call hb2);clear hok hb2;clear q0 q1 q2 z0 z1 z2 z3 y0 y1 y2 y3 f0 f1 f2 f3 g1 g2 g3;obtain⟨⟨q0,q1,q2⟩,⟨z0,z1,z2,z3⟩,⟨y0,y1,y2,y3⟩,⟨f0,f1,f2,f3⟩,g1,g2,g3⟩:=HV2.out.cells))
 all_goals
  go_wp2_with fail;refine bodyPost_ret (v:=.tuple #[.agg #[.int .u8 K,.int .u64 N2,.string S,.slice A2 n2 c2],.bool ok]) (by simp[results,Tryz.results27,go_sem,z0,z1,z2,z3]) rfl ?_;exact⟨K,N2,S,A2,n2,c2,ok,rfl,HOK.out,AM HV2.out.below Om _ _ _ _⟩
theorem AMu(x:ByteArray)(A:Option Addr)(n c:Nat)(b:Bool)(t sig:ByteArray)(hs1:1<=sig.size)(hx:x.size<=100000)(w:World):Calls Tryz.prog 27 #[.agg #[.int .i64 3,.string x,.slice A n c,.bool b,.string t],.string sig] w (UI (Y0 x=true) w):=by have HU:=Hd (λ(W:World)=>UE x hx W);have hs0:(0:Int)<(sig.size:Int):=Om;have hp0:0<sig.size:=Om;have e0:=AJ hp0;generalize AA sig 0=c0 at *;go_enter Tryz.func27,Tryz.ntmps27;go_upto_region 2 with fail;have hvw:VW w (((w.alloc (.cells #[.int .i64 3,.string x,.slice A n c,.bool b,.string t] 37)).alloc (.cells #[.int .u8 0,.int .u64 0,.string ⟨#[]⟩,.slice none 0 0] 26)).alloc (.cells #[.int .u8 c0,.int .u64 0,.string ⟨#[]⟩,.slice none 0 0] 26)) #[.int .i64 3,.string x,.slice A n c,.bool b,.string t] c0 0 ⟨#[]⟩ none 0 0:=PU w _ c0;change Code.wp _ _ _ _ (((w.alloc (.cells #[.int .i64 3,.string x,.slice A n c,.bool b,.string t] 37)).alloc (.cells #[.int .u8 0,.int .u64 0,.string ⟨#[]⟩,.slice none 0 0] 26)).alloc (.cells #[.int .u8 c0,.int .u64 0,.string ⟨#[]⟩,.slice none 0 0] 26));generalize ((w.alloc (.cells #[.int .i64 3,.string x,.slice A n c,.bool b,.string t] 37)).alloc (.cells #[.int .u8 0,.int .u64 0,.string ⟨#[]⟩,.slice none 0 0] 26)).alloc (.cells #[.int .u8 c0,.int .u64 0,.string ⟨#[]⟩,.slice none 0 0] 26)=wb at *;have HVW:=Hd hvw;clear hvw;obtain⟨⟨q0,q1,q2⟩,⟨z0,z1,z2,z3⟩,⟨y0,y1,y2,y3⟩,⟨f0,f1,f2,f3⟩,g1,g2,g3⟩:=HVW.out.cells;go_wp2_with (go_at_call 42;refine(HU.out _).mono ?_;rintro e w2 ⟨s,rfl,hb2⟩;have HV2:=Hd (HVW.out.call (by first|exact hb2|exact(Bl.drew).trans hb2));clear hb2;clear q0 q1 q2 z0 z1 z2 z3 y0 y1 y2 y3 f0 f1 f2 f3 g1 g2 g3;obtain⟨⟨q0,q1,q2⟩,⟨z0,z1,z2,z3⟩,⟨y0,y1,y2,y3⟩,⟨f0,f1,f2,f3⟩,g1,g2,g3⟩:=HV2.out.cells);refine bodyPost_ret (v:=.tuple #[.agg #[.int .u8 c0,.int .u64 0,.string s,.slice none 0 0],.bool (Y0 x)]) (by simp[results,Tryz.results27,go_sem,z0,z1,z2,z3]) rfl ?_;exact⟨c0,0,s,none,0,0,(Y0 x),rfl,λh=>h,AM (HV2.out.setS s).below Om _ _ _ _⟩
theorem AKc(x:ByteArray)(A:Option Addr)(n c:Nat)(b:Bool)(t sig:ByteArray)(hs1:1<=sig.size)(w:World):Calls Tryz.prog 27 #[.agg #[.int .i64 4,.string x,.slice A n c,.bool b,.string t],.string sig] w (UI True w):=by
 have hs0:(0:Int)<(sig.size:Int):=Om;have hp0:0<sig.size:=Om;have e0:=AJ hp0;generalize AA sig 0=c0 at *;go_enter Tryz.func27,Tryz.ntmps27;go_upto_region 2 with fail;have hvw:VW w (((w.alloc (.cells #[.int .i64 4,.string x,.slice A n c,.bool b,.string t] 37)).alloc (.cells #[.int .u8 0,.int .u64 0,.string ⟨#[]⟩,.slice none 0 0] 26)).alloc (.cells #[.int .u8 c0,.int .u64 0,.string ⟨#[]⟩,.slice none 0 0] 26)) #[.int .i64 4,.string x,.slice A n c,.bool b,.string t] c0 0 ⟨#[]⟩ none 0 0:=PU w _ c0;change Code.wp _ _ _ _ (((w.alloc (.cells #[.int .i64 4,.string x,.slice A n c,.bool b,.string t] 37)).alloc (.cells #[.int .u8 0,.int .u64 0,.string ⟨#[]⟩,.slice none 0 0] 26)).alloc (.cells #[.int .u8 c0,.int .u64 0,.string ⟨#[]⟩,.slice none 0 0] 26));generalize ((w.alloc (.cells #[.int .i64 4,.string x,.slice A n c,.bool b,.string t] 37)).alloc (.cells #[.int .u8 0,.int .u64 0,.string ⟨#[]⟩,.slice none 0 0] 26)).alloc (.cells #[.int .u8 c0,.int .u64 0,.string ⟨#[]⟩,.slice none 0 0] 26)=wb at *;have HVW:=Hd hvw;clear hvw;obtain⟨⟨q0,q1,q2⟩,⟨z0,z1,z2,z3⟩,⟨y0,y1,y2,y3⟩,⟨f0,f1,f2,f3⟩,g1,g2,g3⟩:=HVW.out.cells
 cases hq:(x.toList==[116,114,117,101]) with
 |true=>go_wp2_with fail;refine bodyPost_ret (v:=.tuple #[.agg #[.int .u8 c0,.int .u64 1,.string ⟨#[]⟩,.slice none 0 0],.bool true]) (by simp[results,Tryz.results27,go_sem,z0,z1,z2,z3]) rfl ?_;exact⟨c0,1,⟨#[]⟩,none,0,0,true,rfl,λ_=>trivial,AM (HVW.out.setN 1).below Om _ _ _ _⟩
 |false=>go_wp2_with fail;refine bodyPost_ret (v:=.tuple #[.agg #[.int .u8 c0,.int .u64 0,.string ⟨#[]⟩,.slice none 0 0],.bool true]) (by simp[results,Tryz.results27,go_sem,z0,z1,z2,z3]) rfl ?_;exact⟨c0,0,⟨#[]⟩,none,0,0,true,rfl,λ_=>trivial,AM HVW.out.below Om _ _ _ _⟩
def AFt(T F:Nat->Nat)(N:Nat):Prop:=∀(p:Ph),p.sz<=N->p.sz<=5000->p.dd<=2->p.good->p.lv QT->∀(w:World) (M:Nat),MX T F w M->FN w->∀(k:Nat) (x:ByteArray) (A:Option Addr) (n c:Nat) (b:Bool) (t sig:ByteArray),sig.size<=100000->CO p sig->PhAt w (λ_=>True) (NX k x A n c b t) p->
 Calls Tryz.prog 27 #[.agg #[.int .i64 k,.string x,.slice A n c,.bool b,.string t],.string sig] w (UI (NU T F p sig) w)
theorem ALn(T F:Nat->Nat){N:Nat}(ih:AFt T F N){kids:List Ph}{rows:Nat->List Value}(hsz:K8 kids<=N)(h5:K8 kids<=5000)(hdd:H8 kids<=2)(hg:FB kids)(hlv:lvL QT kids)(x:ByteArray)(A:Option Addr)(n c:Nat)(b:Bool)(t sig:ByteArray)(hs1:1<=sig.size)(hsL:sig.size<=100000)(w:World)(M:Nat)(hT:MX T F w M)(hE:FN w)(hn:n=kids.length)
 (hrow:w.ownsRow 0 37 5 (.slice A n c) n ((List.range n).flatMap rows)) (hkid:∀(i:Nat) (h:i<kids.length),PhAt w (λ_=>True) (rows i) kids[i]) (hk1:kids.length=1):Calls Tryz.prog 27 #[.agg #[.int .i64 9,.string x,.slice A n c,.bool b,.string t],.string sig] w (UI (AL1 T F kids) w):=by
 have HVV:=Hd (show ∀(h:0<kids.length) (z:ByteArray),CO kids[0] z->NU T F kids[0] z->AL1 T F kids from λh z h1 h2=>by
  match kids,hk1 with
  |[p],_=>exact⟨z,h1,h2⟩)
 have hn5:n<=5000:=by have:=GP kids;omega
 have HN:=Hd hn
 have HRow:=Hd hrow
 have HK:=Hd hkid
 have HVC:=Hd (λ(i:Nat) (h:i<kids.length) (sg:ByteArray) (hs:sg.size<=100000) (hf:CO kids[i] sg) (W:World) (hW:Below w.heap.size w W) (k1:Nat) (x1:ByteArray) (A1:Option Addr) (n1 c1:Nat) (b1:Bool) (t1:ByteArray) (hat:PhAt W (λ_=>True) (NX k1 x1 A1 n1 c1 b1 t1) kids[i])=>ih kids[i] (by have:=CW kids i h;omega) (by have:=CW kids i h;omega) (by have:=DF kids i h;omega) (BD kids i h hg) (T4 kids i h hlv) W M (D2 hT hW) (BH hE hW) k1 x1 A1 n1 c1 b1 t1 sg hs hf hat)
 have HDC:=Hd (λ(i:Nat) (h:i<kids.length) (W:World) (k1:Nat) (x1:ByteArray) (A1:Option Addr) (n1 c1:Nat) (b1:Bool) (t1:ByteArray) (hat:PhAt W (λ_=>True) (NX k1 x1 A1 n1 c1 b1 t1) kids[i])=>(⟨OP _ kids[i] Nl (by have:=CW kids i h;omega) (by have:=DF kids i h;omega) (BD kids i h hg) W k1 x1 A1 n1 c1 b1 t1 hat,λsg hs=>NH _ kids[i] Nl W k1 x1 A1 n1 c1 b1 t1 sg (M4 _ (BD kids i h hg)) hs hat,SY (by have:=CW kids i h;omega) (by have:=DF kids i h;omega)⟩:Calls Tryz.prog 25 #[.agg #[.int .i64 k1,.string x1,.slice A1 n1 c1,.bool b1,.string t1]] W (AIf (λz=>z.size<=Lm kids[i].sz kids[i].dd) W)/\(∀sg:ByteArray,sg.size<=100000->Calls Tryz.prog 26 #[.agg #[.int .i64 k1,.string x1,.slice A1 n1 c1,.bool b1,.string t1],.string sg] W (ID (λr=>r=true->CO kids[i] sg) W))/\Lm kids[i].sz kids[i].dd<=70000))
 clear ih hsz h5 hdd hg hlv hT hE hn hrow hkid
 have hk0:0<kids.length:=Om
 have hn0:(0:Int)<(n:Int):=by have:=HN.out;omega
 have hwA:0<n:=by have:=HN.out;omega
 have hs0:(0:Int)<(sig.size:Int):=Om
 have hp0:0<sig.size:=Om
 have e0:=AJ hp0
 generalize AA sig 0=c0 at *
 go_enter Tryz.func27,Tryz.ntmps27
 go_upto_region 2 with fail
 have hvw:VW w (((w.alloc (.cells #[.int .i64 9,.string x,.slice A n c,.bool b,.string t] 37)).alloc (.cells #[.int .u8 0,.int .u64 0,.string ⟨#[]⟩,.slice none 0 0] 26)).alloc (.cells #[.int .u8 c0,.int .u64 0,.string ⟨#[]⟩,.slice none 0 0] 26)) #[.int .i64 9,.string x,.slice A n c,.bool b,.string t] c0 0 ⟨#[]⟩ none 0 0:=PU w _ c0
 change Code.wp _ _ _ _ (((w.alloc (.cells #[.int .i64 9,.string x,.slice A n c,.bool b,.string t] 37)).alloc (.cells #[.int .u8 0,.int .u64 0,.string ⟨#[]⟩,.slice none 0 0] 26)).alloc (.cells #[.int .u8 c0,.int .u64 0,.string ⟨#[]⟩,.slice none 0 0] 26))
 generalize ((w.alloc (.cells #[.int .i64 9,.string x,.slice A n c,.bool b,.string t] 37)).alloc (.cells #[.int .u8 0,.int .u64 0,.string ⟨#[]⟩,.slice none 0 0] 26)).alloc (.cells #[.int .u8 c0,.int .u64 0,.string ⟨#[]⟩,.slice none 0 0] 26)=wb at *
 have HVW:=Hd hvw
 clear hvw
 obtain⟨⟨q0,q1,q2⟩,⟨z0,z1,z2,z3⟩,⟨y0,y1,y2,y3⟩,⟨f0,f1,f2,f3⟩,g1,g2,g3⟩:=HVW.out.cells
 obtain⟨A',c',he,hA⟩:=AF HRow.out
 simp only[Value.slice.injEq]at he
 obtain⟨rfl,_,rfl⟩:=he
 obtain⟨g,rfl,hgl⟩:=hA hwA
 clear hA
 obtain⟨k1,x1,A1,n1,cc1,b1,t1,hat1,c10,c11,c12,c13,c14⟩:=PhAt.kid HN.out (AD HRow.out HVW.out.below) (λi h=>(HK.out i h).keep HVW.out.below) 0 hk0
 have HAT1:=Hd (λ(W:World) (hW:Below wb.heap.size wb W)=>hat1.keep hW)
 clear hat1
 simp only[Nat.zero_mul,Nat.zero_add]at c10 c11 c12 c13 c14
 go_upto_region 23 with(go_at_call 25;refine((HDC.out 0 hk0 _ k1 x1 A1 n1 cc1 b1 t1 (HAT1.out _ (by first|exact Bl|exact Bl.drew))).1).mono ?_;rintro e w2 ⟨z,ok,said,rfl,hz,hb2⟩;have HZ:=Hd hz;clear hz)
 have hbb2:Below wb.heap.size wb w2:=by first|exact hb2|exact(Bl.drew).trans hb2
 have HV2:=Hd (HVW.out.call hbb2)
 have hz7:z.size<=100000:=by have:=HZ.out;have:=(HDC.out 0 hk0 _ k1 x1 A1 n1 cc1 b1 t1 (HAT1.out _ hbb2)).2.2;omega
 have hgb:g<wb.heap.size:=by have:=HVW.out.size;omega
 replace c10:=(hbb2.cell (p:=⟨g,0,none⟩) hgb).trans c10
 replace c11:=(hbb2.cell (p:=⟨g,1,none⟩) hgb).trans c11
 replace c12:=(hbb2.cell (p:=⟨g,2,none⟩) hgb).trans c12
 replace c13:=(hbb2.cell (p:=⟨g,3,none⟩) hgb).trans c13
 replace c14:=(hbb2.cell (p:=⟨g,4,none⟩) hgb).trans c14
 have HB2:=Hd hbb2
 clear hb2 hbb2
 clear q0 q1 q2 z0 z1 z2 z3 y0 y1 y2 y3 f0 f1 f2 f3 g1 g2 g3
 obtain⟨⟨q0,q1,q2⟩,⟨z0,z1,z2,z3⟩,⟨y0,y1,y2,y3⟩,⟨f0,f1,f2,f3⟩,g1,g2,g3⟩:=HV2.out.cells
 cases ok with
 |false=>
  go_wp2_with fail
  refine bodyPost_ret (v:=.tuple #[.agg #[.int .u8 0,.int .u64 0,.string ⟨#[]⟩,.slice none 0 0],.bool false]) (by simp[results,Tryz.results27,go_sem,z0,z1,z2,z3]) rfl ?_
  exact⟨0,0,⟨#[]⟩,none,0,0,false,rfl,λh=>by simp at h,AM HV2.out.below Om _ _ _ _⟩
 |true=>
  go_upto_if 104 with(go_at_call 26;refine((HDC.out 0 hk0 _ k1 x1 A1 n1 cc1 b1 t1 (HAT1.out _ (by first|exact HB2.out|exact HB2.out.drew))).2.1 z hz7).mono ?_;rintro e w3 ⟨rb,rfl,hq,hb3⟩;have HQ:=Hd hq;clear hq)
  have hbb3:Below w2.heap.size w2 w3:=by first|exact hb3|exact(Bl.drew).trans hb3
  have HV3:=Hd (HV2.out.call hbb3)
  have hgb2:g<w2.heap.size:=by have:=HB2.out.size;omega
  replace c10:=(hbb3.cell (p:=⟨g,0,none⟩) hgb2).trans c10
  replace c11:=(hbb3.cell (p:=⟨g,1,none⟩) hgb2).trans c11
  replace c12:=(hbb3.cell (p:=⟨g,2,none⟩) hgb2).trans c12
  replace c13:=(hbb3.cell (p:=⟨g,3,none⟩) hgb2).trans c13
  replace c14:=(hbb3.cell (p:=⟨g,4,none⟩) hgb2).trans c14
  have HB3:=Hd (HB2.out.trans (hbb3.mono HB2.out.size))
  clear hb3 hbb3
  clear q0 q1 q2 z0 z1 z2 z3 y0 y1 y2 y3 f0 f1 f2 f3 g1 g2 g3
  obtain⟨⟨q0,q1,q2⟩,⟨z0,z1,z2,z3⟩,⟨y0,y1,y2,y3⟩,⟨f0,f1,f2,f3⟩,g1,g2,g3⟩:=HV3.out.cells
  cases rb with
  |false=>
   go_wp2_with fail
   refine bodyPost_ret (v:=.tuple #[.agg #[.int .u8 0,.int .u64 0,.string ⟨#[]⟩,.slice none 0 0],.bool false]) (by simp[results,Tryz.results27,go_sem,z0,z1,z2,z3]) rfl ?_
   exact⟨0,0,⟨#[]⟩,none,0,0,false,rfl,λh=>by simp at h,AM HV3.out.below Om _ _ _ _⟩
  |true=>
   have HFT:=Hd (HQ.out (by first|exact trivial|rfl))
   clear HQ
   go_upto_region 26 with(go_at_call 27;refine(HVC.out 0 hk0 z hz7 HFT.out _ (by first|exact HV3.out.below|exact HV3.out.below.drew) k1 x1 A1 n1 cc1 b1 t1 (HAT1.out _ (by first|exact HB3.out|exact HB3.out.drew))).mono ?_;rintro e w4 ⟨K,N2,S,A2,n2,c2,ok2,rfl,hok,hb4⟩;have HOK:=Hd hok;have HV4:=Hd (HV3.out.call (by first|exact hb4|exact(Bl.drew).trans hb4));clear hok hb4)
   have hnew:=heap_alloc_new w4 (.cells #[.int .u8 K,.int .u64 N2,.string S,.slice A2 n2 c2] 26)
   have HV5:=Hd (HV4.out.call ((Below.refl w4.heap.size w4).alloc Nl (.cells #[.int .u8 K,.int .u64 N2,.string S,.slice A2 n2 c2] 26)))
   generalize w4.alloc (.cells #[.int .u8 K,.int .u64 N2,.string S,.slice A2 n2 c2] 26)=w5 at *
   obtain⟨p0,p1,p2,p3⟩:=A5 hnew
   clear hnew c10 c11 c12 c13 c14
   clear q0 q1 q2 z0 z1 z2 z3 y0 y1 y2 y3 f0 f1 f2 f3 g1 g2 g3
   obtain⟨⟨q0,q1,q2⟩,⟨z0,z1,z2,z3⟩,⟨y0,y1,y2,y3⟩,⟨f0,f1,f2,f3⟩,g1,g2,g3⟩:=HV5.out.cells
   have HV5a:=Hd (HV5.out.call ((Below.refl w5.heap.size w5).alloc Nl (.cells #[.int .u8 K,.int .u64 N2,.string S,.slice A2 n2 c2] 26)))
   obtain⟨⟨q0,q1,q2⟩,⟨z0,z1,z2,z3⟩,⟨y0,y1,y2,y3⟩,⟨f0,f1,f2,f3⟩,g1,g2,g3⟩:=HV5a.out.cells
   go_upto_region 27 with fail
   have HV6:=Hd (HV5a.out.setK (some ⟨w5.heap.size,0,none⟩) 1 1)
   change Code.wp _ _ _ _ ((w5.alloc (.cells #[.int .u8 K,.int .u64 N2,.string S,.slice A2 n2 c2] 26)).setCell ⟨w.heap.size+2,3,none⟩ (.slice (some ⟨w5.heap.size,0,none⟩) 1 1))
   generalize (w5.alloc (.cells #[.int .u8 K,.int .u64 N2,.string S,.slice A2 n2 c2] 26)).setCell ⟨w.heap.size+2,3,none⟩ (.slice (some ⟨w5.heap.size,0,none⟩) 1 1)=w6 at *
   clear p0 p1 p2 p3
   clear q0 q1 q2 z0 z1 z2 z3 y0 y1 y2 y3 f0 f1 f2 f3 g1 g2 g3
   obtain⟨⟨q0,q1,q2⟩,⟨z0,z1,z2,z3⟩,⟨y0,y1,y2,y3⟩,⟨f0,f1,f2,f3⟩,g1,g2,g3⟩:=HV6.out.cells
   go_wp2_with fail
   refine bodyPost_ret (v:=.tuple #[.agg #[.int .u8 c0,.int .u64 0,.string ⟨#[]⟩,.slice (some ⟨w5.heap.size,0,none⟩) 1 1],.bool ok2]) (by simp[results,Tryz.results27,go_sem,z0,z1,z2,z3]) rfl ?_
   exact⟨c0,0,⟨#[]⟩,(some ⟨w5.heap.size,0,none⟩),1,1,ok2,rfl,λh=>HVV.out hk0 z HFT.out (HOK.out h),AM HV6.out.below Om _ _ _ _⟩
theorem ALr(T F:Nat->Nat){N:Nat}(ih:AFt T F N){kids:List Ph}{rows:Nat->List Value}(hsz:K8 kids<=N)(h5:K8 kids<=5000)(hdd:H8 kids<=2)(hg:FB kids)(hlv:lvL QT kids)(x:ByteArray)(A:Option Addr)(n c:Nat)(b:Bool)(t sig:ByteArray)(hs1:1<=sig.size)(hsL:sig.size<=100000)(w:World)(M:Nat)(hT:MX T F w M)(hE:FN w)(hn:n=kids.length)
 (hrow:w.ownsRow 0 37 5 (.slice A n c) n ((List.range n).flatMap rows)) (hkid:∀(i:Nat) (h:i<kids.length),PhAt w (λ_=>True) (rows i) kids[i]) (hs2:2<=sig.size) (hf:FI kids (sig.extract 1 sig.size)):Calls Tryz.prog 27 #[.agg #[.int .i64 5,.string x,.slice A n c,.bool b,.string t],.string sig] w (UI (GH T F kids (sig.extract 1 sig.size)) w):=by
 obtain⟨i0,hi,hz0,hz1,hz2⟩:=info_parts Tryz.info26
 have hxs:(sig.extract 1 sig.size).size<=100000:=by simp[ByteArray.size_extract];omega
 have HXS:=Hd hxs
 have HF:=Hd hf
 clear hf hxs
 have hn5:n<=5000:=by have:=GP kids;omega
 have HN:=Hd hn
 have HRow:=Hd hrow
 have HK:=Hd hkid
 have HVC:=Hd (λ(i:Nat) (h:i<kids.length) (sg:ByteArray) (hs:sg.size<=100000) (hf:CO kids[i] sg) (W:World) (hW:Below w.heap.size w W) (k1:Nat) (x1:ByteArray) (A1:Option Addr) (n1 c1:Nat) (b1:Bool) (t1:ByteArray) (hat:PhAt W (λ_=>True) (NX k1 x1 A1 n1 c1 b1 t1) kids[i])=>ih kids[i] (by have:=CW kids i h;omega) (by have:=CW kids i h;omega) (by have:=DF kids i h;omega) (BD kids i h hg) (T4 kids i h hlv) W M (D2 hT hW) (BH hE hW) k1 x1 A1 n1 c1 b1 t1 sg hs hf hat)
 have HDC:=Hd (λ(i:Nat) (h:i<kids.length) (W:World) (k1:Nat) (x1:ByteArray) (A1:Option Addr) (n1 c1:Nat) (b1:Bool) (t1:ByteArray) (hat:PhAt W (λ_=>True) (NX k1 x1 A1 n1 c1 b1 t1) kids[i])=>(⟨OP _ kids[i] Nl (by have:=CW kids i h;omega) (by have:=DF kids i h;omega) (BD kids i h hg) W k1 x1 A1 n1 c1 b1 t1 hat,λsg hs=>NH _ kids[i] Nl W k1 x1 A1 n1 c1 b1 t1 sg (M4 _ (BD kids i h hg)) hs hat,SY (by have:=CW kids i h;omega) (by have:=DF kids i h;omega)⟩:Calls Tryz.prog 25 #[.agg #[.int .i64 k1,.string x1,.slice A1 n1 c1,.bool b1,.string t1]] W (AIf (λz=>z.size<=Lm kids[i].sz kids[i].dd) W)/\(∀sg:ByteArray,sg.size<=100000->Calls Tryz.prog 26 #[.agg #[.int .i64 k1,.string x1,.slice A1 n1 c1,.bool b1,.string t1],.string sg] W (ID (λr=>r=true->CO kids[i] sg) W))/\Lm kids[i].sz kids[i].dd<=70000))
 clear ih hsz h5 hdd hg hlv hT hE hn hrow hkid
 have hi1:(1:Int)<=(sig.size:Int):=Om
 have hs0:(0:Int)<(sig.size:Int):=Om
 have hp0:0<sig.size:=Om
 have e0:=AJ hp0
 generalize AA sig 0=c0 at *
 go_enter Tryz.func27,Tryz.ntmps27
 go_upto_region 2 with fail
 have hvw:VW w (((w.alloc (.cells #[.int .i64 5,.string x,.slice A n c,.bool b,.string t] 37)).alloc (.cells #[.int .u8 0,.int .u64 0,.string ⟨#[]⟩,.slice none 0 0] 26)).alloc (.cells #[.int .u8 c0,.int .u64 0,.string ⟨#[]⟩,.slice none 0 0] 26)) #[.int .i64 5,.string x,.slice A n c,.bool b,.string t] c0 0 ⟨#[]⟩ none 0 0:=PU w _ c0
 change Code.wp _ _ _ _ (((w.alloc (.cells #[.int .i64 5,.string x,.slice A n c,.bool b,.string t] 37)).alloc (.cells #[.int .u8 0,.int .u64 0,.string ⟨#[]⟩,.slice none 0 0] 26)).alloc (.cells #[.int .u8 c0,.int .u64 0,.string ⟨#[]⟩,.slice none 0 0] 26))
 generalize ((w.alloc (.cells #[.int .i64 5,.string x,.slice A n c,.bool b,.string t] 37)).alloc (.cells #[.int .u8 0,.int .u64 0,.string ⟨#[]⟩,.slice none 0 0] 26)).alloc (.cells #[.int .u8 c0,.int .u64 0,.string ⟨#[]⟩,.slice none 0 0] 26)=wb at *
 have HVW:=Hd hvw
 clear hvw
 obtain⟨⟨q0,q1,q2⟩,⟨z0,z1,z2,z3⟩,⟨y0,y1,y2,y3⟩,⟨f0,f1,f2,f3⟩,g1,g2,g3⟩:=HVW.out.cells
 generalize hS1:sig.extract 1 sig.size=S1 at *
 go_upto_region 29 with fail
 have HV0:=Hd (HVW.out.setS (sig.extract 1 sig.size))
 rw[hS1]at HV0
 clear q0 q1 q2 z0 z1 z2 z3 y0 y1 y2 y3 f0 f1 f2 f3 g1 g2 g3
 clear HVW
 have hS2:sig.extract 1 (sig.size)=S1:=hS1
 try rw[hS2]
 clear hS1 hS2
 go_wp2_with fail
 go_loopw [16] (λv16 wr=>∃(m:Nat) (A':Option Addr) (q cc:Nat),v16=.int .i64 m/\m<=n/\q<=m/\Hid (VW w wr #[.int .i64 5,.string x,.slice A n c,.bool b,.string t] c0 0 S1 A' q cc)/\Hid (∃xs,wr.ownsRow (w.heap.size+3) 26 4 (.slice A' q cc) q xs)/\Hid (GH T F (kids.drop m) S1->GH T F kids S1)) (λv _=>n-(intOf v).toNat)
 case atStart=>exact⟨0,none,0,0,rfl,Nat.zero_le _,Nl,HV0,⟨[],rfl,.inl ⟨rfl,rfl⟩⟩,λh=>h⟩
 obtain⟨m,A',q,cc,rfl,hm,hqm,HV,HR,HM⟩:=hrel
 obtain⟨⟨q0,q1,q2⟩,⟨z0,z1,z2,z3⟩,⟨y0,y1,y2,y3⟩,⟨f0,f1,f2,f3⟩,g1,g2,g3⟩:=HV.out.cells
 have hws:=HV.out.size
 by_cases hlt:(m:Int)<(n:Int)
 .have hmn:m<kids.length:=by have:=HN.out;omega
  obtain⟨A2',c2',he,hA⟩:=AF HRow.out;simp only[Value.slice.injEq]at he;obtain⟨rfl,_,rfl⟩:=he;obtain⟨g,rfl,hgl⟩:=hA Om;clear hA;obtain⟨k1,x1,A1,n1,cc1,b1,t1,hat1,c10,c11,c12,c13,c14⟩:=PhAt.kid HN.out (AD HRow.out HV.out.below) (λi h=>(HK.out i h).keep HV.out.below) m hmn;have HAT1:=Hd (λ(W:World) (hW:Below wr.heap.size wr W)=>hat1.keep hW);clear hat1;have HC:=Hd (λ(W:World) (hW:Below wr.heap.size wr W)=>HVC.out m hmn S1 HXS.out (Z1 HF.out m hmn) W (HV.out.below.trans (hW.mono HV.out.below.size)) k1 x1 A1 n1 cc1 b1 t1 (HAT1.out W hW));clear HAT1;go_upto_region 33 with fail;have hgw:g<wr.heap.size:=Om;have HSK:=Hd (λ(W:World) (hW:Below wr.heap.size wr W)=>(⟨(hW.cell (p:=⟨w.heap.size,2,none⟩) (by show w.heap.size<_;omega)).trans q2,(hW.cell (p:=⟨g,m*5,none⟩) hgw).trans c10,(hW.cell (p:=⟨g,m*5+1,none⟩) hgw).trans c11,(hW.cell (p:=⟨g,m*5+2,none⟩) hgw).trans c12,(hW.cell (p:=⟨g,m*5+3,none⟩) hgw).trans c13,(hW.cell (p:=⟨g,m*5+4,none⟩) hgw).trans c14,(hW.cell (p:=⟨w.heap.size+2,2,none⟩) (by show w.heap.size+2<_;omega)).trans y2⟩:W.cell? ⟨w.heap.size,2,none⟩=some (.slice (some ⟨g,0,none⟩) n c)/\W.cell? ⟨g,m*5,none⟩=some (.int .i64 k1)/\W.cell? ⟨g,m*5+1,none⟩=some (.string x1)/\W.cell? ⟨g,m*5+2,none⟩=some (.slice A1 n1 cc1)/\W.cell? ⟨g,m*5+3,none⟩=some (.bool b1)/\W.cell? ⟨g,m*5+4,none⟩=some (.string t1)/\W.cell? ⟨w.heap.size+2,2,none⟩=some (.string S1)));go_region_held3 (λW=>W.cell? ⟨w.heap.size,2,none⟩=some (.slice (some ⟨g,0,none⟩) n c)/\W.cell? ⟨g,m*5,none⟩=some (.int .i64 k1)/\W.cell? ⟨g,m*5+1,none⟩=some (.string x1)/\W.cell? ⟨g,m*5+2,none⟩=some (.slice A1 n1 cc1)/\W.cell? ⟨g,m*5+3,none⟩=some (.bool b1)/\W.cell? ⟨g,m*5+4,none⟩=some (.string t1)/\W.cell? ⟨w.heap.size+2,2,none⟩=some (.string S1)) (exact HSK.out _ (by first|exact Bl.drew|exact(Bl.drew).alloc Nl _|exact(Bl.alloc Nl _).drew|exact HB3.out|exact HB3.out.alloc HB3.out.size _|exact MD HB3.out Nl 0 _ _ _ _|exact MD HB3.out HB3.out.size 0 _ _ _ _|exact MD (HB3.out.alloc HB3.out.size _) HB3.out.size 0 _ _ _ _)) ((go_at_call 27;refine(HC.out _ (by first|exact Bl.drew|exact(Bl.drew).alloc Nl _|exact(Bl.alloc Nl _).drew)).mono ?_;rintro e w3 ⟨K,N2,S,A2,n2,c2,ok2,rfl,hok,hb3⟩;have HOK:=Hd hok;(first|(have hnw:=(hb3.block wr.heap.size (by first|(have h:=D0 wr (.cells #[.int .u8 0,.int .u64 0,.string ⟨#[]⟩,.slice none 0 0] 26);rw[h];omega)|simp)).trans (heap_alloc_new wr (.cells #[.int .u8 0,.int .u64 0,.string ⟨#[]⟩,.slice none 0 0] 26));obtain⟨p0,p1,p2,p3⟩:=A5 hnw;have o0:=AB hnw 0;have o1:=AB hnw 1;have o2:=AB hnw 2;have o3:=AB hnw 3;have HNW:=Hd hnw;have HB3:=Hd ((((Below.refl wr.heap.size wr).alloc Nl (.cells #[.int .u8 0,.int .u64 0,.string ⟨#[]⟩,.slice none 0 0] 26)).drew).trans (hb3.mono (by first|(have h:=D0 wr (.cells #[.int .u8 0,.int .u64 0,.string ⟨#[]⟩,.slice none 0 0] 26);rw[h];omega)|simp)));clear hnw)|(have HB3:=Hd (((Below.refl wr.heap.size wr).drew).trans hb3)));clear hok hb3))
  .have hnew:=heap_alloc_new w3 (.cells #[.int .u8 K,.int .u64 N2,.string S,.slice A2 n2 c2] 26)
   have HB4:=Hd (HB3.out.alloc HB3.out.size (.cells #[.int .u8 K,.int .u64 N2,.string S,.slice A2 n2 c2] 26));generalize w3.alloc (.cells #[.int .u8 K,.int .u64 N2,.string S,.slice A2 n2 c2] 26)=w4 at *;obtain⟨p0,p1,p2,p3⟩:=A5 (show w4.heap[w3.heap.size]?=some (.cells #[.int .u8 K,.int .u64 N2,.string S,.slice A2 n2 c2] 26 (0,0)) from hnew);have HV4:=Hd (HV.out.call HB4.out);clear hnew c10 c11 c12 c13 c14 HSK;clear q0 q1 q2 z0 z1 z2 z3 y0 y1 y2 y3 f0 f1 f2 f3 g1 g2 g3;obtain⟨⟨q0,q1,q2⟩,⟨z0,z1,z2,z3⟩,⟨y0,y1,y2,y3⟩,⟨f0,f1,f2,f3⟩,g1,g2,g3⟩:=HV4.out.cells
   cases ok2 with
   |false=>go_wp2_with fail;refine bodyPost_ret (v:=.tuple #[.agg #[.int .u8 0,.int .u64 0,.string ⟨#[]⟩,.slice none 0 0],.bool false]) (by simp[results,Tryz.results27,go_sem,z0,z1,z2,z3]) rfl ?_;exact⟨0,0,⟨#[]⟩,none,0,0,false,rfl,λh=>by simp at h,AM HV4.out.below Om _ _ _ _⟩
   |true=>
    have HM2:Hid (GH T F (kids.drop (m+1)) S1->GH T F kids S1):=λh=>HM.out (TA T F kids S1 m hmn (HOK.out (by first|exact trivial|rfl)) h);obtain⟨xs,hrow⟩:=HR.out;have hrow4:=AD hrow HB4.out;have hws4:=HV4.out.size;have hbl:Below (w.heap.size+3) w4 (w4.alloc (.cells #[.int .u8 K,.int .u64 N2,.string S,.slice A2 n2 c2] 26)):=Bl.alloc hws4 _;have HR4:=Hd (AD hrow4 (Bl.alloc Nl (.cells #[.int .u8 K,.int .u64 N2,.string S,.slice A2 n2 c2] 26)));have HBL:=Hd hbl;clear hrow hrow4 HR HM hbl;go_wp2_with (at_builtin;refine wpList_append_lies _ rfl _ _ 24 rfl (w.heap.size+3) 26 i0 (.agg #[.int .u8 0,.int .u64 0,.string ⟨#[]⟩,.slice none 0 0]) 4 56 Tryz.underlying24 hi hz0 hz1 hz2 rfl De _ _ _ rfl HR4.out ⟨w4.heap.size,0,none⟩ 1 1 [.int .u8 K,.int .u64 N2,.string S,.slice A2 n2 c2] rfl rfl ?c1b ?c2b ?c3b ?c4b ?c5b ?c6b (w4.heap.size+1) ?c7b ?_)
    try (case c1b=>exact World.news_of_block (cs:=#[.int .u8 K,.int .u64 N2,.string S,.slice A2 n2 c2]) (t:=26) (fr:=(0,0)) (heap_alloc_new w4 _))
    try (case c2b=>simp[Value.oneCell'])
    try (case c3b=>decide)
    try (case c4b=>unfold maxLen;omega)
    try (case c5b=>omega)
    try (case c6b=>first|omega|(simp<;>omega))
    try (case c7b=>simp)
    intro gg cap w5 hown5 hg5 hat5 hlt5;have HV5:=Hd (HV4.out.step (HBL.out.grown hg5 (by simp;omega) (AG HR4.out)));have HO5:=Hd hown5;clear hown5 hg5 hat5 hlt5 p0 p1 p2 p3;clear q0 q1 q2 z0 z1 z2 z3 y0 y1 y2 y3 f0 f1 f2 f3 g1 g2 g3;obtain⟨⟨q0,q1,q2⟩,⟨z0,z1,z2,z3⟩,⟨y0,y1,y2,y3⟩,⟨f0,f1,f2,f3⟩,g1,g2,g3⟩:=HV5.out.cells;have HV6:=Hd (HV5.out.setK (some ⟨gg,0,none⟩) (q+1) cap);go_wp2_with fail;go_roundw
    case rel=>exact⟨m+1,some ⟨gg,0,none⟩,q+1,cap,by go_num,Om,Om,HV6,⟨_,OY HO5.out Om 3 _⟩,HM2⟩
    simp[intOf];omega
  have hnew:=AH (AH (AH (AH HNW.out 0 (.int .u8 K)) 1 (.int .u64 N2)) 2 (.string S)) 3 (.slice A2 n2 c2);have HB4:=Hd (MD HB3.out Nl 0 (.int .u8 K) (.int .u64 N2) (.string S) (.slice A2 n2 c2));change Exit.then _ _ _ _ ((((w3.setCell ⟨wr.heap.size,0,none⟩ (.int .u8 K)).setCell ⟨wr.heap.size,1,none⟩ (.int .u64 N2)).setCell ⟨wr.heap.size,2,none⟩ (.string S)).setCell ⟨wr.heap.size,3,none⟩ (.slice A2 n2 c2));simp only[Nat.zero_add]at hnew HB4;generalize (((w3.setCell ⟨wr.heap.size,0,none⟩ (.int .u8 K)).setCell ⟨wr.heap.size,1,none⟩ (.int .u64 N2)).setCell ⟨wr.heap.size,2,none⟩ (.string S)).setCell ⟨wr.heap.size,3,none⟩ (.slice A2 n2 c2)=w4 at *;clear HNW p0 p1 p2 p3 o0 o1 o2 o3;obtain⟨p0,p1,p2,p3⟩:=A5 (show w4.heap[wr.heap.size]?=some (.cells #[.int .u8 K,.int .u64 N2,.string S,.slice A2 n2 c2] 26 (0,0)) from hnew);have HV4:=Hd (HV.out.call HB4.out);clear hnew c10 c11 c12 c13 c14 HSK;clear q0 q1 q2 z0 z1 z2 z3 y0 y1 y2 y3 f0 f1 f2 f3 g1 g2 g3;obtain⟨⟨q0,q1,q2⟩,⟨z0,z1,z2,z3⟩,⟨y0,y1,y2,y3⟩,⟨f0,f1,f2,f3⟩,g1,g2,g3⟩:=HV4.out.cells
  cases ok2 with
  |false=>go_wp2_with fail;refine bodyPost_ret (v:=.tuple #[.agg #[.int .u8 0,.int .u64 0,.string ⟨#[]⟩,.slice none 0 0],.bool false]) (by simp[results,Tryz.results27,go_sem,z0,z1,z2,z3]) rfl ?_;exact⟨0,0,⟨#[]⟩,none,0,0,false,rfl,λh=>by simp at h,AM HV4.out.below Om _ _ _ _⟩
  |true=>
   have HM2:Hid (GH T F (kids.drop (m+1)) S1->GH T F kids S1):=λh=>HM.out (TA T F kids S1 m hmn (HOK.out (by first|exact trivial|rfl)) h);obtain⟨xs,hrow⟩:=HR.out;have hrow4:=AD hrow HB4.out;have hws4:=HV4.out.size;have hbl:Below (w.heap.size+3) w4 (w4.alloc (.cells #[.int .u8 K,.int .u64 N2,.string S,.slice A2 n2 c2] 26)):=Bl.alloc hws4 _;have HR4:=Hd (AD hrow4 (Bl.alloc Nl (.cells #[.int .u8 K,.int .u64 N2,.string S,.slice A2 n2 c2] 26)));have HBL:=Hd hbl;clear hrow hrow4 HR HM hbl;go_wp2_with (at_builtin;refine wpList_append_lies _ rfl _ _ 24 rfl (w.heap.size+3) 26 i0 (.agg #[.int .u8 0,.int .u64 0,.string ⟨#[]⟩,.slice none 0 0]) 4 56 Tryz.underlying24 hi hz0 hz1 hz2 rfl De _ _ _ rfl HR4.out ⟨w4.heap.size,0,none⟩ 1 1 [.int .u8 K,.int .u64 N2,.string S,.slice A2 n2 c2] rfl rfl ?c1a ?c2a ?c3a ?c4a ?c5a ?c6a (w4.heap.size+1) ?c7a ?_)
   try (case c1a=>exact World.news_of_block (cs:=#[.int .u8 K,.int .u64 N2,.string S,.slice A2 n2 c2]) (t:=26) (fr:=(0,0)) (heap_alloc_new w4 _))
   try (case c2a=>simp[Value.oneCell'])
   try (case c3a=>decide)
   try (case c4a=>unfold maxLen;omega)
   try (case c5a=>omega)
   try (case c6a=>first|omega|(simp<;>omega))
   try (case c7a=>simp)
   intro gg cap w5 hown5 hg5 hat5 hlt5;have HV5:=Hd (HV4.out.step (HBL.out.grown hg5 (by simp;omega) (AG HR4.out)));have HO5:=Hd hown5;clear hown5 hg5 hat5 hlt5 p0 p1 p2 p3;clear q0 q1 q2 z0 z1 z2 z3 y0 y1 y2 y3 f0 f1 f2 f3 g1 g2 g3;obtain⟨⟨q0,q1,q2⟩,⟨z0,z1,z2,z3⟩,⟨y0,y1,y2,y3⟩,⟨f0,f1,f2,f3⟩,g1,g2,g3⟩:=HV5.out.cells;have HV6:=Hd (HV5.out.setK (some ⟨gg,0,none⟩) (q+1) cap);go_wp2_with fail;go_roundw
   case rel=>exact⟨m+1,some ⟨gg,0,none⟩,q+1,cap,by go_num,Om,Om,HV6,⟨_,OY HO5.out Om 3 _⟩,HM2⟩
   simp[intOf];omega
 go_wp2_with fail
 refine bodyPost_ret (v:=.tuple #[.agg #[.int .u8 c0,.int .u64 0,.string S1,.slice A' q cc],.bool true]) (by simp[results,Tryz.results27,go_sem,z0,z1,z2,z3]) rfl ?_
 exact⟨c0,0,S1,A',q,cc,true,rfl,λ_=>HM.out (by rw[List.drop_eq_nil_of_le (by have:=HN.out;omega)];exact trivial),AM HV.out.below Om _ _ _ _⟩
