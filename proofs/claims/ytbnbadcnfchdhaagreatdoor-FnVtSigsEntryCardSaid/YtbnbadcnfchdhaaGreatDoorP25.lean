/- Lemmas for FnVtSigsEntry; no conditions. -/
import Derived.Test.YtbnbadcnfchdhaaGreatDoorP24
set_option maxRecDepth 100000
set_option maxHeartbeats 16000000
set_option linter.all false
namespace Go.Proofs.YtbnbadcnfchdhaaGreatDoor
open Go.RowKit
def VtR(P:Prop)(w:World)(en:Ending)(w':World):Prop:=
 ∃(k:Int) (x:ByteArray) (A:Option Addr) (n c:Nat) (b:Bool) (t typ:ByteArray) (ok:Bool),en=.returned (.tuple #[.agg #[.int .i64 k,.string x,.slice A n c,.bool b,.string t],.string typ,.bool ok])/\(ok=true->P)/\Below w.heap.size w w'
theorem LH{w W:World}(hb:Below w.heap.size w W){b:Nat}(h:w.heap.size<=b)(v0 v1 v2 v3 v4:Value):Below w.heap.size w (((((W.setCell ⟨b,0,none⟩ v0).setCell ⟨b,1,none⟩ v1).setCell ⟨b,2,none⟩ v2).setCell ⟨b,3,none⟩ v3).setCell ⟨b,4,none⟩ v4):=
 (AM hb h v0 v1 v2 v3).setCell (p:=⟨b,4,none⟩) h _
theorem WP(T F:Nat->Nat)(hT8:∀i,T i<18446744073709551616)(hPl:∀i,i<23->GO (F i)=true)(s:ByteArray){w:World}{M:Nat}(hT:MX T F w M)(hE:FN w) :
 Calls Tryz.prog 9 #[.string s] w (VtR (s.size<=4096/\XK T F s) w):=by
 have h4:=heap_alloc_new w (.cells #[.int .i64 0,.string ⟨#[]⟩,.slice none 0 0,.bool false,.string ⟨#[]⟩] 37)
 have hb0:Below w.heap.size w (w.alloc (.cells #[.int .i64 0,.string ⟨#[]⟩,.slice none 0 0,.bool false,.string ⟨#[]⟩] 37)):=Bl.alloc Nl _
 have hs0:(w.alloc (.cells #[.int .i64 0,.string ⟨#[]⟩,.slice none 0 0,.bool false,.string ⟨#[]⟩] 37)).heap.size=w.heap.size+1:=by simp
 by_cases hs:(4096:Int)<(s.size:Int)
 .obtain⟨z0,z1,z2,z3,z4⟩:=AL h4
  have f0:=AB h4 0;have f1:=AB h4 1;have f2:=AB h4 2;have f3:=AB h4 3;have f4:=AB h4 4;clear hT hE hT8 hPl;go_enter Tryz.func9,Tryz.ntmps9;go_upto_region 1 with fail;generalize w.alloc (.cells #[.int .i64 0,.string ⟨#[]⟩,.slice none 0 0,.bool false,.string ⟨#[]⟩] 37)=wb at *;have HB0:=Hd hb0;go_wp2_with fail;refine bodyPost_ret (v:=.tuple #[.agg #[.int .i64 0,.string ⟨#[]⟩,.slice none 0 0,.bool false,.string ⟨#[]⟩],.string ⟨#[]⟩,.bool false]) (by simp[results,Tryz.results9,go_sem,z0,z1,z2,z3,z4]) rfl ?_;exact⟨0,⟨#[]⟩,none,0,0,false,⟨#[]⟩,⟨#[]⟩,false,rfl,λh=>by simp at h,LH HB0.out Nl _ _ _ _ _⟩
 have hs4:s.size<=4096:=Om
 have HRT:=Hd (λ(W:World) (hW:Below w.heap.size w W)=>N9 T F hT8 hPl s hs4 (D2 hT hW) (BH hE hW))
 have HTK:=Hd (λ(W:World)=>NE s Om W)
 have HTG:=Hd (λ(ts:List AW) (h:EJ s=some ts)=>RO (show s.size<=100000 by omega) h)
 clear hT hE hT8 hPl
 go_enter Tryz.func9,Tryz.ntmps9
 go_upto_region 1 with fail
 generalize w.alloc (.cells #[.int .i64 0,.string ⟨#[]⟩,.slice none 0 0,.bool false,.string ⟨#[]⟩] 37)=wb at *
 have HB0:=Hd hb0
 have H4:=Hd h4
 clear hb0 h4
 go_upto_region 4 with(go_at_call 5;refine(HRT.out _ (by first|exact HB0.out|exact HB0.out.drew)).mono ?_;rintro e w2 ⟨K,N,S,A,n,c,typ,ok,said,rfl,hok,hb2⟩;have HOK:=Hd hok;have HB2:=Hd (show Below wb.heap.size wb w2 from(by first|exact hb2|exact(Bl.drew).trans hb2));clear hok hb2)
 have h22:=HB2.out.size
 have hbk:Below w2.heap.size w2 (w2.alloc (.cells #[.int .u8 K,.int .u64 N,.string S,.slice A n c] 26)):=Bl.alloc Nl _
 generalize w2.alloc (.cells #[.int .u8 K,.int .u64 N,.string S,.slice A n c] 26)=w3 at *
 have HB3:=Hd (HB2.out.trans (hbk.mono h22))
 have h33:=HB3.out.size
 have hz3:=(HB3.out.block w.heap.size Om).trans H4.out
 obtain⟨z0,z1,z2,z3,z4⟩:=AL hz3
 have f0:=AB hz3 0
 have f1:=AB hz3 1
 have f2:=AB hz3 2
 have f3:=AB hz3 3
 have f4:=AB hz3 4
 have HBW3:=Hd (HB0.out.trans (HB3.out.mono Om))
 clear hbk hz3
 have hno:∀b1 b2:Bool,(b1=false\/b2=false)\/(b1=true/\b2=true):=De
 cases ok with
 |false=>
  go_wp2_with fail
  refine bodyPost_ret (v:=.tuple #[.agg #[.int .i64 0,.string ⟨#[]⟩,.slice none 0 0,.bool false,.string ⟨#[]⟩],.string ⟨#[]⟩,.bool false]) (by simp[results,Tryz.results9,go_sem,z0,z1,z2,z3,z4]) rfl ?_
  exact⟨0,⟨#[]⟩,none,0,0,false,⟨#[]⟩,⟨#[]⟩,false,rfl,λh=>by simp at h,LH HBW3.out Nl _ _ _ _ _⟩
 |true=>
  cases said with
  |false=>
   go_wp2_with fail
   refine bodyPost_ret (v:=.tuple #[.agg #[.int .i64 0,.string ⟨#[]⟩,.slice none 0 0,.bool false,.string ⟨#[]⟩],.string ⟨#[]⟩,.bool false]) (by simp[results,Tryz.results9,go_sem,z0,z1,z2,z3,z4]) rfl ?_
   exact⟨0,⟨#[]⟩,none,0,0,false,⟨#[]⟩,⟨#[]⟩,false,rfl,λh=>by simp at h,LH HBW3.out Nl _ _ _ _ _⟩
  |true=>
   have HRD:=Hd (HOK.out (by first|exact trivial|rfl))
   obtain⟨ts,_,_,_,hts,_⟩:=HRD.out
   obtain⟨hne,hgood,_,_⟩:=HTG.out ts hts
   have HGD:=Hd hgood
   have HTS:=Hd hts
   clear hgood hts hne HOK HTG HRT
   go_upto_region 7 with(go_at_call 10;refine(HTK.out _).mono ?_;rintro e w4 ⟨A4,n4,c4,ok4,rfl,hb4,hm⟩;have HM:=Hd hm;have HB4:=Hd (HB3.out.trans ((by first|exact hb4|exact(Bl.drew).trans hb4:Below w3.heap.size w3 w4).mono h33));clear hm hb4)
   have hm:=HM.out
   rw[HTS.out]at hm
   obtain⟨_,hn4,hn5,hrow⟩:=hm
   have h44:=HB4.out.size
   have HPC:=Hd (λ(W:World) (hW:Below w4.heap.size w4 W)=>N3 hn4 Om (BF (AD hrow hW) (Nat.zero_le _)) HGD.out)
   clear HM hn4 hn5 hrow z0 z1 z2 z3 z4 f0 f1 f2 f3 f4
   go_upto_region 8 with(go_at_call 18;refine(HPC.out _ (by first|exact Bl|exact Bl.drew)).mono ?_;rintro e w5 ⟨k1,x1,A1,n1,c1,bt,t,ok5,rfl,hb5,hp⟩;have HP:=Hd hp;have HB5:=Hd (HB4.out.trans ((by first|exact hb5|exact(Bl.drew).trans hb5:Below w4.heap.size w4 w5).mono h44));clear hp hb5)
   have h55:=HB5.out.size
   obtain⟨p,hat,_⟩:=HP.out
   have hnew:=heap_alloc_new w5 (.cells #[.int .i64 k1,.string x1,.slice A1 n1 c1,.bool bt,.string t] 37)
   have hbk:Below w5.heap.size w5 (w5.alloc (.cells #[.int .i64 k1,.string x1,.slice A1 n1 c1,.bool bt,.string t] 37)):=Bl.alloc Nl _
   have hks:(w5.alloc (.cells #[.int .i64 k1,.string x1,.slice A1 n1 c1,.bool bt,.string t] 37)).heap.size=w5.heap.size+1:=by simp
   generalize w5.alloc (.cells #[.int .i64 k1,.string x1,.slice A1 n1 c1,.bool bt,.string t] 37)=w6 at *
   have HHO:=Hd (λ(W:World) (hW:Below w6.heap.size w6 W)=>J9 _ p Nl W k1 x1 A1 n1 c1 bt t ((hat.keep hbk).keep hW).any)
   have HB6:=Hd (HB5.out.trans (hbk.mono h55))
   have hz6:=(HB6.out.block w.heap.size Om).trans H4.out
   have HNW:=Hd hnew
   obtain⟨p0,p1,p2,p3,p4⟩:=AL hnew
   obtain⟨z0,z1,z2,z3,z4⟩:=AL hz6
   have HZ6:=Hd hz6
   clear hat hbk hz6 hnew HP
   have HHOL:∃hol,hol=MY p:=⟨_,rfl⟩
   obtain⟨hol,hhol⟩:=HHOL
   rw[<-hhol]at HHO
   clear hhol
   go_region_with ((go_at_call 24;refine(HHO.out _ (by first|exact Bl.drew)).mono ?_;rintro e w7 ⟨rfl,hb7⟩;have HB7:=Hd (show Below w6.heap.size w6 w7 from(Bl.drew).trans hb7);have hz7:=(HB7.out.block w.heap.size Om).trans HZ6.out;have hp7:=(HB7.out.block w5.heap.size Om).trans HNW.out;clear p0 p1 p2 p3 p4 z0 z1 z2 z3 z4;obtain⟨p0,p1,p2,p3,p4⟩:=AL hp7;obtain⟨z0,z1,z2,z3,z4⟩:=AL hz7;have f0:=AB hz7 0;have f1:=AB hz7 1;have f2:=AB hz7 2;have f3:=AB hz7 3;have f4:=AB hz7 4;clear hb7 hz7 hp7))
   all_goals
    go_wp2_with fail;refine bodyPost_ret (v:=.tuple #[.agg #[.int .i64 k1,.string x1,.slice A1 n1 c1,.bool bt,.string t],.string typ,.bool (!hol)]) (by simp[results,Tryz.results9,go_sem,z0,z1,z2,z3,z4]) rfl ?_;exact⟨k1,x1,A1,n1,c1,bt,t,typ,!hol,rfl,λ_=>⟨hs4,HRD.out⟩,LH (HB0.out.trans ((HB6.out.trans (HB7.out.mono Om)).mono Om)) Nl _ _ _ _ _⟩
def M9(T F:Nat->Nat)(s:ByteArray):Prop:=s.size<=4096/\∃ts p r typ,EJ s=some ts/\D7 true ts p r/\AZ r 0=0/\(p.dd<=2/\p.dp<=30)/\CO p typ/\NU T F p typ
theorem PM(T F:Nat->Nat)(hT8:∀i,T i<18446744073709551616)(hPl:∀i,i<23->GO (F i)=true)(s:ByteArray){w:World}{M:Nat}(hT:MX T F w M)(hE:FN w) :
 Calls Tryz.prog 4 #[.string s] w (ID (λb=>b=true->M9 T F s) w):=by
 have HVT:=Hd (WP T F hT8 hPl s hT hE)
 have HTK:=Hd (λ(hs:s.size<=100000) (W:World)=>NE s hs W)
 have HTG:=Hd (λ(hs:s.size<=100000) (ts:List AW) (h:EJ s=some ts)=>RO hs h)
 clear hT hE hT8 hPl
 go_enter Tryz.func4,Tryz.ntmps4
 go_upto_region 2 with(go_at_call 9;refine HVT.out.mono ?_;rintro e w2 ⟨k,x,A,n,c,b,t,typ,ok,rfl,hok,hb2⟩;have HOK:=Hd hok;have HB2:=Hd hb2;clear hok hb2)
 have h22:=HB2.out.size
 have HB3:=Hd (HB2.out.alloc h22 (.cells #[.int .i64 k,.string x,.slice A n c,.bool b,.string t] 37))
 have h33:=HB3.out.size
 cases ok with
 |false=>
  generalize w2.alloc (.cells #[.int .i64 k,.string x,.slice A n c,.bool b,.string t] 37)=w3 at *
  go_wp2_with fail
  go_ret
  exact⟨false,rfl,λh=>by simp at h,HB3.out⟩
 |true=>
  obtain⟨hs4,ts,p,r,typ',hts,hterm,hdd,hf,hv⟩:=HOK.out (by first|exact trivial|rfl)
  have hs5:s.size<=100000:=Om
  obtain⟨hne,hgood,_,_⟩:=HTG.out hs5 ts hts
  have HGD:=Hd hgood
  have HTS:=Hd hts
  have HAL:=Hd (show ∀p' r',D7 true ts p' r'->AZ r' 0=0->M9 T F s from λp' r' h1 h2=>by obtain⟨rfl,rfl⟩:=ABp hterm _ _ h1;exact⟨hs4,ts,p,r,typ',hts,hterm,h2,hdd,hf,hv⟩)
  clear hgood hts hterm hdd hf hv hne HTG HOK
  generalize w2.alloc (.cells #[.int .i64 k,.string x,.slice A n c,.bool b,.string t] 37)=w3 at *
  go_upto_region 5 with(go_at_call 10;refine(HTK.out hs5 _).mono ?_;rintro e w4 ⟨A4,n4,c4,ok4,rfl,hb4,hm⟩;have HM:=Hd hm;have HB4:=Hd (HB3.out.trans ((by first|exact hb4|exact(Bl.drew).trans hb4:Below w3.heap.size w3 w4).mono h33));clear hm hb4)
  have hm:=HM.out
  rw[HTS.out]at hm
  obtain⟨_,hn4,hn5,hrow⟩:=hm
  have h44:=HB4.out.size
  have HWC:=Hd (λ(W:World) (hW:Below w4.heap.size w4 W)=>ABs hn4 Om (BF (AD hrow hW) (Nat.zero_le _)) HGD.out)
  clear HM hn4 hn5 hrow
  go_wp2_with (go_at_call 11;refine(HWC.out _ (by first|exact Bl|exact Bl.drew)).mono ?_;rintro e w5 ⟨b5,rfl,hb5,hp⟩;have HP:=Hd hp;have HB5:=Hd (HB4.out.trans ((by first|exact hb5|exact(Bl.drew).trans hb5:Below w4.heap.size w4 w5).mono h44));clear hp hb5)
  go_ret
  exact⟨b5,rfl,λh=>by obtain⟨p',r',h1,h2⟩:=HP.out h;exact HAL.out p' r' h1 h2,HB5.out⟩
