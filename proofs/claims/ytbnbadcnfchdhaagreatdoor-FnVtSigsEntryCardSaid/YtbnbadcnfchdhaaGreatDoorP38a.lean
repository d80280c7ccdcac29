/- Lemmas for FnVtSigsEntry; no conditions. -/
import Derived.Test.YtbnbadcnfchdhaaGreatDoorP30
set_option maxRecDepth 100000
set_option maxHeartbeats 16000000
set_option linter.all false
namespace Go.Proofs.YtbnbadcnfchdhaaGreatDoor
open Go.RowKit
section
variable{l:Nat}{s:ByteArray}{w0 wr:World}{All ts1 rest1:List AW}{st1 wd1:Nat}
theorem AOd{e0:Nat}{rest2:List AW}(hend:st1<s.size)(hc:AA s st1=98)(h1:¬(st1+1<s.size/\(AA s (st1+1)=34\/AA s (st1+1)=39)))(hcut:OR s st1 13 e0 rest1 rest2)(hw:LF s st1 e0)(hn:(CA (s.extract st1 e0)).2=true)(hp:¬st1+4<=s.size):NW l s w0 All st1 ts1 wr wd1 rest1:=by
 intro K Q hK hQ HL HGR HAL;intros
 conv=>arg 2;whnf
 have g4:¬(st1:Int)+4<=(s.size:Int):=Om;have g8:¬(st1:Int)+5<=(s.size:Int):=Om;have hss:=HL.out.hs;have hw4:IntKind.i64.wrap ((st1:Int)+4)=(st1:Int)+4:=CF Om Om;have hw5:IntKind.i64.wrap ((st1:Int)+5)=(st1:Int)+5:=CF Om Om;have g5:(0:Int)<=(st1:Int):=Om;have g6:(st1:Int)<=(st1:Int)+4:=Om;have g7:((st1:Int)+4).toNat=st1+4:=Om;have g9:(st1:Int)<=(st1:Int)+5:=Om;have g10:((st1:Int)+5).toNat=st1+5:=Om;have hw1:IntKind.i64.wrap ((st1:Int)+1)=(st1:Int)+1:=CF Om Om;obtain⟨r,k,HPK,hr1,hr2⟩:∃r k,Hid (AP s (st1+1)=(r,k))/\r≠34/\r≠39:=by
  refine⟨(AP s (st1+1)).1,(AP s (st1+1)).2,rfl,?_⟩;by_cases hq:st1+1<s.size
  .by_cases h128:AA s (st1+1)<128
   .rw[AN hq h128]
    exact⟨λh=>h1 ⟨hq,.inl h⟩,λh=>h1 ⟨hq,.inr h⟩⟩
   have:=(F8 hq Om).1;constructor<;>omega
  rw[KS hq];exact⟨De,De⟩
 have u70:((r:Int)==34)=false:=by rw[Bn];exact hr1
 have u71:((r:Int)==39)=false:=by rw[Bn];exact hr2
 have HST:=Hd (JO.word (s:=s) (st:=st1) (e:=e0) hw hn);have hrn:=AN hend Om;rw[hc]at hrn;have HRN:=Hd hrn;have HZ:=Hd (λ(W:World)=>by have:=BM 98 Om Om W;rw[show AX 98=false from rfl]at this;exact this);have HM:=Hd (λ(W:World)=>by have:=BW 98 Om Om W;rw[show BX 98=false from rfl]at this;exact this);clear hrn hc h1 hw hn hr1 hr2;go_upto_region 40 with(first|(go_at_call 126;refine(HL.out.nextAt HRN.out).mono ?_;rintro e w2 ⟨he,hx⟩;subst he;have H2:=Hd hx;clear hx;obtain⟨_,k1,k2⟩:=H2.out.cells)|(go_at_call 131;refine(HZ.out _).mono ?_;rintro e w3 ⟨he,rfl⟩;subst he)|(go_at_call 133;refine(HM.out _).mono ?_;rintro e w4 ⟨he,rfl⟩;subst he)|(go_at_call 135;refine(H2.out.peek HPK.out).mono ?_;rintro e w6 ⟨he,hx⟩;subst he;have H6:=Hd hx;clear hx;have z2:=H6.out.cells.2.2;have z3:=H6.out.cell3;have y2:=H6.out.free 2;have y3:=H6.out.free 3)|(go_at_call 128;refine(((H6.out.setPos (st1+1) Om Om).setWd 1).backup Nl).mono ?_;rintro e w5 ⟨he,hx⟩;subst he;have H5:=Hd hx;clear hx));obtain⟨d0,_,d2⟩:=H5.out.cells;go_region_held3 (λW=>W.cell? ⟨l,0,none⟩=some (.string s)/\W.cell? ⟨l,2,none⟩=some (.int .i64 st1)) (first|exact⟨d0,d2⟩) ((fail));go_upto_region 44 with fail;go_region_held3 (λW=>W.cell? ⟨l,0,none⟩=some (.string s)/\W.cell? ⟨l,2,none⟩=some (.int .i64 st1)) (first|exact⟨d0,d2⟩) ((fail));go_wp2_with fail;(try simp only[Exit.inBlock,Exit.then]);exact hQ (.inr ⟨130,ts1,st1,st1,_,13,e0,rest1,rest2,rfl,H5.out.keep Bl.drew.drew,HAL.out,Nl,HST.out,hcut,HGR.out⟩)
theorem APg{e0:Nat}{rest2:List AW}(hend:st1<s.size)(hc:AA s st1=98)(h1:¬(st1+1<s.size/\(AA s (st1+1)=34\/AA s (st1+1)=39)))(hcut:OR s st1 13 e0 rest1 rest2)(hw:LF s st1 e0)(hn:(CA (s.extract st1 e0)).2=true)(hp4:st1+4<=s.size)(hp5:¬st1+5<=s.size):NW l s w0 All st1 ts1 wr wd1 rest1:=by
 intro K Q hK hQ HL HGR HAL;intros
 conv=>arg 2;whnf
 have g4:(st1:Int)+4<=(s.size:Int):=Om;have g8:¬(st1:Int)+5<=(s.size:Int):=Om;have hss:=HL.out.hs;have hw4:IntKind.i64.wrap ((st1:Int)+4)=(st1:Int)+4:=CF Om Om;have hw5:IntKind.i64.wrap ((st1:Int)+5)=(st1:Int)+5:=CF Om Om;have g5:(0:Int)<=(st1:Int):=Om;have g6:(st1:Int)<=(st1:Int)+4:=Om;have g7:((st1:Int)+4).toNat=st1+4:=Om;have g9:(st1:Int)<=(st1:Int)+5:=Om;have g10:((st1:Int)+5).toNat=st1+5:=Om;have b4:((s.extract st1 (st1+4)).toList==[116,114,117,101])=false:=by rw[AE];refine decide_eq_false λe=>?_;have h3:=H7 s st1 (st1+4) 0 Om;rw[e,Nat.add_zero]at h3;rw[hc]at h3;revert h3;decide
 have hw1:IntKind.i64.wrap ((st1:Int)+1)=(st1:Int)+1:=CF Om Om;obtain⟨r,k,HPK,hr1,hr2⟩:∃r k,Hid (AP s (st1+1)=(r,k))/\r≠34/\r≠39:=by
  refine⟨(AP s (st1+1)).1,(AP s (st1+1)).2,rfl,?_⟩;by_cases hq:st1+1<s.size
  .by_cases h128:AA s (st1+1)<128
   .rw[AN hq h128]
    exact⟨λh=>h1 ⟨hq,.inl h⟩,λh=>h1 ⟨hq,.inr h⟩⟩
   have:=(F8 hq Om).1;constructor<;>omega
  rw[KS hq];exact⟨De,De⟩
 have u70:((r:Int)==34)=false:=by rw[Bn];exact hr1
 have u71:((r:Int)==39)=false:=by rw[Bn];exact hr2
 have HST:=Hd (JO.word (s:=s) (st:=st1) (e:=e0) hw hn);have hrn:=AN hend Om;rw[hc]at hrn;have HRN:=Hd hrn;have HZ:=Hd (λ(W:World)=>by have:=BM 98 Om Om W;rw[show AX 98=false from rfl]at this;exact this);have HM:=Hd (λ(W:World)=>by have:=BW 98 Om Om W;rw[show BX 98=false from rfl]at this;exact this);clear hrn hc h1 hw hn hr1 hr2;go_upto_region 40 with(first|(go_at_call 126;refine(HL.out.nextAt HRN.out).mono ?_;rintro e w2 ⟨he,hx⟩;subst he;have H2:=Hd hx;clear hx;obtain⟨_,k1,k2⟩:=H2.out.cells)|(go_at_call 131;refine(HZ.out _).mono ?_;rintro e w3 ⟨he,rfl⟩;subst he)|(go_at_call 133;refine(HM.out _).mono ?_;rintro e w4 ⟨he,rfl⟩;subst he)|(go_at_call 135;refine(H2.out.peek HPK.out).mono ?_;rintro e w6 ⟨he,hx⟩;subst he;have H6:=Hd hx;clear hx;have z2:=H6.out.cells.2.2;have z3:=H6.out.cell3;have y2:=H6.out.free 2;have y3:=H6.out.free 3)|(go_at_call 128;refine(((H6.out.setPos (st1+1) Om Om).setWd 1).backup Nl).mono ?_;rintro e w5 ⟨he,hx⟩;subst he;have H5:=Hd hx;clear hx));obtain⟨d0,_,d2⟩:=H5.out.cells;go_region_held3 (λW=>W.cell? ⟨l,0,none⟩=some (.string s)/\W.cell? ⟨l,2,none⟩=some (.int .i64 st1)) (first|exact⟨d0,d2⟩) ((fail));go_upto_region 41 with fail;go_region_held3 (λW=>W.cell? ⟨l,0,none⟩=some (.string s)/\W.cell? ⟨l,2,none⟩=some (.int .i64 st1)) (first|exact⟨d0,d2⟩) ((fail));go_upto_region 44 with fail;go_region_held3 (λW=>W.cell? ⟨l,0,none⟩=some (.string s)/\W.cell? ⟨l,2,none⟩=some (.int .i64 st1)) (first|exact⟨d0,d2⟩) ((fail));go_wp2_with fail;(try simp only[Exit.inBlock,Exit.then]);exact hQ (.inr ⟨130,ts1,st1,st1,_,13,e0,rest1,rest2,rfl,H5.out.keep Bl.drew.drew.drew,HAL.out,Nl,HST.out,hcut,HGR.out⟩)
theorem ANy{e0:Nat}{rest2:List AW}(hend:st1<s.size)(hc:AA s st1=98)(h1:¬(st1+1<s.size/\(AA s (st1+1)=34\/AA s (st1+1)=39)))(hcut:OR s st1 13 e0 rest1 rest2)(hw:LF s st1 e0)(hn:(CA (s.extract st1 e0)).2=true)(hp5:st1+5<=s.size):NW l s w0 All st1 ts1 wr wd1 rest1:=by
 intro K Q hK hQ HL HGR HAL;intros
 conv=>arg 2;whnf
 have g4:(st1:Int)+4<=(s.size:Int):=Om;have g8:(st1:Int)+5<=(s.size:Int):=Om;have hss:=HL.out.hs;have hw4:IntKind.i64.wrap ((st1:Int)+4)=(st1:Int)+4:=CF Om Om;have hw5:IntKind.i64.wrap ((st1:Int)+5)=(st1:Int)+5:=CF Om Om;have g5:(0:Int)<=(st1:Int):=Om;have g6:(st1:Int)<=(st1:Int)+4:=Om;have g7:((st1:Int)+4).toNat=st1+4:=Om;have g9:(st1:Int)<=(st1:Int)+5:=Om;have g10:((st1:Int)+5).toNat=st1+5:=Om;have b4:((s.extract st1 (st1+4)).toList==[116,114,117,101])=false:=by rw[AE];refine decide_eq_false λe=>?_;have h3:=H7 s st1 (st1+4) 0 Om;rw[e,Nat.add_zero]at h3;rw[hc]at h3;revert h3;decide
 have b5:((s.extract st1 (st1+5)).toList==[102,97,108,115,101])=false:=by rw[AE];refine decide_eq_false λe=>?_;have h3':=H7 s st1 (st1+5) 0 Om;rw[e,Nat.add_zero]at h3';rw[hc]at h3';revert h3';decide
 have hw1:IntKind.i64.wrap ((st1:Int)+1)=(st1:Int)+1:=CF Om Om;obtain⟨r,k,HPK,hr1,hr2⟩:∃r k,Hid (AP s (st1+1)=(r,k))/\r≠34/\r≠39:=by
  refine⟨(AP s (st1+1)).1,(AP s (st1+1)).2,rfl,?_⟩;by_cases hq:st1+1<s.size
  .by_cases h128:AA s (st1+1)<128
   .rw[AN hq h128]
    exact⟨λh=>h1 ⟨hq,.inl h⟩,λh=>h1 ⟨hq,.inr h⟩⟩
   have:=(F8 hq Om).1;constructor<;>omega
  rw[KS hq];exact⟨De,De⟩
 have u70:((r:Int)==34)=false:=by rw[Bn];exact hr1
 have u71:((r:Int)==39)=false:=by rw[Bn];exact hr2
 have HST:=Hd (JO.word (s:=s) (st:=st1) (e:=e0) hw hn);have hrn:=AN hend Om;rw[hc]at hrn;have HRN:=Hd hrn;have HZ:=Hd (λ(W:World)=>by have:=BM 98 Om Om W;rw[show AX 98=false from rfl]at this;exact this);have HM:=Hd (λ(W:World)=>by have:=BW 98 Om Om W;rw[show BX 98=false from rfl]at this;exact this);clear hrn hc h1 hw hn hr1 hr2;go_upto_region 40 with(first|(go_at_call 126;refine(HL.out.nextAt HRN.out).mono ?_;rintro e w2 ⟨he,hx⟩;subst he;have H2:=Hd hx;clear hx;obtain⟨_,k1,k2⟩:=H2.out.cells)|(go_at_call 131;refine(HZ.out _).mono ?_;rintro e w3 ⟨he,rfl⟩;subst he)|(go_at_call 133;refine(HM.out _).mono ?_;rintro e w4 ⟨he,rfl⟩;subst he)|(go_at_call 135;refine(H2.out.peek HPK.out).mono ?_;rintro e w6 ⟨he,hx⟩;subst he;have H6:=Hd hx;clear hx;have z2:=H6.out.cells.2.2;have z3:=H6.out.cell3;have y2:=H6.out.free 2;have y3:=H6.out.free 3)|(go_at_call 128;refine(((H6.out.setPos (st1+1) Om Om).setWd 1).backup Nl).mono ?_;rintro e w5 ⟨he,hx⟩;subst he;have H5:=Hd hx;clear hx));obtain⟨d0,_,d2⟩:=H5.out.cells;go_region_held3 (λW=>W.cell? ⟨l,0,none⟩=some (.string s)/\W.cell? ⟨l,2,none⟩=some (.int .i64 st1)) (first|exact⟨d0,d2⟩) ((fail));go_upto_region 41 with fail;go_region_held3 (λW=>W.cell? ⟨l,0,none⟩=some (.string s)/\W.cell? ⟨l,2,none⟩=some (.int .i64 st1)) (first|exact⟨d0,d2⟩) ((fail));go_upto_region 44 with fail;go_region_held3 (λW=>W.cell? ⟨l,0,none⟩=some (.string s)/\W.cell? ⟨l,2,none⟩=some (.int .i64 st1)) (first|exact⟨d0,d2⟩) ((fail));go_upto_region 45 with fail;go_region_held3 (λW=>W.cell? ⟨l,0,none⟩=some (.string s)/\W.cell? ⟨l,2,none⟩=some (.int .i64 st1)) (first|exact⟨d0,d2⟩) ((fail));go_wp2_with fail;(try simp only[Exit.inBlock,Exit.then]);exact hQ (.inr ⟨130,ts1,st1,st1,_,13,e0,rest1,rest2,rfl,H5.out.keep Bl.drew.drew.drew.drew,HAL.out,Nl,HST.out,hcut,HGR.out⟩)
end
