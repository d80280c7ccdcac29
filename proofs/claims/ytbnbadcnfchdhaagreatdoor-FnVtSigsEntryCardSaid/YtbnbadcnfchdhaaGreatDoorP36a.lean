/- Lemmas for FnVtSigsEntry; no conditions. -/
import Derived.Test.YtbnbadcnfchdhaaGreatDoorP30
set_option maxRecDepth 100000
set_option maxHeartbeats 16000000
set_option linter.all false
namespace Go.Proofs.YtbnbadcnfchdhaaGreatDoor
open Go.RowKit
section
variable{l:Nat}{s:ByteArray}{w0 wr:World}{All ts1 rest1:List AW}{st1 wd1:Nat}
theorem AJi{e0:Nat}{rest2:List AW}(hend:st1<s.size)(hc:AA s st1=43)(hcut:OR s st1 2 e0 rest1 rest2)(he:NM s st1=e0)(hx:e0<s.size->AA s e0<128/\B9 (AA s e0)=false):NW l s w0 All st1 ts1 wr wd1 rest1:=by
 intro K Q hK hQ HL HGR HAL;intros
 conv=>arg 2;whnf
 have hrn:=AN hend Om;rw[hc]at hrn;have HRN:=Hd hrn;have HE:=Hd he;have HX:=Hd hx;have HZ:=Hd (λ(W:World)=>by have:=BM 43 Om Om W;rw[show AX 43=false from rfl]at this;exact this);have HM:=Hd (λ(W:World)=>by have:=BW 43 Om Om W;rw[show BX 43=false from rfl]at this;exact this);clear hrn hc he hx;go_wp2_with (first|(go_at_call 126;refine(HL.out.nextAt HRN.out).mono ?_;rintro e w2 ⟨he,hx⟩;subst he;have H2:=Hd hx;clear hx)|(go_at_call 131;refine(HZ.out _).mono ?_;rintro e w3 ⟨he,rfl⟩;subst he)|(go_at_call 133;refine(HM.out _).mono ?_;rintro e w4 ⟨he,rfl⟩;subst he)|(go_at_call 128;refine(H2.out.backup Nl).mono ?_;rintro e w5 ⟨he,hx⟩;subst he;have H5:=Hd hx;clear hx));(try simp only[Exit.inBlock,Exit.then]);exact hQ (.inr ⟨134,ts1,st1,st1,_,2,e0,rest1,rest2,rfl,H5.out,HAL.out,Nl,.num HE.out HX.out,hcut,HGR.out⟩)
theorem AIt{e0:Nat}{rest2:List AW}(hend:st1<s.size)(hc:AA s st1=45)(hcut:OR s st1 2 e0 rest1 rest2)(he:NM s st1=e0)(hx:e0<s.size->AA s e0<128/\B9 (AA s e0)=false):NW l s w0 All st1 ts1 wr wd1 rest1:=by
 intro K Q hK hQ HL HGR HAL;intros
 conv=>arg 2;whnf
 have hrn:=AN hend Om;rw[hc]at hrn;have HRN:=Hd hrn;have HE:=Hd he;have HX:=Hd hx;have HZ:=Hd (λ(W:World)=>by have:=BM 45 Om Om W;rw[show AX 45=false from rfl]at this;exact this);have HM:=Hd (λ(W:World)=>by have:=BW 45 Om Om W;rw[show BX 45=false from rfl]at this;exact this);clear hrn hc he hx;go_wp2_with (first|(go_at_call 126;refine(HL.out.nextAt HRN.out).mono ?_;rintro e w2 ⟨he,hx⟩;subst he;have H2:=Hd hx;clear hx)|(go_at_call 131;refine(HZ.out _).mono ?_;rintro e w3 ⟨he,rfl⟩;subst he)|(go_at_call 133;refine(HM.out _).mono ?_;rintro e w4 ⟨he,rfl⟩;subst he)|(go_at_call 128;refine(H2.out.backup Nl).mono ?_;rintro e w5 ⟨he,hx⟩;subst he;have H5:=Hd hx;clear hx));(try simp only[Exit.inBlock,Exit.then]);exact hQ (.inr ⟨134,ts1,st1,st1,_,2,e0,rest1,rest2,rfl,H5.out,HAL.out,Nl,.num HE.out HX.out,hcut,HGR.out⟩)
theorem AN7{e0:Nat}{rest2:List AW}(hend:st1<s.size)(hc:BX (AA s st1)=true)(hcut:OR s st1 2 e0 rest1 rest2)(he:NM s st1=e0)(hx:e0<s.size->AA s e0<128/\B9 (AA s e0)=false):NW l s w0 All st1 ts1 wr wd1 rest1:=by
 intro K Q hK hQ HL HGR HAL;intros
 conv=>arg 2;whnf
 have hb2:48<=AA s st1/\AA s st1<=57:=by unfold BX at hc;simpa using hc
 have hrn:=AN hend Om;have HE:=Hd he;have HX:=Hd hx;generalize AA s st1=c at *;have HRN:=Hd hrn;have hbl:AX c=false:=by unfold AX;simp;omega
 have HZ:=Hd (λ(W:World)=>by have:=BM c Om Om W;rw[hbl]at this;exact this);have HM:=Hd (λ(W:World)=>by have:=BW c Om Om W;rw[hc]at this;exact this);have u900:((c:Int)==-1)=false:=Bq;have u901:((c:Int)==91)=false:=Bq;have u902:((c:Int)==93)=false:=Bq;have u903:((c:Int)==123)=false:=Bq;have u904:((c:Int)==125)=false:=Bq;have u905:((c:Int)==60)=false:=Bq;have u906:((c:Int)==62)=false:=Bq;have u907:((c:Int)==58)=false:=Bq;have u908:((c:Int)==44)=false:=Bq;have u909:((c:Int)==39)=false:=Bq;have u910:((c:Int)==34)=false:=Bq;have u911:((c:Int)==64)=false:=Bq;clear hrn hc he hx hb2 hbl;go_wp2_with (first|(go_at_call 126;refine(HL.out.nextAt HRN.out).mono ?_;rintro e w2 ⟨he,hx⟩;subst he;have H2:=Hd hx;clear hx)|(go_at_call 131;refine(HZ.out _).mono ?_;rintro e w3 ⟨he,rfl⟩;subst he)|(go_at_call 133;refine(HM.out _).mono ?_;rintro e w4 ⟨he,rfl⟩;subst he)|(go_at_call 128;refine(H2.out.backup Nl).mono ?_;rintro e w5 ⟨he,hx⟩;subst he;have H5:=Hd hx;clear hx));(try simp only[Exit.inBlock,Exit.then]);exact hQ (.inr ⟨134,ts1,st1,st1,_,2,e0,rest1,rest2,rfl,H5.out,HAL.out,Nl,.num HE.out HX.out,hcut,HGR.out⟩)
theorem AIw{e0:Nat}{rest2:List AW}(hend:st1<s.size)(hc:AA s st1=34)(hcut:OR s st1 3 e0 rest1 rest2)(he:CV s (AA s st1) (st1+1)=some e0):NW l s w0 All st1 ts1 wr wd1 rest1:=by
 intro K Q hK hQ HL HGR HAL;intros
 conv=>arg 2;whnf
 have hrn:=AN hend Om;have HST:=Hd (JO.str (s:=s) (st:=st1) (e:=e0) (by rw[hc];decide) he);rw[hc]at hrn;have HRN:=Hd hrn;clear hrn hc he;go_wp2_with (first|(go_at_call 126;refine(HL.out.nextAt HRN.out).mono ?_;rintro e w2 ⟨he,hx⟩;subst he;have H2:=Hd hx;clear hx)|(go_at_call 128;refine(H2.out.backup Nl).mono ?_;rintro e w5 ⟨he,hx⟩;subst he;have H5:=Hd hx;clear hx));(try simp only[Exit.inBlock,Exit.then]);exact hQ (.inr ⟨129,ts1,st1,st1,_,3,e0,rest1,rest2,rfl,H5.out,HAL.out,Nl,HST.out,hcut,HGR.out⟩)
end
