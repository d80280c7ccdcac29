/- Lemmas for FnVtSigsEntry; no conditions. -/
import Derived.Test.YtbnbadcnfchdhaaGreatDoorP30
set_option maxRecDepth 100000
set_option maxHeartbeats 16000000
set_option linter.all false
namespace Go.Proofs.YtbnbadcnfchdhaaGreatDoor
open Go.RowKit
section
variable{l:Nat}{s:ByteArray}{w0 wr:World}{All ts1 rest1:List AW}{st1 wd1:Nat}
theorem AKe{e0:Nat}{rest2:List AW}(hend:st1<s.size)(hc:AA s st1=39)(hcut:OR s st1 3 e0 rest1 rest2)(he:CV s (AA s st1) (st1+1)=some e0):NW l s w0 All st1 ts1 wr wd1 rest1:=by
 intro K Q hK hQ HL HGR HAL;intros
 conv=>arg 2;whnf
 have hrn:=AN hend Om;have HST:=Hd (JO.str (s:=s) (st:=st1) (e:=e0) (by rw[hc];decide) he);rw[hc]at hrn;have HRN:=Hd hrn;clear hrn hc he;go_wp2_with (first|(go_at_call 126;refine(HL.out.nextAt HRN.out).mono ?_;rintro e w2 ⟨he,hx⟩;subst he;have H2:=Hd hx;clear hx)|(go_at_call 128;refine(H2.out.backup Nl).mono ?_;rintro e w5 ⟨he,hx⟩;subst he;have H5:=Hd hx;clear hx));(try simp only[Exit.inBlock,Exit.then]);exact hQ (.inr ⟨129,ts1,st1,st1,_,3,e0,rest1,rest2,rfl,H5.out,HAL.out,Nl,HST.out,hcut,HGR.out⟩)
theorem AQh{e0:Nat}{rest2:List AW}(hend:st1<s.size)(hc:AA s st1=64)(hcut:OR s st1 13 e0 rest1 rest2)(hw:LF s st1 e0)(hn:(CA (s.extract st1 e0)).2=true):NW l s w0 All st1 ts1 wr wd1 rest1:=by
 intro K Q hK hQ HL HGR HAL;intros
 conv=>arg 2;whnf
 have hrn:=AN hend Om;have HST:=Hd (JO.word (s:=s) (st:=st1) (e:=e0) hw hn);rw[hc]at hrn;have HRN:=Hd hrn;clear hrn hc hw hn;go_wp2_with (first|(go_at_call 126;refine(HL.out.nextAt HRN.out).mono ?_;rintro e w2 ⟨he,hx⟩;subst he;have H2:=Hd hx;clear hx)|(go_at_call 128;refine(H2.out.backup Nl).mono ?_;rintro e w5 ⟨he,hx⟩;subst he;have H5:=Hd hx;clear hx));(try simp only[Exit.inBlock,Exit.then]);exact hQ (.inr ⟨130,ts1,st1,st1,_,13,e0,rest1,rest2,rfl,H5.out,HAL.out,Nl,HST.out,hcut,HGR.out⟩)
theorem AKi{e0:Nat}{rest2:List AW}(hend:st1<s.size)(hc:AA s st1=98)(h1:st1+1<s.size)(h2:AA s (st1+1)=34)(hcut:OR s st1 14 e0 rest1 rest2)(he:CV s (AA s (st1+1)) (st1+2)=some e0):NW l s w0 All st1 ts1 wr wd1 rest1:=by
 intro K Q hK hQ HL HGR HAL;intros
 conv=>arg 2;whnf
 have hrn:=AN hend Om;rw[hc]at hrn;have HRN:=Hd hrn;have HZ:=Hd (λ(W:World)=>by have:=BM 98 Om Om W;rw[show AX 98=false from rfl]at this;exact this);have HM:=Hd (λ(W:World)=>by have:=BW 98 Om Om W;rw[show BX 98=false from rfl]at this;exact this);have HST:=Hd (JO.byt (s:=s) (st:=st1) (e:=e0) h1 (by rw[h2];decide) he);have hpk:=AN h1 Om;rw[h2]at hpk;have HPK:=Hd hpk;clear hrn hc he hpk h2;go_wp2_with (first|(go_at_call 126;refine(HL.out.nextAt HRN.out).mono ?_;rintro e w2 ⟨he,hx⟩;subst he;have H2:=Hd hx;clear hx;obtain⟨_,k1,k2⟩:=H2.out.cells)|(go_at_call 131;refine(HZ.out _).mono ?_;rintro e w3 ⟨he,rfl⟩;subst he)|(go_at_call 133;refine(HM.out _).mono ?_;rintro e w4 ⟨he,rfl⟩;subst he)|(go_at_call 135;refine(H2.out.peek HPK.out).mono ?_;rintro e w6 ⟨he,hx⟩;subst he;have H6:=Hd hx;clear hx));(try simp only[Exit.inBlock,Exit.then]);exact hQ (.inr ⟨136,ts1,st1,(st1+1),_,14,e0,rest1,rest2,rfl,H6.out,HAL.out,Nl,HST.out,hcut,HGR.out⟩)
theorem AHq{e0:Nat}{rest2:List AW}(hend:st1<s.size)(hc:AA s st1=98)(h1:st1+1<s.size)(h2:AA s (st1+1)=39)(hcut:OR s st1 14 e0 rest1 rest2)(he:CV s (AA s (st1+1)) (st1+2)=some e0):NW l s w0 All st1 ts1 wr wd1 rest1:=by
 intro K Q hK hQ HL HGR HAL;intros
 conv=>arg 2;whnf
 have hrn:=AN hend Om;rw[hc]at hrn;have HRN:=Hd hrn;have HZ:=Hd (λ(W:World)=>by have:=BM 98 Om Om W;rw[show AX 98=false from rfl]at this;exact this);have HM:=Hd (λ(W:World)=>by have:=BW 98 Om Om W;rw[show BX 98=false from rfl]at this;exact this);have HST:=Hd (JO.byt (s:=s) (st:=st1) (e:=e0) h1 (by rw[h2];decide) he);have hpk:=AN h1 Om;rw[h2]at hpk;have HPK:=Hd hpk;clear hrn hc he hpk h2;go_wp2_with (first|(go_at_call 126;refine(HL.out.nextAt HRN.out).mono ?_;rintro e w2 ⟨he,hx⟩;subst he;have H2:=Hd hx;clear hx;obtain⟨_,k1,k2⟩:=H2.out.cells)|(go_at_call 131;refine(HZ.out _).mono ?_;rintro e w3 ⟨he,rfl⟩;subst he)|(go_at_call 133;refine(HM.out _).mono ?_;rintro e w4 ⟨he,rfl⟩;subst he)|(go_at_call 135;refine(H2.out.peek HPK.out).mono ?_;rintro e w6 ⟨he,hx⟩;subst he;have H6:=Hd hx;clear hx));(try simp only[Exit.inBlock,Exit.then]);exact hQ (.inr ⟨136,ts1,st1,(st1+1),_,14,e0,rest1,rest2,rfl,H6.out,HAL.out,Nl,HST.out,hcut,HGR.out⟩)
end
