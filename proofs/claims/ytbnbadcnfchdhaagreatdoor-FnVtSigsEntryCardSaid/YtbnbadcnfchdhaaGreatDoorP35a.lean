/- Lemmas for FnVtSigsEntry; no conditions. -/
import Derived.Test.YtbnbadcnfchdhaaGreatDoorP30
set_option maxRecDepth 100000
set_option maxHeartbeats 16000000
set_option linter.all false
namespace Go.Proofs.YtbnbadcnfchdhaaGreatDoor
open Go.RowKit
section
variable{l:Nat}{s:ByteArray}{w0 wr:World}{All ts1 rest1:List AW}{st1 wd1:Nat}
theorem AHu(hend:st1<s.size)(hb:AX (AA s st1)=true)(hnx:BO (s.extract (st1+1) s.size)=some rest1):NW l s w0 All st1 ts1 wr wd1 rest1:=by
 intro K Q hK hQ HL HGR HAL;intros
 conv=>arg 2;whnf
 have hin:=CJ s st1;have hb2:AA s st1=32\/9<=AA s st1/\AA s st1<=13:=by unfold AX at hb;simpa using hb
 have hrn:=AN hend Om;generalize AA s st1=c at *;have HRN:=Hd hrn;have HZ:=Hd (λ(W:World)=>by have:=BM c Om Om W;rw[hb]at this;exact this);have u900:((c:Int)==-1)=false:=Bq;have u901:((c:Int)==91)=false:=Bq;have u902:((c:Int)==93)=false:=Bq;have u903:((c:Int)==123)=false:=Bq;have u904:((c:Int)==125)=false:=Bq;have u905:((c:Int)==60)=false:=Bq;have u906:((c:Int)==62)=false:=Bq;have u907:((c:Int)==58)=false:=Bq;have u908:((c:Int)==44)=false:=Bq;have u909:((c:Int)==39)=false:=Bq;have u910:((c:Int)==34)=false:=Bq;have u911:((c:Int)==64)=false:=Bq;clear hrn hb hb2 hin;go_wp2_with (first|(go_at_call 126;refine(HL.out.nextAt HRN.out).mono ?_;rintro e w2 ⟨he,hx⟩;subst he;have H2:=Hd hx;clear hx)|(go_at_call 131;refine(HZ.out _).mono ?_;rintro e w3 ⟨he,rfl⟩;subst he)|(go_at_call 132;refine(H2.out.ignore).mono ?_;rintro e w4 ⟨he,hx⟩;subst he;have H4:=Hd hx;clear hx));exact hK Om Om H4.out hnx HGR.out HAL.out
theorem AHp{rest2:List AW}(hend:st1<s.size)(hc:AA s st1=91)(hcut:OR s st1 5 (st1+1) rest1 rest2):NW l s w0 All st1 ts1 wr wd1 rest1:=by
 intro K Q hK hQ HL HGR HAL;intros
 conv=>arg 2;whnf
 have hrn:=AN hend Om;rw[hc]at hrn;have HRN:=Hd hrn;clear hrn hc;go_wp2_with (first|(go_at_call 126;refine(HL.out.nextAt HRN.out).mono ?_;rintro e w2 ⟨he,hx⟩;subst he;have H2:=Hd hx;clear hx)|(go_at_call 127;refine(H2.out.emit 5 Om Om).mono ?_;rintro e w3 ⟨he,hx⟩;subst he;have H3:=Hd hx;clear hx));exact hK Om Om H3.out hcut.next (DE (hcut.eq▸HGR.out)) (by rw[List.append_assoc,List.singleton_append,<-hcut.eq];exact HAL.out)
theorem AKk{rest2:List AW}(hend:st1<s.size)(hc:AA s st1=93)(hcut:OR s st1 6 (st1+1) rest1 rest2):NW l s w0 All st1 ts1 wr wd1 rest1:=by
 intro K Q hK hQ HL HGR HAL;intros
 conv=>arg 2;whnf
 have hrn:=AN hend Om;rw[hc]at hrn;have HRN:=Hd hrn;clear hrn hc;go_wp2_with (first|(go_at_call 126;refine(HL.out.nextAt HRN.out).mono ?_;rintro e w2 ⟨he,hx⟩;subst he;have H2:=Hd hx;clear hx)|(go_at_call 127;refine(H2.out.emit 6 Om Om).mono ?_;rintro e w3 ⟨he,hx⟩;subst he;have H3:=Hd hx;clear hx));exact hK Om Om H3.out hcut.next (DE (hcut.eq▸HGR.out)) (by rw[List.append_assoc,List.singleton_append,<-hcut.eq];exact HAL.out)
theorem AKy{rest2:List AW}(hend:st1<s.size)(hc:AA s st1=123)(hcut:OR s st1 7 (st1+1) rest1 rest2):NW l s w0 All st1 ts1 wr wd1 rest1:=by
 intro K Q hK hQ HL HGR HAL;intros
 conv=>arg 2;whnf
 have hrn:=AN hend Om;rw[hc]at hrn;have HRN:=Hd hrn;clear hrn hc;go_wp2_with (first|(go_at_call 126;refine(HL.out.nextAt HRN.out).mono ?_;rintro e w2 ⟨he,hx⟩;subst he;have H2:=Hd hx;clear hx)|(go_at_call 127;refine(H2.out.emit 7 Om Om).mono ?_;rintro e w3 ⟨he,hx⟩;subst he;have H3:=Hd hx;clear hx));exact hK Om Om H3.out hcut.next (DE (hcut.eq▸HGR.out)) (by rw[List.append_assoc,List.singleton_append,<-hcut.eq];exact HAL.out)
theorem AI0{rest2:List AW}(hend:st1<s.size)(hc:AA s st1=125)(hcut:OR s st1 8 (st1+1) rest1 rest2):NW l s w0 All st1 ts1 wr wd1 rest1:=by
 intro K Q hK hQ HL HGR HAL;intros
 conv=>arg 2;whnf
 have hrn:=AN hend Om;rw[hc]at hrn;have HRN:=Hd hrn;clear hrn hc;go_wp2_with (first|(go_at_call 126;refine(HL.out.nextAt HRN.out).mono ?_;rintro e w2 ⟨he,hx⟩;subst he;have H2:=Hd hx;clear hx)|(go_at_call 127;refine(H2.out.emit 8 Om Om).mono ?_;rintro e w3 ⟨he,hx⟩;subst he;have H3:=Hd hx;clear hx));exact hK Om Om H3.out hcut.next (DE (hcut.eq▸HGR.out)) (by rw[List.append_assoc,List.singleton_append,<-hcut.eq];exact HAL.out)
end
