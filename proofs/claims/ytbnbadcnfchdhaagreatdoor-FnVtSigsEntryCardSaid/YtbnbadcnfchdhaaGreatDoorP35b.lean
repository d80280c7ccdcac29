/- Lemmas for FnVtSigsEntry; no conditions. -/
import Derived.Test.YtbnbadcnfchdhaaGreatDoorP30
set_option maxRecDepth 100000
set_option maxHeartbeats 16000000
set_option linter.all false
namespace Go.Proofs.YtbnbadcnfchdhaaGreatDoor
open Go.RowKit
section
variable{l:Nat}{s:ByteArray}{w0 wr:World}{All ts1 rest1:List AW}{st1 wd1:Nat}
theorem AKs{rest2:List AW}(hend:st1<s.size)(hc:AA s st1=60)(hcut:OR s st1 9 (st1+1) rest1 rest2):NW l s w0 All st1 ts1 wr wd1 rest1:=by
 intro K Q hK hQ HL HGR HAL;intros
 conv=>arg 2;whnf
 have hrn:=AN hend Om;rw[hc]at hrn;have HRN:=Hd hrn;clear hrn hc;go_wp2_with (first|(go_at_call 126;refine(HL.out.nextAt HRN.out).mono ?_;rintro e w2 ⟨he,hx⟩;subst he;have H2:=Hd hx;clear hx)|(go_at_call 127;refine(H2.out.emit 9 Om Om).mono ?_;rintro e w3 ⟨he,hx⟩;subst he;have H3:=Hd hx;clear hx));exact hK Om Om H3.out hcut.next (DE (hcut.eq▸HGR.out)) (by rw[List.append_assoc,List.singleton_append,<-hcut.eq];exact HAL.out)
theorem AJy{rest2:List AW}(hend:st1<s.size)(hc:AA s st1=62)(hcut:OR s st1 10 (st1+1) rest1 rest2):NW l s w0 All st1 ts1 wr wd1 rest1:=by
 intro K Q hK hQ HL HGR HAL;intros
 conv=>arg 2;whnf
 have hrn:=AN hend Om;rw[hc]at hrn;have HRN:=Hd hrn;clear hrn hc;go_wp2_with (first|(go_at_call 126;refine(HL.out.nextAt HRN.out).mono ?_;rintro e w2 ⟨he,hx⟩;subst he;have H2:=Hd hx;clear hx)|(go_at_call 127;refine(H2.out.emit 10 Om Om).mono ?_;rintro e w3 ⟨he,hx⟩;subst he;have H3:=Hd hx;clear hx));exact hK Om Om H3.out hcut.next (DE (hcut.eq▸HGR.out)) (by rw[List.append_assoc,List.singleton_append,<-hcut.eq];exact HAL.out)
theorem AKv{rest2:List AW}(hend:st1<s.size)(hc:AA s st1=44)(hcut:OR s st1 11 (st1+1) rest1 rest2):NW l s w0 All st1 ts1 wr wd1 rest1:=by
 intro K Q hK hQ HL HGR HAL;intros
 conv=>arg 2;whnf
 have hrn:=AN hend Om;rw[hc]at hrn;have HRN:=Hd hrn;clear hrn hc;go_wp2_with (first|(go_at_call 126;refine(HL.out.nextAt HRN.out).mono ?_;rintro e w2 ⟨he,hx⟩;subst he;have H2:=Hd hx;clear hx)|(go_at_call 127;refine(H2.out.emit 11 Om Om).mono ?_;rintro e w3 ⟨he,hx⟩;subst he;have H3:=Hd hx;clear hx));exact hK Om Om H3.out hcut.next (DE (hcut.eq▸HGR.out)) (by rw[List.append_assoc,List.singleton_append,<-hcut.eq];exact HAL.out)
theorem AJx{rest2:List AW}(hend:st1<s.size)(hc:AA s st1=58)(hcut:OR s st1 12 (st1+1) rest1 rest2):NW l s w0 All st1 ts1 wr wd1 rest1:=by
 intro K Q hK hQ HL HGR HAL;intros
 conv=>arg 2;whnf
 have hrn:=AN hend Om;rw[hc]at hrn;have HRN:=Hd hrn;clear hrn hc;go_wp2_with (first|(go_at_call 126;refine(HL.out.nextAt HRN.out).mono ?_;rintro e w2 ⟨he,hx⟩;subst he;have H2:=Hd hx;clear hx)|(go_at_call 127;refine(H2.out.emit 12 Om Om).mono ?_;rintro e w3 ⟨he,hx⟩;subst he;have H3:=Hd hx;clear hx));exact hK Om Om H3.out hcut.next (DE (hcut.eq▸HGR.out)) (by rw[List.append_assoc,List.singleton_append,<-hcut.eq];exact HAL.out)
end
