/- Lemmas for FnVtSigsEntry; no conditions. -/
import Derived.Test.YtbnbadcnfchdhaaGreatDoorP35a
import Derived.Test.YtbnbadcnfchdhaaGreatDoorP35b
import Derived.Test.YtbnbadcnfchdhaaGreatDoorP36a
import Derived.Test.YtbnbadcnfchdhaaGreatDoorP36b
import Derived.Test.YtbnbadcnfchdhaaGreatDoorP37
import Derived.Test.YtbnbadcnfchdhaaGreatDoorP38a
set_option maxRecDepth 100000
set_option maxHeartbeats 16000000
set_option linter.all false
namespace Go.Proofs.YtbnbadcnfchdhaaGreatDoor
open Go.RowKit
theorem ADk{l:Nat}{s:ByteArray}{w0:World}{All:List AW}{st st1:Nat}{en:Ending}{w':World}(h:AA0 l s w0 All st1 en w')(hst:st<=st1):AA0 l s w0 All st en w':=by
 rcases h with h|⟨f,ts,a,p,wd,k,e,r,r',h1,h2,h3,h4,h5⟩
 .exact .inl h
 exact .inr ⟨f,ts,a,p,wd,k,e,r,r',h1,h2,h3,Nat.le_trans hst h4,h5⟩
theorem TS{l:Nat}{s:ByteArray}{w0 w:World}{ts rest All:List AW}{st wd:Nat}(h:LX l s w0 ts w st st wd)(hr:BO (s.extract st s.size)=some rest)(hg:LI rest)(hA:ts++rest=All) :
 Calls Tryz.prog 107 #[.pointer (some ⟨l,0,none⟩)] w (AA0 l s w0 All st):=by
 have hss:=h.hs
 have hfit:=h.fit
 have H:=Hd h
 have HR:=Hd hr
 have HG:=Hd hg
 have HA:=Hd hA
 clear h hr hg hA
 go_enter Tryz.func107,Tryz.ntmps107
 go_wp2_with fail
 go_loopg [] (s.size-st) (λg wr=>∃(ts1 rest1:List AW) (st1 wd1:Nat),st1+g=s.size/\st<=st1/\Hid (LX l s w0 ts1 wr st1 st1 wd1)/\Hid (BO (s.extract st1 s.size)=some rest1)/\Hid (LI rest1)/\Hid (ts1++rest1=All))
 case atStart=>exact⟨ts,rest,st,wd,Om,Nl,H,HR,HG,HA⟩
 rename_i J0 K0 hJ0 hK0
 obtain⟨ts1,rest1,st1,wd1,hgs,hst,HL,HT,HGR,HAL⟩:=hrel
 clear H HR HG HA
 have hK:NK l s w0 All st1 K0:=by unfold NK;intros;rename_i w' ts2 rest2 st2 wd2 h1 h2 h3 h4 h5 h6;refine hK0 _ _ (Handed.intro (s.size-st2) Om (hJ0 _ _ _ ?_));(repeat apply Exists.intro);refine⟨?rel,rfl⟩;exact⟨ts2,rest2,st2,wd2,Om,Om,h3,h4,h5,h6⟩
 have hQ:NQ l s w0 All st1 (Exit.inBlock 0 (bodyPost Tryz.prog Tryz.f107 (AA0 l s w0 All st))):=by unfold NQ;intros;rename_i w' h;go_ret;exact ADk h hst
 by_cases hend:st1<s.size
 .cases AGy hend HT.out HGR.out with
  |blank hb hnx=>exact AHu hend hb hnx hK hQ HL HGR HAL
  |sign k hk hc rest2 hcut=>
   match k,hk with
   |0,_=>exact AHp hend hc hcut hK hQ HL HGR HAL
   |1,_=>exact AKk hend hc hcut hK hQ HL HGR HAL
   |2,_=>exact AKy hend hc hcut hK hQ HL HGR HAL
   |3,_=>exact AI0 hend hc hcut hK hQ HL HGR HAL
   |4,_=>exact AKs hend hc hcut hK hQ HL HGR HAL
   |5,_=>exact AJy hend hc hcut hK hQ HL HGR HAL
   |6,_=>exact AKv hend hc hcut hK hQ HL HGR HAL
   |7,_=>exact AJx hend hc hcut hK hQ HL HGR HAL
  |num hc e0 rest2 hcut he hx=>
   rcases hc with hc|hc|hc
   .exact AJi hend hc hcut he hx hK hQ HL HGR HAL
   .exact AIt hend hc hcut he hx hK hQ HL HGR HAL
   exact AN7 hend hc hcut he hx hK hQ HL HGR HAL
  |str hc e0 rest2 hcut he=>
   rcases hc with hc|hc
   .exact AIw hend hc hcut he hK hQ HL HGR HAL
   exact AKe hend hc hcut he hK hQ HL HGR HAL
  |byt hc h1 h2 e0 rest2 hcut he=>
   rcases h2 with h2|h2
   .exact AKi hend hc h1 h2 hcut he hK hQ HL HGR HAL
   exact AHq hend hc h1 h2 hcut he hK hQ HL HGR HAL
  |tru hc h1 h2 rest2 hcut=>exact ANr hend hc h1 h2 hcut hK hQ HL HGR HAL
  |fal hc h1 h2 rest2 hcut=>exact AN2 hend hc h1 h2 hcut hK hQ HL HGR HAL
  |word hc h1 h2 h3 e0 rest2 hcut hw hn=>
   by_cases h64:AA s st1=64
   .exact AQh hend h64 hcut hw hn hK hQ HL HGR HAL
   by_cases h98:AA s st1=98
   .by_cases hp4:st1+4<=s.size
    .by_cases hp5:st1+5<=s.size
     .exact ANy hend h98 (λh=>h1 ⟨h98,h⟩) hcut hw hn hp5 hK hQ HL HGR HAL
     exact APg hend h98 (λh=>h1 ⟨h98,h⟩) hcut hw hn hp4 hp5 hK hQ HL HGR HAL
    exact AOd hend h98 (λh=>h1 ⟨h98,h⟩) hcut hw hn hp4 hK hQ HL HGR HAL
   by_cases hp4:st1+4<=s.size
   .by_cases hp5:st1+5<=s.size
    .exact AHy hend hc h64 h98 h2 h3 hcut hw hn hp5 hK hQ HL HGR HAL
    exact AK5 hend hc h64 h98 h2 h3 hcut hw hn hp4 hp5 hK hQ HL HGR HAL
   exact AJ6 hend hc h64 h98 h2 h3 hcut hw hn hp4 hK hQ HL HGR HAL
 exact AO6 hend HT.out hK hQ HL HGR HAL
