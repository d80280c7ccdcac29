/- Lemmas for FnVtSigsEntry; no conditions. -/
import Derived.Test.YtbnbadcnfchdhaaGreatDoorP06
set_option maxRecDepth 100000
set_option maxHeartbeats 16000000
set_option linter.all false
namespace Go.Proofs.YtbnbadcnfchdhaaGreatDoor
open Go.RowKit
theorem AMk(s t:ByteArray)(hms:s.size<=100000)(hm:t.size<=100000)(hne:s.size≠0)(h0:AA s 0≠48)(ht:t=s)(hus:∀i,i<t.size->(t.data.toList.getD i 0).toNat≠95)(k:Nat)(hk:8<=k)(hk2:k<=64)(w:World) :
 Calls Tryz.prog 98 #[.string s,.int .i64 0,.int .i64 k] w λe w'=>e=.returned (.tuple #[.int .u64 (BQ 10 (IQ k) t.data.toList 0).1,CY (BQ 10 (IQ k) t.data.toList 0).2])/\Below w.heap.size w w':=by
 have hemp:s.toList.isEmpty=false:=by rw[<-decide_eq_emptyBytes];exact decide_eq_false (λh=>hne (by rw[h];rfl))
 have hs0:0<s.size:=Om
 have hs0i:(0:Int)<(s.size:Int):=Om
 have hsne:¬s=ByteArray.empty:=by rintro rfl;simp at hs0
 have z0:=AJ hs0
 have z1:(AA s 0==48)=false:=by rw[Bn];exact h0
 generalize AA s 0=c0 at *
 subst ht
 clear h0
 have hcv:=Lib.run_convert_string_bytes (P:=Tryz.prog) w 9 109 5 t (u:=.string) Tryz.underlying9 Tryz.underlying109 Tryz.underlying5
 have hB:∀j,j<t.size->(Lib.bytesWorld w 5 t).cell? ⟨w.heap.size,j,none⟩=some (.int .u8 (t.data.toList.getD j 0).toNat):=λj hj=>Lib.bytesWorld_cell w 5 t j hj
 have HBW:=Hd (G5 w t)
 obtain⟨W1,hW1⟩:∃W1,W1=Lib.bytesWorld w 5 t:=⟨_,rfl⟩
 rw[<-hW1]at hcv hB HBW
 clear hW1
 obtain⟨bs,hL⟩:∃bs,bs=t.data.toList:=⟨_,rfl⟩
 have hLn:bs.length=t.size:=by rw[hL];simp
 rw[<-hL]at hB hus ⊢
 clear hL
 have HB:=Hd hB
 have HU:=Hd hus
 obtain⟨M,hM,hMv,hM64⟩:=KG (k:=k) Om hk2
 rw[<-hMv]
 have hk00:((k:Int)==0)=false:=Bq
 have hk0:decide ((k:Int)<0)=false:=decide_eq_false Om
 have hk64:decide (64<(k:Int))=false:=decide_eq_false Om
 clear hB hus hMv
 go_enter Tryz.func98,Tryz.ntmps98
 go_wp2_with fail
 clear hcv hemp hM
 go_loop [12,13,101] (λvu vn vi=>∃(k acc:Nat) (a:Int),vu=.bool false/\vn=.int .u64 a/\vi=.int .i64 k/\k<=t.size/\Hid (a=(acc:Int)/\acc<=M/\BQ 10 M bs 0=BQ 10 M (bs.drop k) acc)) (λ_ _ vi=>t.size-(intOf vi).toNat)
 case atStart=>exact⟨0,0,0,rfl,rfl,rfl,Om,Hd ⟨rfl,Om,rfl⟩⟩
 obtain⟨k,acc,a,rfl,rfl,rfl,hk,hh⟩:=hrel
 obtain⟨ha,hacc,hdec⟩:=hh.out
 clear hh
 have a0:0<=a:=Om
 have a1:a<=(M:Int):=Om
 by_cases hkn:k<t.size
 .have hc:=HB.out k hkn
  have hdrop:bs.drop k=bs[k]' Om::bs.drop (k+1):=List.drop_eq_getElem_cons Om;have hget:bs.getD k 0=bs[k]' Om:=by simp[List.getD,List.getElem?_eq_getElem (show k<bs.length by omega)]
  rw[hdrop]at hdec;rw[hget]at hc;have HUS:=HU.out k;rw[hget]at HUS;generalize bs[k]' Om=c8 at hc hdec HUS;have hc256:c8.toNat<256:=c8.toNat_lt;clear hdrop hget;obtain⟨c,hcc⟩:∃c,c8.toNat=c:=⟨_,rfl⟩;have hgo:∀n,BQ 10 M (c8::bs.drop (k+1)) n=match E7 c with
   |none=>(0,2)
   |some d=>if 10<=d then(0,2) else if M<n*10+d then(M,1) else BQ 10 M (bs.drop (k+1)) (n*10+d):=λn=>by rw[<-hcc];rfl
  rw[hcc]at hc hc256 HUS;have t95:(((c:Nat):Int)==95)=false:=by rw[Bn];have:=HUS hkn;omega
  clear hcc HUS;rw[hgo]at hdec;have HGO:=Hd hgo;clear hgo;by_cases hdig:48<=c/\c<=57
  .have hd:E7 c=some (c-48):=by unfold E7;rw[if_pos hdig]
   rw[hd]at hdec;dsimp only at hdec;obtain⟨d,rfl⟩:∃d:Nat,c=d+48:=⟨c-48,Om⟩;rw[show d+48-48=d from by omega]at hdec;have hcI:(((d+48:Nat):Nat):Int)=(d:Int)+48:=Om;rw[hcI]at hc t95;have hd9:(d:Int)<=9:=Om;clear hd hcI hdig HGO hc256;by_cases hdb:10<=d
   .rw[if_pos hdb]at hdec
    have HF:=Hd hdec;have hdbI:(10:Int)<=(d:Int):=Om;clear hdec hdb ha hacc
    first
    |(exfalso;omega)
    |(go_wp2_with fail;go_ret2;exact⟨by rw[HF.out]<;>rfl,HBW.out⟩)
   rw[if_neg hdb]at hdec;have hdbI:¬(10:Int)<=(d:Int):=Om;by_cases hcut:1844674407370955162<=a
   .rw[if_pos Om]at hdec
    have HF:=Hd hdec;clear hdec hdb ha hacc;go_wp2_with fail;go_ret2;exact⟨by rw[HF.out]<;>rfl,HBW.out⟩
   by_cases hov:18446744073709551616<=a*10+(d:Int)
   .rw[if_pos Om]at hdec
    have HF:=Hd hdec;have hwr:IntKind.u64.wrap (a*10+(d:Int))=a*10+(d:Int)-18446744073709551616:=by rw[IntKind.wrap_u64];omega
    clear hdec hdb ha hacc
    first
    |(exfalso;omega)
    |(go_wp2_with fail;go_ret2;exact⟨by rw[HF.out]<;>rfl,HBW.out⟩)
   by_cases hM2:(M:Int)<a*10+(d:Int)
   .rw[if_pos Om]at hdec
    have HF:=Hd hdec;clear hdec hdb ha hacc;go_wp2_with fail;go_ret2;exact⟨by rw[HF.out]<;>rfl,HBW.out⟩
   rw[if_neg Om]at hdec;have HN:Hid (a*10+(d:Int)=((acc*10+d:Nat):Int)/\acc*10+d<=M/\BQ 10 M bs 0=BQ 10 M (bs.drop (k+1)) (acc*10+d)):=Hd ⟨Om,Om,hdec⟩;clear hdec hdb ha hacc;go_wp2_with fail;refine⟨⟨k+1,acc*10+d,a*10+(d:Int),rfl,(by first|rfl|(congr 1;omega)),(by first|rfl|(congr 1;omega)),Om,HN⟩,by simp[intOf];omega⟩
  have hor:=G8 hc256 hdig;have hl0:=bits_lo_u8 .or (c:Int) 32;have hl1:=bits_hi_u8 .or (c:Int) 32;have LC:=Hd (λw=>C7 (c:Int) w Om Om);have t57:¬(48<=(c:Int)/\(c:Int)<=57):=Om;rcases hor with⟨hd,hno⟩|⟨d,hd,hlow,GR,hd2⟩
  .rw[hd]at hdec
   have HF:=Hd hdec;generalize bits .or .u8 (c:Int) 32=lc at *;clear hdec hd hdig ha hacc HGO;by_cases h48:48<=(c:Int)
   .have h57:¬(c:Int)<=57:=Om
    by_cases h97:97<=lc
    .have h122:¬lc<=122:=Om
     go_wp2_with (go_at_call 120;refine(LC.out _).mono ?_;rintro e w' ⟨rfl,rfl⟩);go_ret2;exact⟨by rw[HF.out]<;>rfl,HBW.out⟩
    go_wp2_with (go_at_call 120;refine(LC.out _).mono ?_;rintro e w' ⟨rfl,rfl⟩);go_ret2;exact⟨by rw[HF.out]<;>rfl,HBW.out⟩
   by_cases h97:97<=lc
   .have h122:¬lc<=122:=Om
    go_wp2_with (go_at_call 120;refine(LC.out _).mono ?_;rintro e w' ⟨rfl,rfl⟩);go_ret2;exact⟨by rw[HF.out]<;>rfl,HBW.out⟩
   go_wp2_with (go_at_call 120;refine(LC.out _).mono ?_;rintro e w' ⟨rfl,rfl⟩);go_ret2;exact⟨by rw[HF.out]<;>rfl,HBW.out⟩
  rw[hd]at hdec;dsimp only at hdec;rw[hlow]at LC;clear hl0 hl1 hd hlow HGO;have hd35:(d:Int)<=35:=Om;have hd10:(10:Int)<=(d:Int):=Om;by_cases h48:48<=(c:Int)
  .have h57:¬(c:Int)<=57:=Om
   clear hdig t57 GR hd2;by_cases hdb:10<=d
   .rw[if_pos hdb]at hdec
    have HF:=Hd hdec;have hdbI:(10:Int)<=(d:Int):=Om;clear hdec hdb ha hacc
    first
    |(exfalso;omega)
    |(go_wp2_with (go_at_call 120;refine(LC.out _).mono ?_;rintro e w' ⟨rfl,rfl⟩);go_ret2;exact⟨by rw[HF.out]<;>rfl,HBW.out⟩)
   exact absurd hdb Om
  clear hdig t57 GR hd2;by_cases hdb:10<=d
  .rw[if_pos hdb]at hdec
   have HF:=Hd hdec;have hdbI:(10:Int)<=(d:Int):=Om;clear hdec hdb ha hacc
   first
   |(exfalso;omega)
   |(go_wp2_with (go_at_call 120;refine(LC.out _).mono ?_;rintro e w' ⟨rfl,rfl⟩);go_ret2;exact⟨by rw[HF.out]<;>rfl,HBW.out⟩)
  exact absurd hdb Om
 have hkk:k=t.size:=Om
 subst hkk
 have hF:BQ 10 M bs 0=(acc,0):=by rw[hdec,List.drop_eq_nil_of_le Om];rfl
 have HF:=Hd hF
 have hnlt:¬((t.size:Int)<(t.size:Int)):=Om
 subst ha
 clear hF hdec hkn HB HU
 go_wp2_with fail
 go_ret2
 exact⟨by rw[HF.out]<;>rfl,HBW.out⟩
theorem ALw(s t:ByteArray)(hms:s.size<=100000)(hm:t.size<=100000)(hne:s.size≠0)(h0:AA s 0=48)(h1:AA s 1=120)(h3:3<=s.size)(ht:s.extract 2 s.size=t)(hus:∀i,i<t.size->(t.data.toList.getD i 0).toNat≠95)(k:Nat)(hk:8<=k)(hk2:k<=64)(w:World) :
 Calls Tryz.prog 98 #[.string s,.int .i64 0,.int .i64 k] w λe w'=>e=.returned (.tuple #[.int .u64 (BQ 16 (IQ k) t.data.toList 0).1,CY (BQ 16 (IQ k) t.data.toList 0).2])/\Below w.heap.size w w':=by
 have hemp:s.toList.isEmpty=false:=by rw[<-decide_eq_emptyBytes];exact decide_eq_false (λh=>hne (by rw[h];rfl))
 have hs0:0<s.size:=Om
 have hs0i:(0:Int)<(s.size:Int):=Om
 have hsne:¬s=ByteArray.empty:=by rintro rfl;simp at hs0
 have z0:=AJ hs0
 have z1:(AA s 0==48)=true:=by rw[beq_iff_eq];exact h0
 generalize AA s 0=c0 at *
 clear h0
 have y0:=AJ (s:=s) (i:=1) Om
 have h3i:(3:Int)<=(s.size:Int):=Om
 have LC0:Hid (∀w,Calls Tryz.prog 120 #[.int .u8 (AA s 1)] w λe w'=>e=.returned (.int .u8 120)/\w=w'):=λw=>by have:=C7 (AA s 1) w Om Om;rw[h1,G2 Om Om]at this;rw[h1];exact this
 generalize AA s 1=c1 at *
 clear h1
 have hcv:=Lib.run_convert_string_bytes (P:=Tryz.prog) w 9 109 5 t (u:=.string) Tryz.underlying9 Tryz.underlying109 Tryz.underlying5
 have hB:∀j,j<t.size->(Lib.bytesWorld w 5 t).cell? ⟨w.heap.size,j,none⟩=some (.int .u8 (t.data.toList.getD j 0).toNat):=λj hj=>Lib.bytesWorld_cell w 5 t j hj
 have HBW:=Hd (G5 w t)
 obtain⟨W1,hW1⟩:∃W1,W1=Lib.bytesWorld w 5 t:=⟨_,rfl⟩
 rw[<-hW1]at hcv hB HBW
 clear hW1
 obtain⟨bs,hL⟩:∃bs,bs=t.data.toList:=⟨_,rfl⟩
 have hLn:bs.length=t.size:=by rw[hL];simp
 rw[<-hL]at hB hus ⊢
 clear hL
 have HB:=Hd hB
 have HU:=Hd hus
 obtain⟨M,hM,hMv,hM64⟩:=KG (k:=k) Om hk2
 rw[<-hMv]
 have hk00:((k:Int)==0)=false:=Bq
 have hk0:decide ((k:Int)<0)=false:=decide_eq_false Om
 have hk64:decide (64<(k:Int))=false:=decide_eq_false Om
 clear hB hus hMv
 go_enter Tryz.func98,Tryz.ntmps98
 go_wp2_with (go_at_call 120;refine(LC0.out _).mono ?_;rintro e w' ⟨rfl,rfl⟩)
 clear hcv hemp hM
 go_loop [12,13,101] (λvu vn vi=>∃(k acc:Nat) (a:Int),vu=.bool false/\vn=.int .u64 a/\vi=.int .i64 k/\k<=t.size/\Hid (a=(acc:Int)/\acc<=M/\BQ 16 M bs 0=BQ 16 M (bs.drop k) acc)) (λ_ _ vi=>t.size-(intOf vi).toNat)
 case atStart=>exact⟨0,0,0,rfl,rfl,rfl,Om,Hd ⟨rfl,Om,rfl⟩⟩
 obtain⟨k,acc,a,rfl,rfl,rfl,hk,hh⟩:=hrel
 obtain⟨ha,hacc,hdec⟩:=hh.out
 clear hh
 have a0:0<=a:=Om
 have a1:a<=(M:Int):=Om
 by_cases hkn:k<t.size
 .have hc:=HB.out k hkn
  have hdrop:bs.drop k=bs[k]' Om::bs.drop (k+1):=List.drop_eq_getElem_cons Om;have hget:bs.getD k 0=bs[k]' Om:=by simp[List.getD,List.getElem?_eq_getElem (show k<bs.length by omega)]
  rw[hdrop]at hdec;rw[hget]at hc;have HUS:=HU.out k;rw[hget]at HUS;generalize bs[k]' Om=c8 at hc hdec HUS;have hc256:c8.toNat<256:=c8.toNat_lt;clear hdrop hget;obtain⟨c,hcc⟩:∃c,c8.toNat=c:=⟨_,rfl⟩;have hgo:∀n,BQ 16 M (c8::bs.drop (k+1)) n=match E7 c with
   |none=>(0,2)
   |some d=>if 16<=d then(0,2) else if M<n*16+d then(M,1) else BQ 16 M (bs.drop (k+1)) (n*16+d):=λn=>by rw[<-hcc];rfl
  rw[hcc]at hc hc256 HUS;have t95:(((c:Nat):Int)==95)=false:=by rw[Bn];have:=HUS hkn;omega
  clear hcc HUS;rw[hgo]at hdec;have HGO:=Hd hgo;clear hgo;by_cases hdig:48<=c/\c<=57
  .have hd:E7 c=some (c-48):=by unfold E7;rw[if_pos hdig]
   rw[hd]at hdec;dsimp only at hdec;obtain⟨d,rfl⟩:∃d:Nat,c=d+48:=⟨c-48,Om⟩;rw[show d+48-48=d from by omega]at hdec;have hcI:(((d+48:Nat):Nat):Int)=(d:Int)+48:=Om;rw[hcI]at hc t95;have hd9:(d:Int)<=9:=Om;clear hd hcI hdig HGO hc256;by_cases hdb:16<=d
   .rw[if_pos hdb]at hdec
    have HF:=Hd hdec;have hdbI:(16:Int)<=(d:Int):=Om;clear hdec hdb ha hacc
    first
    |(exfalso;omega)
    |(go_wp2_with fail;go_ret2;exact⟨by rw[HF.out]<;>rfl,HBW.out⟩)
   rw[if_neg hdb]at hdec;have hdbI:¬(16:Int)<=(d:Int):=Om;by_cases hcut:1152921504606846976<=a
   .rw[if_pos Om]at hdec
    have HF:=Hd hdec;clear hdec hdb ha hacc;go_wp2_with fail;go_ret2;exact⟨by rw[HF.out]<;>rfl,HBW.out⟩
   by_cases hov:18446744073709551616<=a*16+(d:Int)
   .rw[if_pos Om]at hdec
    have HF:=Hd hdec;have hwr:IntKind.u64.wrap (a*16+(d:Int))=a*16+(d:Int)-18446744073709551616:=by rw[IntKind.wrap_u64];omega
    clear hdec hdb ha hacc
    first
    |(exfalso;omega)
    |(go_wp2_with fail;go_ret2;exact⟨by rw[HF.out]<;>rfl,HBW.out⟩)
   by_cases hM2:(M:Int)<a*16+(d:Int)
   .rw[if_pos Om]at hdec
    have HF:=Hd hdec;clear hdec hdb ha hacc;go_wp2_with fail;go_ret2;exact⟨by rw[HF.out]<;>rfl,HBW.out⟩
   rw[if_neg Om]at hdec;have HN:Hid (a*16+(d:Int)=((acc*16+d:Nat):Int)/\acc*16+d<=M/\BQ 16 M bs 0=BQ 16 M (bs.drop (k+1)) (acc*16+d)):=Hd ⟨Om,Om,hdec⟩;clear hdec hdb ha hacc;go_wp2_with fail;refine⟨⟨k+1,acc*16+d,a*16+(d:Int),rfl,(by first|rfl|(congr 1;omega)),(by first|rfl|(congr 1;omega)),Om,HN⟩,by simp[intOf];omega⟩
  have hor:=G8 hc256 hdig;have hl0:=bits_lo_u8 .or (c:Int) 32;have hl1:=bits_hi_u8 .or (c:Int) 32;have LC:=Hd (λw=>C7 (c:Int) w Om Om);have t57:¬(48<=(c:Int)/\(c:Int)<=57):=Om;rcases hor with⟨hd,hno⟩|⟨d,hd,hlow,GR,hd2⟩
  .rw[hd]at hdec
   have HF:=Hd hdec;generalize bits .or .u8 (c:Int) 32=lc at *;clear hdec hd hdig ha hacc HGO;by_cases h48:48<=(c:Int)
   .have h57:¬(c:Int)<=57:=Om
    by_cases h97:97<=lc
    .have h122:¬lc<=122:=Om
     go_wp2_with (go_at_call 120;refine(LC.out _).mono ?_;rintro e w' ⟨rfl,rfl⟩);go_ret2;exact⟨by rw[HF.out]<;>rfl,HBW.out⟩
    go_wp2_with (go_at_call 120;refine(LC.out _).mono ?_;rintro e w' ⟨rfl,rfl⟩);go_ret2;exact⟨by rw[HF.out]<;>rfl,HBW.out⟩
   by_cases h97:97<=lc
   .have h122:¬lc<=122:=Om
    go_wp2_with (go_at_call 120;refine(LC.out _).mono ?_;rintro e w' ⟨rfl,rfl⟩);go_ret2;exact⟨by rw[HF.out]<;>rfl,HBW.out⟩
   go_wp2_with (go_at_call 120;refine(LC.out _).mono ?_;rintro e w' ⟨rfl,rfl⟩);go_ret2;exact⟨by rw[HF.out]<;>rfl,HBW.out⟩
  rw[hd]at hdec;dsimp only at hdec;rw[hlow]at LC;clear hl0 hl1 hd hlow HGO;have hd35:(d:Int)<=35:=Om;have hd10:(10:Int)<=(d:Int):=Om;by_cases h48:48<=(c:Int)
  .have h57:¬(c:Int)<=57:=Om
   clear hdig t57 GR hd2;by_cases hdb:16<=d
   .rw[if_pos hdb]at hdec
    have HF:=Hd hdec;have hdbI:(16:Int)<=(d:Int):=Om;clear hdec hdb ha hacc
    first
    |(exfalso;omega)
    |(go_wp2_with (go_at_call 120;refine(LC.out _).mono ?_;rintro e w' ⟨rfl,rfl⟩);go_ret2;exact⟨by rw[HF.out]<;>rfl,HBW.out⟩)
   rw[if_neg hdb]at hdec;have hdbI:¬(16:Int)<=(d:Int):=Om;by_cases hcut:1152921504606846976<=a
   .rw[if_pos Om]at hdec
    have HF:=Hd hdec;clear hdec hdb ha hacc;go_wp2_with (go_at_call 120;refine(LC.out _).mono ?_;rintro e w' ⟨rfl,rfl⟩);go_ret2;exact⟨by rw[HF.out]<;>rfl,HBW.out⟩
   by_cases hov:18446744073709551616<=a*16+(d:Int)
   .rw[if_pos Om]at hdec
    have HF:=Hd hdec;have hwr:IntKind.u64.wrap (a*16+(d:Int))=a*16+(d:Int)-18446744073709551616:=by rw[IntKind.wrap_u64];omega
    clear hdec hdb ha hacc
    first
    |(exfalso;omega)
    |(go_wp2_with (go_at_call 120;refine(LC.out _).mono ?_;rintro e w' ⟨rfl,rfl⟩);go_ret2;exact⟨by rw[HF.out]<;>rfl,HBW.out⟩)
   by_cases hM2:(M:Int)<a*16+(d:Int)
   .rw[if_pos Om]at hdec
    have HF:=Hd hdec;clear hdec hdb ha hacc;go_wp2_with (go_at_call 120;refine(LC.out _).mono ?_;rintro e w' ⟨rfl,rfl⟩);go_ret2;exact⟨by rw[HF.out]<;>rfl,HBW.out⟩
   rw[if_neg Om]at hdec;have HN:Hid (a*16+(d:Int)=((acc*16+d:Nat):Int)/\acc*16+d<=M/\BQ 16 M bs 0=BQ 16 M (bs.drop (k+1)) (acc*16+d)):=Hd ⟨Om,Om,hdec⟩;clear hdec hdb ha hacc;go_wp2_with (go_at_call 120;refine(LC.out _).mono ?_;rintro e w' ⟨rfl,rfl⟩);refine⟨⟨k+1,acc*16+d,a*16+(d:Int),rfl,(by first|rfl|(congr 1;omega)),(by first|rfl|(congr 1;omega)),Om,HN⟩,by simp[intOf];omega⟩
  clear hdig t57 GR hd2;by_cases hdb:16<=d
  .rw[if_pos hdb]at hdec
   have HF:=Hd hdec;have hdbI:(16:Int)<=(d:Int):=Om;clear hdec hdb ha hacc
   first
   |(exfalso;omega)
   |(go_wp2_with (go_at_call 120;refine(LC.out _).mono ?_;rintro e w' ⟨rfl,rfl⟩);go_ret2;exact⟨by rw[HF.out]<;>rfl,HBW.out⟩)
  rw[if_neg hdb]at hdec;have hdbI:¬(16:Int)<=(d:Int):=Om;by_cases hcut:1152921504606846976<=a
  .rw[if_pos Om]at hdec
   have HF:=Hd hdec;clear hdec hdb ha hacc;go_wp2_with (go_at_call 120;refine(LC.out _).mono ?_;rintro e w' ⟨rfl,rfl⟩);go_ret2;exact⟨by rw[HF.out]<;>rfl,HBW.out⟩
  by_cases hov:18446744073709551616<=a*16+(d:Int)
  .rw[if_pos Om]at hdec
   have HF:=Hd hdec;have hwr:IntKind.u64.wrap (a*16+(d:Int))=a*16+(d:Int)-18446744073709551616:=by rw[IntKind.wrap_u64];omega
   clear hdec hdb ha hacc
   first
   |(exfalso;omega)
   |(go_wp2_with (go_at_call 120;refine(LC.out _).mono ?_;rintro e w' ⟨rfl,rfl⟩);go_ret2;exact⟨by rw[HF.out]<;>rfl,HBW.out⟩)
  by_cases hM2:(M:Int)<a*16+(d:Int)
  .rw[if_pos Om]at hdec
   have HF:=Hd hdec;clear hdec hdb ha hacc;go_wp2_with (go_at_call 120;refine(LC.out _).mono ?_;rintro e w' ⟨rfl,rfl⟩);go_ret2;exact⟨by rw[HF.out]<;>rfl,HBW.out⟩
  rw[if_neg Om]at hdec;have HN:Hid (a*16+(d:Int)=((acc*16+d:Nat):Int)/\acc*16+d<=M/\BQ 16 M bs 0=BQ 16 M (bs.drop (k+1)) (acc*16+d)):=Hd ⟨Om,Om,hdec⟩;clear hdec hdb ha hacc;go_wp2_with (go_at_call 120;refine(LC.out _).mono ?_;rintro e w' ⟨rfl,rfl⟩);refine⟨⟨k+1,acc*16+d,a*16+(d:Int),rfl,(by first|rfl|(congr 1;omega)),(by first|rfl|(congr 1;omega)),Om,HN⟩,by simp[intOf];omega⟩
 have hkk:k=t.size:=Om
 subst hkk
 have hF:BQ 16 M bs 0=(acc,0):=by rw[hdec,List.drop_eq_nil_of_le Om];rfl
 have HF:=Hd hF
 have hnlt:¬((t.size:Int)<(t.size:Int)):=Om
 subst ha
 clear hF hdec hkn HB HU
 go_wp2_with fail
 go_ret2
 exact⟨by rw[HF.out]<;>rfl,HBW.out⟩
theorem ANn(s t:ByteArray)(hms:s.size<=100000)(hm:t.size<=100000)(hne:s.size≠0)(h0:AA s 0=48)(h1:∀c,c=AA s 1->c≠120/\c≠88/\c≠98/\c≠66/\c≠111/\c≠79)(ht:s.extract 1 s.size=t)(hus:∀i,i<t.size->(t.data.toList.getD i 0).toNat≠95)(k:Nat)(hk:8<=k)(hk2:k<=64)(w:World) :
 Calls Tryz.prog 98 #[.string s,.int .i64 0,.int .i64 k] w λe w'=>e=.returned (.tuple #[.int .u64 (BQ 8 (IQ k) t.data.toList 0).1,CY (BQ 8 (IQ k) t.data.toList 0).2])/\Below w.heap.size w w':=by
 have hemp:s.toList.isEmpty=false:=by rw[<-decide_eq_emptyBytes];exact decide_eq_false (λh=>hne (by rw[h];rfl))
 have hs0:0<s.size:=Om
 have hs0i:(0:Int)<(s.size:Int):=Om
 have hsne:¬s=ByteArray.empty:=by rintro rfl;simp at hs0
 have z0:=AJ hs0
 have z1:(AA s 0==48)=true:=by rw[beq_iff_eq];exact h0
 generalize AA s 0=c0 at *
 clear h0
 have hq:=h1 _ rfl
 have y0:∀h:1<s.size,((s[1]'h).toNat:Int)=AA s 1:=λh=>AJ h
 have y1:=CJ s 1
 have y2:(bits .or .u8 (AA s 1) 32==98)=false/\(bits .or .u8 (AA s 1) 32==111)=false/\(bits .or .u8 (AA s 1) 32==120)=false:=by have:=KN ⟨(AA s 1).toNat,Om⟩;simp only at this;rw[show (((AA s 1).toNat:Nat):Int)=AA s 1 by omega]at this;rw[Bn,Bn,Bn,this];refine⟨?_,?_,?_⟩<;>split<;>omega
 obtain⟨y3,y4,y5⟩:=y2
 have LC0:=Hd (λw=>C7 (AA s 1) w y1.1 y1.2)
 generalize AA s 1=c1 at *
 clear h1 hq
 have hcv:=Lib.run_convert_string_bytes (P:=Tryz.prog) w 9 109 5 t (u:=.string) Tryz.underlying9 Tryz.underlying109 Tryz.underlying5
 have hB:∀j,j<t.size->(Lib.bytesWorld w 5 t).cell? ⟨w.heap.size,j,none⟩=some (.int .u8 (t.data.toList.getD j 0).toNat):=λj hj=>Lib.bytesWorld_cell w 5 t j hj
 have HBW:=Hd (G5 w t)
 obtain⟨W1,hW1⟩:∃W1,W1=Lib.bytesWorld w 5 t:=⟨_,rfl⟩
 rw[<-hW1]at hcv hB HBW
 clear hW1
 obtain⟨bs,hL⟩:∃bs,bs=t.data.toList:=⟨_,rfl⟩
 have hLn:bs.length=t.size:=by rw[hL];simp
 rw[<-hL]at hB hus ⊢
 clear hL
 have HB:=Hd hB
 have HU:=Hd hus
 obtain⟨M,hM,hMv,hM64⟩:=KG (k:=k) Om hk2
 rw[<-hMv]
 have hk00:((k:Int)==0)=false:=Bq
 have hk0:decide ((k:Int)<0)=false:=decide_eq_false Om
 have hk64:decide (64<(k:Int))=false:=decide_eq_false Om
 clear hB hus hMv
 go_enter Tryz.func98,Tryz.ntmps98
 go_upto_block 0 with fail
 go_cut [0,1] from 20 to 75 (λv0 v1 wx=>v0=.string t/\v1=.int .i64 8/\wx=w)
 case first=>
  by_cases h3:(3:Int)<=(s.size:Int)
  .have y6:=y0 Om
   clear y0;go_wp2_with (go_at_call 120;refine(LC0.out _).mono ?_;rintro e w' ⟨rfl,rfl⟩);go_meet;exact⟨rfl,rfl,rfl⟩
  clear y0;go_wp2_with fail;go_meet;exact⟨rfl,rfl,rfl⟩
 case rest=>
 obtain⟨rfl,rfl,rfl⟩:=hcut
 clear y0 LC0
 go_wp2_with fail
 clear hcv hemp hM
 go_loop [12,13,101] (λvu vn vi=>∃(k acc:Nat) (a:Int),vu=.bool false/\vn=.int .u64 a/\vi=.int .i64 k/\k<=t.size/\Hid (a=(acc:Int)/\acc<=M/\BQ 8 M bs 0=BQ 8 M (bs.drop k) acc)) (λ_ _ vi=>t.size-(intOf vi).toNat)
 case atStart=>exact⟨0,0,0,rfl,rfl,rfl,Om,Hd ⟨rfl,Om,rfl⟩⟩
 obtain⟨k,acc,a,rfl,rfl,rfl,hk,hh⟩:=hrel
 obtain⟨ha,hacc,hdec⟩:=hh.out
 clear hh
 have a0:0<=a:=Om
 have a1:a<=(M:Int):=Om
 by_cases hkn:k<t.size
 .have hc:=HB.out k hkn
  have hdrop:bs.drop k=bs[k]' Om::bs.drop (k+1):=List.drop_eq_getElem_cons Om;have hget:bs.getD k 0=bs[k]' Om:=by simp[List.getD,List.getElem?_eq_getElem (show k<bs.length by omega)]
  rw[hdrop]at hdec;rw[hget]at hc;have HUS:=HU.out k;rw[hget]at HUS;generalize bs[k]' Om=c8 at hc hdec HUS;have hc256:c8.toNat<256:=c8.toNat_lt;clear hdrop hget;obtain⟨c,hcc⟩:∃c,c8.toNat=c:=⟨_,rfl⟩;have hgo:∀n,BQ 8 M (c8::bs.drop (k+1)) n=match E7 c with
   |none=>(0,2)
   |some d=>if 8<=d then(0,2) else if M<n*8+d then(M,1) else BQ 8 M (bs.drop (k+1)) (n*8+d):=λn=>by rw[<-hcc];rfl
  rw[hcc]at hc hc256 HUS;have t95:(((c:Nat):Int)==95)=false:=by rw[Bn];have:=HUS hkn;omega
  clear hcc HUS;rw[hgo]at hdec;have HGO:=Hd hgo;clear hgo;by_cases hdig:48<=c/\c<=57
  .have hd:E7 c=some (c-48):=by unfold E7;rw[if_pos hdig]
   rw[hd]at hdec;dsimp only at hdec;obtain⟨d,rfl⟩:∃d:Nat,c=d+48:=⟨c-48,Om⟩;rw[show d+48-48=d from by omega]at hdec;have hcI:(((d+48:Nat):Nat):Int)=(d:Int)+48:=Om;rw[hcI]at hc t95;have hd9:(d:Int)<=9:=Om;clear hd hcI hdig HGO hc256;by_cases hdb:8<=d
   .rw[if_pos hdb]at hdec
    have HF:=Hd hdec;have hdbI:(8:Int)<=(d:Int):=Om;clear hdec hdb ha hacc
    first
    |(exfalso;omega)
    |(go_wp2_with fail;go_ret2;exact⟨by rw[HF.out]<;>rfl,HBW.out⟩)
   rw[if_neg hdb]at hdec;have hdbI:¬(8:Int)<=(d:Int):=Om;by_cases hcut:2305843009213693952<=a
   .rw[if_pos Om]at hdec
    have HF:=Hd hdec;clear hdec hdb ha hacc;go_wp2_with fail;go_ret2;exact⟨by rw[HF.out]<;>rfl,HBW.out⟩
   by_cases hov:18446744073709551616<=a*8+(d:Int)
   .rw[if_pos Om]at hdec
    have HF:=Hd hdec;have hwr:IntKind.u64.wrap (a*8+(d:Int))=a*8+(d:Int)-18446744073709551616:=by rw[IntKind.wrap_u64];omega
    clear hdec hdb ha hacc
    first
    |(exfalso;omega)
    |(go_wp2_with fail;go_ret2;exact⟨by rw[HF.out]<;>rfl,HBW.out⟩)
   by_cases hM2:(M:Int)<a*8+(d:Int)
   .rw[if_pos Om]at hdec
    have HF:=Hd hdec;clear hdec hdb ha hacc;go_wp2_with fail;go_ret2;exact⟨by rw[HF.out]<;>rfl,HBW.out⟩
   rw[if_neg Om]at hdec;have HN:Hid (a*8+(d:Int)=((acc*8+d:Nat):Int)/\acc*8+d<=M/\BQ 8 M bs 0=BQ 8 M (bs.drop (k+1)) (acc*8+d)):=Hd ⟨Om,Om,hdec⟩;clear hdec hdb ha hacc;go_wp2_with fail;refine⟨⟨k+1,acc*8+d,a*8+(d:Int),rfl,(by first|rfl|(congr 1;omega)),(by first|rfl|(congr 1;omega)),Om,HN⟩,by simp[intOf];omega⟩
  have hor:=G8 hc256 hdig;have hl0:=bits_lo_u8 .or (c:Int) 32;have hl1:=bits_hi_u8 .or (c:Int) 32;have LC:=Hd (λw=>C7 (c:Int) w Om Om);have t57:¬(48<=(c:Int)/\(c:Int)<=57):=Om;rcases hor with⟨hd,hno⟩|⟨d,hd,hlow,GR,hd2⟩
  .rw[hd]at hdec
   have HF:=Hd hdec;generalize bits .or .u8 (c:Int) 32=lc at *;clear hdec hd hdig ha hacc HGO;by_cases h48:48<=(c:Int)
   .have h57:¬(c:Int)<=57:=Om
    by_cases h97:97<=lc
    .have h122:¬lc<=122:=Om
     go_wp2_with (go_at_call 120;refine(LC.out _).mono ?_;rintro e w' ⟨rfl,rfl⟩);go_ret2;exact⟨by rw[HF.out]<;>rfl,HBW.out⟩
    go_wp2_with (go_at_call 120;refine(LC.out _).mono ?_;rintro e w' ⟨rfl,rfl⟩);go_ret2;exact⟨by rw[HF.out]<;>rfl,HBW.out⟩
   by_cases h97:97<=lc
   .have h122:¬lc<=122:=Om
    go_wp2_with (go_at_call 120;refine(LC.out _).mono ?_;rintro e w' ⟨rfl,rfl⟩);go_ret2;exact⟨by rw[HF.out]<;>rfl,HBW.out⟩
   go_wp2_with (go_at_call 120;refine(LC.out _).mono ?_;rintro e w' ⟨rfl,rfl⟩);go_ret2;exact⟨by rw[HF.out]<;>rfl,HBW.out⟩
  rw[hd]at hdec;dsimp only at hdec;rw[hlow]at LC;clear hl0 hl1 hd hlow HGO;have hd35:(d:Int)<=35:=Om;have hd10:(10:Int)<=(d:Int):=Om;by_cases h48:48<=(c:Int)
  .have h57:¬(c:Int)<=57:=Om
   clear hdig t57 GR hd2;by_cases hdb:8<=d
   .rw[if_pos hdb]at hdec
    have HF:=Hd hdec;have hdbI:(8:Int)<=(d:Int):=Om;clear hdec hdb ha hacc
    first
    |(exfalso;omega)
    |(go_wp2_with (go_at_call 120;refine(LC.out _).mono ?_;rintro e w' ⟨rfl,rfl⟩);go_ret2;exact⟨by rw[HF.out]<;>rfl,HBW.out⟩)
   exact absurd hdb Om
  clear hdig t57 GR hd2;by_cases hdb:8<=d
  .rw[if_pos hdb]at hdec
   have HF:=Hd hdec;have hdbI:(8:Int)<=(d:Int):=Om;clear hdec hdb ha hacc
   first
   |(exfalso;omega)
   |(go_wp2_with (go_at_call 120;refine(LC.out _).mono ?_;rintro e w' ⟨rfl,rfl⟩);go_ret2;exact⟨by rw[HF.out]<;>rfl,HBW.out⟩)
  exact absurd hdb Om
 have hkk:k=t.size:=Om
 subst hkk
 have hF:BQ 8 M bs 0=(acc,0):=by rw[hdec,List.drop_eq_nil_of_le Om];rfl
 have HF:=Hd hF
 have hnlt:¬((t.size:Int)<(t.size:Int)):=Om
 subst ha
 clear hF hdec hkn HB HU
 go_wp2_with fail
 go_ret2
 exact⟨by rw[HF.out]<;>rfl,HBW.out⟩
theorem APz(s:ByteArray)(hms:s.size<=100000)(base k:Int)(w:World)(hE:FN w)
 (hC:Calls Tryz.prog 97 #[.string s,.int .i64 base,.int .i64 k] w λe w'=>∃n:Int,e=.returned (.tuple #[.int .i64 n,CY 0])/\Below w.heap.size w w') :
 Calls Tryz.prog 64 #[.string s,.int .i64 base,.int .i64 k] w λe w'=>∃(n:Int) (v:Value),e=.returned (.tuple #[.int .i64 n,v])/\CQ true v/\Below w.heap.size w w':=by
 have e0:CY 0=.nilIface:=rfl
 rw[e0]at hC
 have HC:=Hd hC
 have HE:=Hd hE
 clear hC hE e0
 go_enter Tryz.func64,Tryz.ntmps64
 go_wp2_with fail
 refine HC.out.mono ?_
 rintro e w1 ⟨n,rfl,hb⟩
 have HB:=Hd hb
 clear hb
 go_wp2_with fail
 go_ret2
 exact⟨_,_,rfl,rfl,HB.out⟩
theorem APp(s:ByteArray)(hms:s.size<=100000)(base k:Int)(w:World)(hE:FN w)
 (hC:Calls Tryz.prog 97 #[.string s,.int .i64 base,.int .i64 k] w λe w'=>∃n:Int,e=.returned (.tuple #[.int .i64 n,CY 1])/\Below w.heap.size w w') :
 Calls Tryz.prog 64 #[.string s,.int .i64 base,.int .i64 k] w λe w'=>∃(n:Int) (v:Value),e=.returned (.tuple #[.int .i64 n,v])/\CQ false v/\Below w.heap.size w w':=by
 have e0:CY 1=.iface 181 (.int .i64 1):=rfl
 rw[e0]at hC
 have HC:=Hd hC
 have HE:=Hd hE
 clear hC hE e0
 go_enter Tryz.func64,Tryz.ntmps64
 go_wp2_with fail
 refine HC.out.mono ?_
 rintro e w1 ⟨n,rfl,hb⟩
 have HB:=Hd hb
 have CE:=Hd (λfn base bits=>OJ fn s base bits w1 Om (BH HE.out hb))
 clear hb
 go_wp2_with fail
 refine(CE.out _ _ _).mono ?_
 rintro e w2 ⟨a,rfl,hb2⟩
 have HB2:=Hd hb2
 clear hb2
 go_wp2_with fail
 go_ret2
 exact⟨_,_,rfl,⟨_,rfl⟩,HB.out.trans (KQ HB.out HB2.out)⟩
theorem AQl(s:ByteArray)(hms:s.size<=100000)(base k:Int)(w:World)(hE:FN w)
 (hC:Calls Tryz.prog 97 #[.string s,.int .i64 base,.int .i64 k] w λe w'=>∃n:Int,e=.returned (.tuple #[.int .i64 n,CY 2])/\Below w.heap.size w w') :
 Calls Tryz.prog 64 #[.string s,.int .i64 base,.int .i64 k] w λe w'=>∃(n:Int) (v:Value),e=.returned (.tuple #[.int .i64 n,v])/\CQ false v/\Below w.heap.size w w':=by
 have e0:CY 2=.iface 181 (.int .i64 2):=rfl
 rw[e0]at hC
 have HC:=Hd hC
 have HE:=Hd hE
 clear hC hE e0
 go_enter Tryz.func64,Tryz.ntmps64
 go_wp2_with fail
 refine HC.out.mono ?_
 rintro e w1 ⟨n,rfl,hb⟩
 have HB:=Hd hb
 have CE:=Hd (λfn base bits=>NI fn s base bits w1 Om (BH HE.out hb))
 clear hb
 go_wp2_with fail
 refine(CE.out _ _ _).mono ?_
 rintro e w2 ⟨a,rfl,hb2⟩
 have HB2:=Hd hb2
 clear hb2
 go_wp2_with fail
 go_ret2
 exact⟨_,_,rfl,⟨_,rfl⟩,HB.out.trans (KQ HB.out HB2.out)⟩
theorem AQk(s:ByteArray)(hms:s.size<=100000)(base k:Int)(w:World)(hE:FN w)(c:Nat)(hc:c<=2)
 (hC:Calls Tryz.prog 97 #[.string s,.int .i64 base,.int .i64 k] w λe w'=>∃n:Int,e=.returned (.tuple #[.int .i64 n,CY c])/\Below w.heap.size w w') :
 Calls Tryz.prog 64 #[.string s,.int .i64 base,.int .i64 k] w λe w'=>∃(n:Int) (v:Value),e=.returned (.tuple #[.int .i64 n,v])/\CQ (decide (c=0)) v/\Below w.heap.size w w':=by
 have h3:c=0\/c=1\/c=2:=Om
 rcases h3 with rfl|rfl|rfl
 .exact APz s hms base k w hE hC
 .exact APp s hms base k w hE hC
 exact AQl s hms base k w hE hC
theorem AOy(s:ByteArray)(hms:s.size<=100000)(base k:Int)(w:World)(hE:FN w)
 (hC:Calls Tryz.prog 98 #[.string s,.int .i64 base,.int .i64 k] w λe w'=>∃n:Int,e=.returned (.tuple #[.int .u64 n,CY 0])/\Below w.heap.size w w') :
 Calls Tryz.prog 65 #[.string s,.int .i64 base,.int .i64 k] w λe w'=>∃(n:Int) (v:Value),e=.returned (.tuple #[.int .u64 n,v])/\CQ true v/\Below w.heap.size w w':=by
 have e0:CY 0=.nilIface:=rfl
 rw[e0]at hC
 have HC:=Hd hC
 have HE:=Hd hE
 clear hC hE e0
 go_enter Tryz.func65,Tryz.ntmps65
 go_wp2_with fail
 refine HC.out.mono ?_
 rintro e w1 ⟨n,rfl,hb⟩
 have HB:=Hd hb
 clear hb
 go_wp2_with fail
 go_ret2
 exact⟨_,_,rfl,rfl,HB.out⟩
theorem AO2(s:ByteArray)(hms:s.size<=100000)(base k:Int)(w:World)(hE:FN w)
 (hC:Calls Tryz.prog 98 #[.string s,.int .i64 base,.int .i64 k] w λe w'=>∃n:Int,e=.returned (.tuple #[.int .u64 n,CY 1])/\Below w.heap.size w w') :
 Calls Tryz.prog 65 #[.string s,.int .i64 base,.int .i64 k] w λe w'=>∃(n:Int) (v:Value),e=.returned (.tuple #[.int .u64 n,v])/\CQ false v/\Below w.heap.size w w':=by
 have e0:CY 1=.iface 181 (.int .i64 1):=rfl
 rw[e0]at hC
 have HC:=Hd hC
 have HE:=Hd hE
 clear hC hE e0
 go_enter Tryz.func65,Tryz.ntmps65
 go_wp2_with fail
 refine HC.out.mono ?_
 rintro e w1 ⟨n,rfl,hb⟩
 have HB:=Hd hb
 have CE:=Hd (λfn base bits=>OJ fn s base bits w1 Om (BH HE.out hb))
 clear hb
 go_wp2_with fail
 refine(CE.out _ _ _).mono ?_
 rintro e w2 ⟨a,rfl,hb2⟩
 have HB2:=Hd hb2
 clear hb2
 go_wp2_with fail
 go_ret2
 exact⟨_,_,rfl,⟨_,rfl⟩,HB.out.trans (KQ HB.out HB2.out)⟩
theorem AN6(s:ByteArray)(hms:s.size<=100000)(base k:Int)(w:World)(hE:FN w)
 (hC:Calls Tryz.prog 98 #[.string s,.int .i64 base,.int .i64 k] w λe w'=>∃n:Int,e=.returned (.tuple #[.int .u64 n,CY 2])/\Below w.heap.size w w') :
 Calls Tryz.prog 65 #[.string s,.int .i64 base,.int .i64 k] w λe w'=>∃(n:Int) (v:Value),e=.returned (.tuple #[.int .u64 n,v])/\CQ false v/\Below w.heap.size w w':=by
 have e0:CY 2=.iface 181 (.int .i64 2):=rfl
 rw[e0]at hC
 have HC:=Hd hC
 have HE:=Hd hE
 clear hC hE e0
 go_enter Tryz.func65,Tryz.ntmps65
 go_wp2_with fail
 refine HC.out.mono ?_
 rintro e w1 ⟨n,rfl,hb⟩
 have HB:=Hd hb
 have CE:=Hd (λfn base bits=>NI fn s base bits w1 Om (BH HE.out hb))
 clear hb
 go_wp2_with fail
 refine(CE.out _ _ _).mono ?_
 rintro e w2 ⟨a,rfl,hb2⟩
 have HB2:=Hd hb2
 clear hb2
 go_wp2_with fail
 go_ret2
 exact⟨_,_,rfl,⟨_,rfl⟩,HB.out.trans (KQ HB.out HB2.out)⟩
theorem AEk(s:ByteArray)(hms:s.size<=100000)(base k:Int)(w:World)(hE:FN w)(c:Nat)(hc:c<=2)
 (hC:Calls Tryz.prog 98 #[.string s,.int .i64 base,.int .i64 k] w λe w'=>∃n:Int,e=.returned (.tuple #[.int .u64 n,CY c])/\Below w.heap.size w w') :
 Calls Tryz.prog 65 #[.string s,.int .i64 base,.int .i64 k] w λe w'=>∃(n:Int) (v:Value),e=.returned (.tuple #[.int .u64 n,v])/\CQ (decide (c=0)) v/\Below w.heap.size w w':=by
 have h3:c=0\/c=1\/c=2:=Om
 rcases h3 with rfl|rfl|rfl
 .exact AOy s hms base k w hE hC
 .exact AO2 s hms base k w hE hC
 exact AN6 s hms base k w hE hC
