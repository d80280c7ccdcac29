/- Lemmas for FnVtSigsEntry; no conditions. -/
import Derived.Test.YtbnbadcnfchdhaaGreatDoorP05
import Derived.Lib.ConvBytes
set_option maxRecDepth 100000
set_option maxHeartbeats 16000000
set_option linter.all false
namespace Go.Proofs.YtbnbadcnfchdhaaGreatDoor
open Go.RowKit
def E7(c:Nat):Option Nat:=
 if 48<=c/\c<=57 then some (c-48) else if 97<=c/\c<=122 then some (c-87) else if 65<=c/\c<=90 then some (c-55) else none
def BQ(b M:Nat):List UInt8->Nat->Nat×Nat
 |[],n=>(n,0)
 |c::cs,n=>match E7 c.toNat with
  |none=>(0,2)
  |some d=>if b<=d then(0,2) else if M<n*b+d then(M,1) else BQ b M cs (n*b+d)
theorem NJ{b M:Nat}:∀(l:List UInt8) (n:Nat),n<=M->(BQ b M l n).1<=M/\(BQ b M l n).2<=2
 |[],n,h=>⟨h,by simp[BQ]⟩
 |c::cs,n,h=>by
  unfold BQ;split
  .exact⟨Nat.zero_le _,Nl⟩
  split
  .exact⟨Nat.zero_le _,Nl⟩
  split
  .exact⟨Nl,by simp⟩
  exact NJ cs _ Om
theorem G8{c:Nat}(h:c<256)(h9:¬(48<=c/\c<=57)) :
 (E7 c=none/\¬(97<=bits .or .u8 (c:Int) 32/\bits .or .u8 (c:Int) 32<=122))\/
 (∃d:Nat,E7 c=some d/\bits .or .u8 (c:Int) 32=(d:Int)+87/\10<=d/\d<=35):=by
 have hl:=KN ⟨c,h⟩
 simp only at hl
 unfold E7
 rw[if_neg h9]
 by_cases h1:97<=c/\c<=122
 .rw[if_pos h1]
  rw[if_pos Om]at hl;exact Or.inr ⟨c-87,rfl,by rw[hl];omega,Om,Om⟩
 rw[if_neg h1]
 by_cases h2:65<=c/\c<=90
 .rw[if_pos h2]
  rw[if_neg Om]at hl;exact Or.inr ⟨c-55,rfl,by rw[hl];omega,Om,Om⟩
 rw[if_neg h2]
 refine Or.inl ⟨rfl,?_⟩
 rw[hl]
 split<;>omega
def IQ(k:Nat):Nat:=2^k-1
def ZB(s:ByteArray):Nat×ByteArray:=
 if AA s 0=48 then if 3<=s.size/\AA s 1=120 then(16,s.extract 2 s.size) else(8,s.extract 1 s.size) else(10,s)
def CZ(s:ByteArray)(k:Nat):Nat×Nat:=if s.size=0 then(0,2) else BQ (ZB s).1 (IQ k) (ZB s).2.data.toList 0
def CY(c:Nat):Value:=if c=0 then .nilIface else .iface 181 (.int .i64 c)
theorem G5(w:World)(t:ByteArray):Below w.heap.size w (Lib.bytesWorld w 5 t):=
 ⟨rfl,rfl,rfl,by rw[Lib.bytesWorld_size];omega,λi hi=>Lib.bytesWorld_at_old w 5 t i hi⟩
theorem KG{k:Nat}(h0:1<=k)(h:k<=64):∃M:Nat,IntKind.u64.wrap (IntKind.u64.wrap (2^k)-1)=(M:Int)/\M=IQ k/\M<18446744073709551616:=by
 have hp:2^k<=18446744073709551616:=Nat.pow_le_pow_right (n:=2) Om h;have hp0:1<=2^k:=Nat.one_le_two_pow;have hc:((2:Int)^k)=((2^k:Nat):Int):=by norm_cast
 refine⟨2^k-1,?_,rfl,Om⟩;rw[hc];generalize 2^k=q at hp hp0 ⊢;rw[IntKind.wrap_u64,IntKind.wrap_u64];omega
def BP(neg:Bool)(k:Nat)(r:Nat×Nat):Nat:=
 if r.2=2 then 2 else if neg then(if 2^(k-1)<r.1 then 1 else 0) else(if 2^(k-1)<=r.1 then 1 else 0)
theorem NG(w:World):(binOp .neq 59 (.iface 181 (.int .i64 2)) (.iface 181 (.int .i64 1))).run Tryz.prog w=.ok (.bool true) w:=Kr
theorem ND(w:World):(binOp .neq 59 (.iface 181 (.int .i64 1)) (.iface 181 (.int .i64 1))).run Tryz.prog w=.ok (.bool false) w:=Kr
theorem MA{k:Nat}(h0:1<=k)(h:k<=64):IntKind.u64.wrap (2^(k-1))=((2^(k-1):Nat):Int):=by
 have hp:2^(k-1)<=9223372036854775808:=(Nat.pow_le_pow_right (n:=2) Om (show k-1<=63 by omega):2^(k-1)<=2^63);have hc:((2:Int)^(k-1))=((2^(k-1):Nat):Int):=by norm_cast
 rw[hc];generalize 2^(k-1)=q at hp ⊢;exact wrap_u64 Om Om
theorem ALg(s t:ByteArray)(hms:s.size<=100000)(hne:s.size≠0)(hsg:AA s 0≠43/\AA s 0≠45)(ht:t=s)(base:Int)(k:Nat)(hk:8<=k)(hk2:k<=64)(un:Nat)
 (hC:∀w,Calls Tryz.prog 98 #[.string t,.int .i64 base,.int .i64 k] w λe w'=>e=.returned (.tuple #[.int .u64 un,CY 0])/\Below w.heap.size w w') (w:World) :
 Calls Tryz.prog 97 #[.string s,.int .i64 base,.int .i64 k] w λe w'=>∃n:Int,e=.returned (.tuple #[.int .i64 n,CY (BP false k (un,0))])/\Below w.heap.size w w':=by
 have hemp:s.toList.isEmpty=false:=by rw[<-decide_eq_emptyBytes];exact decide_eq_false (λh=>hne (by rw[h];rfl))
 have hs0:0<s.size:=Om
 have hs0i:(0:Int)<(s.size:Int):=Om
 have hsne:¬s=ByteArray.empty:=by rintro rfl;simp at hs0
 have z0:=AJ hs0
 have z1:(AA s 0==43)=false:=by rw[Bn];exact hsg.1
 have z2:(AA s 0==45)=false:=by rw[Bn];exact hsg.2
 generalize AA s 0=c0 at *
 subst ht
 have HC:=Hd hC
 have hn21:=NG
 have hn11:=ND
 have hk00:((k:Int)==0)=false:=Bq
 clear hC hsg
 have hcw:IntKind.u64.wrap (2^(k-1))=((2^(k-1):Nat):Int):=MA Om hk2
 have e0:CY 0=.nilIface:=rfl
 rw[e0]at HC
 clear e0
 by_cases hq:2^(k-1)<=un
 .have hp:BP false k (un,0)=1:=by unfold BP;simp[hq]
  rw[hp];have e1:CY 1=.iface 181 (.int .i64 1):=rfl;rw[e1];have hw:IntKind.u64.wrap (2^(k-1))<=(un:Int):=by rw[hcw];omega
  clear hp e1 hcw hq;go_enter Tryz.func97,Tryz.ntmps97;go_wp2_with fail;refine(HC.out _).mono ?_;rintro e w1 ⟨rfl,hb⟩;have HBb:=Hd hb;clear hb;go_wp2_with fail;go_ret2;exact⟨_,rfl,HBb.out⟩
 have hp:BP false k (un,0)=0:=by unfold BP;simp[hq]
 rw[hp]
 have e1:CY 0=.nilIface:=rfl
 rw[e1]
 have hw:¬IntKind.u64.wrap (2^(k-1))<=(un:Int):=by rw[hcw];omega
 clear hp e1 hcw hq
 go_enter Tryz.func97,Tryz.ntmps97
 go_wp2_with fail
 refine(HC.out _).mono ?_
 rintro e w1 ⟨rfl,hb⟩
 have HBb:=Hd hb
 clear hb
 go_wp2_with fail
 go_ret2
 exact⟨_,rfl,HBb.out⟩
theorem ALb(s t:ByteArray)(hms:s.size<=100000)(hne:s.size≠0)(hsg:AA s 0≠43/\AA s 0≠45)(ht:t=s)(base:Int)(k:Nat)(hk:8<=k)(hk2:k<=64)(un:Nat)
 (hC:∀w,Calls Tryz.prog 98 #[.string t,.int .i64 base,.int .i64 k] w λe w'=>e=.returned (.tuple #[.int .u64 un,CY 1])/\Below w.heap.size w w') (w:World) :
 Calls Tryz.prog 97 #[.string s,.int .i64 base,.int .i64 k] w λe w'=>∃n:Int,e=.returned (.tuple #[.int .i64 n,CY (BP false k (un,1))])/\Below w.heap.size w w':=by
 have hemp:s.toList.isEmpty=false:=by rw[<-decide_eq_emptyBytes];exact decide_eq_false (λh=>hne (by rw[h];rfl))
 have hs0:0<s.size:=Om
 have hs0i:(0:Int)<(s.size:Int):=Om
 have hsne:¬s=ByteArray.empty:=by rintro rfl;simp at hs0
 have z0:=AJ hs0
 have z1:(AA s 0==43)=false:=by rw[Bn];exact hsg.1
 have z2:(AA s 0==45)=false:=by rw[Bn];exact hsg.2
 generalize AA s 0=c0 at *
 subst ht
 have HC:=Hd hC
 have hn21:=NG
 have hn11:=ND
 have hk00:((k:Int)==0)=false:=Bq
 clear hC hsg
 have hcw:IntKind.u64.wrap (2^(k-1))=((2^(k-1):Nat):Int):=MA Om hk2
 have e0:CY 1=.iface 181 (.int .i64 1):=rfl
 rw[e0]at HC
 clear e0
 by_cases hq:2^(k-1)<=un
 .have hp:BP false k (un,1)=1:=by unfold BP;simp[hq]
  rw[hp];have e1:CY 1=.iface 181 (.int .i64 1):=rfl;rw[e1];have hw:IntKind.u64.wrap (2^(k-1))<=(un:Int):=by rw[hcw];omega
  clear hp e1 hcw hq;go_enter Tryz.func97,Tryz.ntmps97;go_wp2_with fail;refine(HC.out _).mono ?_;rintro e w1 ⟨rfl,hb⟩;have HBb:=Hd hb;clear hb;go_wp2_with fail;go_ret2;exact⟨_,rfl,HBb.out⟩
 have hp:BP false k (un,1)=0:=by unfold BP;simp[hq]
 rw[hp]
 have e1:CY 0=.nilIface:=rfl
 rw[e1]
 have hw:¬IntKind.u64.wrap (2^(k-1))<=(un:Int):=by rw[hcw];omega
 clear hp e1 hcw hq
 go_enter Tryz.func97,Tryz.ntmps97
 go_wp2_with fail
 refine(HC.out _).mono ?_
 rintro e w1 ⟨rfl,hb⟩
 have HBb:=Hd hb
 clear hb
 go_wp2_with fail
 go_ret2
 exact⟨_,rfl,HBb.out⟩
theorem AMg(s t:ByteArray)(hms:s.size<=100000)(hne:s.size≠0)(hsg:AA s 0≠43/\AA s 0≠45)(ht:t=s)(base:Int)(k:Nat)(hk:8<=k)(hk2:k<=64)(un:Nat)
 (hC:∀w,Calls Tryz.prog 98 #[.string t,.int .i64 base,.int .i64 k] w λe w'=>e=.returned (.tuple #[.int .u64 un,CY 2])/\Below w.heap.size w w') (w:World) :
 Calls Tryz.prog 97 #[.string s,.int .i64 base,.int .i64 k] w λe w'=>∃n:Int,e=.returned (.tuple #[.int .i64 n,CY (BP false k (un,2))])/\Below w.heap.size w w':=by
 have hemp:s.toList.isEmpty=false:=by rw[<-decide_eq_emptyBytes];exact decide_eq_false (λh=>hne (by rw[h];rfl))
 have hs0:0<s.size:=Om
 have hs0i:(0:Int)<(s.size:Int):=Om
 have hsne:¬s=ByteArray.empty:=by rintro rfl;simp at hs0
 have z0:=AJ hs0
 have z1:(AA s 0==43)=false:=by rw[Bn];exact hsg.1
 have z2:(AA s 0==45)=false:=by rw[Bn];exact hsg.2
 generalize AA s 0=c0 at *
 subst ht
 have HC:=Hd hC
 have hn21:=NG
 have hn11:=ND
 have hk00:((k:Int)==0)=false:=Bq
 clear hC hsg
 have hp:BP false k (un,2)=2:=rfl
 rw[hp]
 have e0:CY 2=.iface 181 (.int .i64 2):=rfl
 rw[e0]
 rw[e0]at HC
 clear hp e0
 go_enter Tryz.func97,Tryz.ntmps97
 go_wp2_with fail
 refine(HC.out _).mono ?_
 rintro e w1 ⟨rfl,hb⟩
 have HBb:=Hd hb
 clear hb
 go_wp2_with fail
 go_ret2
 exact⟨_,rfl,HBb.out⟩
theorem AIh(s t:ByteArray)(hms:s.size<=100000)(hne:s.size≠0)(hsg:AA s 0=43)(ht:s.extract 1 s.size=t)(base:Int)(k:Nat)(hk:8<=k)(hk2:k<=64)(un:Nat)
 (hC:∀w,Calls Tryz.prog 98 #[.string t,.int .i64 base,.int .i64 k] w λe w'=>e=.returned (.tuple #[.int .u64 un,CY 0])/\Below w.heap.size w w') (w:World) :
 Calls Tryz.prog 97 #[.string s,.int .i64 base,.int .i64 k] w λe w'=>∃n:Int,e=.returned (.tuple #[.int .i64 n,CY (BP false k (un,0))])/\Below w.heap.size w w':=by
 have hemp:s.toList.isEmpty=false:=by rw[<-decide_eq_emptyBytes];exact decide_eq_false (λh=>hne (by rw[h];rfl))
 have hs0:0<s.size:=Om
 have hs0i:(0:Int)<(s.size:Int):=Om
 have hsne:¬s=ByteArray.empty:=by rintro rfl;simp at hs0
 have z0:=AJ hs0
 have z1:(AA s 0==43)=true:=by rw[beq_iff_eq];exact hsg
 have hs1:(1:Int)<=(s.size:Int):=Om
 generalize AA s 0=c0 at *
 have HC:=Hd hC
 have hn21:=NG
 have hn11:=ND
 have hk00:((k:Int)==0)=false:=Bq
 clear hC hsg
 have hcw:IntKind.u64.wrap (2^(k-1))=((2^(k-1):Nat):Int):=MA Om hk2
 have e0:CY 0=.nilIface:=rfl
 rw[e0]at HC
 clear e0
 by_cases hq:2^(k-1)<=un
 .have hp:BP false k (un,0)=1:=by unfold BP;simp[hq]
  rw[hp];have e1:CY 1=.iface 181 (.int .i64 1):=rfl;rw[e1];have hw:IntKind.u64.wrap (2^(k-1))<=(un:Int):=by rw[hcw];omega
  clear hp e1 hcw hq;go_enter Tryz.func97,Tryz.ntmps97;go_wp2_with fail;refine(HC.out _).mono ?_;rintro e w1 ⟨rfl,hb⟩;have HBb:=Hd hb;clear hb;go_wp2_with fail;go_ret2;exact⟨_,rfl,HBb.out⟩
 have hp:BP false k (un,0)=0:=by unfold BP;simp[hq]
 rw[hp]
 have e1:CY 0=.nilIface:=rfl
 rw[e1]
 have hw:¬IntKind.u64.wrap (2^(k-1))<=(un:Int):=by rw[hcw];omega
 clear hp e1 hcw hq
 go_enter Tryz.func97,Tryz.ntmps97
 go_wp2_with fail
 refine(HC.out _).mono ?_
 rintro e w1 ⟨rfl,hb⟩
 have HBb:=Hd hb
 clear hb
 go_wp2_with fail
 go_ret2
 exact⟨_,rfl,HBb.out⟩
theorem AK1(s t:ByteArray)(hms:s.size<=100000)(hne:s.size≠0)(hsg:AA s 0=43)(ht:s.extract 1 s.size=t)(base:Int)(k:Nat)(hk:8<=k)(hk2:k<=64)(un:Nat)
 (hC:∀w,Calls Tryz.prog 98 #[.string t,.int .i64 base,.int .i64 k] w λe w'=>e=.returned (.tuple #[.int .u64 un,CY 1])/\Below w.heap.size w w') (w:World) :
 Calls Tryz.prog 97 #[.string s,.int .i64 base,.int .i64 k] w λe w'=>∃n:Int,e=.returned (.tuple #[.int .i64 n,CY (BP false k (un,1))])/\Below w.heap.size w w':=by
 have hemp:s.toList.isEmpty=false:=by rw[<-decide_eq_emptyBytes];exact decide_eq_false (λh=>hne (by rw[h];rfl))
 have hs0:0<s.size:=Om
 have hs0i:(0:Int)<(s.size:Int):=Om
 have hsne:¬s=ByteArray.empty:=by rintro rfl;simp at hs0
 have z0:=AJ hs0
 have z1:(AA s 0==43)=true:=by rw[beq_iff_eq];exact hsg
 have hs1:(1:Int)<=(s.size:Int):=Om
 generalize AA s 0=c0 at *
 have HC:=Hd hC
 have hn21:=NG
 have hn11:=ND
 have hk00:((k:Int)==0)=false:=Bq
 clear hC hsg
 have hcw:IntKind.u64.wrap (2^(k-1))=((2^(k-1):Nat):Int):=MA Om hk2
 have e0:CY 1=.iface 181 (.int .i64 1):=rfl
 rw[e0]at HC
 clear e0
 by_cases hq:2^(k-1)<=un
 .have hp:BP false k (un,1)=1:=by unfold BP;simp[hq]
  rw[hp];have e1:CY 1=.iface 181 (.int .i64 1):=rfl;rw[e1];have hw:IntKind.u64.wrap (2^(k-1))<=(un:Int):=by rw[hcw];omega
  clear hp e1 hcw hq;go_enter Tryz.func97,Tryz.ntmps97;go_wp2_with fail;refine(HC.out _).mono ?_;rintro e w1 ⟨rfl,hb⟩;have HBb:=Hd hb;clear hb;go_wp2_with fail;go_ret2;exact⟨_,rfl,HBb.out⟩
 have hp:BP false k (un,1)=0:=by unfold BP;simp[hq]
 rw[hp]
 have e1:CY 0=.nilIface:=rfl
 rw[e1]
 have hw:¬IntKind.u64.wrap (2^(k-1))<=(un:Int):=by rw[hcw];omega
 clear hp e1 hcw hq
 go_enter Tryz.func97,Tryz.ntmps97
 go_wp2_with fail
 refine(HC.out _).mono ?_
 rintro e w1 ⟨rfl,hb⟩
 have HBb:=Hd hb
 clear hb
 go_wp2_with fail
 go_ret2
 exact⟨_,rfl,HBb.out⟩
theorem AIn(s t:ByteArray)(hms:s.size<=100000)(hne:s.size≠0)(hsg:AA s 0=43)(ht:s.extract 1 s.size=t)(base:Int)(k:Nat)(hk:8<=k)(hk2:k<=64)(un:Nat)
 (hC:∀w,Calls Tryz.prog 98 #[.string t,.int .i64 base,.int .i64 k] w λe w'=>e=.returned (.tuple #[.int .u64 un,CY 2])/\Below w.heap.size w w') (w:World) :
 Calls Tryz.prog 97 #[.string s,.int .i64 base,.int .i64 k] w λe w'=>∃n:Int,e=.returned (.tuple #[.int .i64 n,CY (BP false k (un,2))])/\Below w.heap.size w w':=by
 have hemp:s.toList.isEmpty=false:=by rw[<-decide_eq_emptyBytes];exact decide_eq_false (λh=>hne (by rw[h];rfl))
 have hs0:0<s.size:=Om
 have hs0i:(0:Int)<(s.size:Int):=Om
 have hsne:¬s=ByteArray.empty:=by rintro rfl;simp at hs0
 have z0:=AJ hs0
 have z1:(AA s 0==43)=true:=by rw[beq_iff_eq];exact hsg
 have hs1:(1:Int)<=(s.size:Int):=Om
 generalize AA s 0=c0 at *
 have HC:=Hd hC
 have hn21:=NG
 have hn11:=ND
 have hk00:((k:Int)==0)=false:=Bq
 clear hC hsg
 have hp:BP false k (un,2)=2:=rfl
 rw[hp]
 have e0:CY 2=.iface 181 (.int .i64 2):=rfl
 rw[e0]
 rw[e0]at HC
 clear hp e0
 go_enter Tryz.func97,Tryz.ntmps97
 go_wp2_with fail
 refine(HC.out _).mono ?_
 rintro e w1 ⟨rfl,hb⟩
 have HBb:=Hd hb
 clear hb
 go_wp2_with fail
 go_ret2
 exact⟨_,rfl,HBb.out⟩
theorem AGg(s t:ByteArray)(hms:s.size<=100000)(hne:s.size≠0)(hsg:AA s 0=45)(ht:s.extract 1 s.size=t)(base:Int)(k:Nat)(hk:8<=k)(hk2:k<=64)(un:Nat)
 (hC:∀w,Calls Tryz.prog 98 #[.string t,.int .i64 base,.int .i64 k] w λe w'=>e=.returned (.tuple #[.int .u64 un,CY 0])/\Below w.heap.size w w') (w:World) :
 Calls Tryz.prog 97 #[.string s,.int .i64 base,.int .i64 k] w λe w'=>∃n:Int,e=.returned (.tuple #[.int .i64 n,CY (BP true k (un,0))])/\Below w.heap.size w w':=by
 have hemp:s.toList.isEmpty=false:=by rw[<-decide_eq_emptyBytes];exact decide_eq_false (λh=>hne (by rw[h];rfl))
 have hs0:0<s.size:=Om
 have hs0i:(0:Int)<(s.size:Int):=Om
 have hsne:¬s=ByteArray.empty:=by rintro rfl;simp at hs0
 have z0:=AJ hs0
 have z1:(AA s 0==43)=false:=Bq
 have z2:(AA s 0==45)=true:=by rw[beq_iff_eq];exact hsg
 have hs1:(1:Int)<=(s.size:Int):=Om
 generalize AA s 0=c0 at *
 have HC:=Hd hC
 have hn21:=NG
 have hn11:=ND
 have hk00:((k:Int)==0)=false:=Bq
 clear hC hsg
 have hcw:IntKind.u64.wrap (2^(k-1))=((2^(k-1):Nat):Int):=MA Om hk2
 have e0:CY 0=.nilIface:=rfl
 rw[e0]at HC
 clear e0
 by_cases hq:2^(k-1)<un
 .have hp:BP true k (un,0)=1:=by unfold BP;simp[hq]
  rw[hp];have e1:CY 1=.iface 181 (.int .i64 1):=rfl;rw[e1];have hw:IntKind.u64.wrap (2^(k-1))<(un:Int):=by rw[hcw];omega
  clear hp e1 hcw hq;go_enter Tryz.func97,Tryz.ntmps97;go_wp2_with fail;refine(HC.out _).mono ?_;rintro e w1 ⟨rfl,hb⟩;have HBb:=Hd hb;clear hb;go_wp2_with fail;go_ret2;exact⟨_,rfl,HBb.out⟩
 have hp:BP true k (un,0)=0:=by unfold BP;simp[hq]
 rw[hp]
 have e1:CY 0=.nilIface:=rfl
 rw[e1]
 have hw:¬IntKind.u64.wrap (2^(k-1))<(un:Int):=by rw[hcw];omega
 clear hp e1 hcw hq
 go_enter Tryz.func97,Tryz.ntmps97
 go_wp2_with fail
 refine(HC.out _).mono ?_
 rintro e w1 ⟨rfl,hb⟩
 have HBb:=Hd hb
 clear hb
 go_wp2_with fail
 go_ret2
 exact⟨_,rfl,HBb.out⟩
theorem AF2(s t:ByteArray)(hms:s.size<=100000)(hne:s.size≠0)(hsg:AA s 0=45)(ht:s.extract 1 s.size=t)(base:Int)(k:Nat)(hk:8<=k)(hk2:k<=64)(un:Nat)
 (hC:∀w,Calls Tryz.prog 98 #[.string t,.int .i64 base,.int .i64 k] w λe w'=>e=.returned (.tuple #[.int .u64 un,CY 1])/\Below w.heap.size w w') (w:World) :
 Calls Tryz.prog 97 #[.string s,.int .i64 base,.int .i64 k] w λe w'=>∃n:Int,e=.returned (.tuple #[.int .i64 n,CY (BP true k (un,1))])/\Below w.heap.size w w':=by
 have hemp:s.toList.isEmpty=false:=by rw[<-decide_eq_emptyBytes];exact decide_eq_false (λh=>hne (by rw[h];rfl))
 have hs0:0<s.size:=Om
 have hs0i:(0:Int)<(s.size:Int):=Om
 have hsne:¬s=ByteArray.empty:=by rintro rfl;simp at hs0
 have z0:=AJ hs0
 have z1:(AA s 0==43)=false:=Bq
 have z2:(AA s 0==45)=true:=by rw[beq_iff_eq];exact hsg
 have hs1:(1:Int)<=(s.size:Int):=Om
 generalize AA s 0=c0 at *
 have HC:=Hd hC
 have hn21:=NG
 have hn11:=ND
 have hk00:((k:Int)==0)=false:=Bq
 clear hC hsg
 have hcw:IntKind.u64.wrap (2^(k-1))=((2^(k-1):Nat):Int):=MA Om hk2
 have e0:CY 1=.iface 181 (.int .i64 1):=rfl
 rw[e0]at HC
 clear e0
 by_cases hq:2^(k-1)<un
 .have hp:BP true k (un,1)=1:=by unfold BP;simp[hq]
  rw[hp];have e1:CY 1=.iface 181 (.int .i64 1):=rfl;rw[e1];have hw:IntKind.u64.wrap (2^(k-1))<(un:Int):=by rw[hcw];omega
  clear hp e1 hcw hq;go_enter Tryz.func97,Tryz.ntmps97;go_wp2_with fail;refine(HC.out _).mono ?_;rintro e w1 ⟨rfl,hb⟩;have HBb:=Hd hb;clear hb;go_wp2_with fail;go_ret2;exact⟨_,rfl,HBb.out⟩
 have hp:BP true k (un,1)=0:=by unfold BP;simp[hq]
 rw[hp]
 have e1:CY 0=.nilIface:=rfl
 rw[e1]
 have hw:¬IntKind.u64.wrap (2^(k-1))<(un:Int):=by rw[hcw];omega
 clear hp e1 hcw hq
 go_enter Tryz.func97,Tryz.ntmps97
 go_wp2_with fail
 refine(HC.out _).mono ?_
 rintro e w1 ⟨rfl,hb⟩
 have HBb:=Hd hb
 clear hb
 go_wp2_with fail
 go_ret2
 exact⟨_,rfl,HBb.out⟩
theorem AFa(s t:ByteArray)(hms:s.size<=100000)(hne:s.size≠0)(hsg:AA s 0=45)(ht:s.extract 1 s.size=t)(base:Int)(k:Nat)(hk:8<=k)(hk2:k<=64)(un:Nat)
 (hC:∀w,Calls Tryz.prog 98 #[.string t,.int .i64 base,.int .i64 k] w λe w'=>e=.returned (.tuple #[.int .u64 un,CY 2])/\Below w.heap.size w w') (w:World) :
 Calls Tryz.prog 97 #[.string s,.int .i64 base,.int .i64 k] w λe w'=>∃n:Int,e=.returned (.tuple #[.int .i64 n,CY (BP true k (un,2))])/\Below w.heap.size w w':=by
 have hemp:s.toList.isEmpty=false:=by rw[<-decide_eq_emptyBytes];exact decide_eq_false (λh=>hne (by rw[h];rfl))
 have hs0:0<s.size:=Om
 have hs0i:(0:Int)<(s.size:Int):=Om
 have hsne:¬s=ByteArray.empty:=by rintro rfl;simp at hs0
 have z0:=AJ hs0
 have z1:(AA s 0==43)=false:=Bq
 have z2:(AA s 0==45)=true:=by rw[beq_iff_eq];exact hsg
 have hs1:(1:Int)<=(s.size:Int):=Om
 generalize AA s 0=c0 at *
 have HC:=Hd hC
 have hn21:=NG
 have hn11:=ND
 have hk00:((k:Int)==0)=false:=Bq
 clear hC hsg
 have hp:BP true k (un,2)=2:=rfl
 rw[hp]
 have e0:CY 2=.iface 181 (.int .i64 2):=rfl
 rw[e0]
 rw[e0]at HC
 clear hp e0
 go_enter Tryz.func97,Tryz.ntmps97
 go_wp2_with fail
 refine(HC.out _).mono ?_
 rintro e w1 ⟨rfl,hb⟩
 have HBb:=Hd hb
 clear hb
 go_wp2_with fail
 go_ret2
 exact⟨_,rfl,HBb.out⟩
theorem RW(s t:ByteArray)(neg:Bool)(hms:s.size<=100000)(hne:s.size≠0)
 (hsg:AA s 0≠43/\AA s 0≠45/\t=s/\neg=false\/AA s 0=43/\s.extract 1 s.size=t/\neg=false\/AA s 0=45/\s.extract 1 s.size=t/\neg=true) (base:Int) (k:Nat) (hk:8<=k) (hk2:k<=64) (r:Nat×Nat) (hr:r.2<=2)
 (hC:∀w,Calls Tryz.prog 98 #[.string t,.int .i64 base,.int .i64 k] w λe w'=>e=.returned (.tuple #[.int .u64 r.1,CY r.2])/\Below w.heap.size w w') (w:World) :
 Calls Tryz.prog 97 #[.string s,.int .i64 base,.int .i64 k] w λe w'=>∃n:Int,e=.returned (.tuple #[.int .i64 n,CY (BP neg k r)])/\Below w.heap.size w w':=by
 obtain⟨un,c⟩:=r
 have hc:c=0\/c=1\/c=2:=by simp only at hr;omega
 rcases hsg with⟨a1,a2,ht,rfl⟩|⟨a1,ht,rfl⟩|⟨a1,ht,rfl⟩
 .rcases hc with rfl|rfl|rfl
  .exact ALg s t hms hne ⟨a1,a2⟩ ht base k hk hk2 un hC w
  .exact ALb s t hms hne ⟨a1,a2⟩ ht base k hk hk2 un hC w
  exact AMg s t hms hne ⟨a1,a2⟩ ht base k hk hk2 un hC w
 .rcases hc with rfl|rfl|rfl
  .exact AIh s t hms hne a1 ht base k hk hk2 un hC w
  .exact AK1 s t hms hne a1 ht base k hk hk2 un hC w
  exact AIn s t hms hne a1 ht base k hk hk2 un hC w
 rcases hc with rfl|rfl|rfl
 .exact AGg s t hms hne a1 ht base k hk hk2 un hC w
 .exact AF2 s t hms hne a1 ht base k hk hk2 un hC w
 exact AFa s t hms hne a1 ht base k hk hk2 un hC w
theorem AQm(t:ByteArray)(hm:t.size<=100000)(hne:t.size≠0)(hus:∀i,i<t.size->(t.data.toList.getD i 0).toNat≠95)(k:Nat)(hk:8<=k)(hk2:k<=64)(w:World) :
 Calls Tryz.prog 98 #[.string t,.int .i64 10,.int .i64 k] w λe w'=>e=.returned (.tuple #[.int .u64 (BQ 10 (IQ k) t.data.toList 0).1,CY (BQ 10 (IQ k) t.data.toList 0).2])/\Below w.heap.size w w':=by
 have hemp:t.toList.isEmpty=false:=by rw[<-decide_eq_emptyBytes];exact decide_eq_false (λh=>hne (by rw[h];rfl))
 have hcv:=Lib.run_convert_string_bytes (P:=Tryz.prog) w 9 109 5 t (u:=.string) Tryz.underlying9 Tryz.underlying109 Tryz.underlying5
 have hB:∀j,j<t.size->(Lib.bytesWorld w 5 t).cell? ⟨w.heap.size,j,none⟩=some (.int .u8 (t.data.toList.getD j 0).toNat):=λj hj=>Lib.bytesWorld_cell w 5 t j hj
 have HBW:=Hd (G5 w t)
 obtain⟨W1,hW1⟩:∃W1,W1=Lib.bytesWorld w 5 t:=⟨_,rfl⟩
 rw[<-hW1]at hcv hB HBW
 clear hW1
 obtain⟨bs,hL⟩:∃bs,bs=t.data.toList:=⟨_,rfl⟩
 have hLn:bs.length=t.size:=by rw[hL];simp
 rw[<-hL]at hB hus ⊢
 clear hL
 have HB:=Hd hB
 have HU:=Hd hus
 obtain⟨M,hM,hMv,hM64⟩:=KG (k:=k) Om hk2
 rw[<-hMv]
 have hk00:((k:Int)==0)=false:=Bq
 have hk0:decide ((k:Int)<0)=false:=decide_eq_false Om
 have hk64:decide (64<(k:Int))=false:=decide_eq_false Om
 clear hB hus hMv
 go_enter Tryz.func98,Tryz.ntmps98
 go_wp2_with fail
 clear hcv hemp hM
 go_loop [12,13,101] (λvu vn vi=>∃(k acc:Nat) (a:Int),vu=.bool false/\vn=.int .u64 a/\vi=.int .i64 k/\k<=t.size/\Hid (a=(acc:Int)/\acc<=M/\BQ 10 M bs 0=BQ 10 M (bs.drop k) acc)) (λ_ _ vi=>t.size-(intOf vi).toNat)
 case atStart=>exact⟨0,0,0,rfl,rfl,rfl,Om,Hd ⟨rfl,Om,rfl⟩⟩
 obtain⟨k,acc,a,rfl,rfl,rfl,hk,hh⟩:=hrel
 obtain⟨ha,hacc,hdec⟩:=hh.out
 clear hh
 have a0:0<=a:=Om
 have a1:a<=(M:Int):=Om
 by_cases hkn:k<t.size
 .have hc:=HB.out k hkn
  have hdrop:bs.drop k=bs[k]' Om::bs.drop (k+1):=List.drop_eq_getElem_cons Om;have hget:bs.getD k 0=bs[k]' Om:=by simp[List.getD,List.getElem?_eq_getElem (show k<bs.length by omega)]
  rw[hdrop]at hdec;rw[hget]at hc;have HUS:=HU.out k;rw[hget]at HUS;generalize bs[k]' Om=c8 at hc hdec HUS;have hc256:c8.toNat<256:=c8.toNat_lt;clear hdrop hget;obtain⟨c,hcc⟩:∃c,c8.toNat=c:=⟨_,rfl⟩;have hgo:∀n,BQ 10 M (c8::bs.drop (k+1)) n=match E7 c with
   |none=>(0,2)
   |some d=>if 10<=d then(0,2) else if M<n*10+d then(M,1) else BQ 10 M (bs.drop (k+1)) (n*10+d):=λn=>by rw[<-hcc];rfl
  rw[hcc]at hc hc256 HUS;have t95:(((c:Nat):Int)==95)=false:=by rw[Bn];have:=HUS hkn;omega
  clear hcc HUS;rw[hgo]at hdec;have HGO:=Hd hgo;clear hgo;by_cases hdig:48<=c/\c<=57
  .have hd:E7 c=some (c-48):=by unfold E7;rw[if_pos hdig]
   rw[hd]at hdec;dsimp only at hdec;obtain⟨d,rfl⟩:∃d:Nat,c=d+48:=⟨c-48,Om⟩;rw[show d+48-48=d from by omega]at hdec;have hcI:(((d+48:Nat):Nat):Int)=(d:Int)+48:=Om;rw[hcI]at hc t95;have hd9:(d:Int)<=9:=Om;clear hd hcI hdig HGO hc256;by_cases hdb:10<=d
   .rw[if_pos hdb]at hdec
    have HF:=Hd hdec;have hdbI:(10:Int)<=(d:Int):=Om;clear hdec hdb ha hacc
    first
    |(exfalso;omega)
    |(go_wp2_with fail;go_ret2;exact⟨by rw[HF.out]<;>rfl,HBW.out⟩)
   rw[if_neg hdb]at hdec;have hdbI:¬(10:Int)<=(d:Int):=Om;by_cases hcut:1844674407370955162<=a
   .rw[if_pos Om]at hdec
    have HF:=Hd hdec;clear hdec hdb ha hacc;go_wp2_with fail;go_ret2;exact⟨by rw[HF.out]<;>rfl,HBW.out⟩
   by_cases hov:18446744073709551616<=a*10+(d:Int)
   .rw[if_pos Om]at hdec
    have HF:=Hd hdec;have hwr:IntKind.u64.wrap (a*10+(d:Int))=a*10+(d:Int)-18446744073709551616:=by rw[IntKind.wrap_u64];omega
    clear hdec hdb ha hacc
    first
    |(exfalso;omega)
    |(go_wp2_with fail;go_ret2;exact⟨by rw[HF.out]<;>rfl,HBW.out⟩)
   by_cases hM2:(M:Int)<a*10+(d:Int)
   .rw[if_pos Om]at hdec
    have HF:=Hd hdec;clear hdec hdb ha hacc;go_wp2_with fail;go_ret2;exact⟨by rw[HF.out]<;>rfl,HBW.out⟩
   rw[if_neg Om]at hdec;have HN:Hid (a*10+(d:Int)=((acc*10+d:Nat):Int)/\acc*10+d<=M/\BQ 10 M bs 0=BQ 10 M (bs.drop (k+1)) (acc*10+d)):=Hd ⟨Om,Om,hdec⟩;clear hdec hdb ha hacc;go_wp2_with fail;refine⟨⟨k+1,acc*10+d,a*10+(d:Int),rfl,(by first|rfl|(congr 1;omega)),(by first|rfl|(congr 1;omega)),Om,HN⟩,by simp[intOf];omega⟩
  have hor:=G8 hc256 hdig;have hl0:=bits_lo_u8 .or (c:Int) 32;have hl1:=bits_hi_u8 .or (c:Int) 32;have LC:=Hd (λw=>C7 (c:Int) w Om Om);have t57:¬(48<=(c:Int)/\(c:Int)<=57):=Om;rcases hor with⟨hd,hno⟩|⟨d,hd,hlow,GR,hd2⟩
  .rw[hd]at hdec
   have HF:=Hd hdec;generalize bits .or .u8 (c:Int) 32=lc at *;clear hdec hd hdig ha hacc HGO;by_cases h48:48<=(c:Int)
   .have h57:¬(c:Int)<=57:=Om
    by_cases h97:97<=lc
    .have h122:¬lc<=122:=Om
     go_wp2_with (go_at_call 120;refine(LC.out _).mono ?_;rintro e w' ⟨rfl,rfl⟩);go_ret2;exact⟨by rw[HF.out]<;>rfl,HBW.out⟩
    go_wp2_with (go_at_call 120;refine(LC.out _).mono ?_;rintro e w' ⟨rfl,rfl⟩);go_ret2;exact⟨by rw[HF.out]<;>rfl,HBW.out⟩
   by_cases h97:97<=lc
   .have h122:¬lc<=122:=Om
    go_wp2_with (go_at_call 120;refine(LC.out _).mono ?_;rintro e w' ⟨rfl,rfl⟩);go_ret2;exact⟨by rw[HF.out]<;>rfl,HBW.out⟩
   go_wp2_with (go_at_call 120;refine(LC.out _).mono ?_;rintro e w' ⟨rfl,rfl⟩);go_ret2;exact⟨by rw[HF.out]<;>rfl,HBW.out⟩
  rw[hd]at hdec;dsimp only at hdec;rw[hlow]at LC;clear hl0 hl1 hd hlow HGO;have hd35:(d:Int)<=35:=Om;have hd10:(10:Int)<=(d:Int):=Om;by_cases h48:48<=(c:Int)
  .have h57:¬(c:Int)<=57:=Om
   clear hdig t57 GR hd2;by_cases hdb:10<=d
   .rw[if_pos hdb]at hdec
    have HF:=Hd hdec;have hdbI:(10:Int)<=(d:Int):=Om;clear hdec hdb ha hacc
    first
    |(exfalso;omega)
    |(go_wp2_with (go_at_call 120;refine(LC.out _).mono ?_;rintro e w' ⟨rfl,rfl⟩);go_ret2;exact⟨by rw[HF.out]<;>rfl,HBW.out⟩)
   exact absurd hdb Om
  clear hdig t57 GR hd2;by_cases hdb:10<=d
  .rw[if_pos hdb]at hdec
   have HF:=Hd hdec;have hdbI:(10:Int)<=(d:Int):=Om;clear hdec hdb ha hacc
   first
   |(exfalso;omega)
   |(go_wp2_with (go_at_call 120;refine(LC.out _).mono ?_;rintro e w' ⟨rfl,rfl⟩);go_ret2;exact⟨by rw[HF.out]<;>rfl,HBW.out⟩)
  exact absurd hdb Om
 have hkk:k=t.size:=Om
 subst hkk
 have hF:BQ 10 M bs 0=(acc,0):=by rw[hdec,List.drop_eq_nil_of_le Om];rfl
 have HF:=Hd hF
 have hnlt:¬((t.size:Int)<(t.size:Int)):=Om
 subst ha
 clear hF hdec hkn HB HU
 go_wp2_with fail
 go_ret2
 exact⟨by rw[HF.out]<;>rfl,HBW.out⟩
theorem APy(t:ByteArray)(hm:t.size<=100000)(hne:t.size≠0)(hus:∀i,i<t.size->(t.data.toList.getD i 0).toNat≠95)(k:Nat)(hk:8<=k)(hk2:k<=64)(w:World) :
 Calls Tryz.prog 98 #[.string t,.int .i64 16,.int .i64 k] w λe w'=>e=.returned (.tuple #[.int .u64 (BQ 16 (IQ k) t.data.toList 0).1,CY (BQ 16 (IQ k) t.data.toList 0).2])/\Below w.heap.size w w':=by
 have hemp:t.toList.isEmpty=false:=by rw[<-decide_eq_emptyBytes];exact decide_eq_false (λh=>hne (by rw[h];rfl))
 have hcv:=Lib.run_convert_string_bytes (P:=Tryz.prog) w 9 109 5 t (u:=.string) Tryz.underlying9 Tryz.underlying109 Tryz.underlying5
 have hB:∀j,j<t.size->(Lib.bytesWorld w 5 t).cell? ⟨w.heap.size,j,none⟩=some (.int .u8 (t.data.toList.getD j 0).toNat):=λj hj=>Lib.bytesWorld_cell w 5 t j hj
 have HBW:=Hd (G5 w t)
 obtain⟨W1,hW1⟩:∃W1,W1=Lib.bytesWorld w 5 t:=⟨_,rfl⟩
 rw[<-hW1]at hcv hB HBW
 clear hW1
 obtain⟨bs,hL⟩:∃bs,bs=t.data.toList:=⟨_,rfl⟩
 have hLn:bs.length=t.size:=by rw[hL];simp
 rw[<-hL]at hB hus ⊢
 clear hL
 have HB:=Hd hB
 have HU:=Hd hus
 obtain⟨M,hM,hMv,hM64⟩:=KG (k:=k) Om hk2
 rw[<-hMv]
 have hk00:((k:Int)==0)=false:=Bq
 have hk0:decide ((k:Int)<0)=false:=decide_eq_false Om
 have hk64:decide (64<(k:Int))=false:=decide_eq_false Om
 clear hB hus hMv
 go_enter Tryz.func98,Tryz.ntmps98
 go_wp2_with fail
 clear hcv hemp hM
 go_loop [12,13,101] (λvu vn vi=>∃(k acc:Nat) (a:Int),vu=.bool false/\vn=.int .u64 a/\vi=.int .i64 k/\k<=t.size/\Hid (a=(acc:Int)/\acc<=M/\BQ 16 M bs 0=BQ 16 M (bs.drop k) acc)) (λ_ _ vi=>t.size-(intOf vi).toNat)
 case atStart=>exact⟨0,0,0,rfl,rfl,rfl,Om,Hd ⟨rfl,Om,rfl⟩⟩
 obtain⟨k,acc,a,rfl,rfl,rfl,hk,hh⟩:=hrel
 obtain⟨ha,hacc,hdec⟩:=hh.out
 clear hh
 have a0:0<=a:=Om
 have a1:a<=(M:Int):=Om
 by_cases hkn:k<t.size
 .have hc:=HB.out k hkn
  have hdrop:bs.drop k=bs[k]' Om::bs.drop (k+1):=List.drop_eq_getElem_cons Om;have hget:bs.getD k 0=bs[k]' Om:=by simp[List.getD,List.getElem?_eq_getElem (show k<bs.length by omega)]
  rw[hdrop]at hdec;rw[hget]at hc;have HUS:=HU.out k;rw[hget]at HUS;generalize bs[k]' Om=c8 at hc hdec HUS;have hc256:c8.toNat<256:=c8.toNat_lt;clear hdrop hget;obtain⟨c,hcc⟩:∃c,c8.toNat=c:=⟨_,rfl⟩;have hgo:∀n,BQ 16 M (c8::bs.drop (k+1)) n=match E7 c with
   |none=>(0,2)
   |some d=>if 16<=d then(0,2) else if M<n*16+d then(M,1) else BQ 16 M (bs.drop (k+1)) (n*16+d):=λn=>by rw[<-hcc];rfl
  rw[hcc]at hc hc256 HUS;have t95:(((c:Nat):Int)==95)=false:=by rw[Bn];have:=HUS hkn;omega
  clear hcc HUS;rw[hgo]at hdec;have HGO:=Hd hgo;clear hgo;by_cases hdig:48<=c/\c<=57
  .have hd:E7 c=some (c-48):=by unfold E7;rw[if_pos hdig]
   rw[hd]at hdec;dsimp only at hdec;obtain⟨d,rfl⟩:∃d:Nat,c=d+48:=⟨c-48,Om⟩;rw[show d+48-48=d from by omega]at hdec;have hcI:(((d+48:Nat):Nat):Int)=(d:Int)+48:=Om;rw[hcI]at hc t95;have hd9:(d:Int)<=9:=Om;clear hd hcI hdig HGO hc256;by_cases hdb:16<=d
   .rw[if_pos hdb]at hdec
    have HF:=Hd hdec;have hdbI:(16:Int)<=(d:Int):=Om;clear hdec hdb ha hacc
    first
    |(exfalso;omega)
    |(go_wp2_with fail;go_ret2;exact⟨by rw[HF.out]<;>rfl,HBW.out⟩)
   rw[if_neg hdb]at hdec;have hdbI:¬(16:Int)<=(d:Int):=Om;by_cases hcut:1152921504606846976<=a
   .rw[if_pos Om]at hdec
    have HF:=Hd hdec;clear hdec hdb ha hacc;go_wp2_with fail;go_ret2;exact⟨by rw[HF.out]<;>rfl,HBW.out⟩
   by_cases hov:18446744073709551616<=a*16+(d:Int)
   .rw[if_pos Om]at hdec
    have HF:=Hd hdec;have hwr:IntKind.u64.wrap (a*16+(d:Int))=a*16+(d:Int)-18446744073709551616:=by rw[IntKind.wrap_u64];omega
    clear hdec hdb ha hacc
    first
    |(exfalso;omega)
    |(go_wp2_with fail;go_ret2;exact⟨by rw[HF.out]<;>rfl,HBW.out⟩)
   by_cases hM2:(M:Int)<a*16+(d:Int)
   .rw[if_pos Om]at hdec
    have HF:=Hd hdec;clear hdec hdb ha hacc;go_wp2_with fail;go_ret2;exact⟨by rw[HF.out]<;>rfl,HBW.out⟩
   rw[if_neg Om]at hdec;have HN:Hid (a*16+(d:Int)=((acc*16+d:Nat):Int)/\acc*16+d<=M/\BQ 16 M bs 0=BQ 16 M (bs.drop (k+1)) (acc*16+d)):=Hd ⟨Om,Om,hdec⟩;clear hdec hdb ha hacc;go_wp2_with fail;refine⟨⟨k+1,acc*16+d,a*16+(d:Int),rfl,(by first|rfl|(congr 1;omega)),(by first|rfl|(congr 1;omega)),Om,HN⟩,by simp[intOf];omega⟩
  have hor:=G8 hc256 hdig;have hl0:=bits_lo_u8 .or (c:Int) 32;have hl1:=bits_hi_u8 .or (c:Int) 32;have LC:=Hd (λw=>C7 (c:Int) w Om Om);have t57:¬(48<=(c:Int)/\(c:Int)<=57):=Om;rcases hor with⟨hd,hno⟩|⟨d,hd,hlow,GR,hd2⟩
  .rw[hd]at hdec
   have HF:=Hd hdec;generalize bits .or .u8 (c:Int) 32=lc at *;clear hdec hd hdig ha hacc HGO;by_cases h48:48<=(c:Int)
   .have h57:¬(c:Int)<=57:=Om
    by_cases h97:97<=lc
    .have h122:¬lc<=122:=Om
     go_wp2_with (go_at_call 120;refine(LC.out _).mono ?_;rintro e w' ⟨rfl,rfl⟩);go_ret2;exact⟨by rw[HF.out]<;>rfl,HBW.out⟩
    go_wp2_with (go_at_call 120;refine(LC.out _).mono ?_;rintro e w' ⟨rfl,rfl⟩);go_ret2;exact⟨by rw[HF.out]<;>rfl,HBW.out⟩
   by_cases h97:97<=lc
   .have h122:¬lc<=122:=Om
    go_wp2_with (go_at_call 120;refine(LC.out _).mono ?_;rintro e w' ⟨rfl,rfl⟩);go_ret2;exact⟨by rw[HF.out]<;>rfl,HBW.out⟩
   go_wp2_with (go_at_call 120;refine(LC.out _).mono ?_;rintro e w' ⟨rfl,rfl⟩);go_ret2;exact⟨by rw[HF.out]<;>rfl,HBW.out⟩
  rw[hd]at hdec;dsimp only at hdec;rw[hlow]at LC;clear hl0 hl1 hd hlow HGO;have hd35:(d:Int)<=35:=Om;have hd10:(10:Int)<=(d:Int):=Om;by_cases h48:48<=(c:Int)
  .have h57:¬(c:Int)<=57:=Om
   clear hdig t57 GR hd2;by_cases hdb:16<=d
   .rw[if_pos hdb]at hdec
    have HF:=Hd hdec;have hdbI:(16:Int)<=(d:Int):=Om;clear hdec hdb ha hacc
    first
    |(exfalso;omega)
    |(go_wp2_with (go_at_call 120;refine(LC.out _).mono ?_;rintro e w' ⟨rfl,rfl⟩);go_ret2;exact⟨by rw[HF.out]<;>rfl,HBW.out⟩)
   rw[if_neg hdb]at hdec;have hdbI:¬(16:Int)<=(d:Int):=Om;by_cases hcut:1152921504606846976<=a
   .rw[if_pos Om]at hdec
    have HF:=Hd hdec;clear hdec hdb ha hacc;go_wp2_with (go_at_call 120;refine(LC.out _).mono ?_;rintro e w' ⟨rfl,rfl⟩);go_ret2;exact⟨by rw[HF.out]<;>rfl,HBW.out⟩
   by_cases hov:18446744073709551616<=a*16+(d:Int)
   .rw[if_pos Om]at hdec
    have HF:=Hd hdec;have hwr:IntKind.u64.wrap (a*16+(d:Int))=a*16+(d:Int)-18446744073709551616:=by rw[IntKind.wrap_u64];omega
    clear hdec hdb ha hacc
    first
    |(exfalso;omega)
    |(go_wp2_with (go_at_call 120;refine(LC.out _).mono ?_;rintro e w' ⟨rfl,rfl⟩);go_ret2;exact⟨by rw[HF.out]<;>rfl,HBW.out⟩)
   by_cases hM2:(M:Int)<a*16+(d:Int)
   .rw[if_pos Om]at hdec
    have HF:=Hd hdec;clear hdec hdb ha hacc;go_wp2_with (go_at_call 120;refine(LC.out _).mono ?_;rintro e w' ⟨rfl,rfl⟩);go_ret2;exact⟨by rw[HF.out]<;>rfl,HBW.out⟩
   rw[if_neg Om]at hdec;have HN:Hid (a*16+(d:Int)=((acc*16+d:Nat):Int)/\acc*16+d<=M/\BQ 16 M bs 0=BQ 16 M (bs.drop (k+1)) (acc*16+d)):=Hd ⟨Om,Om,hdec⟩;clear hdec hdb ha hacc;go_wp2_with (go_at_call 120;refine(LC.out _).mono ?_;rintro e w' ⟨rfl,rfl⟩);refine⟨⟨k+1,acc*16+d,a*16+(d:Int),rfl,(by first|rfl|(congr 1;omega)),(by first|rfl|(congr 1;omega)),Om,HN⟩,by simp[intOf];omega⟩
  clear hdig t57 GR hd2;by_cases hdb:16<=d
  .rw[if_pos hdb]at hdec
   have HF:=Hd hdec;have hdbI:(16:Int)<=(d:Int):=Om;clear hdec hdb ha hacc
   first
   |(exfalso;omega)
   |(go_wp2_with (go_at_call 120;refine(LC.out _).mono ?_;rintro e w' ⟨rfl,rfl⟩);go_ret2;exact⟨by rw[HF.out]<;>rfl,HBW.out⟩)
  rw[if_neg hdb]at hdec;have hdbI:¬(16:Int)<=(d:Int):=Om;by_cases hcut:1152921504606846976<=a
  .rw[if_pos Om]at hdec
   have HF:=Hd hdec;clear hdec hdb ha hacc;go_wp2_with (go_at_call 120;refine(LC.out _).mono ?_;rintro e w' ⟨rfl,rfl⟩);go_ret2;exact⟨by rw[HF.out]<;>rfl,HBW.out⟩
  by_cases hov:18446744073709551616<=a*16+(d:Int)
  .rw[if_pos Om]at hdec
   have HF:=Hd hdec;have hwr:IntKind.u64.wrap (a*16+(d:Int))=a*16+(d:Int)-18446744073709551616:=by rw[IntKind.wrap_u64];omega
   clear hdec hdb ha hacc
   first
   |(exfalso;omega)
   |(go_wp2_with (go_at_call 120;refine(LC.out _).mono ?_;rintro e w' ⟨rfl,rfl⟩);go_ret2;exact⟨by rw[HF.out]<;>rfl,HBW.out⟩)
  by_cases hM2:(M:Int)<a*16+(d:Int)
  .rw[if_pos Om]at hdec
   have HF:=Hd hdec;clear hdec hdb ha hacc;go_wp2_with (go_at_call 120;refine(LC.out _).mono ?_;rintro e w' ⟨rfl,rfl⟩);go_ret2;exact⟨by rw[HF.out]<;>rfl,HBW.out⟩
  rw[if_neg Om]at hdec;have HN:Hid (a*16+(d:Int)=((acc*16+d:Nat):Int)/\acc*16+d<=M/\BQ 16 M bs 0=BQ 16 M (bs.drop (k+1)) (acc*16+d)):=Hd ⟨Om,Om,hdec⟩;clear hdec hdb ha hacc;go_wp2_with (go_at_call 120;refine(LC.out _).mono ?_;rintro e w' ⟨rfl,rfl⟩);refine⟨⟨k+1,acc*16+d,a*16+(d:Int),rfl,(by first|rfl|(congr 1;omega)),(by first|rfl|(congr 1;omega)),Om,HN⟩,by simp[intOf];omega⟩
 have hkk:k=t.size:=Om
 subst hkk
 have hF:BQ 16 M bs 0=(acc,0):=by rw[hdec,List.drop_eq_nil_of_le Om];rfl
 have HF:=Hd hF
 have hnlt:¬((t.size:Int)<(t.size:Int)):=Om
 subst ha
 clear hF hdec hkn HB HU
 go_wp2_with fail
 go_ret2
 exact⟨by rw[HF.out]<;>rfl,HBW.out⟩
theorem AQs(t:ByteArray)(hm:t.size<=100000)(hne:t.size≠0)(hus:∀i,i<t.size->(t.data.toList.getD i 0).toNat≠95)(k:Nat)(hk:8<=k)(hk2:k<=64)(w:World) :
 Calls Tryz.prog 98 #[.string t,.int .i64 8,.int .i64 k] w λe w'=>e=.returned (.tuple #[.int .u64 (BQ 8 (IQ k) t.data.toList 0).1,CY (BQ 8 (IQ k) t.data.toList 0).2])/\Below w.heap.size w w':=by
 have hemp:t.toList.isEmpty=false:=by rw[<-decide_eq_emptyBytes];exact decide_eq_false (λh=>hne (by rw[h];rfl))
 have hcv:=Lib.run_convert_string_bytes (P:=Tryz.prog) w 9 109 5 t (u:=.string) Tryz.underlying9 Tryz.underlying109 Tryz.underlying5
 have hB:∀j,j<t.size->(Lib.bytesWorld w 5 t).cell? ⟨w.heap.size,j,none⟩=some (.int .u8 (t.data.toList.getD j 0).toNat):=λj hj=>Lib.bytesWorld_cell w 5 t j hj
 have HBW:=Hd (G5 w t)
 obtain⟨W1,hW1⟩:∃W1,W1=Lib.bytesWorld w 5 t:=⟨_,rfl⟩
 rw[<-hW1]at hcv hB HBW
 clear hW1
 obtain⟨bs,hL⟩:∃bs,bs=t.data.toList:=⟨_,rfl⟩
 have hLn:bs.length=t.size:=by rw[hL];simp
 rw[<-hL]at hB hus ⊢
 clear hL
 have HB:=Hd hB
 have HU:=Hd hus
 obtain⟨M,hM,hMv,hM64⟩:=KG (k:=k) Om hk2
 rw[<-hMv]
 have hk00:((k:Int)==0)=false:=Bq
 have hk0:decide ((k:Int)<0)=false:=decide_eq_false Om
 have hk64:decide (64<(k:Int))=false:=decide_eq_false Om
 clear hB hus hMv
 go_enter Tryz.func98,Tryz.ntmps98
 go_wp2_with fail
 clear hcv hemp hM
 go_loop [12,13,101] (λvu vn vi=>∃(k acc:Nat) (a:Int),vu=.bool false/\vn=.int .u64 a/\vi=.int .i64 k/\k<=t.size/\Hid (a=(acc:Int)/\acc<=M/\BQ 8 M bs 0=BQ 8 M (bs.drop k) acc)) (λ_ _ vi=>t.size-(intOf vi).toNat)
 case atStart=>exact⟨0,0,0,rfl,rfl,rfl,Om,Hd ⟨rfl,Om,rfl⟩⟩
 obtain⟨k,acc,a,rfl,rfl,rfl,hk,hh⟩:=hrel
 obtain⟨ha,hacc,hdec⟩:=hh.out
 clear hh
 have a0:0<=a:=Om
 have a1:a<=(M:Int):=Om
 by_cases hkn:k<t.size
 .have hc:=HB.out k hkn
  have hdrop:bs.drop k=bs[k]' Om::bs.drop (k+1):=List.drop_eq_getElem_cons Om;have hget:bs.getD k 0=bs[k]' Om:=by simp[List.getD,List.getElem?_eq_getElem (show k<bs.length by omega)]
  rw[hdrop]at hdec;rw[hget]at hc;have HUS:=HU.out k;rw[hget]at HUS;generalize bs[k]' Om=c8 at hc hdec HUS;have hc256:c8.toNat<256:=c8.toNat_lt;clear hdrop hget;obtain⟨c,hcc⟩:∃c,c8.toNat=c:=⟨_,rfl⟩;have hgo:∀n,BQ 8 M (c8::bs.drop (k+1)) n=match E7 c with
   |none=>(0,2)
   |some d=>if 8<=d then(0,2) else if M<n*8+d then(M,1) else BQ 8 M (bs.drop (k+1)) (n*8+d):=λn=>by rw[<-hcc];rfl
  rw[hcc]at hc hc256 HUS;have t95:(((c:Nat):Int)==95)=false:=by rw[Bn];have:=HUS hkn;omega
  clear hcc HUS;rw[hgo]at hdec;have HGO:=Hd hgo;clear hgo;by_cases hdig:48<=c/\c<=57
  .have hd:E7 c=some (c-48):=by unfold E7;rw[if_pos hdig]
   rw[hd]at hdec;dsimp only at hdec;obtain⟨d,rfl⟩:∃d:Nat,c=d+48:=⟨c-48,Om⟩;rw[show d+48-48=d from by omega]at hdec;have hcI:(((d+48:Nat):Nat):Int)=(d:Int)+48:=Om;rw[hcI]at hc t95;have hd9:(d:Int)<=9:=Om;clear hd hcI hdig HGO hc256;by_cases hdb:8<=d
   .rw[if_pos hdb]at hdec
    have HF:=Hd hdec;have hdbI:(8:Int)<=(d:Int):=Om;clear hdec hdb ha hacc
    first
    |(exfalso;omega)
    |(go_wp2_with fail;go_ret2;exact⟨by rw[HF.out]<;>rfl,HBW.out⟩)
   rw[if_neg hdb]at hdec;have hdbI:¬(8:Int)<=(d:Int):=Om;by_cases hcut:2305843009213693952<=a
   .rw[if_pos Om]at hdec
    have HF:=Hd hdec;clear hdec hdb ha hacc;go_wp2_with fail;go_ret2;exact⟨by rw[HF.out]<;>rfl,HBW.out⟩
   by_cases hov:18446744073709551616<=a*8+(d:Int)
   .rw[if_pos Om]at hdec
    have HF:=Hd hdec;have hwr:IntKind.u64.wrap (a*8+(d:Int))=a*8+(d:Int)-18446744073709551616:=by rw[IntKind.wrap_u64];omega
    clear hdec hdb ha hacc
    first
    |(exfalso;omega)
    |(go_wp2_with fail;go_ret2;exact⟨by rw[HF.out]<;>rfl,HBW.out⟩)
   by_cases hM2:(M:Int)<a*8+(d:Int)
   .rw[if_pos Om]at hdec
    have HF:=Hd hdec;clear hdec hdb ha hacc;go_wp2_with fail;go_ret2;exact⟨by rw[HF.out]<;>rfl,HBW.out⟩
   rw[if_neg Om]at hdec;have HN:Hid (a*8+(d:Int)=((acc*8+d:Nat):Int)/\acc*8+d<=M/\BQ 8 M bs 0=BQ 8 M (bs.drop (k+1)) (acc*8+d)):=Hd ⟨Om,Om,hdec⟩;clear hdec hdb ha hacc;go_wp2_with fail;refine⟨⟨k+1,acc*8+d,a*8+(d:Int),rfl,(by first|rfl|(congr 1;omega)),(by first|rfl|(congr 1;omega)),Om,HN⟩,by simp[intOf];omega⟩
  have hor:=G8 hc256 hdig;have hl0:=bits_lo_u8 .or (c:Int) 32;have hl1:=bits_hi_u8 .or (c:Int) 32;have LC:=Hd (λw=>C7 (c:Int) w Om Om);have t57:¬(48<=(c:Int)/\(c:Int)<=57):=Om;rcases hor with⟨hd,hno⟩|⟨d,hd,hlow,GR,hd2⟩
  .rw[hd]at hdec
   have HF:=Hd hdec;generalize bits .or .u8 (c:Int) 32=lc at *;clear hdec hd hdig ha hacc HGO;by_cases h48:48<=(c:Int)
   .have h57:¬(c:Int)<=57:=Om
    by_cases h97:97<=lc
    .have h122:¬lc<=122:=Om
     go_wp2_with (go_at_call 120;refine(LC.out _).mono ?_;rintro e w' ⟨rfl,rfl⟩);go_ret2;exact⟨by rw[HF.out]<;>rfl,HBW.out⟩
    go_wp2_with (go_at_call 120;refine(LC.out _).mono ?_;rintro e w' ⟨rfl,rfl⟩);go_ret2;exact⟨by rw[HF.out]<;>rfl,HBW.out⟩
   by_cases h97:97<=lc
   .have h122:¬lc<=122:=Om
    go_wp2_with (go_at_call 120;refine(LC.out _).mono ?_;rintro e w' ⟨rfl,rfl⟩);go_ret2;exact⟨by rw[HF.out]<;>rfl,HBW.out⟩
   go_wp2_with (go_at_call 120;refine(LC.out _).mono ?_;rintro e w' ⟨rfl,rfl⟩);go_ret2;exact⟨by rw[HF.out]<;>rfl,HBW.out⟩
  rw[hd]at hdec;dsimp only at hdec;rw[hlow]at LC;clear hl0 hl1 hd hlow HGO;have hd35:(d:Int)<=35:=Om;have hd10:(10:Int)<=(d:Int):=Om;by_cases h48:48<=(c:Int)
  .have h57:¬(c:Int)<=57:=Om
   clear hdig t57 GR hd2;by_cases hdb:8<=d
   .rw[if_pos hdb]at hdec
    have HF:=Hd hdec;have hdbI:(8:Int)<=(d:Int):=Om;clear hdec hdb ha hacc
    first
    |(exfalso;omega)
    |(go_wp2_with (go_at_call 120;refine(LC.out _).mono ?_;rintro e w' ⟨rfl,rfl⟩);go_ret2;exact⟨by rw[HF.out]<;>rfl,HBW.out⟩)
   exact absurd hdb Om
  clear hdig t57 GR hd2;by_cases hdb:8<=d
  .rw[if_pos hdb]at hdec
   have HF:=Hd hdec;have hdbI:(8:Int)<=(d:Int):=Om;clear hdec hdb ha hacc
   first
   |(exfalso;omega)
   |(go_wp2_with (go_at_call 120;refine(LC.out _).mono ?_;rintro e w' ⟨rfl,rfl⟩);go_ret2;exact⟨by rw[HF.out]<;>rfl,HBW.out⟩)
  exact absurd hdb Om
 have hkk:k=t.size:=Om
 subst hkk
 have hF:BQ 8 M bs 0=(acc,0):=by rw[hdec,List.drop_eq_nil_of_le Om];rfl
 have HF:=Hd hF
 have hnlt:¬((t.size:Int)<(t.size:Int)):=Om
 subst ha
 clear hF hdec hkn HB HU
 go_wp2_with fail
 go_ret2
 exact⟨by rw[HF.out]<;>rfl,HBW.out⟩
