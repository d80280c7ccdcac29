/- Lemmas for FnVtSigsEntry; no conditions. -/
import Derived.Test.YtbnbadcnfchdhaaGreatDoorP02
import Derived.Test.YtbnbadcnfchdhaaGreatDoorP04
set_option maxRecDepth 100000
set_option maxHeartbeats 16000000
set_option linter.all false
namespace Go.Proofs.YtbnbadcnfchdhaaGreatDoor
open Go.RowKit
def NN(x:Nat):Prop:=(Ieee.double.read x).isNaN=false
theorem ZS(neg:Bool){rung:Nat}(h:rung<=Ieee.double.infRung):NN (Ieee.double.word neg rung):=by
 have h1:Ieee.double.infRung<Ieee.double.signWeight:=De;have hm:Ieee.double.word neg rung%Ieee.double.signWeight=rung:=by
  unfold Ieee.Format.word;split
  .rw[Nat.add_mod_left,Nat.mod_eq_of_lt Om]
  rw[Nat.mod_eq_of_lt Om]
 unfold NN Ieee.Format.read;simp only[hm];split
 .rfl
 split
 .rfl
 split
 .rfl
 omega
theorem WD{d:Ieee.Datum}(h:d.isNaN=false):NN (Ieee.double.write d):=by
 cases d with
 |number neg mag GG=>
  show NN (Ieee.double.nearest neg mag GG);unfold Ieee.Format.nearest;dsimp only;split
  .exact ZS _ (Nat.zero_le _)
  exact ZS _ (Nat.min_le_right ..)
 |infinity neg=>exact ZS neg Nl
 |nan=>simp[Ieee.Datum.isNaN]at h
theorem AO7{x:Nat}(h:NN x):NN (Op.negFloat .f64 x):=by
 have hm:Op.negFloat .f64 x%Ieee.double.signWeight=x%Ieee.double.signWeight:=by show (x ^^^ 2^63)%2^63=x%2^63;rw[Nat.xor_mod_two_pow];simp
 unfold NN Ieee.Format.read at *;simp only[hm]at *;revert h;split
 .exactλ_=>rfl
 split
 .exactλ_=>rfl
 split
 .exactλ_=>rfl
 exactλh=>h
def GO(y:Nat):Bool:=match Ieee.double.read y with | .number _ m _=>decide (m≠0)|_=>false
theorem SJ{x y:Nat}(hx:NN x)(hy:GO y=true):∃r,Ieee.double.mul x y=some r/\NN r:=by
 unfold NN at hx;unfold GO at hy;unfold Ieee.Format.mul;revert hx hy
 cases Ieee.double.read y with
 |infinity=>simp
 |nan=>simp
 |number t n j=>
  intro hx hy;have hn:n≠0:=by simpa using hy
  revert hx
  cases Ieee.double.read x with
  |nan=>simp[Ieee.Datum.isNaN]
  |infinity s=>intro _;simp only[Ieee.Datum.product,if_neg hn];exact⟨_,rfl,WD rfl⟩
  |number s m i=>intro _;simp only[Ieee.Datum.product];exact⟨_,rfl,WD rfl⟩
theorem AJ8{x y:Nat}(hx:NN x)(hy:GO y=true):∃r,Ieee.double.div x y=some r:=by
 unfold NN at hx;unfold GO at hy;unfold Ieee.Format.div;revert hx hy
 cases Ieee.double.read y with
 |infinity=>simp
 |nan=>simp
 |number t n j=>
  intro hx hy;have hn:n≠0:=by simpa using hy
  revert hx
  cases Ieee.double.read x with
  |nan=>simp[Ieee.Datum.isNaN]
  |infinity s=>intro _;simp only[Ieee.Datum.quotient];exact⟨_,rfl⟩
  |number s m i=>intro _;simp only[Ieee.Datum.quotient,if_neg hn];exact⟨_,rfl⟩
theorem AJ2(d:Int):NN (floatOfInt .f64 d):=WD (d:=.number (d<0) d.natAbs 0) rfl
structure T0(F:Nat->Nat)(w:World):Prop where
 ex:∃R o cap:Nat,w.cell? ⟨12,0,none⟩=some (.slice (some ⟨R,o,none⟩) 23 cap)/\∀i,i<23->w.cell? ⟨R,o+i,none⟩=some (.float .f64 (F i))
 i0:w.cell? ⟨6,0,none⟩=some (.int .u64 52)
theorem ED{x y r:Nat}(h:Ieee.double.mul x y=some r)(w:World):(binOp .mul 101 (.float .f64 x) (.float .f64 y)).run Tryz.prog w=.ok (.float .f64 r) w:=by have h':FloatKind.f64.format.mul x y=some r:=h;simp[binOp,Op.floatArith,h',go_sem]
theorem AEd{x y r:Nat}(h:Ieee.double.div x y=some r)(w:World):(binOp .quo 101 (.float .f64 x) (.float .f64 y)).run Tryz.prog w=.ok (.float .f64 r) w:=by have h':FloatKind.f64.format.div x y=some r:=h;simp[binOp,Op.floatArith,h',go_sem]
theorem C3(x:Nat)(w:World):(Op.unary .neg (.float .f64 x)).run Tryz.prog w=.ok (.float .f64 (Op.negFloat .f64 x)) w:=rfl
theorem AP0(F:Nat->Nat)(d:Int)(p:Int)(neg:Bool)(h3:(d/4503599627370496 !=0)=true)(w:World)(hF:T0 F w):Calls Tryz.prog 164 #[.int .u64 d,.int .i64 p,.bool neg] w λe w'=>e=.returned (.tuple #[.float .f64 0,.bool false])/\w=w':=by have hng:=C3;obtain⟨R,o,cap,t0,t1⟩:=hF.ex;have i0:=hF.i0;clear hF t1;go_enter Tryz.func164,Tryz.ntmps164;go_wp2_with fail;go_ret2;exact⟨rfl,rfl⟩
theorem AN9(F:Nat->Nat)(d:Int)(x:Nat)(h3:(d/4503599627370496 !=0)=false)(hx:Op.negFloat .f64 (floatOfInt .f64 d)=x)(p:Int)(hz:(p==0)=true)(w:World)(hF:T0 F w):Calls Tryz.prog 164 #[.int .u64 d,.int .i64 p,.bool true] w λe w'=>e=.returned (.tuple #[.float .f64 x,.bool true])/\w=w':=by have hng:=C3;obtain⟨R,o,cap,t0,t1⟩:=hF.ex;have i0:=hF.i0;clear hF t1;go_enter Tryz.func164,Tryz.ntmps164;go_wp2_with fail;go_ret2;exact⟨rfl,rfl⟩
theorem ANu(F:Nat->Nat)(d:Int)(x:Nat)(h3:(d/4503599627370496 !=0)=false)(hx:Op.negFloat .f64 (floatOfInt .f64 d)=x)(p:Int)(hz:(p==0)=false)(hpos:0<p)(h37:¬p<=37)(w:World)(hF:T0 F w):Calls Tryz.prog 164 #[.int .u64 d,.int .i64 p,.bool true] w λe w'=>e=.returned (.tuple #[.float .f64 x,.bool false])/\w=w':=by have hng:=C3;obtain⟨R,o,cap,t0,t1⟩:=hF.ex;have i0:=hF.i0;clear hF t1;go_enter Tryz.func164,Tryz.ntmps164;go_wp2_with fail;go_ret2;exact⟨rfl,rfl⟩
theorem AN5(F:Nat->Nat)(d:Int)(x:Nat)(h3:(d/4503599627370496 !=0)=false)(hx:Op.negFloat .f64 (floatOfInt .f64 d)=x)(p:Int)(hz:(p==0)=false)(hpos:¬0<p)(hneg0:p<0)(hlo:¬-22<=p)(w:World)(hF:T0 F w):Calls Tryz.prog 164 #[.int .u64 d,.int .i64 p,.bool true] w λe w'=>e=.returned (.tuple #[.float .f64 x,.bool false])/\w=w':=by have hng:=C3;obtain⟨R,o,cap,t0,t1⟩:=hF.ex;have i0:=hF.i0;clear hF t1;go_enter Tryz.func164,Tryz.ntmps164;go_wp2_with fail;go_ret2;exact⟨rfl,rfl⟩
theorem AOg(F:Nat->Nat)(d:Int)(x:Nat)(h3:(d/4503599627370496 !=0)=false)(hx:Op.negFloat .f64 (floatOfInt .f64 d)=x)(p:Int)(r1 i:Nat)(hz:(p==0)=false)(hpos:¬0<p)(hneg0:p<0)(hlo:-22<=p)(hi:-p=(i:Int))(hi23:(i:Int)<23)(hm1:∀w,(binOp .quo 101 (.float .f64 x) (.float .f64 (F i))).run Tryz.prog w=.ok (.float .f64 r1) w)(w:World)(hF:T0 F w):Calls Tryz.prog 164 #[.int .u64 d,.int .i64 p,.bool true] w λe w'=>e=.returned (.tuple #[.float .f64 r1,.bool true])/\w=w':=by have hng:=C3;obtain⟨R,o,cap,t0,t1⟩:=hF.ex;have i0:=hF.i0;have ti:=t1 i Om;clear hF t1;go_enter Tryz.func164,Tryz.ntmps164;go_wp2_with fail;go_ret2;exact⟨rfl,rfl⟩
theorem AN4(F:Nat->Nat)(d:Int)(x:Nat)(h3:(d/4503599627370496 !=0)=false)(hx:Op.negFloat .f64 (floatOfInt .f64 d)=x)(p:Int)(r1 r2 i:Nat)(hz:(p==0)=false)(hpos:0<p)(h37:p<=37)(h22:22<p)(hi:p-22=(i:Int))(hi23:(i:Int)<23)(hm1:∀w,(binOp .mul 101 (.float .f64 x) (.float .f64 (F i))).run Tryz.prog w=.ok (.float .f64 r1) w)(hm2:∀w,(binOp .mul 101 (.float .f64 r1) (.float .f64 (F 22))).run Tryz.prog w=.ok (.float .f64 r2) w)(g1:(FloatKind.f64.format.order r1 4831355200913801216==some .gt)=true)(w:World)(hF:T0 F w):Calls Tryz.prog 164 #[.int .u64 d,.int .i64 p,.bool true] w λe w'=>e=.returned (.tuple #[.float .f64 r1,.bool false])/\w=w':=by have hng:=C3;obtain⟨R,o,cap,t0,t1⟩:=hF.ex;have i0:=hF.i0;have ti:=t1 i Om;have tj:=t1 22 Om;clear hF t1;go_enter Tryz.func164,Tryz.ntmps164;go_wp2_with fail;go_ret2;exact⟨rfl,rfl⟩
theorem ANj(F:Nat->Nat)(d:Int)(x:Nat)(h3:(d/4503599627370496 !=0)=false)(hx:Op.negFloat .f64 (floatOfInt .f64 d)=x)(p:Int)(r1 r2 i:Nat)(hz:(p==0)=false)(hpos:0<p)(h37:p<=37)(h22:22<p)(hi:p-22=(i:Int))(hi23:(i:Int)<23)(hm1:∀w,(binOp .mul 101 (.float .f64 x) (.float .f64 (F i))).run Tryz.prog w=.ok (.float .f64 r1) w)(hm2:∀w,(binOp .mul 101 (.float .f64 r1) (.float .f64 (F 22))).run Tryz.prog w=.ok (.float .f64 r2) w)(g1:(FloatKind.f64.format.order r1 4831355200913801216==some .gt)=false)(g2:(FloatKind.f64.format.order r1 14054727237768577024==some .lt)=true)(w:World)(hF:T0 F w):Calls Tryz.prog 164 #[.int .u64 d,.int .i64 p,.bool true] w λe w'=>e=.returned (.tuple #[.float .f64 r1,.bool false])/\w=w':=by have hng:=C3;obtain⟨R,o,cap,t0,t1⟩:=hF.ex;have i0:=hF.i0;have ti:=t1 i Om;have tj:=t1 22 Om;clear hF t1;go_enter Tryz.func164,Tryz.ntmps164;go_wp2_with fail;go_ret2;exact⟨rfl,rfl⟩
theorem AOw(F:Nat->Nat)(d:Int)(x:Nat)(h3:(d/4503599627370496 !=0)=false)(hx:Op.negFloat .f64 (floatOfInt .f64 d)=x)(p:Int)(r1 r2 i:Nat)(hz:(p==0)=false)(hpos:0<p)(h37:p<=37)(h22:22<p)(hi:p-22=(i:Int))(hi23:(i:Int)<23)(hm1:∀w,(binOp .mul 101 (.float .f64 x) (.float .f64 (F i))).run Tryz.prog w=.ok (.float .f64 r1) w)(hm2:∀w,(binOp .mul 101 (.float .f64 r1) (.float .f64 (F 22))).run Tryz.prog w=.ok (.float .f64 r2) w)(g1:(FloatKind.f64.format.order r1 4831355200913801216==some .gt)=false)(g2:(FloatKind.f64.format.order r1 14054727237768577024==some .lt)=false)(w:World)(hF:T0 F w):Calls Tryz.prog 164 #[.int .u64 d,.int .i64 p,.bool true] w λe w'=>e=.returned (.tuple #[.float .f64 r2,.bool true])/\w=w':=by have hng:=C3;obtain⟨R,o,cap,t0,t1⟩:=hF.ex;have i0:=hF.i0;have ti:=t1 i Om;have tj:=t1 22 Om;clear hF t1;go_enter Tryz.func164,Tryz.ntmps164;go_wp2_with fail;go_ret2;exact⟨rfl,rfl⟩
theorem ANe(F:Nat->Nat)(d:Int)(x:Nat)(h3:(d/4503599627370496 !=0)=false)(hx:Op.negFloat .f64 (floatOfInt .f64 d)=x)(r1 i:Nat)(hz:((i:Int)==0)=false)(hpos:0<(i:Int))(h37:(i:Int)<=37)(h22:¬22<(i:Int))(hi23:(i:Int)<23)(hm1:∀w,(binOp .mul 101 (.float .f64 x) (.float .f64 (F i))).run Tryz.prog w=.ok (.float .f64 r1) w)(g1:(FloatKind.f64.format.order x 4831355200913801216==some .gt)=true)(w:World)(hF:T0 F w):Calls Tryz.prog 164 #[.int .u64 d,.int .i64 i,.bool true] w λe w'=>e=.returned (.tuple #[.float .f64 x,.bool false])/\w=w':=by have hng:=C3;obtain⟨R,o,cap,t0,t1⟩:=hF.ex;have i0:=hF.i0;have ti:=t1 i Om;clear hF t1;go_enter Tryz.func164,Tryz.ntmps164;go_wp2_with fail;go_ret2;exact⟨rfl,rfl⟩
theorem AOh(F:Nat->Nat)(d:Int)(x:Nat)(h3:(d/4503599627370496 !=0)=false)(hx:Op.negFloat .f64 (floatOfInt .f64 d)=x)(r1 i:Nat)(hz:((i:Int)==0)=false)(hpos:0<(i:Int))(h37:(i:Int)<=37)(h22:¬22<(i:Int))(hi23:(i:Int)<23)(hm1:∀w,(binOp .mul 101 (.float .f64 x) (.float .f64 (F i))).run Tryz.prog w=.ok (.float .f64 r1) w)(g1:(FloatKind.f64.format.order x 4831355200913801216==some .gt)=false)(g2:(FloatKind.f64.format.order x 14054727237768577024==some .lt)=true)(w:World)(hF:T0 F w):Calls Tryz.prog 164 #[.int .u64 d,.int .i64 i,.bool true] w λe w'=>e=.returned (.tuple #[.float .f64 x,.bool false])/\w=w':=by have hng:=C3;obtain⟨R,o,cap,t0,t1⟩:=hF.ex;have i0:=hF.i0;have ti:=t1 i Om;clear hF t1;go_enter Tryz.func164,Tryz.ntmps164;go_wp2_with fail;go_ret2;exact⟨rfl,rfl⟩
theorem AO5(F:Nat->Nat)(d:Int)(x:Nat)(h3:(d/4503599627370496 !=0)=false)(hx:Op.negFloat .f64 (floatOfInt .f64 d)=x)(r1 i:Nat)(hz:((i:Int)==0)=false)(hpos:0<(i:Int))(h37:(i:Int)<=37)(h22:¬22<(i:Int))(hi23:(i:Int)<23)(hm1:∀w,(binOp .mul 101 (.float .f64 x) (.float .f64 (F i))).run Tryz.prog w=.ok (.float .f64 r1) w)(g1:(FloatKind.f64.format.order x 4831355200913801216==some .gt)=false)(g2:(FloatKind.f64.format.order x 14054727237768577024==some .lt)=false)(w:World)(hF:T0 F w):Calls Tryz.prog 164 #[.int .u64 d,.int .i64 i,.bool true] w λe w'=>e=.returned (.tuple #[.float .f64 r1,.bool true])/\w=w':=by have hng:=C3;obtain⟨R,o,cap,t0,t1⟩:=hF.ex;have i0:=hF.i0;have ti:=t1 i Om;clear hF t1;go_enter Tryz.func164,Tryz.ntmps164;go_wp2_with fail;go_ret2;exact⟨rfl,rfl⟩
theorem ANf(F:Nat->Nat)(d:Int)(x:Nat)(h3:(d/4503599627370496 !=0)=false)(hx:floatOfInt .f64 d=x)(p:Int)(hz:(p==0)=true)(w:World)(hF:T0 F w):Calls Tryz.prog 164 #[.int .u64 d,.int .i64 p,.bool false] w λe w'=>e=.returned (.tuple #[.float .f64 x,.bool true])/\w=w':=by have hng:=C3;obtain⟨R,o,cap,t0,t1⟩:=hF.ex;have i0:=hF.i0;clear hF t1;go_enter Tryz.func164,Tryz.ntmps164;go_wp2_with fail;go_ret2;exact⟨rfl,rfl⟩
theorem AO1(F:Nat->Nat)(d:Int)(x:Nat)(h3:(d/4503599627370496 !=0)=false)(hx:floatOfInt .f64 d=x)(p:Int)(hz:(p==0)=false)(hpos:0<p)(h37:¬p<=37)(w:World)(hF:T0 F w):Calls Tryz.prog 164 #[.int .u64 d,.int .i64 p,.bool false] w λe w'=>e=.returned (.tuple #[.float .f64 x,.bool false])/\w=w':=by have hng:=C3;obtain⟨R,o,cap,t0,t1⟩:=hF.ex;have i0:=hF.i0;clear hF t1;go_enter Tryz.func164,Tryz.ntmps164;go_wp2_with fail;go_ret2;exact⟨rfl,rfl⟩
theorem AOq(F:Nat->Nat)(d:Int)(x:Nat)(h3:(d/4503599627370496 !=0)=false)(hx:floatOfInt .f64 d=x)(p:Int)(hz:(p==0)=false)(hpos:¬0<p)(hneg0:p<0)(hlo:¬-22<=p)(w:World)(hF:T0 F w):Calls Tryz.prog 164 #[.int .u64 d,.int .i64 p,.bool false] w λe w'=>e=.returned (.tuple #[.float .f64 x,.bool false])/\w=w':=by have hng:=C3;obtain⟨R,o,cap,t0,t1⟩:=hF.ex;have i0:=hF.i0;clear hF t1;go_enter Tryz.func164,Tryz.ntmps164;go_wp2_with fail;go_ret2;exact⟨rfl,rfl⟩
theorem AOk(F:Nat->Nat)(d:Int)(x:Nat)(h3:(d/4503599627370496 !=0)=false)(hx:floatOfInt .f64 d=x)(p:Int)(r1 i:Nat)(hz:(p==0)=false)(hpos:¬0<p)(hneg0:p<0)(hlo:-22<=p)(hi:-p=(i:Int))(hi23:(i:Int)<23)(hm1:∀w,(binOp .quo 101 (.float .f64 x) (.float .f64 (F i))).run Tryz.prog w=.ok (.float .f64 r1) w)(w:World)(hF:T0 F w):Calls Tryz.prog 164 #[.int .u64 d,.int .i64 p,.bool false] w λe w'=>e=.returned (.tuple #[.float .f64 r1,.bool true])/\w=w':=by have hng:=C3;obtain⟨R,o,cap,t0,t1⟩:=hF.ex;have i0:=hF.i0;have ti:=t1 i Om;clear hF t1;go_enter Tryz.func164,Tryz.ntmps164;go_wp2_with fail;go_ret2;exact⟨rfl,rfl⟩
theorem AOj(F:Nat->Nat)(d:Int)(x:Nat)(h3:(d/4503599627370496 !=0)=false)(hx:floatOfInt .f64 d=x)(p:Int)(r1 r2 i:Nat)(hz:(p==0)=false)(hpos:0<p)(h37:p<=37)(h22:22<p)(hi:p-22=(i:Int))(hi23:(i:Int)<23)(hm1:∀w,(binOp .mul 101 (.float .f64 x) (.float .f64 (F i))).run Tryz.prog w=.ok (.float .f64 r1) w)(hm2:∀w,(binOp .mul 101 (.float .f64 r1) (.float .f64 (F 22))).run Tryz.prog w=.ok (.float .f64 r2) w)(g1:(FloatKind.f64.format.order r1 4831355200913801216==some .gt)=true)(w:World)(hF:T0 F w):Calls Tryz.prog 164 #[.int .u64 d,.int .i64 p,.bool false] w λe w'=>e=.returned (.tuple #[.float .f64 r1,.bool false])/\w=w':=by have hng:=C3;obtain⟨R,o,cap,t0,t1⟩:=hF.ex;have i0:=hF.i0;have ti:=t1 i Om;have tj:=t1 22 Om;clear hF t1;go_enter Tryz.func164,Tryz.ntmps164;go_wp2_with fail;go_ret2;exact⟨rfl,rfl⟩
theorem AOo(F:Nat->Nat)(d:Int)(x:Nat)(h3:(d/4503599627370496 !=0)=false)(hx:floatOfInt .f64 d=x)(p:Int)(r1 r2 i:Nat)(hz:(p==0)=false)(hpos:0<p)(h37:p<=37)(h22:22<p)(hi:p-22=(i:Int))(hi23:(i:Int)<23)(hm1:∀w,(binOp .mul 101 (.float .f64 x) (.float .f64 (F i))).run Tryz.prog w=.ok (.float .f64 r1) w)(hm2:∀w,(binOp .mul 101 (.float .f64 r1) (.float .f64 (F 22))).run Tryz.prog w=.ok (.float .f64 r2) w)(g1:(FloatKind.f64.format.order r1 4831355200913801216==some .gt)=false)(g2:(FloatKind.f64.format.order r1 14054727237768577024==some .lt)=true)(w:World)(hF:T0 F w):Calls Tryz.prog 164 #[.int .u64 d,.int .i64 p,.bool false] w λe w'=>e=.returned (.tuple #[.float .f64 r1,.bool false])/\w=w':=by have hng:=C3;obtain⟨R,o,cap,t0,t1⟩:=hF.ex;have i0:=hF.i0;have ti:=t1 i Om;have tj:=t1 22 Om;clear hF t1;go_enter Tryz.func164,Tryz.ntmps164;go_wp2_with fail;go_ret2;exact⟨rfl,rfl⟩
theorem AOv(F:Nat->Nat)(d:Int)(x:Nat)(h3:(d/4503599627370496 !=0)=false)(hx:floatOfInt .f64 d=x)(p:Int)(r1 r2 i:Nat)(hz:(p==0)=false)(hpos:0<p)(h37:p<=37)(h22:22<p)(hi:p-22=(i:Int))(hi23:(i:Int)<23)(hm1:∀w,(binOp .mul 101 (.float .f64 x) (.float .f64 (F i))).run Tryz.prog w=.ok (.float .f64 r1) w)(hm2:∀w,(binOp .mul 101 (.float .f64 r1) (.float .f64 (F 22))).run Tryz.prog w=.ok (.float .f64 r2) w)(g1:(FloatKind.f64.format.order r1 4831355200913801216==some .gt)=false)(g2:(FloatKind.f64.format.order r1 14054727237768577024==some .lt)=false)(w:World)(hF:T0 F w):Calls Tryz.prog 164 #[.int .u64 d,.int .i64 p,.bool false] w λe w'=>e=.returned (.tuple #[.float .f64 r2,.bool true])/\w=w':=by have hng:=C3;obtain⟨R,o,cap,t0,t1⟩:=hF.ex;have i0:=hF.i0;have ti:=t1 i Om;have tj:=t1 22 Om;clear hF t1;go_enter Tryz.func164,Tryz.ntmps164;go_wp2_with fail;go_ret2;exact⟨rfl,rfl⟩
theorem ANw(F:Nat->Nat)(d:Int)(x:Nat)(h3:(d/4503599627370496 !=0)=false)(hx:floatOfInt .f64 d=x)(r1 i:Nat)(hz:((i:Int)==0)=false)(hpos:0<(i:Int))(h37:(i:Int)<=37)(h22:¬22<(i:Int))(hi23:(i:Int)<23)(hm1:∀w,(binOp .mul 101 (.float .f64 x) (.float .f64 (F i))).run Tryz.prog w=.ok (.float .f64 r1) w)(g1:(FloatKind.f64.format.order x 4831355200913801216==some .gt)=true)(w:World)(hF:T0 F w):Calls Tryz.prog 164 #[.int .u64 d,.int .i64 i,.bool false] w λe w'=>e=.returned (.tuple #[.float .f64 x,.bool false])/\w=w':=by have hng:=C3;obtain⟨R,o,cap,t0,t1⟩:=hF.ex;have i0:=hF.i0;have ti:=t1 i Om;clear hF t1;go_enter Tryz.func164,Tryz.ntmps164;go_wp2_with fail;go_ret2;exact⟨rfl,rfl⟩
theorem AN0(F:Nat->Nat)(d:Int)(x:Nat)(h3:(d/4503599627370496 !=0)=false)(hx:floatOfInt .f64 d=x)(r1 i:Nat)(hz:((i:Int)==0)=false)(hpos:0<(i:Int))(h37:(i:Int)<=37)(h22:¬22<(i:Int))(hi23:(i:Int)<23)(hm1:∀w,(binOp .mul 101 (.float .f64 x) (.float .f64 (F i))).run Tryz.prog w=.ok (.float .f64 r1) w)(g1:(FloatKind.f64.format.order x 4831355200913801216==some .gt)=false)(g2:(FloatKind.f64.format.order x 14054727237768577024==some .lt)=true)(w:World)(hF:T0 F w):Calls Tryz.prog 164 #[.int .u64 d,.int .i64 i,.bool false] w λe w'=>e=.returned (.tuple #[.float .f64 x,.bool false])/\w=w':=by have hng:=C3;obtain⟨R,o,cap,t0,t1⟩:=hF.ex;have i0:=hF.i0;have ti:=t1 i Om;clear hF t1;go_enter Tryz.func164,Tryz.ntmps164;go_wp2_with fail;go_ret2;exact⟨rfl,rfl⟩
theorem AOc(F:Nat->Nat)(d:Int)(x:Nat)(h3:(d/4503599627370496 !=0)=false)(hx:floatOfInt .f64 d=x)(r1 i:Nat)(hz:((i:Int)==0)=false)(hpos:0<(i:Int))(h37:(i:Int)<=37)(h22:¬22<(i:Int))(hi23:(i:Int)<23)(hm1:∀w,(binOp .mul 101 (.float .f64 x) (.float .f64 (F i))).run Tryz.prog w=.ok (.float .f64 r1) w)(g1:(FloatKind.f64.format.order x 4831355200913801216==some .gt)=false)(g2:(FloatKind.f64.format.order x 14054727237768577024==some .lt)=false)(w:World)(hF:T0 F w):Calls Tryz.prog 164 #[.int .u64 d,.int .i64 i,.bool false] w λe w'=>e=.returned (.tuple #[.float .f64 r1,.bool true])/\w=w':=by have hng:=C3;obtain⟨R,o,cap,t0,t1⟩:=hF.ex;have i0:=hF.i0;have ti:=t1 i Om;clear hF t1;go_enter Tryz.func164,Tryz.ntmps164;go_wp2_with fail;go_ret2;exact⟨rfl,rfl⟩
theorem AGh(F:Nat->Nat)(hP:∀i,i<23->GO (F i)=true)(d p:Int)(neg:Bool) :
 ∃(f:Nat) (ok:Bool),∀w,T0 F w->Calls Tryz.prog 164 #[.int .u64 d,.int .i64 p,.bool neg] w λe w'=>e=.returned (.tuple #[.float .f64 f,.bool ok])/\w=w':=by
 cases h3:(d/4503599627370496 !=0) with
 |true=>exact⟨0,false,λw hF=>AP0 F d p neg h3 w hF⟩
 |false=>
  cases neg with
  |true=>
   obtain⟨x,hx⟩:∃x,Op.negFloat .f64 (floatOfInt .f64 d)=x:=⟨_,rfl⟩
   have hn:NN x:=hx▸AO7 (AJ2 d)
   by_cases hp:p=0
   .exact⟨x,true,λw hF=>AN9 F d x h3 hx p (by rw[beq_iff_eq];exact hp) w hF⟩
   have hz:(p==0)=false:=by rw[Bn];exact hp
   by_cases hpos:0<p
   .by_cases h37:p<=37
    .by_cases h22:22<p
     .obtain⟨i,hi⟩:∃i:Nat,p-22=(i:Int):=⟨(p-22).toNat,Om⟩
      have hi23:(i:Int)<23:=Om;obtain⟨r1,hr1,hn1⟩:=SJ hn (hP i Om);obtain⟨r2,hr2,-⟩:=SJ hn1 (hP 22 Om)
      cases g1:(FloatKind.f64.format.order r1 4831355200913801216==some .gt) with
      |true=>exact⟨r1,false,λw hF=>AN4 F d x h3 hx p r1 r2 i hz hpos h37 h22 hi hi23 (ED hr1) (ED hr2) g1 w hF⟩
      |false=>
       cases g2:(FloatKind.f64.format.order r1 14054727237768577024==some .lt) with
       |true=>exact⟨r1,false,λw hF=>ANj F d x h3 hx p r1 r2 i hz hpos h37 h22 hi hi23 (ED hr1) (ED hr2) g1 g2 w hF⟩
       |false=>exact⟨r2,true,λw hF=>AOw F d x h3 hx p r1 r2 i hz hpos h37 h22 hi hi23 (ED hr1) (ED hr2) g1 g2 w hF⟩
     obtain⟨i,hi⟩:∃i:Nat,p=(i:Int):=⟨p.toNat,Om⟩;subst hi;have hi23:(i:Int)<23:=Om;obtain⟨r1,hr1,-⟩:=SJ hn (hP i Om)
     cases g1:(FloatKind.f64.format.order x 4831355200913801216==some .gt) with
     |true=>exact⟨x,false,λw hF=>ANe F d x h3 hx r1 i hz hpos h37 h22 hi23 (ED hr1) g1 w hF⟩
     |false=>
      cases g2:(FloatKind.f64.format.order x 14054727237768577024==some .lt) with
      |true=>exact⟨x,false,λw hF=>AOh F d x h3 hx r1 i hz hpos h37 h22 hi23 (ED hr1) g1 g2 w hF⟩
      |false=>exact⟨r1,true,λw hF=>AO5 F d x h3 hx r1 i hz hpos h37 h22 hi23 (ED hr1) g1 g2 w hF⟩
    exact⟨x,false,λw hF=>ANu F d x h3 hx p hz hpos h37 w hF⟩
   by_cases hlo:-22<=p
   .obtain⟨i,hi⟩:∃i:Nat,-p=(i:Int):=⟨(-p).toNat,Om⟩
    obtain⟨r1,hr1⟩:=AJ8 hn (hP i Om);exact⟨r1,true,λw hF=>AOg F d x h3 hx p r1 i hz hpos Om hlo hi Om (AEd hr1) w hF⟩
   exact⟨x,false,λw hF=>AN5 F d x h3 hx p hz hpos Om hlo w hF⟩
  |false=>
   obtain⟨x,hx⟩:∃x,floatOfInt .f64 d=x:=⟨_,rfl⟩
   have hn:NN x:=hx▸AJ2 d
   by_cases hp:p=0
   .exact⟨x,true,λw hF=>ANf F d x h3 hx p (by rw[beq_iff_eq];exact hp) w hF⟩
   have hz:(p==0)=false:=by rw[Bn];exact hp
   by_cases hpos:0<p
   .by_cases h37:p<=37
    .by_cases h22:22<p
     .obtain⟨i,hi⟩:∃i:Nat,p-22=(i:Int):=⟨(p-22).toNat,Om⟩
      have hi23:(i:Int)<23:=Om;obtain⟨r1,hr1,hn1⟩:=SJ hn (hP i Om);obtain⟨r2,hr2,-⟩:=SJ hn1 (hP 22 Om)
      cases g1:(FloatKind.f64.format.order r1 4831355200913801216==some .gt) with
      |true=>exact⟨r1,false,λw hF=>AOj F d x h3 hx p r1 r2 i hz hpos h37 h22 hi hi23 (ED hr1) (ED hr2) g1 w hF⟩
      |false=>
       cases g2:(FloatKind.f64.format.order r1 14054727237768577024==some .lt) with
       |true=>exact⟨r1,false,λw hF=>AOo F d x h3 hx p r1 r2 i hz hpos h37 h22 hi hi23 (ED hr1) (ED hr2) g1 g2 w hF⟩
       |false=>exact⟨r2,true,λw hF=>AOv F d x h3 hx p r1 r2 i hz hpos h37 h22 hi hi23 (ED hr1) (ED hr2) g1 g2 w hF⟩
     obtain⟨i,hi⟩:∃i:Nat,p=(i:Int):=⟨p.toNat,Om⟩;subst hi;have hi23:(i:Int)<23:=Om;obtain⟨r1,hr1,-⟩:=SJ hn (hP i Om)
     cases g1:(FloatKind.f64.format.order x 4831355200913801216==some .gt) with
     |true=>exact⟨x,false,λw hF=>ANw F d x h3 hx r1 i hz hpos h37 h22 hi23 (ED hr1) g1 w hF⟩
     |false=>
      cases g2:(FloatKind.f64.format.order x 14054727237768577024==some .lt) with
      |true=>exact⟨x,false,λw hF=>AN0 F d x h3 hx r1 i hz hpos h37 h22 hi23 (ED hr1) g1 g2 w hF⟩
      |false=>exact⟨r1,true,λw hF=>AOc F d x h3 hx r1 i hz hpos h37 h22 hi23 (ED hr1) g1 g2 w hF⟩
    exact⟨x,false,λw hF=>AO1 F d x h3 hx p hz hpos h37 w hF⟩
   by_cases hlo:-22<=p
   .obtain⟨i,hi⟩:∃i:Nat,-p=(i:Int):=⟨(-p).toNat,Om⟩
    obtain⟨r1,hr1⟩:=AJ8 hn (hP i Om);exact⟨r1,true,λw hF=>AOk F d x h3 hx p r1 i hz hpos Om hlo hi Om (AEd hr1) w hF⟩
   exact⟨x,false,λw hF=>AOq F d x h3 hx p hz hpos Om hlo w hF⟩
structure MX(T F:Nat->Nat)(w:World)(N:Nat):Prop where
 p10:P10 T w
 f10:T0 F w
 pows:ZI w N
 cheats:NA w N
 opt:w.cell? ⟨5,0,none⟩=some (.bool true)
 small:14<N
 fits:N<=w.heap.size
theorem XZ{T:Nat->Nat}{w w1:World}(h:P10 T w)(h13:13<w.heap.size)(hb:Below w.heap.size w w1):P10 T w1:=
 ⟨λi hi=>(hb.cell (p:=⟨13,i,none⟩) h13).trans (h.cell i hi),h.small⟩
theorem KQ{w w1 w2:World}(h:Below w.heap.size w w1)(k:Below w1.heap.size w1 w2):Below w.heap.size w1 w2:=
 ⟨k.os,k.tape,k.output,k.size,λi hi=>k.block i (Nat.lt_of_lt_of_le hi h.size)⟩
theorem ADe{w w1:World}{N:Nat}(h:ZI w N)(h14:14<N)(hN:N<=w.heap.size)(hb:Below w.heap.size w w1):ZI w1 N:=by obtain⟨⟨R,o,cap,hR,h14',c,e⟩,i0,i1,i2⟩:=h;have q:∀b i,b<N->w1.cell? ⟨b,i,none⟩=w.cell? ⟨b,i,none⟩:=λb i hb'=>hb.cell (p:=⟨b,i,none⟩) (Nat.lt_of_lt_of_le hb' hN);exact⟨⟨R,o,cap,hR,h14',(q 11 0 Om).trans c,λi hi=>(q R _ hR).trans (e i hi)⟩,(q 6 0 Om).trans i0,(q 6 1 Om).trans i1,(q 6 2 Om).trans i2⟩
theorem ZT{w w1:World}{N:Nat}(h:NA w N)(hN:N<=w.heap.size)(hb:Below w.heap.size w w1):NA w1 N:=by obtain⟨⟨R,o,cap,hR,h14,c,e⟩⟩:=h;have q:∀b i,b<N->w1.cell? ⟨b,i,none⟩=w.cell? ⟨b,i,none⟩:=λb i hb'=>hb.cell (p:=⟨b,i,none⟩) (Nat.lt_of_lt_of_le hb' hN);exact⟨⟨R,o,cap,hR,h14,(q 14 0 h14).trans c,λk hk=>⟨(q R _ hR).trans (e k hk).1,(q R _ hR).trans (e k hk).2⟩⟩⟩
theorem AAu{n B:Nat}{w W:World}{y:CM}(h:Below n w W)(hn:n<=B):Below n w (dw W B y):=
 ⟨h.os,h.tape,h.output,by rw[AL4];exact h.size,λi hi=>by have:=h.block i hi;rw[<-this];show (W.heap.setIfInBounds B _)[i]?=W.heap[i]?;rw[Array.getElem?_setIfInBounds_ne Om]⟩
theorem AOb(B:Nat)(x:CM)(w:World)(hB:B<w.heap.size)(nd:Nat)(hx:x.Ok nd)(N:Nat)(hP:ZI w N)(hC:NA w N)(hN:N<=B)(h14:14<N) :
 Calls Tryz.prog 161 #[.pointer (some ⟨B,0,none⟩),.pointer (some ⟨6,0,none⟩)] (dw w B x) λe w'=>∃b:Int,e=.returned (.tuple #[.int .u64 b,.bool (SD x)])/\∃m y,w'=dw (w.drewN m) B y:=by
 by_cases h0:nd=0
 .have:SD x=false:=by unfold SD;rw[if_pos (by rw[hx.many,h0];rfl)]
  rw[this];exact AEr B x w hB nd hx N hP hN h14 (Or.inl h0)
 have hnd:¬x.nd=0:=by rw[hx.many];omega
 by_cases h1:x.dp>310
 .have:SD x=true:=by unfold SD;rw[if_neg hnd,if_pos h1]
  rw[this];exact AMr B x w hB nd hx N hP hN h14 Om h1
 by_cases h2:x.dp < -330
 .have:SD x=false:=by unfold SD;rw[if_neg hnd,if_neg h1,if_pos h2]
  rw[this];exact AEr B x w hB nd hx N hP hN h14 (Or.inr ⟨Om,h2⟩)
 exact AM0 B x w hB nd hx N hP hC hN h14 Om Om Om
theorem W4{a b c d e f:Value}(h1:a=d)(h2:b=e)(h3:c=f):Ending.returned (.tuple #[a,b,c])=.returned (.tuple #[d,e,f]):=by rw[h1,h2,h3]
theorem ALv:Tryz.zeroCells234=(CM.zero false).cells:=Kr
theorem AI7(w:World):w.alloc (.cells Tryz.zeroCells234 234)=dw (w.alloc (.cells Tryz.zeroCells234 234)) w.heap.size (CM.zero false):=by rw[ALv];refine(ZL ?_).symm;exact Array.getElem?_push_size
theorem ACr(w:World)(o:Obj):(w.alloc o).heap.size=w.heap.size+1:=Array.size_push _
theorem AH8(T F:Nat->Nat)(hT8:∀i,T i<18446744073709551616)(hPl:∀i,i<23->GO (F i)=true)(s:ByteArray)(i0 i1 i2:Nat)(neg eneg:Bool)(h:Q3 s i0 i1 i2 neg eneg) :
 ∃er:Bool,∀w N,MX T F w N->Calls Tryz.prog 140 #[.string s] w λe w'=>∃f:Nat,e=.returned (.tuple #[.float .f64 f,.int .i64 s.size,PS er])/\Below w.heap.size w w':=by
 have hsm:=h.small
 have hso:=h.some
 have hfi:=h.fits
 have hhd:=h.head
 have CSP:=Hd (λw=>QV s i0 Om hsm (by rcases h.sign with⟨a,-⟩|⟨a,b⟩;exact Or.inl a;exact Or.inr ⟨a,b.elim (λx=>Or.inl x.2) (λx=>Or.inr x.2)⟩) hhd.1 hhd.2 w)
 have CRF:=Hd (λw=>AO0 s i0 i1 i2 neg eneg h w)
 have hin:=RS.rin s i0 (i1-i0)
 have hea:=AE2 h
 have hP:-400000<=rfP s i0 i1 i2 eneg/\rfP s i0 i1 i2 eneg<=400000:=by
  unfold rfP ALj rfX;split
  .omega
  split<;>omega
 have hm0:0<=(rfX s i0 i1).m:=hin.2.2.2.2.2.2.1
 have hm1:(rfX s i0 i1).m<18446744073709551616:=hin.2.2.2.2.2.2.2
 obtain⟨m,hm⟩:∃m,(rfX s i0 i1).m=m:=⟨_,rfl⟩
 obtain⟨p,hp⟩:∃p,rfP s i0 i1 i2 eneg=p:=⟨_,rfl⟩
 obtain⟨tr,htr⟩:∃tr,(rfX s i0 i1).tr=tr:=⟨_,rfl⟩
 rw[hm,hp,htr]at CRF
 rw[hm]at hm0 hm1
 rw[hp]at hP
 obtain⟨hP0,hP1⟩:=hP
 have CB:=Hd (λw=>RY neg w)
 obtain⟨v,hv⟩:∃v:Int,(if neg then(1:Int) else 0)=v:=⟨_,rfl⟩
 rw[hv]at CB
 obtain⟨sg,hsg⟩:∃sg:Int,IntKind.u64.wrap (v*9223372036854775808)=sg:=⟨_,rfl⟩
 have HS:=Hd hsg
 clear hin hea hm hp htr hv hhd hso hfi
 have hfb:=VB
 have HM:=Hd (And.intro hm0 hm1)
 clear hm0 hm1
 by_cases hz:m=0
 .have hz':(m==0)=true:=by rw[beq_iff_eq];exact hz
  clear hz hsg;exact⟨false,λw N hT=>by have o5:=hT.opt;clear hT;go_enter Tryz.func140,Tryz.ntmps140;go_wp2_with fail;refine(CSP.out _).mono ?_;rintro e w' ⟨rfl,rfl⟩;go_wp2_with fail;refine(CRF.out _).mono ?_;rintro e w' ⟨rfl,rfl⟩;go_wp2_with fail;refine(CB.out _).mono ?_;rintro e w' ⟨rfl,rfl⟩;go_wp2_with fail;go_ret3;exact⟨_,rfl,Bl⟩⟩
 have hz':(m==0)=false:=by rw[Bn];exact hz
 clear hz
 by_cases h310:310<p
 .clear hsg
  exact⟨true,λw N hT=>by have o5:=hT.opt;clear hT;rw[UX];go_enter Tryz.func140,Tryz.ntmps140;go_wp2_with fail;refine(CSP.out _).mono ?_;rintro e w' ⟨rfl,rfl⟩;go_wp2_with fail;refine(CRF.out _).mono ?_;rintro e w' ⟨rfl,rfl⟩;go_wp2_with fail;refine(CB.out _).mono ?_;rintro e w' ⟨rfl,rfl⟩;go_wp2_with fail;go_ret3;exact⟨_,rfl,Bl⟩⟩
 by_cases h345:p < -345
 .clear hsg
  exact⟨false,λw N hT=>by have o5:=hT.opt;clear hT;go_enter Tryz.func140,Tryz.ntmps140;go_wp2_with fail;refine(CSP.out _).mono ?_;rintro e w' ⟨rfl,rfl⟩;go_wp2_with fail;refine(CRF.out _).mono ?_;rintro e w' ⟨rfl,rfl⟩;go_wp2_with fail;refine(CB.out _).mono ?_;rintro e w' ⟨rfl,rfl⟩;go_wp2_with fail;go_ret3;exact⟨_,rfl,Bl⟩⟩
 obtain⟨f1,er1,hf1⟩:=AI6 T hT8 m p sg HM.out.1 (by have:=HM.out.2;omega) Om Om
 cases tr with
 |false=>
  obtain⟨fx,ok,hfx⟩:=AGh F hPl m p neg
  cases ok with
  |true=>
   exact⟨false,λw N hT=>by have o5:=hT.opt;have CX:=Hd (hfx w hT.f10);clear hT hsg hf1 hfx hPl hT8;go_enter Tryz.func140,Tryz.ntmps140;go_wp2_with fail;refine(CSP.out _).mono ?_;rintro e w' ⟨rfl,rfl⟩;go_wp2_with fail;refine(CRF.out _).mono ?_;rintro e w' ⟨rfl,rfl⟩;go_wp2_with fail;refine(CB.out _).mono ?_;rintro e w' ⟨rfl,rfl⟩;go_wp2_with fail;refine CX.out.mono ?_;rintro e w' ⟨rfl,rfl⟩;go_wp2_with fail;go_ret3;exact⟨_,rfl,Bl⟩⟩
  |false=>
   exact⟨er1,λw N hT=>by have o5:=hT.opt;have CX:=Hd (hfx w hT.f10);have C1:=Hd (hf1 w (by have:=hT.small;have:=hT.fits;omega) hT.p10);clear hT hf1 hfx hPl hT8;go_enter Tryz.func140,Tryz.ntmps140;go_wp2_with fail;refine(CSP.out _).mono ?_;rintro e w' ⟨rfl,rfl⟩;go_wp2_with fail;refine(CRF.out _).mono ?_;rintro e w' ⟨rfl,rfl⟩;go_wp2_with fail;refine(CB.out _).mono ?_;rintro e w' ⟨rfl,rfl⟩;go_wp2_with fail;refine CX.out.mono ?_;rintro e w' ⟨rfl,rfl⟩;go_wp2_with fail;refine C1.out.mono ?_;rintro e w' ⟨rfl,hb⟩;have HBb:=Hd hb;clear hb;go_wp2_with fail;go_ret3;exact⟨_,rfl,HBb.out⟩⟩
 |true=>
  have hd2:=LL (m+1)
  obtain⟨f2,er2,hf2⟩:=AI6 T hT8 (IntKind.u64.wrap (m+1)) p sg hd2.1 Om Om Om
  cases hq:(FloatKind.f64.format.order f1 f2==some .eq) with
  |true=>
   exact⟨er1,λw N hT=>by
    have o5:=hT.opt;have h13:13<w.heap.size:=by have:=hT.small;have:=hT.fits;omega
    have C1:=Hd (hf1 w h13 hT.p10);have C2:=Hd (λw1 (hb:Below w.heap.size w w1)=>hf2 w1 (by have:=hb.size;omega) (XZ hT.p10 h13 hb));clear hT hf1 hf2 hPl hT8 hd2;go_enter Tryz.func140,Tryz.ntmps140;go_wp2_with fail;refine(CSP.out _).mono ?_;rintro e w' ⟨rfl,rfl⟩;go_wp2_with fail;refine(CRF.out _).mono ?_;rintro e w' ⟨rfl,rfl⟩;go_wp2_with fail;refine(CB.out _).mono ?_;rintro e w' ⟨rfl,rfl⟩;go_wp2_with fail;refine C1.out.mono ?_;rintro e w' ⟨rfl,hb⟩;have HBb:=Hd hb;clear hb;go_wp2_with fail;refine(C2.out _ HBb.out).mono ?_;rintro e w2 ⟨rfl,hb⟩;have HB2:=Hd hb;clear hb;go_wp2_with fail;go_ret3;exact⟨_,rfl,HBb.out.trans (KQ HBb.out HB2.out)⟩⟩
  |false=>
   have hxo:=AMa h
   exact⟨SD (UL s i0 i1 i2 neg eneg),λw N hT=>by
    have o5:=hT.opt;have h13:13<w.heap.size:=by have:=hT.small;have:=hT.fits;omega
    have C1:=Hd (hf1 w h13 hT.p10);have C2:=Hd (λw1 (hb:Below w.heap.size w w1)=>hf2 w1 (by have:=hb.size;omega) (XZ hT.p10 h13 hb));clear hf1 hf2 hPl hT8 hd2;have HT:=Hd hT;have HXO:=Hd hxo;have HH:=Hd h;clear hT hxo h;go_enter Tryz.func140,Tryz.ntmps140;go_wp2_with fail;refine(CSP.out _).mono ?_;rintro e w' ⟨rfl,rfl⟩;go_wp2_with fail;refine(CRF.out _).mono ?_;rintro e w' ⟨rfl,rfl⟩;go_wp2_with fail;refine(CB.out _).mono ?_;rintro e w' ⟨rfl,rfl⟩;go_wp2_with fail;refine C1.out.mono ?_;rintro e w' ⟨rfl,hb⟩;have HBb:=Hd hb;clear hb;go_wp2_with fail;refine(C2.out _ HBb.out).mono ?_;rintro e w2 ⟨rfl,hb⟩;have HB2:=Hd (HBb.out.trans (KQ HBb.out hb));clear hb;go_wp2_with fail;have hbw:=HB2.out.alloc (by have:=HB2.out.size;omega) (.cells Tryz.zeroCells234 234);have hsz:=ACr w2 (.cells Tryz.zeroCells234 234);have hCs:=AL3 s i0 i1 i2 neg eneg HH.out w2.heap.size (w2.alloc (.cells Tryz.zeroCells234 234)) Om;rw[<-AI7]at hCs;have HBW:=Hd hbw;have HSZ:=Hd hsz;obtain⟨W3,hW3⟩:∃W3,w2.alloc (.cells Tryz.zeroCells234 234)=W3:=⟨_,rfl⟩;obtain⟨B,hB⟩:∃B,w2.heap.size=B:=⟨_,rfl⟩;rw[hW3,hB]at hCs ⊢;rw[hW3]at HBW HSZ;rw[hB]at HSZ;have hBw:w.heap.size<=B:=by rw[<-hB];exact HB2.out.size
    clear hbw hsz hW3 hB;refine hCs.mono ?_;rintro e w' ⟨rfl,mm,hw'⟩;have hsz3:(W3.drewN mm).heap.size=B+1:=HSZ.out;have hbd:=F5 HBW.out mm;have hC:=AOb B (UL s i0 i1 i2 neg eneg) (W3.drewN mm) Om _ HXO.out.1 N (ADe HT.out.pows HT.out.small HT.out.fits hbd) (ZT HT.out.cheats HT.out.fits hbd) (by have:=HT.out.fits;omega) HT.out.small;rw[<-hw']at hC;have CFB:=Hd hC;have HBD:=Hd hbd;clear hC hbd hw' hCs hsz3
    cases hov:SD (UL s i0 i1 i2 neg eneg) with
    |true=>rw[hov]at CFB;have HOV:=Hd hov;clear hov;go_wp2_with fail;refine CFB.out.mono ?_;rintro e w4 ⟨b,rfl,m4,y,rfl⟩;go_wp2_with fail;go_ret3;exact⟨_,W4 rfl rfl (by rw[HOV.out];rfl),AAu (F5 HBW.out _) hBw⟩
    |false=>rw[hov]at CFB;have HOV:=Hd hov;clear hov;go_wp2_with fail;refine CFB.out.mono ?_;rintro e w4 ⟨b,rfl,m4,y,rfl⟩;go_wp2_with fail;go_ret3;exact⟨_,W4 rfl rfl (by rw[HOV.out];rfl),AAu (F5 HBW.out _) hBw⟩⟩
theorem AJ7(s:ByteArray)(h:AIg s)(w:World) :
 Calls Tryz.prog 140 #[.string s] w λe w'=>∃n:Int,e=.returned (.tuple #[.float .f64 0,.int .i64 n,.iface 181 (.int .i64 2)])/\w=w':=by
 have hz:=h.zero
 have h3:=h.three
 have CSP:=Hd (λw=>QV s 0 Om h.small (Or.inl rfl) Om Om w)
 have CRF:=Hd (λw=>AOr s h w)
 clear h hz h3
 go_enter Tryz.func140,Tryz.ntmps140
 go_wp2_with fail
 refine(CSP.out _).mono ?_
 rintro e w' ⟨rfl,rfl⟩
 go_wp2_with fail
 refine(CRF.out _).mono ?_
 rintro e w' ⟨m,p,n,b1,b2,b3,rfl,rfl⟩
 go_wp2_with fail
 go_ret3
 exact⟨_,rfl,rfl⟩
theorem XT(s:ByteArray)(w:World)(v:Value)(Q:Nat->Int->World->Prop)(h:Calls Tryz.prog 140 #[.string s] w λe w'=>∃f n,e=.returned (.tuple #[.float .f64 f,.int .i64 n,v])/\Q f n w') :
 Calls Tryz.prog 115 #[.string s,.int .i64 64] w λe w'=>∃f n,e=.returned (.tuple #[.float .f64 f,.int .i64 n,v])/\Q f n w':=by
 have H:=Hd h
 clear h
 go_enter Tryz.func115,Tryz.ntmps115
 go_wp2_with fail
 refine H.out.mono ?_
 rintro e w' ⟨f,n,rfl,hq⟩
 have HQ:=Hd hq
 clear hq
 go_wp2_with fail
 go_ret3
 exact⟨_,_,rfl,HQ.out⟩
theorem ALc(T F:Nat->Nat)(hT8:∀i,T i<18446744073709551616)(hPl:∀i,i<23->GO (F i)=true)(s:ByteArray)(i0 i1 i2:Nat)(neg eneg:Bool)(h:Q3 s i0 i1 i2 neg eneg) :
 ∃er:Bool,∀w N,MX T F w N->Calls Tryz.prog 95 #[.string s,.int .i64 64] w λe w'=>∃f:Nat,e=.returned (.tuple #[.float .f64 f,PS er])/\Below w.heap.size w w':=by
 obtain⟨er,hC⟩:=AH8 T F hT8 hPl s i0 i1 i2 neg eneg h
 have h3:=h.small
 exact⟨er,λw N hT=>by have C:=Hd (XT s w (PS er) (λ_ n w'=>n=s.size/\Below w.heap.size w w') ((hC w N hT).mono λ_ _ ⟨f,he,hb⟩=>⟨f,_,he,rfl,hb⟩));clear hC hT hPl hT8 h;go_enter Tryz.func95,Tryz.ntmps95;go_wp2_with fail;refine C.out.mono ?_;rintro e w' ⟨f,n,rfl,rfl,hb⟩;have HB:=Hd hb;clear hb;go_wp2_with fail;go_ret2;exact⟨_,rfl,HB.out⟩⟩
theorem AMo(s:ByteArray)(h:AIg s)(w:World) :
 Calls Tryz.prog 95 #[.string s,.int .i64 64] w λe w'=>∃f:Nat,e=.returned (.tuple #[.float .f64 f,.iface 181 (.int .i64 2)])/\w=w':=by
 have C:=Hd (XT s w (.iface 181 (.int .i64 2)) (λ_ n w'=>w=w') ((AJ7 s h w).mono λ_ _ ⟨n,he,hb⟩=>⟨0,n,he,hb⟩))
 have h3:=h.small
 clear h
 go_enter Tryz.func95,Tryz.ntmps95
 go_wp2_with fail
 refine C.out.mono ?_
 rintro e w' ⟨f,n,rfl,rfl⟩
 by_cases hn:n=s.size
 .have hn':(n !=(s.size:Int))=false:=by rw[bne_eq_false_iff_eq];exact hn
  clear hn;go_wp2_with fail;go_ret2;exact⟨_,rfl,rfl⟩
 have hn':(n !=(s.size:Int))=true:=by rw[bne_iff_ne];exact hn
 clear hn
 go_wp2_with fail
 go_ret2
 exact⟨_,rfl,rfl⟩
structure FN(w:World):Prop where
 s2:∃te pe,w.cell? ⟨2,0,none⟩=some (.iface te pe)
 s3:∃te pe,w.cell? ⟨3,0,none⟩=some (.iface te pe)
 two:3<w.heap.size
def CQ(ok:Bool)(v:Value):Prop:=if ok then v=.nilIface else ∃a:Addr,v=.iface 182 (.pointer (some a))
theorem BH{w w1:World}(h:FN w)(hb:Below w.heap.size w w1):FN w1:=by obtain⟨⟨a,b,c⟩,⟨d,e,f⟩,g⟩:=h;exact⟨⟨a,b,(hb.cell (p:=⟨2,0,none⟩) (by show 2<w.heap.size;omega)).trans c⟩,⟨d,e,(hb.cell (p:=⟨3,0,none⟩) (by show 3<w.heap.size;omega)).trans f⟩,by have:=hb.size;omega⟩
theorem NI(fn s:ByteArray)(base bits:Int)(w:World)(hs:s.size<=281474976710656)(h:FN w) :
 Calls Tryz.prog 96 #[.string fn,.string s,.int .i64 base,.int .i64 bits,.iface 181 (.int .i64 2)] w λe w'=>∃a:Addr,e=.returned (.iface 182 (.pointer (some a)))/\Below w.heap.size w w':=by
 obtain⟨te,pe,hc⟩:=h.s2
 exact(Tryz.strconv_toError_syntax fn s base bits _ w hs hc (Or.inr ⟨_,_,rfl⟩)).mono λ_ _ ⟨N,he,_,_,hb⟩=>⟨_,he,hb⟩
theorem OJ(fn s:ByteArray)(base bits:Int)(w:World)(hs:s.size<=281474976710656)(h:FN w) :
 Calls Tryz.prog 96 #[.string fn,.string s,.int .i64 base,.int .i64 bits,.iface 181 (.int .i64 1)] w λe w'=>∃a:Addr,e=.returned (.iface 182 (.pointer (some a)))/\Below w.heap.size w w':=by
 obtain⟨te,pe,hc⟩:=h.s3
 exact(Tryz.strconv_toError_range fn s base bits _ w hs hc (Or.inr ⟨_,_,rfl⟩)).mono λ_ _ ⟨N,he,_,_,hb⟩=>⟨_,he,hb⟩
theorem ANs(T F:Nat->Nat)(hT8:∀i,T i<18446744073709551616)(hPl:∀i,i<23->GO (F i)=true)(s:ByteArray)(i0 i1 i2:Nat)(neg eneg:Bool)(h:Q3 s i0 i1 i2 neg eneg) :
 ∃ok:Bool,∀w N,MX T F w N->FN w->Calls Tryz.prog 62 #[.string s,.int .i64 64] w λe w'=>∃(f:Nat) (v:Value),e=.returned (.tuple #[.float .f64 f,v])/\CQ ok v/\Below w.heap.size w w':=by
 obtain⟨er,hC⟩:=ALc T F hT8 hPl s i0 i1 i2 neg eneg h
 have h3:=h.small
 cases er with
 |false=>
  exact⟨true,λw N hT hE=>by have C:=Hd (hC w N hT);clear hC hT hPl hT8 h hE;go_enter Tryz.func62,Tryz.ntmps62;go_wp2_with fail;refine C.out.mono ?_;rintro e w' ⟨f,rfl,hb⟩;rw[AKg];have HB:=Hd hb;clear hb;go_wp2_with fail;go_ret2;exact⟨_,_,rfl,rfl,HB.out⟩⟩
 |true=>
  exact⟨false,λw N hT hE=>by have C:=Hd (hC w N hT);have HE:=Hd hE;clear hC hT hPl hT8 h hE;go_enter Tryz.func62,Tryz.ntmps62;go_wp2_with fail;refine C.out.mono ?_;rintro e w' ⟨f,rfl,hb⟩;rw[UX];have HB:=Hd hb;have CE:=Hd (λfn base bits=>OJ fn s base bits w' Om (BH HE.out hb));clear hb;go_wp2_with fail;refine(CE.out _ _ _).mono ?_;rintro e w2 ⟨a,rfl,hb2⟩;have HB2:=Hd hb2;clear hb2;go_wp2_with fail;go_ret2;exact⟨_,_,rfl,⟨_,rfl⟩,HB.out.trans (KQ HB.out HB2.out)⟩⟩
theorem AOl(s:ByteArray)(h:AIg s)(w:World)(hE:FN w) :
 Calls Tryz.prog 62 #[.string s,.int .i64 64] w λe w'=>∃(f:Nat) (v:Value),e=.returned (.tuple #[.float .f64 f,v])/\CQ false v/\Below w.heap.size w w':=by
 have C:=Hd (AMo s h w)
 have h3:=h.small
 have CE:=Hd (λfn base bits=>NI fn s base bits w Om hE)
 clear h hE
 go_enter Tryz.func62,Tryz.ntmps62
 go_wp2_with fail
 refine C.out.mono ?_
 rintro e w' ⟨f,rfl,rfl⟩
 go_wp2_with fail
 refine(CE.out _ _ _).mono ?_
 rintro e w2 ⟨a,rfl,hb2⟩
 have HB2:=Hd hb2
 clear hb2
 go_wp2_with fail
 go_ret2
 exact⟨_,_,rfl,⟨_,rfl⟩,HB2.out⟩
