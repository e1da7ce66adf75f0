import PyProof.Rows.All
import Wide.All
import OpenK.AllK
import Wide.FinOn
import PySem.Challenge.RW_in0171_01
set_option Elab.async false
set_option linter.unusedVariables false
set_option linter.unusedSimpArgs false
set_option maxRecDepth 100000
set_option maxHeartbeats 8000000
set_option compiler.extract_closed false
set_option bootstrap.genMatcherCode false
set_option genSizeOf false
noncomputable section
namespace Mine.Internal
local macro_rules | `(tactic|lk)=>`(tactic|first |kernel_rfl|decide+kernel)
local macro_rules | `(tactic|kd_p)=>`(tactic|decide+kernel)
set_option hygiene false in
local macro_rules | `(tactic|kpf_c)=>`(tactic|first |exact Cy hf|replace hp:=D8 hf hp|cases hf)
set_option hygiene false in
local macro_rules | `(tactic|kcf_m)=>`(tactic|refine On fun Gx hGx=>?_)
local macro_rules | `(tactic|w_up)=>`(tactic|repeat z_go)
namespace LX
section
open Nat.Internal.Linear
noncomputable def lnC:List (Nat × Expr × Expr)->Expr->Expr->Bool
 | [],l,r=>(ExprCnstr.toNormPoly ⟨false,l,r⟩).isUnsat
 | (k,a,b)::t,l,r=>lnC t (.add (.mulL k a) l) (.add (.mulL k b) r)
noncomputable def lnD(x:Context):List (Nat × Expr × Expr)->Prop
 | []=>False
 | (_,a,b)::t=>a.denote x<=b.denote x->lnD x t
theorem lnS(x:Context)(t:List (Nat × Expr × Expr)):∀(l r:Expr),l.denote x<=r.denote x->lnC t l r=true->lnD x t:=by
 induction t with
 | nil=>exact fun l r h e=>(ExprCnstr.eq_false_of_isUnsat x ⟨false,l,r⟩ e).mp h
 | cons p t ih=>exact fun l r h e z=>ih (.add (.mulL p.1 p.2.1) l) (.add (.mulL p.1 p.2.2) r) (Nat.add_le_add (Nat.mul_le_mul_left p.1 z) h) e
theorem xl(x:Context)(t:List (Nat × Expr × Expr))(h:lnC t (.num 0) (.num 0)=true):lnD x t:=lnS x t (.num 0) (.num 0) (Nat.le_refl 0) h
noncomputable abbrev x0:Expr:=.var 0
noncomputable abbrev x1:Expr:=.var 1
noncomputable abbrev x2:Expr:=.var 2
noncomputable abbrev x3:Expr:=.var 3
noncomputable abbrev x4:Expr:=.var 4
noncomputable abbrev x5:Expr:=.var 5
noncomputable abbrev x6:Expr:=.var 6
noncomputable abbrev xn(i:Nat):Expr:=.num i
noncomputable abbrev xa(a b:Expr):Expr:=.add a b
noncomputable abbrev xi(a:Expr):Expr:=.add a (.num 1)
noncomputable abbrev xm(k:Nat)(b:Expr):Expr:=.mulL k b
noncomputable abbrev I5(a:Nat):Context:=.leaf a
noncomputable abbrev D7(a b:Nat):Context:=.branch 1 (.leaf a) (.leaf b)
noncomputable abbrev Ir(a b c:Nat):Context:=.branch 1 (.leaf a) (.branch 2 (.leaf b) (.leaf c))
noncomputable abbrev Nt(a b c d:Nat):Context:=.branch 1 (.leaf a) (.branch 2 (.leaf b) (.branch 3 (.leaf c) (.leaf d)))
noncomputable abbrev xr5(a b c d e:Nat):Context:=.branch 1 (.leaf a) (.branch 2 (.leaf b) (.branch 3 (.leaf c) (.branch 4 (.leaf d) (.leaf e))))
noncomputable abbrev xr6(a b c d e f:Nat):Context:=.branch 1 (.leaf a) (.branch 2 (.leaf b) (.branch 3 (.leaf c) (.branch 4 (.leaf d) (.branch 5 (.leaf e) (.leaf f)))))
noncomputable abbrev xr7(a b c d e f g:Nat):Context:=.branch 1 (.leaf a) (.branch 2 (.leaf b) (.branch 3 (.leaf c) (.branch 4 (.leaf d) (.branch 5 (.leaf e) (.branch 6 (.leaf f) (.leaf g))))))
end
section
open Int.Internal.Linear
noncomputable def lnI:List (Nat × Expr × Expr)->Expr->Expr->Bool
 | [],l,r=>(l.sub r).norm.isUnsatLe
 | (k,a,b)::t,l,r=>lnI t (.add (.mulL (Int.ofNat k) a) l) (.add (.mulL (Int.ofNat k) b) r)
noncomputable def lnE(x:Context):List (Nat × Expr × Expr)->Prop
 | []=>False
 | (_,a,b)::t=>a.denote x<=b.denote x->lnE x t
theorem lnT(x:Context)(t:List (Nat × Expr × Expr)):∀(l r:Expr),l.denote x<=r.denote x->lnI t l r=true->lnE x t:=by
 induction t with
 | nil=>exact fun l r h e=>(le_eq_false x l r e).mp h
 | cons p t ih=>exact fun l r h e z=>ih (.add (.mulL (Int.ofNat p.1) p.2.1) l) (.add (.mulL (Int.ofNat p.1) p.2.2) r) (Int.add_le_add (Int.mul_le_mul_of_nonneg_left z (Int.natCast_nonneg p.1)) h) e
theorem yl(x:Context)(t:List (Nat × Expr × Expr))(h:lnI t (.num 0) (.num 0)=true):lnE x t:=lnT x t (.num 0) (.num 0) (Int.le_refl 0) h
noncomputable abbrev y0:Expr:=.var 0
noncomputable abbrev y1:Expr:=.var 1
noncomputable abbrev y2:Expr:=.var 2
noncomputable abbrev y3:Expr:=.var 3
noncomputable abbrev y4:Expr:=.var 4
noncomputable abbrev y5:Expr:=.var 5
noncomputable abbrev y6:Expr:=.var 6
noncomputable abbrev yn(i:Int):Expr:=.num i
noncomputable abbrev ya(a b:Expr):Expr:=.add a b
noncomputable abbrev ys(a b:Expr):Expr:=.sub a b
noncomputable abbrev yi(a:Expr):Expr:=.add a (.num 1)
noncomputable abbrev ym(k:Int)(b:Expr):Expr:=.mulL k b
noncomputable abbrev Cz(a:Int):Context:=.leaf a
noncomputable abbrev Cr(a b:Int):Context:=.branch 1 (.leaf a) (.leaf b)
noncomputable abbrev Gc(a b c:Int):Context:=.branch 1 (.leaf a) (.branch 2 (.leaf b) (.leaf c))
noncomputable abbrev Ky(a b c d:Int):Context:=.branch 1 (.leaf a) (.branch 2 (.leaf b) (.branch 3 (.leaf c) (.leaf d)))
noncomputable abbrev Qi(a b c d e:Int):Context:=.branch 1 (.leaf a) (.branch 2 (.leaf b) (.branch 3 (.leaf c) (.branch 4 (.leaf d) (.leaf e))))
noncomputable abbrev yr6(a b c d e f:Int):Context:=.branch 1 (.leaf a) (.branch 2 (.leaf b) (.branch 3 (.leaf c) (.branch 4 (.leaf d) (.branch 5 (.leaf e) (.leaf f)))))
noncomputable abbrev yr7(a b c d e f g:Int):Context:=.branch 1 (.leaf a) (.branch 2 (.leaf b) (.branch 3 (.leaf c) (.branch 4 (.leaf d) (.branch 5 (.leaf e) (.branch 6 (.leaf f) (.leaf g))))))
end
theorem oL{a b:Nat}(h:a<=b):(a:Int)<=b:=Int.ofNat_le.mpr h
theorem oN(a:Nat):(0:Int)<=a:=Int.natCast_nonneg a
theorem oS(a b:Nat):a<=a-b+b:=(Nat.le_total b a).elim (fun h=>Nat.le_of_eq (Nat.sub_add_cancel h).symm) fun h=>Nat.le_trans h (Nat.le_add_left b (a-b))
theorem oE{a b:Nat}(h:a=b):a<=b:=Nat.le_of_eq h
theorem xg{a b:Nat}(h:¬b<a):a<=b:=Nat.le_of_not_lt h
theorem xh{a b:Nat}(h:¬b<=a):a<b:=Nat.lt_of_not_le h
theorem xk{a b:Nat}(h:¬a<b):b<=a:=Nat.le_of_not_lt h
theorem yg{a b:Int}(h:¬b<a):a<=b:=Int.not_lt.mp h
theorem yh{a b:Int}(h:¬b<=a):a<b:=Int.not_le.mp h
theorem oC{a b:Nat}(h:b<=a):((a-b+b:Nat):Int)<=a:=oL (oE (Nat.sub_add_cancel h))
theorem oD{a b:Nat}(h:b<=a):(a:Int)<=((a-b+b:Nat):Int):=oL (oE (Nat.sub_add_cancel h).symm)
noncomputable abbrev oI(n:Nat):Int:=n
theorem oT{a b:Nat}(h:a<b):(a:Int)<b:=Int.ofNat_lt.mpr h
end LX
theorem Dw{α β:Type}{x:Option α}{f:α->Option β}{b:β}(h:x.bind f=some b):∃a,x=some a∧f a=some b:=Option.bind_eq_some_iff.mp h
theorem Ju{α β:Type}{x:Option α}{f:α->β}{b:β}(h:x.map f=some b):∃a,x=some a∧f a=b:=Option.map_eq_some_iff.mp h
theorem orS{α:Type}{x y:Option α}{a:α}(h:x.or y=some a):x=some a∨x=none∧y=some a:=Option.or_eq_some_iff.mp h
theorem Lm{α:Type}{p:Prop}[Decidable p]{x:Option α}{a:α}(h:(if p then x else none)=some a):p∧x=some a:=Option.ite_none_right_eq_some.mp h
section
open LX
variable {a b c d e f g i j k m n:Nat}
theorem Ks(h0:a<=1000):a<=16777216:=Nat.le_trans h0 (by decide)
theorem zl1(h0:a<256):a/16<16:=Nat.div_lt_of_lt_mul h0
theorem zl2:a%16<16:=xh fun z=>yl (Cz (oI (a%16))) [(1,yn 16,y0),(1,yi y0,yn 16)] rfl (oL z) (oL (Nat.mod_lt a (by decide:0<16)))
theorem zl3:4000<=4000:=Nat.lt_of_lt_of_le (Nat.le_refl (Nat.succ 3999)) (Nat.le_refl (Nat.succ 3999))
theorem zl4(h0:a<=1000)(h1:b<a):(b:Int)<9223372036854775808:=oT (xh fun z=>xl (D7 a b) [(1,x0,xn 1000),(1,xi x1,x0),(1,xn 9223372036854775808,x1)] rfl h0 h1 z)
theorem zl5(h0:a<1000):a<16777216:=Nat.lt_of_lt_of_le h0 (by decide)
theorem zl6:¬(a:Int)<0:=Int.not_ofNat_neg a
theorem zl7(h0:a<=90):a<=16777216:=Nat.le_trans h0 (by decide)
theorem zl8:((a+1:Nat):Int)=(a:Int)+1:=by rfl
theorem zl9(h0:a+1+1<2):False:=xl (I5 a) [(1,xa (xa (xi x0) (xn 1)) (xn 1),xn 2)] rfl h0
theorem U5(h0:a<=1000)(h1:b=a):b<=16777216:=xg fun z=>xl (D7 a b) [(1,x0,xn 1000),(1,x1,x0),(1,xn 16777217,x1)] rfl h0 (oE h1) z
theorem Y9(h0:a+(b+1)<=2000):a+1+b<=2000:=xg fun z=>xl (D7 a b) [(1,xa x0 (xi x1),xn 2000),(1,xn 2001,xa (xi x0) x1)] rfl h0 z
theorem Za(h0:a<65536):a/256<256:=Nat.div_lt_of_lt_mul h0
theorem Zb:a%256<256:=xh fun z=>yl (Cz (oI (a%256))) [(1,yn 256,y0),(1,yi y0,yn 256)] rfl (oL z) (oL (Nat.mod_lt a (by decide:0<256)))
theorem A1a(h0:¬a<b):b<=a:=Nat.le_of_not_lt h0
theorem A6t:a/b%2=0∨a/b%2=1:=Nat.mod_two_eq_zero_or_one (a/b)
theorem A1b(h0:a<=100):a<4000:=Nat.lt_of_le_of_lt h0 (by decide)
theorem A1c:(-9223372036854775808:Int)<=(-1:Int)∧(-1:Int)<9223372036854775808:=⟨Int.natCast_nonneg 9223372036854775807,Int.natCast_nonneg 9223372036854775808⟩
theorem A1d(h0:a<=b)(h1:a<b)(h2:b<=a):False:=xl (D7 a b) [(1,xi x0,x1),(1,x1,x0)] rfl h1 h2
theorem A1e(h0:a+(b+1)<=2000):a<16777216:=xh fun z=>xl (D7 a b) [(1,xa x0 (xi x1),xn 2000),(1,xn 16777216,x0)] rfl h0 z
theorem A1f(h0:a<=370):a<=900:=Nat.le_trans h0 (by decide)
theorem A1g(h0:a+(b+1)=2):(a:Int)<9223372036854775808:=oT (xh fun z=>xl (D7 a b) [(1,xa x0 (xi x1),xn 2),(1,xn 9223372036854775808,x0)] rfl (oE h0) z)
theorem A6u(h0:a<2):(a:Int)<9223372036854775808:=oT (xh fun z=>xl (I5 a) [(1,xi x0,xn 2),(1,xn 9223372036854775808,x0)] rfl h0 z)
theorem A6v(h0:a<65536):a/4096<16:=Nat.div_lt_of_lt_mul h0
theorem A6w:2>0:=Nat.zero_lt_two
theorem A6x:(a:Int)=0+(a:Int)*1:=Int.le_antisymm (yg fun z=>yl (Cz a) [(1,ya (ya (yn 0) (.mulR y0 1)) (yn 1),y0)] rfl z) (yg fun z=>yl (Cz a) [(1,yi y0,ya (yn 0) (.mulR y0 1))] rfl z)
theorem A6y:(a:Int)+1=((a+1:Nat):Int):=Int.ofNat_add_one_out a
theorem A6z(h0:(a:Int)=2):a=2:=Nat.le_antisymm (xg fun z=>yl (Cz a) [(1,y0,yn 2),(1,yn 3,y0)] rfl (Int.le_of_eq h0) (oL z)) (xg fun z=>yl (Cz a) [(1,yn 2,y0),(1,yi y0,yn 2)] rfl (Int.le_of_eq h0.symm) (oL z))
theorem A60:a<=a+1:=Nat.le_add_right a 1
theorem A61(h0:a<b):¬a=b+1:=Nat.ne_of_lt (Nat.le.step h0)
theorem A62(h0:a<=1000):a<4000:=Nat.lt_of_le_of_lt h0 (by decide)
theorem A63(h0:a<b)(h1:b<=a):False:=xl (D7 a b) [(1,xi x0,x1),(1,x1,x0)] rfl h0 h1
theorem A64(h0:a+2<2):False:=xl (I5 a) [(1,xa (xa x0 (xn 2)) (xn 1),xn 2)] rfl h0
theorem D5r:0<=16777216:=Nat.le_trans (Nat.le_refl 0) (Nat.zero_le 16777216)
theorem A95:-9223372036854775808<=(a:Int):=Int.NonNeg.mk (a+Nat.succ 9223372036854775807)
theorem A96(h0:a<b):(a:Int)<(b:Int):=Int.ofNat_lt.mpr ‹_›
theorem A97(h0:a+b<=c)(h1:d<b):a+d<c:=xh fun z=>xl (Nt a b c d) [(1,xa x0 x1,x2),(1,xi x3,x1),(1,x2,xa x0 x3)] rfl h0 h1 z
theorem A65(h0:a-b=0):a<=b:=Nat.le_of_sub_eq_zero h0
theorem A66(h0:(a:Int)=(b:Int)):a=b:=Int.ofNat_inj.mp h0
theorem A67(h0:¬(a:Int)=(b:Int)):¬a=b:=ne_of_apply_ne Nat.cast h0
theorem A98(h0:0<a):¬0=a:=Nat.ne_of_lt ‹_›
theorem A99:1<2:=Nat.lt_of_lt_of_le (Nat.le_refl (Nat.succ 1)) (Nat.le_refl (Nat.succ 1))
theorem B0a(h0:a<b)(h1:b<=4000):a<16777216:=xh fun z=>xl (D7 a b) [(1,xi x0,x1),(1,x1,xn 4000),(1,xn 16777216,x0)] rfl h0 h1 z
theorem B0b:(a:Int)/2=((a/2:Nat):Int):=by rfl
theorem B0c:(a:Int)%2=((a%2:Nat):Int):=by rfl
theorem B0d(h0:a<=100)(h1:a=b+(c+1)):(b:Int)<9223372036854775808:=oT (xh fun z=>xl (Ir a b c) [(1,x0,xn 100),(1,xa x1 (xi x2),x0),(1,xn 9223372036854775808,x1)] rfl h0 (oE h1.symm) z)
theorem B0e(h0:a<=100):a<=16777216:=Nat.le_trans h0 (by decide)
theorem B0f:a<=a+b:=Nat.le_add_right a b
theorem B0g:(max 0 (a:Int)).toNat=a:=Nat.add_zero a
theorem B0h(h0:a<=b)(h1:b<=a)(h2:a<b):False:=xl (D7 a b) [(1,x1,x0),(1,xi x0,x1)] rfl h1 h2
theorem B0i(h0:a+(b+1)<=2000):a+b<=2000:=Nat.le_of_lt ‹_›
theorem B0j(h0:a<=900)(h1:b=a+7):b<=16777216:=xg fun z=>xl (D7 a b) [(1,x0,xn 900),(1,x1,xa x0 (xn 7)),(1,xn 16777217,x1)] rfl h0 (oE h1) z
theorem B0k(h0:a+2*(b+1)<=10000):a<16777216:=xh fun z=>xl (D7 a b) [(1,xa x0 (xm 2 (xi x1)),xn 10000),(1,xn 16777216,x0)] rfl h0 z
theorem B0l(h0:a<=1000)(h1:b+(c+1)+1=a):(c:Int)<9223372036854775808:=oT (xh fun z=>xl (Ir a b c) [(1,x0,xn 1000),(1,xa (xa x1 (xi x2)) (xn 1),x0),(1,xn 9223372036854775808,x2)] rfl h0 (oE h1) z)
theorem B0m(h0:a+4<4):False:=xl (I5 a) [(1,xa (xa x0 (xn 4)) (xn 1),xn 4)] rfl h0
theorem B0n(h0:a+3<3):False:=xl (I5 a) [(1,xa (xa x0 (xn 3)) (xn 1),xn 3)] rfl h0
theorem B0o:3<4000:=by (simp;done)
theorem B0p(h0:a+(b+1)=2):1-a<2:=Nat.sub_lt_succ 1 a
theorem D5s(h0:a<=200):0+1+a<=16777216:=xg fun z=>xl (I5 a) [(1,x0,xn 200),(1,xn 16777217,xa (xn 1) x0)] rfl h0 z
theorem B0q(h0:a<3):(a:Int)<9223372036854775808:=oT (xh fun z=>xl (I5 a) [(1,xi x0,xn 3),(1,xn 9223372036854775808,x0)] rfl h0 z)
theorem B6r(h0:a+8*b+200<c):a+64<c:=xh fun z=>xl (Ir a b c) [(1,(xa (xa (xa x0 (xm 8 x1)) (xn 200)) (xn 1)),x2),(1,x2,xa x0 (xn 64))] rfl h0 z
theorem B6s(h0:(a:Int)<(b:Int)):(((b:Int)-(a:Int)+1-1)/1).toNat=b-a:=by first |(simp;done)|lia|omega
theorem B6t(h0:¬(a:Int)<(b:Int)):Int.toNat 0=b-a:=Nat.le_antisymm (xg fun z=>yl (Cr (oI (b-a)) (((Int.toNat (0:Int)):Nat):Int)) [(1,yi y0,y1),(1,yn 0,y0),(1,y1,yn 0)] rfl (oL z) (oL (oE (Nat.sub_eq_zero_of_le (xg fun q2=>yl (Cr b a) [(1,y0,y1),(1,yi y1,y0)] rfl (yg h0) (oL q2))).symm)) (Int.le_of_eq (Int.toNat_of_nonneg (yg fun q3=>yl (Cz 0) [(1,yn 1,yn 0)] rfl q3)))) (xg fun z=>yl (Cr (((Int.toNat (0:Int)):Nat):Int) (oI (b-a))) [(1,yi y0,y1),(1,yn 0,y0),(1,y1,yn 0)] rfl (oL z) (Int.le_of_eq (Int.toNat_of_nonneg (yg fun q4=>yl (Cz 0) [(1,yn 1,yn 0)] rfl q4)).symm) (oL (oE (Nat.sub_eq_zero_of_le (xg fun q6=>yl (Cr b a) [(1,y0,y1),(1,yi y1,y0)] rfl (yg h0) (oL q6))))))
theorem B6u(h0:a<2):a=0∨a=1:=by first |lia|omega
theorem B6v(h0:a+(b+1)<1000):a<1000:=Nat.lt_of_add_right_lt h0
theorem B6w(h0:a+(b+1)<1000):a+1+b<1000:=xh fun z=>xl (D7 a b) [(1,xa (xa x0 (xi x1)) (xn 1),xn 1000),(1,xn 1000,xa (xi x0) x1)] rfl h0 z
theorem B6x:1+a=a+1:=Nat.add_comm 1 a
theorem B6y(h0:a<256):0<=(a:Int)∧(a:Int)<=1114111:=⟨yg fun z=>yl (Cz a) [(1,yi y0,yn 0),(1,yn 0,y0)] rfl z (oN a),yg fun z=>yl (Cz a) [(1,yi y0,yn 256),(1,yn 1114112,y0)] rfl (oL h0) z⟩
theorem B6z:0<3:=Nat.zero_lt_succ 2
theorem B60:1<3:=Nat.one_lt_succ_succ 1
theorem B61:2<3:=Nat.lt_of_lt_of_le (Nat.le_refl (Nat.succ 2)) (Nat.le_refl (Nat.succ 2))
theorem B62:¬(a:Int)<(a:Int)-0-1+1:=fun z=>yl (Cz a) [(1,yi y0,(ya (ys (ys y0 (yn 0)) (yn 1)) (yn 1)))] rfl z
theorem B63(h0:a=b)(h1:¬0<(b:Int)):¬(b:Int)<0:=Int.not_ofNat_neg b
theorem B64(h0:a=b+(c+1)):(b:Int)<(a:Int)-0-1+1:=yh fun z=>yl (Gc b c a) [(1,ya y0 (yi y1),y2),(1,(ya (ys (ys y2 (yn 0)) (yn 1)) (yn 1)),y0),(1,yn 0,y1)] rfl (oL (oE h0.symm)) z (oN c)
theorem B65(h0:a=b+(c+1))(h1:¬0<(a:Int)):(b:Int)<0:=yh fun z=>yl (Gc b c a) [(1,ya y0 (yi y1),y2),(1,y2,yn 0),(1,yn 0,y0),(1,yn 0,y1)] rfl (oL (oE h0.symm)) (yg h1) z (oN c)
theorem B66:a<=a+2:=Nat.le_add_right a 2
theorem B67(h0:a<=100)(h1:b<=a):b<=16777216:=xg fun z=>xl (D7 a b) [(1,x0,xn 100),(1,x1,x0),(1,xn 16777217,x1)] rfl h0 h1 z
theorem B68(h0:¬(a:Int)=2):¬a=2:=ne_of_apply_ne Nat.cast h0
theorem B69(h0:(a:Int)=3):a=3:=A66 h0
theorem B7a(h0:¬(a:Int)=3):¬a=3:=A67 h0
theorem D5t:(-18446744073709551616:Int)<4∧4<18446744073709551616:=⟨yh fun z=>yl (Cz 0) [(1,yn 4,.neg (yn 18446744073709551616))] rfl z,xh fun z=>yl (Cz 0) [(1,yn 18446744073709551616,yn 4)] rfl (oL z)⟩
theorem B7b(h0:a<=4):a<4000:=Nat.lt_of_le_of_lt h0 (by decide)
theorem B7c(h0:a<=4):a<16777216:=Nat.lt_of_le_of_lt h0 (by decide)
theorem B7d(h0:a<=2*16+6):0+1+a<=16777216:=xg fun z=>xl (I5 a) [(1,x0,xn 38),(1,xn 16777217,xa (xn 1) x0)] rfl h0 z
theorem B7e(h0:a<=2*16+6):0+a<=16777216:=xg fun z=>xl (I5 a) [(1,x0,xn 38),(1,xn 16777217,xa (xn 0) x0)] rfl h0 z
theorem B7f:0<2:=Nat.zero_lt_two
theorem B7g(h0:a<b):¬b+1=a:=Nat.ne_of_gt (Nat.le.step h0)
theorem B7h(h0:a+b<=c)(h1:b=d+(e+1)):a+d<c:=xh fun z=>xl (xr5 a b c d e) [(1,xa x0 x1,x2),(1,xa x3 (xi x4),x1),(1,x2,xa x0 x3)] rfl h0 (oE h1.symm) z
theorem B7i:(a:Int)+(b:Int)=((a+b:Nat):Int):=by rfl
theorem B7j(h0:a<=1000)(h1:b+c<=a)(h2:c=d+(e+1)):(d:Int)<9223372036854775808:=oT (xh fun z=>xl (xr5 a b c d e) [(1,x0,xn 1000),(1,xa x1 x2,x0),(1,xa x3 (xi x4),x2),(1,xn 9223372036854775808,x3)] rfl h0 h1 (oE h2.symm) z)
theorem B0r:(a:Int)=(b:Int)↔a=b:=Int.ofNat_inj
theorem B7k(h0:a<=100):a<16777216:=Nat.lt_of_le_of_lt h0 (by decide)
theorem B7l(h0:a<b):min a b=a:=Nat.le_antisymm (xg fun z=>yl (Cr a (oI (min a b))) [(1,yi y0,y1),(1,y1,y0)] rfl (oL z) (oL (Nat.min_le_left a b))) (xg fun z=>yl (Cr (oI (min a b)) a) [(1,yi y0,y1),(1,y1,y0)] rfl (oL z) (oL (oE (Nat.min_eq_left (xg fun q1=>yl (Cr a b) [(1,yi y0,y1),(1,yi y1,y0)] rfl (oL h0) (oL q1))).symm)))
theorem B7m(h0:¬a<b):b<=min a b:=xg fun z=>yl (Cr (oI (min a b)) b) [(1,yi y0,y1),(1,y1,y0)] rfl (oL z) (oL (oE (Nat.min_eq_right (xg fun q2=>yl (Cr b a) [(1,y0,y1),(1,yi y1,y0)] rfl (oL (xg h0)) (oL q2))).symm))
theorem B7n:((a+2:Nat):Int)=(a:Int)+2:=by rfl
theorem B7o:a<=a:=Nat.le_refl a
theorem B7p(h0:¬1<=a):a<=1:=Nat.le_of_not_ge h0
theorem B7q:100<4000:=by (simp;done)
theorem B7r(h0:a<=b)(h1:c+1=b-a):a+1<=b:=xg fun z=>yl (Ky c (oI (b-a)) b a) [(1,yi y0,y1),(1,yi y2,yi y3),(1,ya y1 y3,y2),(1,yn 0,y0)] rfl (oL (oE h1)) (oL z) (oC (xg fun q1=>yl (Cr a b) [(1,y0,y1),(1,yi y1,y0)] rfl (oL h0) (oL q1))) (oN c)
theorem B7s:(max 0 (min (-3+((a+7:Nat):Int)) ((a+7:Nat):Int))).toNat=a+4:=Nat.le_antisymm (xg fun z=>(Int.le_total (0:Int) (min ((-(3:Int))+(oI (a+7))) (oI (a+7)))).elim (fun w4=>yl (Ky a (((Int.toNat (max (0:Int) (min ((-(3:Int))+(oI (a+7))) (oI (a+7))))):Nat):Int) (max (0:Int) (min ((-(3:Int))+(oI (a+7))) (oI (a+7)))) (min ((-(3:Int))+(oI (a+7))) (oI (a+7)))) [(1,ya (ya y0 (yn 4)) (yn 1),y1),(1,y1,y2),(1,y2,y3),(1,y3,ya (.neg (yn 3)) (ya y0 (yn 7)))] rfl (oL z) (Int.le_of_eq (Int.toNat_of_nonneg (yg fun q1=>yl (Cz (max (0:Int) (min ((-(3:Int))+(oI (a+7))) (oI (a+7))))) [(1,yi y0,yn 0),(1,yn 0,y0)] rfl q1 (Int.le_max_left (0:Int) (min ((-(3:Int))+(oI (a+7))) (oI (a+7))))))) (Int.le_of_eq (Int.max_eq_right w4)) (Int.min_le_left ((-(3:Int))+(oI (a+7))) (oI (a+7)))) (fun w4=>yl (Gc a (((Int.toNat (max (0:Int) (min ((-(3:Int))+(oI (a+7))) (oI (a+7))))):Nat):Int) (max (0:Int) (min ((-(3:Int))+(oI (a+7))) (oI (a+7))))) [(1,ya (ya y0 (yn 4)) (yn 1),y1),(1,y1,y2),(1,y2,yn 0),(1,yn 0,y0)] rfl (oL z) (Int.le_of_eq (Int.toNat_of_nonneg (yg fun q1=>yl (Cz (max (0:Int) (min ((-(3:Int))+(oI (a+7))) (oI (a+7))))) [(1,yi y0,yn 0),(1,yn 0,y0)] rfl q1 (Int.le_max_left (0:Int) (min ((-(3:Int))+(oI (a+7))) (oI (a+7))))))) (Int.le_of_eq (Int.max_eq_left w4)) (oN a))) (xg fun z=>(Int.le_total (0:Int) (min ((-(3:Int))+(oI (a+7))) (oI (a+7)))).elim (fun w8=>yl (Ky (((Int.toNat (max (0:Int) (min ((-(3:Int))+(oI (a+7))) (oI (a+7))))):Nat):Int) a (max (0:Int) (min ((-(3:Int))+(oI (a+7))) (oI (a+7)))) (min ((-(3:Int))+(oI (a+7))) (oI (a+7)))) [(1,yi y0,ya y1 (yn 4)),(1,y2,y0),(1,y3,y2),(1,ya (.neg (yn 3)) (ya y1 (yn 7)),y3)] rfl (oL z) (Int.le_of_eq (Int.toNat_of_nonneg (yg fun q5=>yl (Cz (max (0:Int) (min ((-(3:Int))+(oI (a+7))) (oI (a+7))))) [(1,yi y0,yn 0),(1,yn 0,y0)] rfl q5 (Int.le_max_left (0:Int) (min ((-(3:Int))+(oI (a+7))) (oI (a+7)))))).symm) (Int.le_of_eq (Int.max_eq_right w8).symm) (Int.le_of_eq (Int.min_eq_left (yg fun q9=>yl (Cz a) [(1,ya (ya y0 (yn 7)) (yn 1),ya (.neg (yn 3)) (ya y0 (yn 7)))] rfl q9)).symm)) (fun w8=>yl (Cr (min ((-(3:Int))+(oI (a+7))) (oI (a+7))) a) [(1,y0,yn 0),(1,ya (.neg (yn 3)) (ya y1 (yn 7)),y0),(1,yn 0,y1)] rfl w8 (Int.le_of_eq (Int.min_eq_left (yg fun q10=>yl (Cz a) [(1,ya (ya y0 (yn 7)) (yn 1),ya (.neg (yn 3)) (ya y0 (yn 7)))] rfl q10)).symm) (oN a)))
theorem A8u(h0:a<=900):a<=2000:=Nat.le_trans h0 (by decide)
theorem A8v:a+1+b=a+(b+1):=Nat.succ_add_eq_add_succ a b
theorem A8w(h0:a<=b)(h1:b<=a):(a:Int)=(b:Int):=Int.le_antisymm (yg fun z=>yl (Cr a b) [(1,y0,y1),(1,yi y1,y0)] rfl (oL h0) z) (yg fun z=>yl (Cr b a) [(1,y0,y1),(1,yi y1,y0)] rfl (oL h1) z)
theorem A8x(h0:a<b)(h1:c+d=b-(a+1)):a+1+c<=b:=xg fun z=>yl (Qi c d (oI (b-(a+1))) b a) [(1,ya y0 y1,y2),(1,yi y3,ya (yi y4) y0),(1,ya y2 (yi y4),y3),(1,yn 0,y1)] rfl (oL (oE h1)) (oL z) (oC (xg fun q1=>yl (Cr a b) [(1,yi y0,y1),(1,yi y1,yi y0)] rfl (oL h0) (oL q1))) (oN d)
theorem A8y(h0:a<=10000):a<=16777216:=Nat.le_trans h0 (by decide)
theorem A8z(h0:a<=9999):a<=10000:=Nat.le_trans h0 (by decide)
theorem A80(h0:a+b=c)(h1:a+d<=e)(h2:e<c):e-a<b:=xh fun z=>yl (Qi c a b e (oI (e-a))) [(1,y0,ya y1 y2),(1,yi y3,y0),(1,y2,y4),(1,ya y4 y1,y3)] rfl (oL (oE h0.symm)) (oL h2) (oL z) (oC (xg fun q1=>yl (Gc a d e) [(1,ya y0 y1,y2),(1,yi y2,y0),(1,yn 0,y1)] rfl (oL h1) (oL q1) (oN d)))
theorem A81(h0:a+b<=c):c=a+(c-a):=Nat.le_antisymm (xg fun z=>yl (Gc a (oI (c-a)) c) [(1,ya (ya y0 y1) (yn 1),y2),(1,y2,ya y1 y0)] rfl (oL z) (oL (oS c a))) (xg fun z=>yl (Gc c a (oI (c-a))) [(1,yi y0,ya y1 y2),(1,ya y2 y1,y0)] rfl (oL z) (oC (xg fun q1=>yl (Gc a b c) [(1,ya y0 y1,y2),(1,yi y2,y0),(1,yn 0,y1)] rfl (oL h0) (oL q1) (oN b))))
theorem A82(h0:a+b<=c)(h1:c-a<b):False:=yl (Ky a b c (oI (c-a))) [(1,ya y0 y1,y2),(1,yi y3,y1),(1,y2,ya y3 y0)] rfl (oL h0) (oL h1) (oL (oS c a))
theorem A1h(h0:a=b):a<=b:=Nat.le_of_eq ‹_›
theorem A83(h0:a=b):a<=b+1:=Nat.le.intro (congrFun (congrArg HAdd.hAdd h0) 1)
theorem A84(h0:a<=1000)(h1:b+(c+1)+1=a):((c+1:Nat):Int)<9223372036854775808:=oT (xh fun z=>xl (Ir a b c) [(1,x0,xn 1000),(1,xa (xa x1 (xi x2)) (xn 1),x0),(1,xn 9223372036854775808,xi x2)] rfl h0 (oE h1) z)
theorem A85(h0:a+(b+1)+1=c):a+1+b+1=c:=Nat.le_antisymm (xg fun z=>xl (Ir a b c) [(1,xa (xa x0 (xi x1)) (xn 1),x2),(1,xi x2,xa (xa (xi x0) x1) (xn 1))] rfl (oE h0) z) (xg fun z=>xl (Ir a b c) [(1,x2,xa (xa x0 (xi x1)) (xn 1)),(1,(xa (xa (xa (xi x0) x1) (xn 1)) (xn 1)),x2)] rfl (oE h0.symm) z)
theorem A86(h0:a+1<b+1):a<b:=Nat.le_of_lt_succ ‹_›
theorem A87(h0:a+b=c):a<=c:=Nat.le.intro h0
theorem A88(h0:a<b)(h1:c+(d+1)=a):c<b:=xh fun z=>xl (Nt a b c d) [(1,xi x0,x1),(1,xa x2 (xi x3),x0),(1,x1,x2)] rfl h0 (oE h1) z
theorem A89(h0:a=6)(h1:0=a):False:=xl (I5 a) [(1,xn 6,x0),(1,x0,xn 0)] rfl (oE h0.symm) (oE h1.symm)
theorem A9a:0<4:=Nat.zero_lt_succ 3
theorem A9b:a/256*256+a%256=a:=Nat.div_add_mod' a 256
theorem A9c(h0:a+(b+1)=3):(a:Int)<9223372036854775808:=oT (xh fun z=>xl (D7 a b) [(1,xa x0 (xi x1),xn 3),(1,xn 9223372036854775808,x0)] rfl (oE h0) z)
theorem A9d(h0:a+(b+1)=2):1-(a:Int)=((1-a:Nat):Int):=Int.le_antisymm (yg fun z=>yl (Cr (oI (1-a)) a) [(1,yi y0,ys (yn 1) y1),(1,yn 1,ya y0 y1)] rfl z (oL (oS 1 a))) (yg fun z=>yl (Cr a (oI (1-a))) [(1,ya (ys (yn 1) y0) (yn 1),y1),(1,ya y1 y0,yn 1)] rfl z (oC (xg fun q1=>yl (Cr a b) [(1,ya y0 (yi y1),yn 2),(1,yn 2,y0),(1,yn 0,y1)] rfl (oL (oE h0)) (oL q1) (oN b))))
theorem A9e(h0:a+(b+1)=2):((1-a:Nat):Int)<9223372036854775808:=yh fun z=>yl (Cz (oI (1-a))) [(1,yn 9223372036854775808,y0),(1,y0,yn 1)] rfl z (oL (Nat.sub_le 1 a))
theorem D4o(h0:a<=200):0+1+a+(0+1)<=16777216:=xg fun z=>xl (I5 a) [(1,x0,xn 200),(1,xn 16777217,xa (xa (xn 1) x0) (xn 1))] rfl h0 z
theorem A9f(h0:a<=5):a<=100:=Nat.le_trans h0 (by decide)
theorem A9g:2<4000:=by (simp;done)
theorem D4p(h0:0<a):0<(a:Int):=Int.ofNat_lt.mpr ‹_›
theorem B7t(h0:a<=b)(h1:c+b<d):c+a<d:=xh fun z=>xl (Nt a b c d) [(1,x0,x1),(1,xa (xa x2 x1) (xn 1),x3),(1,x3,xa x2 x0)] rfl h0 h1 z
theorem B7u(h0:a<=b)(h1:c+8*b+200<d):c+8*a+200<d:=xh fun z=>xl (Nt a b c d) [(8,x0,x1),(1,(xa (xa (xa x2 (xm 8 x1)) (xn 200)) (xn 1)),x3),(1,x3,xa (xa x2 (xm 8 x0)) (xn 200))] rfl h0 h1 z
theorem B7v{a:Int}(h0:0<a∧a<1073741824):a≠0:=fun z=>yl (Cz a) [(1,yn 1,y0),(1,y0,yn 0)] rfl h0.1 (Int.le_of_eq z)
theorem B7w{a:Int}(h0:0<a∧a<1073741824):0<=a:=yg fun z=>yl (Cz a) [(1,yn 1,y0),(1,yi y0,yn 0)] rfl h0.1 z
theorem B7x{a:Int}(h0:0<a):a≠0:=Ne.symm (Int.ne_of_lt h0)
theorem B7y{a:Int}(h0:0<a):0<=a:=Int.le_of_lt h0
theorem B7z{a b:Int}(h0:0<=a∧a<=100∧0<=b∧b<=100):0<=a:=h0.left
theorem B70{a b:Int}(h0:0<=a∧a<=100∧0<=b∧b<=100):a<=1000000:=yg fun z=>yl (Cz a) [(1,y0,yn 100),(1,yn 1000001,y0)] rfl h0.2.1 z
theorem B71(h0:a<=1):a+1<=64:=Nat.lt_of_lt_of_le (Nat.lt_succ_of_le h0) (Nat.le_add_left (Nat.succ 1) 62)
theorem B72(h0:¬a=b)(h1:a=c)(h2:b=d):¬c=d:=by first |lia|omega
theorem B73(h0:a+64<b):a<b:=Nat.lt_of_add_right_lt h0
theorem B74(h0:a-1<b):a<=b:=Nat.le_of_pred_lt h0
theorem B75{a:Int}(h0:0<=a):¬a<0:=Int.not_lt_of_ge h0
theorem B76{a:Int}{b:Nat}(h0:0<=a)(h1:a.toNat<b):a<(b:Int):=yh fun z=>yl (Gc (oI (Int.toNat a)) b a) [(1,yi y0,y1),(1,y1,y2),(1,y2,y0)] rfl (oL h1) z (Int.le_of_eq (Int.toNat_of_nonneg (yg fun q1=>yl (Cz a) [(1,yn 0,y0),(1,yi y0,yn 0)] rfl h0 q1)).symm)
theorem B77{a:Nat}{b:Int}(h0:(a:Int)<b):0<b-(a:Int):=Int.sub_pos_of_lt h0
theorem B78{a:Int}{b:Nat}:a-(b:Int)-1=a-((b+1:Nat):Int):=Int.le_antisymm (yg fun z=>yl (Cr a b) [(1,ya (ys y0 (yi y1)) (yn 1),ys (ys y0 y1) (yn 1))] rfl z) (yg fun z=>yl (Cr a b) [(1,ya (ys (ys y0 y1) (yn 1)) (yn 1),ys y0 (yi y1))] rfl z)
theorem B79{a:Nat}{b:Int}(h0:¬(a:Int)<b):b-(a:Int)<=0:=yg fun z=>yl (Cr b a) [(1,y0,y1),(1,yn 1,ys y0 y1)] rfl (yg h0) z
theorem B8a(h0:a=b)(h1:a=c):b=c:=cast (congrArg (Eq b) h1) (id (Eq.symm h0))
theorem B8b(h0:a+(b+1)<c):a+1+b<c:=xh fun z=>xl (Ir a b c) [(1,xa (xa x0 (xi x1)) (xn 1),x2),(1,x2,xa (xi x0) x1)] rfl h0 z
theorem B8c(h0:a+8*(b+1)+200<c):a+3+8*b+200<c:=xh fun z=>xl (Ir a b c) [(1,(xa (xa (xa x0 (xm 8 (xi x1))) (xn 200)) (xn 1)),x2),(1,x2,(xa (xa (xa x0 (xn 3)) (xm 8 x1)) (xn 200)))] rfl h0 z
theorem B8d(h0:a+(b+1)<c):a<c:=Nat.lt_of_add_right_lt h0
theorem B8e(h0:(a:Int)<(b:Int)):a<b:=Int.ofNat_lt.mp ‹_›
theorem B8f(h0:a<=b)(h1:c=a)(h2:c=d):d<=b:=xg fun z=>xl (Nt a b c d) [(1,x0,x1),(1,x2,x0),(1,x3,x2),(1,xi x1,x3)] rfl h0 (oE h1) (oE h2.symm) z
theorem D4q:a+1<=a+1:=A1h rfl
theorem B8g(h0:a<=16777216)(h1:a=b):b<=16777216:=xg fun z=>xl (D7 a b) [(1,x0,xn 16777216),(1,x1,x0),(1,xn 16777217,x1)] rfl h0 (oE h1.symm) z
theorem B8h(h0:a=b)(h1:0<=(c:Int)∧(c:Int)<(b:Int)∧b<=16777216):0<=(c:Int)∧(c:Int)<(a:Int):=⟨yg fun z=>yl (Cz c) [(1,yn 0,y0),(1,yi y0,yn 0)] rfl h1.1 z,yh fun z=>yl (Gc b a c) [(1,y0,y1),(1,yi y2,y0),(1,y1,y2)] rfl (oL (oE h0.symm)) h1.2.1 z⟩
theorem B8i(h0:a=b)(h1:0<=(c:Int)∧(c:Int)<(b:Int)∧b<=16777216):a<=16777216:=xg fun z=>yl (Cr a b) [(1,y0,y1),(1,y1,yn 16777216),(1,yn 16777217,y0)] rfl (oL (oE h0)) (oL h1.2.2) (oL z)
theorem D4r:0+1+1<=16777216+2:=Nat.le_add_left (0+1+1) 16777216
theorem D4s(h0:a<=16777216):a+1<=16777216+1:=Nat.lt_succ_of_le ‹_›
theorem B8j(h0:a=b∧c<=b)(h1:a<=c)(h2:a=d):c=d:=Nat.le_antisymm (xg fun z=>xl (Nt a b c d) [(1,x1,x0),(1,x2,x1),(1,x0,x3),(1,xi x3,x2)] rfl (oE h0.1.symm) h0.2 (oE h2) z) (xg fun z=>xl (Ir a c d) [(1,x0,x1),(1,x2,x0),(1,xi x1,x2)] rfl h1 (oE h2.symm) z)
theorem B8k(h0:a+b<c):a<c:=Nat.lt_of_add_right_lt h0
theorem B8l(h0:a=b)(h1:¬c<b):a<=c:=xg fun z=>xl (Ir a b c) [(1,x0,x1),(1,x1,x2),(1,xi x2,x0)] rfl (oE h0) (xg h1) z
theorem B8m(h0:a+1<=0):False:=Nat.not_succ_le_zero a h0
theorem D4t:0+1<=16777216+1:=Nat.le_add_left (0+1) 16777216
theorem B8n:min a b<=b+c:=xg fun z=>yl (Gc b c (oI (min a b))) [(1,ya (ya y0 y1) (yn 1),y2),(1,yn 0,y1),(1,y2,y0)] rfl (oL z) (oN c) (oL (Nat.min_le_right a b))
theorem B8o(h0:a+(b+1)<c):a+b<c:=Nat.le_of_lt ‹_›
theorem B8p(h0:a+8*(b+1)+200<c):a+1+8*b+200<c:=xh fun z=>xl (Ir a b c) [(1,(xa (xa (xa x0 (xm 8 (xi x1))) (xn 200)) (xn 1)),x2),(1,x2,xa (xa (xi x0) (xm 8 x1)) (xn 200))] rfl h0 z
theorem D4u:0+1+1+1+1+1+1<=16777216+2:=Nat.le_add_left (0+1+1+1+1+1+1) 16777212
theorem B8q:¬(a:Int)+1=0:=fun z=>yl (Cz a) [(1,yi y0,yn 0),(1,yn 0,y0)] rfl (Int.le_of_eq z) (oN a)
theorem B8r(h0:a<=b):¬b<a:=Nat.not_lt.mpr ‹_›
theorem B8s{a:Int}{b:Nat}:a+(b:Int)-a-1+1=(b:Int):=Int.le_antisymm (yg fun z=>yl (Cr b a) [(1,yi y0,(ya (ys (ys (ya y1 y0) y1) (yn 1)) (yn 1)))] rfl z) (yg fun z=>yl (Cr a b) [(1,(ya (ya (ys (ys (ya y0 y1) y0) (yn 1)) (yn 1)) (yn 1)),y1)] rfl z)
theorem B8t{a:Int}{b:Nat}(h0:¬a<a+(b:Int)):0=(b:Int):=Int.le_antisymm (yg fun z=>yl (Cz b) [(1,yi y0,yn 0),(1,yn 0,y0)] rfl z (oN b)) (yg fun z=>yl (Cr a b) [(1,ya y0 y1,y0),(1,yn 1,y1)] rfl (yg h0) z)
theorem B8u(h0:¬a<b):¬(a:Int)<(b:Int):=fun z=>yl (Cr b a) [(1,y0,y1),(1,yi y1,y0)] rfl (oL (xg h0)) z
theorem B8v(h0:0<a):a=a-1+1:=Nat.le_antisymm (xg fun z=>yl (Cr (oI (a-1)) a) [(1,ya (yi y0) (yn 1),y1),(1,y1,yi y0)] rfl (oL z) (oL (oS a 1))) (xg fun z=>yl (Cr a (oI (a-1))) [(1,yi y0,yi y1),(1,yi y1,y0)] rfl (oL z) (oC (xg fun q1=>yl (Cz a) [(1,yn 1,y0),(1,yi y0,yn 1)] rfl (oL h0) (oL q1))))
theorem B8w(h0:a+1<b):b=b-1+1:=Nat.le_antisymm (xg fun z=>yl (Cr (oI (b-1)) b) [(1,ya (yi y0) (yn 1),y1),(1,y1,yi y0)] rfl (oL z) (oL (oS b 1))) (xg fun z=>yl (Cr b (oI (b-1))) [(1,yi y0,yi y1),(1,yi y1,y0)] rfl (oL z) (oC (xg fun q1=>yl (Cr a b) [(1,ya (yi y0) (yn 1),y1),(1,yi y1,yn 1),(1,yn 0,y0)] rfl (oL h0) (oL q1) (oN a))))
theorem B8x(h0:a=b)(h1:c<=a)(h2:b+(d+1)<16777216):c<16777216:=xh fun z=>xl (Nt a b c d) [(1,x0,x1),(1,x2,x0),(1,xa (xa x1 (xi x3)) (xn 1),xn 16777216),(1,xn 16777216,x2)] rfl (oE h0) h1 h2 z
theorem D4v{a b:Nat}{c:Int}(h0:a<=b):max 0 (min c (b:Int))<=(b:Int):=yg fun z=>(Int.le_total (0:Int) (min c ((b:Nat):Int))).elim (fun w3=>yl (Gc b (max (0:Int) (min c ((b:Nat):Int))) (min c ((b:Nat):Int))) [(1,yi y0,y1),(1,y1,y2),(1,y2,y0)] rfl z (Int.le_of_eq (Int.max_eq_right w3)) (Int.min_le_right c ((b:Nat):Int))) (fun w3=>yl (Cr b (max (0:Int) (min c ((b:Nat):Int)))) [(1,yi y0,y1),(1,y1,yn 0),(1,yn 0,y0)] rfl z (Int.le_of_eq (Int.max_eq_left w3)) (oN b))
theorem B8y:(max 0 (min (a:Int) (b:Int))).toNat=min a b:=(Nat.le_total a b).elim (fun h=>by rw[Int.min_eq_left (oL h),Int.max_eq_right (oN a),Nat.min_eq_left h];rfl) fun h=>by rw[Int.min_eq_right (oL h),Int.max_eq_right (oN b),Nat.min_eq_right h];rfl
theorem B8z:((a:Int)+1*(b:Int)).toNat=a+b:=Nat.le_antisymm (xg fun z=>yl (Gc a b (((Int.toNat (((a:Nat):Int)+((1:Int)*((b:Nat):Int)))):Nat):Int)) [(1,ya (ya y0 y1) (yn 1),y2),(1,y2,ya y0 (ym 1 y1))] rfl (oL z) (Int.le_of_eq (Int.toNat_of_nonneg (yg fun q1=>yl (Cr a b) [(1,ya (ya y0 (ym 1 y1)) (yn 1),yn 0),(1,yn 0,y0),(1,yn 0,y1)] rfl q1 (oN a) (oN b))))) (xg fun z=>yl (Gc (((Int.toNat (((a:Nat):Int)+((1:Int)*((b:Nat):Int)))):Nat):Int) a b) [(1,yi y0,ya y1 y2),(1,ya y1 (ym 1 y2),y0)] rfl (oL z) (Int.le_of_eq (Int.toNat_of_nonneg (yg fun q2=>yl (Gc (((Int.toNat (((a:Nat):Int)+((1:Int)*((b:Nat):Int)))):Nat):Int) a b) [(1,yi y0,ya y1 y2),(1,ya (ya y1 (ym 1 y2)) (yn 1),yn 0),(1,yn 0,y0)] rfl (oL z) q2 (oN (Int.toNat (((a:Nat):Int)+((1:Int)*((b:Nat):Int))))))).symm))
theorem B80(h0:a<=b)(h1:c<=a):c+(a-c)<=b:=xg fun z=>yl (Ky a b c (oI (a-c))) [(1,y0,y1),(1,yi y1,ya y2 y3),(1,ya y3 y2,y0)] rfl (oL h0) (oL z) (oC (xg fun q1=>yl (Cr c a) [(1,y0,y1),(1,yi y1,y0)] rfl (oL h1) (oL q1)))
theorem B81(h0:¬a<=b):b-a=0:=Nat.le_antisymm (xg fun z=>yl (Cz (oI (b-a))) [(1,yn 1,y0),(1,y0,yn 0)] rfl (oL z) (oL (oE (Nat.sub_eq_zero_of_le (xg fun q2=>yl (Cr b a) [(1,yi y0,y1),(1,yi y1,y0)] rfl (oL (xh h0)) (oL q2)))))) (xg fun z=>yl (Cz (oI (b-a))) [(1,yi y0,yn 0),(1,yn 0,y0)] rfl (oL z) (oN (b-a)))
theorem B82(h0:a<=b):min (a-c) (b-c)=a-c:=Nat.le_antisymm (xg fun z=>yl (Cr (oI (a-c)) (oI (min (a-c) (b-c)))) [(1,yi y0,y1),(1,y1,y0)] rfl (oL z) (oL (Nat.min_le_left (a-c) (b-c)))) (xg fun z=>(Nat.le_total (a-c) (b-c)).elim (fun w3=>yl (Cr (oI (min (a-c) (b-c))) (oI (a-c))) [(1,yi y0,y1),(1,y1,y0)] rfl (oL z) (oL (oE (Nat.min_eq_left w3).symm))) (fun w3=>(Nat.le_total c a).elim (fun w6=>yl (yr6 a b (oI (min (a-c) (b-c))) (oI (a-c)) (oI (b-c)) c) [(1,y0,y1),(1,yi y2,y3),(1,y4,y2),(1,ya y3 y5,y0),(1,y1,ya y4 y5)] rfl (oL h0) (oL z) (oL (oE (Nat.min_eq_right w3).symm)) (oC w6) (oL (oS b c))) (fun w6=>yl (Cr (oI (min (a-c) (b-c))) (oI (a-c))) [(1,yi y0,y1),(1,y1,yn 0),(1,yn 0,y0)] rfl (oL z) (oL (oE (Nat.sub_eq_zero_of_le w6))) (oN (min (a-c) (b-c))))))
theorem B83(h0:a<=b)(h1:a-c=b)(h2:¬b=0):c=0:=(Nat.eq_zero_or_pos c).elim id fun h=>absurd (Nat.lt_of_lt_of_le (Nat.sub_lt (Nat.pos_of_ne_zero fun q=>h2 (by rw[<- h1,q,Nat.zero_sub])) h) h0) (by rw[h1];exact Nat.lt_irrefl b)
theorem B84(h0:a<=b)(h1:a-c=b)(h2:¬b=0):a=b:=Nat.le_antisymm (xg fun z=>yl (Cr a b) [(1,y0,y1),(1,yi y1,y0)] rfl (oL h0) (oL z)) (xg fun z=>yl (Gc b (oI (a-c)) a) [(1,y0,y1),(1,yi y2,y0),(1,y1,y2)] rfl (oL (oE h1.symm)) (oL z) (oL (Nat.sub_le a c)))
theorem B85(h0:a<=16777216)(h1:b<=a):b-c<=16777216:=xg fun z=>yl (Gc a b (oI (b-c))) [(1,y0,yn 16777216),(1,y1,y0),(1,yn 16777217,y2),(1,y2,y1)] rfl (oL h0) (oL h1) (oL z) (oL (Nat.sub_le b c))
theorem B86:(a:Int)/4096=((a/4096:Nat):Int):=by rfl
theorem B87(h0:a<65536):((a/4096:Nat):Int)<9223372036854775808:=yh fun z=>yl (Cr a (oI (a/4096))) [(1,yi y0,yn 65536),(4096,yn 9223372036854775808,y1),(1,ym 4096 y1,y0)] rfl (oL h0) z (oL (Nat.mul_div_le a 4096))
theorem B88:((a/b:Nat):Int)%8/4=((a/b/4%2:Nat):Int):=congrArg Int.ofNat (Nat.mod_mul_right_div_self (a/b) 4 2)
theorem B89:((a/b:Nat):Int)%8/2%2=((a/b/2%2:Nat):Int):=congrArg Int.ofNat ((congrArg (·%2) (Nat.mod_mul_right_div_self (a/b) 2 4)).trans (Nat.mod_mod_of_dvd (a/b/2) (by decide:2 ∣ 4)))
theorem B9a:((a/b:Nat):Int)%8%2=((a/b%2:Nat):Int):=by first |(simp;done)|lia|omega
theorem B9b(h0:12<=a)(h1:a<16):a=12∨a=13∨a=14∨a=15:=(by kd_p:∀a:Nat,a<16->12<=a->a=12∨a=13∨a=14∨a=15) a h1 h0
theorem B9c(h0:¬a<16):16<=a:=Nat.le_of_not_lt h0
theorem B9d(h0:¬a<16):a-12+12=a:=Nat.le_antisymm (xg fun z=>yl (Cr a (oI (a-12))) [(1,yi y0,ya y1 (yn 12)),(1,ya y1 (yn 12),y0)] rfl (oL z) (oC (xg fun q1=>yl (Cz a) [(1,yn 16,y0),(1,yi y0,yn 12)] rfl (oL (xg h0)) (oL q1)))) (xg fun z=>yl (Cr (oI (a-12)) a) [(1,ya (ya y0 (yn 12)) (yn 1),y1),(1,y1,ya y0 (yn 12))] rfl (oL z) (oL (oS a 12)))
theorem B9e(h0:¬12<=a):a=0∨a=1∨a=2∨a=3∨a=4∨a=5∨a=6∨a=7∨a=8∨a=9∨a=10∨a=11:=(by kd_p:∀a:Nat,a<12->a=0∨a=1∨a=2∨a=3∨a=4∨a=5∨a=6∨a=7∨a=8∨a=9∨a=10∨a=11) a (Nat.lt_of_not_le h0)
theorem B9f(h0:a<b):¬a=b:=Nat.ne_of_lt ‹_›
theorem B9g(h0:a<b)(h1:b=a):False:=Nat.ne_of_lt h0 (id (Eq.symm h1))
theorem B9h(h0:a<b)(h1:a=b):False:=Nat.ne_of_lt h0 h1
theorem B9i(h0:a<256):(a:Int)<9223372036854775808:=oT (xh fun z=>xl (I5 a) [(1,xi x0,xn 256),(1,xn 9223372036854775808,x0)] rfl h0 z)
theorem B9j:((a/4096*4096:Nat):Int)=(b:Int)↔a/4096*4096=b:=B0r
theorem D4w(h0:a<65536):-18446744073709551616<(a:Int)/4096∧(a:Int)/4096<18446744073709551616:=⟨Int.lt_of_lt_of_le (by decide) (Int.natCast_nonneg (a/4096)),Int.ofNat_lt.mpr (Nat.lt_of_le_of_lt (Nat.div_le_self a 4096) (Nat.lt_trans h0 (by decide)))⟩
theorem B9k(h0:a+3<=b):a<=b∧3<=b-a:=⟨xg fun z=>yl (Cr a b) [(1,ya y0 (yn 3),y1),(1,yi y1,y0)] rfl (oL h0) (oL z),xg fun z=>yl (Gc a b (oI (b-a))) [(1,ya y0 (yn 3),y1),(1,yi y2,yn 3),(1,y1,ya y2 y0)] rfl (oL h0) (oL z) (oL (oS b a))⟩
theorem B9l(h0:a+3<=b):¬a≥b:=fun z=>xl (D7 a b) [(1,xa x0 (xn 3),x1),(1,x1,x0)] rfl h0 z
theorem B9m(h0:a+3<=b):¬(2:Int)>(b:Int)-((a+1:Nat):Int):=fun z=>yl (Cr a b) [(1,ya y0 (yn 3),y1),(1,ya (ys y1 (yi y0)) (yn 1),yn 2)] rfl (oL h0) z
theorem B9n(h0:a+3<=b):min 2 ((b:Int)-((a+1:Nat):Int)).toNat=2:=Nat.le_antisymm (xg fun z=>yl (Cz (((min 2 (Int.toNat (((b:Nat):Int)-(oI (a+1))))):Nat):Int)) [(1,yn 3,y0),(1,y0,yn 2)] rfl (oL z) (oL (Nat.min_le_left 2 (Int.toNat (((b:Nat):Int)-(oI (a+1))))))) (xg fun z=>(Nat.le_total 2 (Int.toNat (((b:Nat):Int)-(oI (a+1))))).elim (fun w3=>yl (Cz (((min 2 (Int.toNat (((b:Nat):Int)-(oI (a+1))))):Nat):Int)) [(1,yi y0,yn 2),(1,yn 2,y0)] rfl (oL z) (oL (oE (Nat.min_eq_left w3).symm))) (fun w3=>yl (Ky a b (((min 2 (Int.toNat (((b:Nat):Int)-(oI (a+1))))):Nat):Int) (((Int.toNat (((b:Nat):Int)-(oI (a+1)))):Nat):Int)) [(1,ya y0 (yn 3),y1),(1,yi y2,yn 2),(1,y3,y2),(1,ys y1 (yi y0),y3)] rfl (oL h0) (oL z) (oL (oE (Nat.min_eq_right w3).symm)) (Int.le_of_eq (Int.toNat_of_nonneg (yg fun q4=>yl (Cr a b) [(1,ya y0 (yn 3),y1),(1,ya (ys y1 (yi y0)) (yn 1),yn 0)] rfl (oL h0) q4)).symm)))
theorem B9o:16*(a/16)+a%16=a:=Nat.div_add_mod a 16
theorem B9p:3+3*a=3*(a+1):=Std.Commutative.comm 3 (3*a)
theorem B9q:3*a<=3*a+b:=Nat.le_add_right (3*a) b
theorem B9r:3*a+b-3*a=b:=Nat.add_sub_self_left (3*a) b
theorem B9s(h0:a=3*(b+(c+1))):3*b+3<=a:=xg fun z=>xl (Ir a b c) [(1,xm 3 (xa x1 (xi x2)),x0),(1,xi x0,xa (xm 3 x1) (xn 3))] rfl (oE h0.symm) z
theorem B9t:3*a<=3*a:=Nat.le_refl (3*a)
theorem B9u:3*a+3-3*a=3:=Nat.le_antisymm (xg fun z=>yl (Cr (((((3*a)+3)-(3*a)):Nat):Int) a) [(1,yn 4,y0),(1,ya y0 (ym 3 y1),ya (ym 3 y1) (yn 3))] rfl (oL z) (oC (xg fun q1=>yl (Cz a) [(1,ya (ya (ym 3 y0) (yn 3)) (yn 1),ym 3 y0)] rfl (oL q1)))) (xg fun z=>yl (Cr (((((3*a)+3)-(3*a)):Nat):Int) a) [(1,yi y0,yn 3),(1,ya (ym 3 y1) (yn 3),ya y0 (ym 3 y1))] rfl (oL z) (oL (oS ((3*a)+3) (3*a))))
theorem B9v:3*a-3*a=0:=Nat.sub_self (3*a)
theorem B9w:3*(a+1)=3*a+3:=Nat.mul_succ 3 a
theorem B9x(h0:a+(b+1)<=1000):a<=16777216:=xg fun z=>xl (D7 a b) [(1,xa x0 (xi x1),xn 1000),(1,xn 16777217,x0)] rfl h0 z
theorem B9y(h0:a≠95)(h1:b≠95)(h2:95=a∨95=b):False:=Or.elim h2 (id (Ne.symm h0)) (id (Ne.symm h1))
theorem B9z(h0:a<100):3*a<=16777216:=xg fun z=>xl (I5 a) [(3,xi x0,xn 100),(1,xn 16777217,xm 3 x0)] rfl h0 z
theorem B90(h0:a<100):a<=1000:=Nat.le_of_lt (Nat.lt_of_lt_of_le h0 (by decide))
theorem B91:(0+(a:Int)).toNat=a:=Nat.le_antisymm (xg fun z=>yl (Cr a (((Int.toNat ((0:Int)+((a:Nat):Int))):Nat):Int)) [(1,yi y0,y1),(1,y1,ya (yn 0) y0)] rfl (oL z) (Int.le_of_eq (Int.toNat_of_nonneg (yg fun q1=>yl (Cz a) [(1,ya (ya (yn 0) y0) (yn 1),yn 0),(1,yn 0,y0)] rfl q1 (oN a))))) (xg fun z=>yl (Cr (((Int.toNat ((0:Int)+((a:Nat):Int))):Nat):Int) a) [(1,yi y0,y1),(1,ya (yn 0) y1,y0)] rfl (oL z) (Int.le_of_eq (Int.toNat_of_nonneg (yg fun q2=>yl (Cz a) [(1,ya (ya (yn 0) y0) (yn 1),yn 0),(1,yn 0,y0)] rfl q2 (oN a))).symm))
theorem B92:(a:Int)=0+(a:Int):=Int.le_antisymm (yg fun z=>yl (Cz a) [(1,ya (ya (yn 0) y0) (yn 1),y0)] rfl z) (yg fun z=>yl (Cz a) [(1,yi y0,ya (yn 0) y0)] rfl z)
theorem D4x(h0:a<8):0<=(a:Int)∧(a:Int)<=100∧0<=2∧2<=100:=⟨yg fun z=>yl (Cz a) [(1,yi y0,yn 0),(1,yn 0,y0)] rfl z (oN a),⟨yg fun z=>yl (Cz a) [(1,yi y0,yn 8),(1,yn 101,y0)] rfl (oL h0) z,⟨xg fun z=>yl (Cz 0) [(1,yn 3,yn 0)] rfl (oL z),xg fun z=>yl (Cz 0) [(1,yn 101,yn 2)] rfl (oL z)⟩⟩⟩
theorem B93:(a:Int)=1↔a=1:=Int.ofNat_inj (n:=1)
theorem B94(h0:a<8):(a:Int)<9223372036854775808:=oT (xh fun z=>xl (I5 a) [(1,xi x0,xn 8),(1,xn 9223372036854775808,x0)] rfl h0 z)
theorem B95(h0:a<100):a<4000:=Nat.lt_of_lt_of_le h0 (by decide)
theorem B96(h0:a<100):a<16777216:=Nat.lt_of_lt_of_le h0 (by decide)
theorem D4y{a:Int}(h0:0<=a)(h1:a<12):0<=a∧a<=100∧0<=2∧2<=100:=⟨yg fun z=>yl (Cz a) [(1,yn 0,y0),(1,yi y0,yn 0)] rfl h0 z,⟨yg fun z=>yl (Cz a) [(1,yi y0,yn 12),(1,yn 101,y0)] rfl h1 z,⟨xg fun z=>yl (Cz 0) [(1,yn 3,yn 0)] rfl (oL z),xg fun z=>yl (Cz 0) [(1,yn 101,yn 2)] rfl (oL z)⟩⟩⟩
theorem B97{a:Int}(h0:0<=a):a=(a.toNat:Int):=Int.eq_natCast_toNat.mpr h0
theorem B98{a:Int}{b:Nat}(h0:a<12)(h1:a=(b:Int)):b<=12:=xg fun z=>yl (Cr a b) [(1,yi y0,yn 12),(1,y1,y0),(1,yn 13,y1)] rfl h0 (Int.le_of_eq h1.symm) (oL z)
theorem B99{a:Int}{b:Nat}(h0:0<=a)(h1:a<12)(h2:a=(b:Int)):-9223372036854775808<=(b:Int)∧(b:Int)<9223372036854775808:=⟨yg fun z=>yl (Cz b) [(1,yi y0,.neg (yn 9223372036854775808)),(1,yn 0,y0)] rfl z (oN b),yh fun z=>yl (Cr a b) [(1,yi y0,yn 12),(1,y1,y0),(1,yn 9223372036854775808,y1)] rfl h1 (Int.le_of_eq h2.symm) z⟩
theorem C0a:(a:Int)-0-1+1=(a:Int):=Int.sub_add_cancel (↑a-0) 1
theorem C0b(h0:¬0<(a:Int)):0=(a:Int):=Int.le_antisymm (yg fun z=>yl (Cz a) [(1,yi y0,yn 0),(1,yn 0,y0)] rfl z (oN a)) (yg fun z=>yl (Cz a) [(1,y0,yn 0),(1,yn 1,y0)] rfl (yg h0) z)
theorem C0c(h0:a<4611686018427387904):(a:Int)<9223372036854775808∧(a=0∨(a:Int)<9223372036854775808):=⟨Int.ofNat_lt.mpr (Nat.lt_trans h0 (by decide)),.inr (Int.ofNat_lt.mpr (Nat.lt_trans h0 (by decide)))⟩
theorem C0d(h0:a<=2*b)(h1:c<=2):c+a<=2*(b+1):=xg fun z=>xl (Ir a b c) [(1,x0,xm 2 x1),(1,x2,xn 2),(1,xa (xm 2 (xi x1)) (xn 1),xa x2 x0)] rfl h0 h1 z
theorem C0e(h0:a<=2*b):a<=2*(b+1):=Nat.le_trans h0 (Nat.le_add_right (2*b) 2)
theorem C0f(h0:a+2*(b+1)<=1000)(h1:c<=a+2):c+2*b<=1000:=xg fun z=>xl (Ir a b c) [(1,xa x0 (xm 2 (xi x1)),xn 1000),(1,x2,xa x0 (xn 2)),(1,xn 1001,xa x2 (xm 2 x1))] rfl h0 h1 z
theorem C0g(h0:a+2*(b+1)<=1000):a<=16777215:=xg fun z=>xl (D7 a b) [(1,xa x0 (xm 2 (xi x1)),xn 1000),(1,xn 16777216,x0)] rfl h0 z
theorem C0h:a+(0+1)<=a+2:=Nat.le_succ (a+(0+1))
theorem C0i(h0:a+2*(b+1)<=1000):a<=16777214:=xg fun z=>xl (D7 a b) [(1,xa x0 (xm 2 (xi x1)),xn 1000),(1,xn 16777215,x0)] rfl h0 z
theorem C0j:a+(0+1+(0+1))<=a+2:=Nat.le_refl (a+(0+1+(0+1)))
theorem C0k(h0:a=b+(c+1))(h1:(b:Int)+1=(a:Int)):c=0:=Nat.le_antisymm (xg fun z=>yl (Gc b c a) [(1,ya y0 (yi y1),y2),(1,y2,yi y0),(1,yn 1,y1)] rfl (oL (oE h0.symm)) (Int.le_of_eq h1.symm) (oL z)) (xg fun z=>yl (Cz c) [(1,yi y0,yn 0),(1,yn 0,y0)] rfl (oL z) (oN c))
theorem C0l(h0:¬(a:Int)+1=(b:Int))(h1:b=a+1):False:=by first |lia|omega
theorem C0m(h0:a<=100)(h1:a=b+(c+1))(h2:d=b+1):((b+1:Nat):Int)<9223372036854775808:=oT (xh fun z=>xl (Ir a b c) [(1,x0,xn 100),(1,xa x1 (xi x2),x0),(1,xn 9223372036854775808,xi x1)] rfl h0 (oE h1.symm) z)
theorem C0n(h0:a=b+1)(h1:0<b):b-1<b:=Nat.sub_one_lt_of_lt h1
theorem C0o(h0:a=b+1)(h1:0<b):(b:Int)-1=((b-1:Nat):Int):=Int.le_antisymm (yg fun z=>yl (Cr (oI (b-1)) b) [(1,yi y0,ys y1 (yn 1)),(1,y1,yi y0)] rfl z (oL (oS b 1))) (yg fun z=>yl (Cr b (oI (b-1))) [(1,ya (ys y0 (yn 1)) (yn 1),y1),(1,yi y1,y0)] rfl z (oC (xg fun q1=>yl (Cz b) [(1,yn 1,y0),(1,yi y0,yn 1)] rfl (oL h1) (oL q1))))
theorem C0p(h0:a<=100)(h1:a=b+(c+1)):((b-1:Nat):Int)<9223372036854775808:=yh fun z=>yl (Ky a b c (oI (b-1))) [(1,y0,yn 100),(1,ya y1 (yi y2),y0),(1,yn 9223372036854775808,y3),(1,yn 0,y2),(1,y3,y1)] rfl (oL h0) (oL (oE h1.symm)) z (oN c) (oL (Nat.sub_le b 1))
theorem C0q(h0:a<=100)(h1:b<=a):2+b<=16777216:=xg fun z=>xl (D7 a b) [(1,x0,xn 100),(1,x1,x0),(1,xn 16777217,xa (xn 2) x1)] rfl h0 h1 z
theorem C0r(h0:a<=100)(h1:b<=a):b<=16777213:=xg fun z=>xl (D7 a b) [(1,x0,xn 100),(1,x1,x0),(1,xn 16777214,x1)] rfl h0 h1 z
theorem C0s(h0:¬(a:Int)=1):a≠1:=Ne.symm (ne_of_apply_ne Nat.cast fun a_1=>h0 (id (Eq.symm a_1)))
theorem C0t(h0:a<=100)(h1:b<=4)(h2:c<=a):b+c<=16777216:=xg fun z=>xl (Ir a b c) [(1,x0,xn 100),(1,x1,xn 4),(1,x2,x0),(1,xn 16777217,xa x1 x2)] rfl h0 h1 h2 z
theorem C0u(h0:a<=100)(h1:b<=4)(h2:c<=a):b+c<=16777215:=xg fun z=>xl (Ir a b c) [(1,x0,xn 100),(1,x1,xn 4),(1,x2,x0),(1,xn 16777216,xa x1 x2)] rfl h0 h1 h2 z
theorem C0v(h0:(a:Int)=1):¬a≠1:=by first |lia|omega
theorem C0w(h0:a<=100):a<4611686018427387904:=Nat.lt_of_le_of_lt h0 (by decide)
theorem C0x(h0:a<=100):1+2*a<=1000:=xg fun z=>xl (I5 a) [(2,x0,xn 100),(1,xn 1001,xa (xn 1) (xm 2 x0))] rfl h0 z
theorem C0y(h0:a<=100)(h1:b<=2*a):0+1+b+(0+1)<=16777216:=xg fun z=>xl (D7 a b) [(2,x0,xn 100),(1,x1,xm 2 x0),(1,xn 16777217,xa (xa (xn 1) x1) (xn 1))] rfl h0 h1 z
theorem C0z(h0:a<b)(h1:b<1000):(a:Int)<9223372036854775808:=oT (xh fun z=>xl (D7 a b) [(1,xi x0,x1),(1,xi x1,xn 1000),(1,xn 9223372036854775808,x0)] rfl h0 h1 z)
theorem D4z(h0:a<4):0<=(a:Int)∧(a:Int)<=100∧0<=2∧2<=100:=⟨yg fun z=>yl (Cz a) [(1,yi y0,yn 0),(1,yn 0,y0)] rfl z (oN a),⟨yg fun z=>yl (Cz a) [(1,yi y0,yn 4),(1,yn 101,y0)] rfl (oL h0) z,⟨xg fun z=>yl (Cz 0) [(1,yn 3,yn 0)] rfl (oL z),xg fun z=>yl (Cz 0) [(1,yn 101,yn 2)] rfl (oL z)⟩⟩⟩
theorem C00(h0:0<a∧a<4)(h1:b<4):-9223372036854775808<=12-4*(a:Int)+(b:Int)∧12-4*(a:Int)+(b:Int)<9223372036854775808:=⟨yg fun z=>yl (Cr a b) [(4,yi y0,yn 4),(1,(ya (ya (ys (yn 12) (ym 4 y0)) y1) (yn 1)),.neg (yn 9223372036854775808)),(1,yn 0,y1)] rfl (oL h0.2) z (oN b),yh fun z=>yl (Cr a b) [(4,yn 1,y0),(1,yi y1,yn 4),(1,yn 9223372036854775808,ya (ys (yn 12) (ym 4 y0)) y1)] rfl (oL h0.1) (oL h1) z⟩
theorem C01(h0:a<=b)(h1:4=b):a<=4:=le_of_le_of_eq h0 (id (Eq.symm h1))
theorem C02(h0:a<=b):0+1+1+a+(0+1)<=2*b+6:=xg fun z=>xl (D7 a b) [(1,x0,x1),(1,xa (xa (xm 2 x1) (xn 6)) (xn 1),xa (xa (xn 2) x0) (xn 1))] rfl h0 z
theorem C03(h0:a<=b):0+1+1+1+1+a+(0+1)<=2*b+6:=xg fun z=>xl (D7 a b) [(1,x0,x1),(1,xa (xa (xm 2 x1) (xn 6)) (xn 1),xa (xa (xn 4) x0) (xn 1))] rfl h0 z
theorem C04(h0:a<=b):0+1+a+(0+1)<=2*b+6:=xg fun z=>xl (D7 a b) [(1,x0,x1),(1,xa (xa (xm 2 x1) (xn 6)) (xn 1),xa (xa (xn 1) x0) (xn 1))] rfl h0 z
theorem C05(h0:a<=2*b):0+1+a+(0+1)<=2*b+6:=xg fun z=>xl (D7 a b) [(1,x0,xm 2 x1),(1,xa (xa (xm 2 x1) (xn 6)) (xn 1),xa (xa (xn 1) x0) (xn 1))] rfl h0 z
theorem C06(h0:a<=2*16+6):0+(0+1+a)<=16777216:=xg fun z=>xl (I5 a) [(1,x0,xn 38),(1,xn 16777217,xa (xn 0) (xa (xn 1) x0))] rfl h0 z
theorem C07:0<1∧1<4:=⟨Nat.le_refl (Nat.succ 0),Nat.le_of_lt (Nat.le_succ (Nat.succ 1).succ)⟩
theorem C08:1≠0:=Nat.ne_of_gt (Nat.le_refl (Nat.succ 0))
theorem C09(h0:a<=2*16+6)(h1:b<=2*16+6):0+(0+1+a)+(0+b)<=16777216:=xg fun z=>xl (D7 a b) [(1,x0,xn 38),(1,x1,xn 38),(1,xn 16777217,(xa (xa (xn 0) (xa (xn 1) x0)) (xa (xn 0) x1)))] rfl h0 h1 z
theorem C1a:0<2∧2<4:=⟨Nat.le_of_lt (Nat.le_refl (Nat.succ 0).succ),Nat.le_succ (Nat.succ 2)⟩
theorem C1b:2≠0:=Ne.symm (Nat.zero_ne_add_one 1)
theorem C1c(h0:a<=2*16+6)(h1:b<=2*16+6)(h2:c<=2*16+6):0+(0+1+a)+(0+b)+(0+1+c)<=16777216:=xg fun z=>xl (Ir a b c) [(1,x0,xn 38),(1,x1,xn 38),(1,x2,xn 38),(1,xn 16777217,(xa (xa (xa (xn 0) (xa (xn 1) x0)) (xa (xn 0) x1)) (xa (xn 1) x2)))] rfl h0 h1 h2 z
theorem C1d:0<3∧3<4:=⟨Nat.succ_pos 2,Nat.le_refl (Nat.succ 3)⟩
theorem C1e:3≠0:=Ne.symm (Nat.zero_ne_add_one 2)
theorem C1f(h0:a<=2*16+6)(h1:b<=2*16+6)(h2:c<=2*16+6)(h3:d<=2*16+6):0+(0+1+a)+(0+b)+(0+1+c)+(0+d)<=16777216:=xg fun z=>xl (Nt a b c d) [(1,x0,xn 38),(1,x1,xn 38),(1,x2,xn 38),(1,x3,xn 38),(1,xn 16777217,(xa (xa (xa (xa (xn 0) (xa (xn 1) x0)) (xa (xn 0) x1)) (xa (xn 1) x2)) (xa (xn 0) x3)))] rfl h0 h1 h2 h3 z
theorem C1g(h0:a+(b+1)<1000)(h1:c<=a+1):c+b<1000:=xh fun z=>xl (Ir a b c) [(1,xa (xa x0 (xi x1)) (xn 1),xn 1000),(1,x2,xi x0),(1,xn 1000,xa x2 x1)] rfl h0 h1 z
theorem C1h(h0:a<=b)(h1:b<=c):a<=c:=Nat.le_trans ‹_› ‹_›
theorem C1i(h0:a<=b+1)(h1:c<=a+d):c<=b+(d+1):=xg fun z=>xl (Nt a b c d) [(1,x0,xi x1),(1,x2,xa x0 x3),(1,xa (xa x1 (xi x3)) (xn 1),x2)] rfl h0 h1 z
theorem C1j(h0:a+(b+1)<1000):a<16777216:=xh fun z=>xl (D7 a b) [(1,xa (xa x0 (xi x1)) (xn 1),xn 1000),(1,xn 16777216,x0)] rfl h0 z
theorem C1k(h0:a<=2):a+2<1000:=xh fun z=>xl (I5 a) [(1,x0,xn 2),(1,xn 1000,xa x0 (xn 2))] rfl h0 z
theorem C1l(h0:a+1<b):¬a+1=b:=Nat.ne_of_lt ‹_›
theorem C1m(h0:a<=2)(h1:b<=a+2):b<=4:=xg fun z=>xl (D7 a b) [(1,x0,xn 2),(1,x1,xa x0 (xn 2)),(1,xn 5,x1)] rfl h0 h1 z
theorem D40:(-18446744073709551616:Int)<3∧3<18446744073709551616:=⟨yh fun z=>yl (Cz 0) [(1,yn 3,.neg (yn 18446744073709551616))] rfl z,xh fun z=>yl (Cz 0) [(1,yn 18446744073709551616,yn 3)] rfl (oL z)⟩
theorem C1n(h0:a<=1000)(h1:b<=2*(0+1+1)+6):a+b<=16777216:=xg fun z=>xl (D7 a b) [(1,x0,xn 1000),(1,x1,xn 10),(1,xn 16777217,xa x0 x1)] rfl h0 h1 z
theorem C1o(h0:a<=1000)(h1:b<=2*(0+1+1)+6)(h2:c<=2*(0+1+1)+6):a+b+c<=16777216:=xg fun z=>xl (Ir a b c) [(1,x0,xn 1000),(1,x1,xn 10),(1,x2,xn 10),(1,xn 16777217,xa (xa x0 x1) x2)] rfl h0 h1 h2 z
theorem C1p(h0:a<=1000)(h1:b<=2*(0+1+1)+6)(h2:c<=2*(0+1+1)+6)(h3:d<=2*(0+1+1+1+1)+6):a+b+c+d<=16777216:=xg fun z=>xl (Nt a b c d) [(1,x0,xn 1000),(1,x1,xn 10),(1,x2,xn 10),(1,x3,xn 14),(1,xn 16777217,xa (xa (xa x0 x1) x2) x3)] rfl h0 h1 h2 h3 z
theorem C1q(h0:a<=2*(0+1+1)+6)(h1:b<=2*(0+1+1)+6)(h2:c<=2*(0+1+1+1+1)+6):a+(b+c)<=38:=xg fun z=>xl (Ir a b c) [(1,x0,xn 10),(1,x1,xn 10),(1,x2,xn 14),(1,xn 39,xa x0 (xa x1 x2))] rfl h0 h1 h2 z
theorem C1r(h0:a<=2*8+6):a<=1000:=xg fun z=>xl (I5 a) [(1,x0,xn 22),(1,xn 1001,x0)] rfl h0 z
theorem C1s(h0:a<=2*8+6)(h1:b<=38):a+b<=1000:=xg fun z=>xl (D7 a b) [(1,x0,xn 22),(1,x1,xn 38),(1,xn 1001,xa x0 x1)] rfl h0 h1 z
theorem C1t(h0:a<=2*8+6)(h1:b<=38)(h2:c<=38):a+b+c<=1000:=xg fun z=>xl (Ir a b c) [(1,x0,xn 22),(1,x1,xn 38),(1,x2,xn 38),(1,xn 1001,xa (xa x0 x1) x2)] rfl h0 h1 h2 z
theorem C1u(h0:a<=1000)(h1:b+c<=a)(h2:c=d+(e+1)):((b+d:Nat):Int)<9223372036854775808:=oT (xh fun z=>xl (xr5 a b c d e) [(1,x0,xn 1000),(1,xa x1 x2,x0),(1,xa x3 (xi x4),x2),(1,xn 9223372036854775808,xa x1 x3)] rfl h0 h1 (oE h2.symm) z)
theorem C1v(h0:a<=b)(h1:c=d)(h2:(b:Int)<(a:Int)+(c:Int)):b-a<d:=xh fun z=>yl (Qi c d b a (oI (b-a))) [(1,y0,y1),(1,yi y2,ya y3 y0),(1,y1,y4),(1,ya y4 y3,y2)] rfl (oL (oE h1)) h2 (oL z) (oC (xg fun q1=>yl (Cr a b) [(1,y0,y1),(1,yi y1,y0)] rfl (oL h0) (oL q1)))
theorem C1w(h0:a<=1000):a<4611686018427387904:=Nat.lt_of_le_of_lt h0 (by decide)
theorem C1x(h0:a=b)(h1:(c:Int)+(a:Int)<=(d:Int)):c+b<=d:=xg fun z=>yl (Ky b a c d) [(1,y0,y1),(1,ya y2 y1,y3),(1,yi y3,ya y2 y0)] rfl (oL (oE h0.symm)) h1 (oL z)
theorem D41:a-b<=a:=Nat.sub_le a b
theorem C1y(h0:a+0=b+2)(h1:a<=b):False:=xl (D7 a b) [(1,xa x1 (xn 2),xa x0 (xn 0)),(1,x0,x1)] rfl (oE h0.symm) h1
theorem C1z(h0:a+(b+1)=c+2)(h1:(a:Int)+(d:Int)<=(c:Int)):a+d<=c:=Int.ofNat_le.mp ‹_›
theorem C10(h0:a+(b+1)=c+2):a+1+b=c+2:=Nat.le_antisymm (xg fun z=>xl (Ir a b c) [(1,xa x0 (xi x1),xa x2 (xn 2)),(1,xa (xa x2 (xn 2)) (xn 1),xa (xi x0) x1)] rfl (oE h0) z) (xg fun z=>xl (Ir a b c) [(1,xa x2 (xn 2),xa x0 (xi x1)),(1,xa (xa (xi x0) x1) (xn 1),xa x2 (xn 2))] rfl (oE h0.symm) z)
theorem C11(h0:a<=1000)(h1:b+(c+1)=d+2)(h2:b<=d)(h3:e=a)(h4:b+a<=d)(h5:0<a):b+1<=d:=xg fun z=>xl (Ir a b d) [(1,xa x1 x0,x2),(1,xn 1,x0),(1,xi x2,xi x1)] rfl h4 h5 z
theorem C12(h0:a+(b+1)=c+2)(h1:(c:Int)<(a:Int)+(d:Int)):¬a+d<=c:=fun z=>yl (Gc c a d) [(1,yi y0,ya y1 y2),(1,ya y1 y2,y0)] rfl h1 (oL z)
theorem C13(h0:a<=b)(h1:c<=b-a):a+c<=b:=xg fun z=>yl (Ky c (oI (b-a)) b a) [(1,y0,y1),(1,yi y2,ya y3 y0),(1,ya y1 y3,y2)] rfl (oL h1) (oL z) (oC (xg fun q1=>yl (Cr a b) [(1,y0,y1),(1,yi y1,y0)] rfl (oL h0) (oL q1)))
theorem C14(h0:a<=1000)(h1:b<=a):a+2-b<4000:=xh fun z=>yl (Cr a (oI ((a+2)-b))) [(1,y0,yn 1000),(1,yn 4000,y1),(1,y1,ya y0 (yn 2))] rfl (oL h0) (oL z) (oL (Nat.sub_le (a+2) b))
theorem C15(h0:a<=b):a+(b+2-a)=b+2:=Nat.le_antisymm (xg fun z=>yl (Gc b a (oI ((b+2)-a))) [(1,ya (ya y0 (yn 2)) (yn 1),ya y1 y2),(1,ya y2 y1,ya y0 (yn 2))] rfl (oL z) (oC (xg fun q1=>yl (Cr a b) [(1,y0,y1),(1,ya (ya y1 (yn 2)) (yn 1),y0)] rfl (oL h0) (oL q1)))) (xg fun z=>yl (Gc a (oI ((b+2)-a)) b) [(1,ya (ya y0 y1) (yn 1),ya y2 (yn 2)),(1,ya y2 (yn 2),ya y1 y0)] rfl (oL z) (oL (oS (b+2) a)))
theorem C16(h0:(a:Int)+(b:Int)<=(c:Int)):a+b<=c:=Int.ofNat_le.mp ‹_›
theorem C17(h0:a+b<=c):(c:Int)-(b:Int)=((c-b:Nat):Int):=Int.le_antisymm (yg fun z=>yl (Gc (oI (c-b)) c b) [(1,yi y0,ys y1 y2),(1,y1,ya y0 y2)] rfl z (oL (oS c b))) (yg fun z=>yl (Gc c b (oI (c-b))) [(1,ya (ys y0 y1) (yn 1),y2),(1,ya y2 y1,y0)] rfl z (oC (xg fun q1=>yl (Gc a b c) [(1,ya y0 y1,y2),(1,yi y2,y1),(1,yn 0,y0)] rfl (oL h0) (oL q1) (oN a))))
theorem C18(h0:(a:Int)<(b:Int)+(c:Int)):¬b+c<=a:=fun z=>yl (Gc a b c) [(1,yi y0,ya y1 y2),(1,ya y1 y2,y0)] rfl h0 (oL z)
theorem C19:0<=a:=Nat.le_add_left 0 a
theorem C2a(h0:(a:Int)=1):a=1:=Nat.le_antisymm (xg fun z=>yl (Cz a) [(1,y0,yn 1),(1,yn 2,y0)] rfl (Int.le_of_eq h0) (oL z)) (xg fun z=>yl (Cz a) [(1,yn 1,y0),(1,yi y0,yn 1)] rfl (Int.le_of_eq h0.symm) (oL z))
theorem C2b(h0:¬(a:Int)=1):¬a=1:=ne_of_apply_ne Nat.cast h0
theorem C2c(h0:a+2<=b):(a:Int)+2<=(b:Int):=Int.ofNat_le.mpr ‹_›
theorem C2d(h0:¬a+2<=b):¬(a:Int)+2<=(b:Int):=fun z=>yl (Cr b a) [(1,yi y0,ya y1 (yn 2)),(1,ya y1 (yn 2),y0)] rfl (oL (xh h0)) z
theorem C2e(h0:a<=b)(h1:c+1<=a):c+1<=b:=Nat.lt_of_lt_of_le ‹_› ‹_›
theorem C2f(h0:a<b):b-a=b-(a+1)+1:=Nat.le_antisymm (xg fun z=>yl (Ky (oI (b-(a+1))) (oI (b-a)) b a) [(1,ya (yi y0) (yn 1),y1),(1,y2,ya y0 (yi y3)),(1,ya y1 y3,y2)] rfl (oL z) (oD (xg fun q1=>yl (Cr a b) [(1,yi y0,y1),(1,yi y1,yi y0)] rfl (oL h0) (oL q1))) (oC (xg fun q2=>yl (Cr a b) [(1,yi y0,y1),(1,yi y1,y0)] rfl (oL h0) (oL q2)))) (xg fun z=>yl (Ky (oI (b-a)) (oI (b-(a+1))) b a) [(1,yi y0,yi y1),(1,y2,ya y0 y3),(1,ya y1 (yi y3),y2)] rfl (oL z) (oD (xg fun q3=>yl (Cr a b) [(1,yi y0,y1),(1,yi y1,y0)] rfl (oL h0) (oL q3))) (oC (xg fun q4=>yl (Cr a b) [(1,yi y0,y1),(1,yi y1,yi y0)] rfl (oL h0) (oL q4))))
theorem C2g(h0:¬a<b):b-a=0:=Nat.le_antisymm (xg fun z=>yl (Cz (oI (b-a))) [(1,yn 1,y0),(1,y0,yn 0)] rfl (oL z) (oL (oE (Nat.sub_eq_zero_of_le (xg fun q2=>yl (Cr b a) [(1,y0,y1),(1,yi y1,y0)] rfl (oL (xg h0)) (oL q2)))))) (xg fun z=>yl (Cz (oI (b-a))) [(1,yi y0,yn 0),(1,yn 0,y0)] rfl (oL z) (oN (b-a)))
theorem C2h(h0:a<=b):a+(b-a)=b:=Nat.add_sub_of_le h0
theorem C2i(h0:a<=b)(h1:b<c):b-a+(c+1-b)=c+1-a:=Nat.le_antisymm (xg fun z=>yl (yr6 (oI ((c+1)-a)) (oI (b-a)) (oI ((c+1)-b)) c a b) [(1,yi y0,ya y1 y2),(1,yi y3,ya y0 y4),(1,ya y1 y4,y5),(1,ya y2 y5,yi y3)] rfl (oL z) (oD (xg fun q1=>yl (Gc a b c) [(1,y0,y1),(1,yi y1,y2),(1,ya (yi y2) (yn 1),y0)] rfl (oL h0) (oL h1) (oL q1))) (oC (xg fun q2=>yl (Cr a b) [(1,y0,y1),(1,yi y1,y0)] rfl (oL h0) (oL q2))) (oC (xg fun q3=>yl (Cr b c) [(1,yi y0,y1),(1,ya (yi y1) (yn 1),y0)] rfl (oL h1) (oL q3)))) (xg fun z=>yl (yr6 (oI (b-a)) (oI ((c+1)-b)) (oI ((c+1)-a)) b a c) [(1,ya (ya y0 y1) (yn 1),y2),(1,y3,ya y0 y4),(1,yi y5,ya y1 y3),(1,ya y2 y4,yi y5)] rfl (oL z) (oD (xg fun q4=>yl (Cr a b) [(1,y0,y1),(1,yi y1,y0)] rfl (oL h0) (oL q4))) (oD (xg fun q5=>yl (Cr b c) [(1,yi y0,y1),(1,ya (yi y1) (yn 1),y0)] rfl (oL h1) (oL q5))) (oC (xg fun q6=>yl (Gc a b c) [(1,y0,y1),(1,yi y1,y2),(1,ya (yi y2) (yn 1),y0)] rfl (oL h0) (oL h1) (oL q6))))
theorem C2j(h0:a<b):b+1-a=b-a+1:=Nat.le_antisymm (xg fun z=>yl (Ky (oI (b-a)) (oI ((b+1)-a)) b a) [(1,ya (yi y0) (yn 1),y1),(1,y2,ya y0 y3),(1,ya y1 y3,yi y2)] rfl (oL z) (oD (xg fun q1=>yl (Cr a b) [(1,yi y0,y1),(1,yi y1,y0)] rfl (oL h0) (oL q1))) (oC (xg fun q2=>yl (Cr a b) [(1,yi y0,y1),(1,ya (yi y1) (yn 1),y0)] rfl (oL h0) (oL q2)))) (xg fun z=>yl (Ky (oI ((b+1)-a)) (oI (b-a)) b a) [(1,yi y0,yi y1),(1,yi y2,ya y0 y3),(1,ya y1 y3,y2)] rfl (oL z) (oD (xg fun q3=>yl (Cr a b) [(1,yi y0,y1),(1,ya (yi y1) (yn 1),y0)] rfl (oL h0) (oL q3))) (oC (xg fun q4=>yl (Cr a b) [(1,yi y0,y1),(1,yi y1,y0)] rfl (oL h0) (oL q4))))
theorem C2k(h0:a<=b)(h1:c<b-a):a+c<b:=Nat.add_lt_of_lt_sub' h1
theorem C2l(h0:a+1*b<c):a+b<c:=xh fun z=>xl (Ir a b c) [(1,xa (xa x0 (xm 1 x1)) (xn 1),x2),(1,x2,xa x0 x1)] rfl h0 z
theorem C2m(h0:a<=b)(h1:c<a):min (max 0 (a:Int)).toNat b=a:=Nat.min_eq_left h0
theorem C2n(h0:a<=b):min (max 0 (a:Int)).toNat b=a:=Nat.min_eq_left h0
theorem C2o(h0:a<=2*b):a+1+1<=2*(b+1):=Nat.add_le_add_right (Nat.add_le_add_right h0 1) 1
theorem C2p(h0:a<=2*b):a+1<=2*(b+1):=Nat.add_le_add h0 (Nat.succ_pos 1)
theorem C2q(h0:((a<128∧¬a=38)∧¬a=124)∧¬a=126):a<128:=xh fun z=>xl (I5 a) [(1,xi x0,xn 128),(1,xn 128,x0)] rfl h0.1.1.1 z
theorem C2r(h0:¬a≥b):a<b:=Nat.lt_of_not_le h0
theorem C2s:¬0>a:=Nat.not_lt_zero a
theorem C2t(h0:0<a):¬a-0<1:=Nat.not_lt.mpr ‹_›
theorem C2u(h0:a<b):min (a+1) b-a=1:=Nat.le_antisymm (xg fun z=>(Nat.le_total a (min (a+1) b)).elim (fun w3=>yl (Gc ((((min (a+1) b)-a):Nat):Int) a (oI (min (a+1) b))) [(1,yn 2,y0),(1,ya y0 y1,y2),(1,y2,yi y1)] rfl (oL z) (oC w3) (oL (Nat.min_le_left (a+1) b))) (fun w3=>yl (Cz ((((min (a+1) b)-a):Nat):Int)) [(1,yn 2,y0),(1,y0,yn 0)] rfl (oL z) (oL (oE (Nat.sub_eq_zero_of_le w3))))) (xg fun z=>yl (Gc ((((min (a+1) b)-a):Nat):Int) a (oI (min (a+1) b))) [(1,yi y0,yn 1),(1,yi y1,y2),(1,y2,ya y0 y1)] rfl (oL z) (oL (oE (Nat.min_eq_left (xg fun q6=>yl (Cr a b) [(1,yi y0,y1),(1,yi y1,yi y0)] rfl (oL h0) (oL q6))).symm)) (oL (oS (min (a+1) b) a)))
theorem C2v(h0:a<=b):(b:Int)+1=(a:Int)+((b+1-a:Nat):Int):=Int.le_antisymm (yg fun z=>yl (Gc a (oI ((b+1)-a)) b) [(1,ya (ya y0 y1) (yn 1),yi y2),(1,yi y2,ya y1 y0)] rfl z (oL (oS (b+1) a))) (yg fun z=>yl (Gc b a (oI ((b+1)-a))) [(1,ya (yi y0) (yn 1),ya y1 y2),(1,ya y2 y1,yi y0)] rfl z (oC (xg fun q1=>yl (Cr a b) [(1,y0,y1),(1,ya (yi y1) (yn 1),y0)] rfl (oL h0) (oL q1))))
theorem C2w(h0:(a:Int)+1=(b:Int)+((a+1-b:Nat):Int)):(a:Int)+1-(b:Int)-1+1=((a+1-b:Nat):Int):=Int.le_antisymm (yg fun z=>yl (Gc a b (oI ((a+1)-b))) [(1,yi y0,ya y1 y2),(1,yi y2,(ya (ys (ys (yi y0) y1) (yn 1)) (yn 1)))] rfl (Int.le_of_eq h0) z) (yg fun z=>yl (Gc b (oI ((a+1)-b)) a) [(1,ya y0 y1,yi y2),(1,(ya (ya (ys (ys (yi y2) y0) (yn 1)) (yn 1)) (yn 1)),y1)] rfl (Int.le_of_eq h0.symm) z)
theorem C2x(h0:a<=b)(h1:(b:Int)+1=(a:Int)+((b+1-a:Nat):Int))(h2:¬(a:Int)<(b:Int)+1):0=((b+1-a:Nat):Int):=Int.le_antisymm (yg fun z=>yl (Cr a b) [(1,y0,y1),(1,yi y1,y0)] rfl (oL h0) (yg h2)) (yg fun z=>yl (Cr a b) [(1,y0,y1),(1,yi y1,y0)] rfl (oL h0) (yg h2))
theorem C2y(h0:a<1000)(h1:(a:Int)+1=(b:Int)+((a+1-b:Nat):Int)):a+1-b<4000:=xh fun z=>yl (Cr a (oI ((a+1)-b))) [(1,yi y0,yn 1000),(1,yn 4000,y1),(1,y1,yi y0)] rfl (oL h0) (oL z) (oL (Nat.sub_le (a+1) b))
theorem C2z(h0:a<1000)(h1:(a:Int)+1=(b:Int)+((a+1-b:Nat):Int)):a+1-b<16777216:=xh fun z=>yl (Cr a (oI ((a+1)-b))) [(1,yi y0,yn 1000),(1,yn 16777216,y1),(1,y1,yi y0)] rfl (oL h0) (oL z) (oL (Nat.sub_le (a+1) b))
theorem C20(h0:a<=b)(h1:b<1000)(h2:(b:Int)+1=(a:Int)+((b+1-a:Nat):Int)):(((a:Int)<9223372036854775808∧-9223372036854775808<=(b:Int)+1∧(b:Int)+1<9223372036854775808)∧((b+1-a:Nat):Int)<9223372036854775808)∧(b+1-a=0∨-9223372036854775808<=(b:Int)+1∧(b:Int)+1<9223372036854775808):=have p:b+1<9223372036854775808:=Nat.lt_of_le_of_lt (Nat.succ_le_of_lt h1) (by decide);have q:-9223372036854775808<=(b:Int)+1∧(b:Int)+1<9223372036854775808:=⟨Int.le_trans (by decide) (Int.natCast_nonneg (b+1)),Int.ofNat_lt.mpr p⟩;⟨⟨⟨Int.ofNat_lt.mpr (Nat.lt_of_le_of_lt h0 (Nat.lt_trans h1 (by decide))),q⟩,Int.ofNat_lt.mpr (Nat.lt_of_le_of_lt (Nat.sub_le (b+1) a) p)⟩,.inr q⟩
theorem C21(h0:a<1000)(h1:(a:Int)+1=(b:Int)+((a+1-b:Nat):Int))(h2:c<a+1-b):0<=(b:Int)+(c:Int)∧(b:Int)+(c:Int)<=1114111:=⟨yg fun z=>yl (Cr b c) [(1,ya (ya y0 y1) (yn 1),yn 0),(1,yn 0,y0),(1,yn 0,y1)] rfl z (oN b) (oN c),yg fun z=>yl (Ky a b (oI ((a+1)-b)) c) [(1,yi y0,yn 1000),(1,ya y1 y2,yi y0),(1,yi y3,y2),(1,yn 1114112,ya y1 y3)] rfl (oL h0) (Int.le_of_eq h1.symm) (oL h2) z⟩
theorem C22:((a:Int)+(b:Int)).toNat=a+b:=by rfl
theorem C23(h0:a<1000):a+1<=16777216+b:=xg fun z=>xl (D7 a b) [(1,xi x0,xn 1000),(1,xa (xa (xn 16777216) x1) (xn 1),xi x0)] rfl h0 z
theorem C24(h0:a<=b)(h1:b<a):False:=xl (D7 a b) [(1,x0,x1),(1,xi x1,x0)] rfl h0 h1
theorem C25:(a:Int)+1+1=(a:Int)+2:=by rfl
theorem C26:(a:Int)+2+1=(a:Int)+3:=by rfl
theorem C27(h0:a+128*(b+1)<=100000):a<=16777215:=xg fun z=>xl (D7 a b) [(1,xa x0 (xm 128 (xi x1)),xn 100000),(1,xn 16777216,x0)] rfl h0 z
theorem C28(h0:a+128*(b+1)<=100000)(h1:c<=b):a+1+128*c<=100000:=xg fun z=>xl (Ir a b c) [(1,xa x0 (xm 128 (xi x1)),xn 100000),(128,x2,x1),(1,xn 100001,xa (xi x0) (xm 128 x2))] rfl h0 h1 z
theorem C29(h0:a+128*(b+1)<=100000):a<=16777216:=xg fun z=>xl (D7 a b) [(1,xa x0 (xm 128 (xi x1)),xn 100000),(1,xn 16777217,x0)] rfl h0 z
theorem C3a(h0:a<=b)(h1:b<=a)(h2:(a:Int)+1<(b:Int)):False:=yl (Cr b a) [(1,y0,y1),(1,ya (yi y1) (yn 1),y0)] rfl (oL h1) h2
theorem C3b:min 1 a<=16777216:=xg fun z=>yl (Cz (oI (min 1 a))) [(1,yn 16777217,y0),(1,y0,yn 1)] rfl (oL z) (oL (Nat.min_le_left 1 a))
theorem C3c(h0:¬a<b)(h1:a<b):False:=h0 h1
theorem C3d(h0:a<128):a<1000:=Nat.lt_of_lt_of_le h0 (by decide)
theorem C3e(h0:a+128*(b+1)<=100000)(h1:¬c<d)(h2:c<128):a+(c+1-d)<=16777216:=xg fun z=>yl (Ky a b c (oI ((c+1)-d))) [(1,ya y0 (ym 128 (yi y1)),yn 100000),(1,yi y2,yn 128),(1,yn 16777217,ya y0 y3),(128,yn 0,y1),(1,y3,yi y2)] rfl (oL h0) (oL h2) (oL z) (oN b) (oL (Nat.sub_le (c+1) d))
theorem C3f(h0:a+128*(b+1)<=100000)(h1:c<128)(h2:d+1+1<=b):a+(c+1-e)+128*d<=100000:=xg fun z=>yl (Qi a b c d (oI ((c+1)-e))) [(1,ya y0 (ym 128 (yi y1)),yn 100000),(1,yi y2,yn 128),(128,ya (yi y3) (yn 1),y1),(1,yn 100001,ya (ya y0 y4) (ym 128 y3)),(1,y4,yi y2)] rfl (oL h0) (oL h1) (oL h2) (oL z) (oL (Nat.sub_le (c+1) e))
theorem C3g(h0:a<b)(h1:a+1<b):a+3<=b+1:=Nat.lt_succ_of_le ‹_›
theorem C3h(h0:a<=90)(h1:b<a):(b:Int)<9223372036854775808:=oT (xh fun z=>xl (D7 a b) [(1,x0,xn 90),(1,xi x1,x0),(1,xn 9223372036854775808,x1)] rfl h0 h1 z)
theorem C3i(h0:a<=90):128*a<=100000:=xg fun z=>xl (I5 a) [(128,x0,xn 90),(1,xn 100001,xm 128 x0)] rfl h0 z
theorem C3j:0<=a+1:=Nat.le_add_left 0 (a+1)
theorem C3k(h0:a<=90):a<=91:=Nat.le_trans h0 (by decide)
theorem C3l(h0:a+b<=c):min (a+b) c-a=b:=Nat.le_antisymm (xg fun z=>(Nat.le_total a (min (a+b) c)).elim (fun w3=>yl (Ky b ((((min (a+b) c)-a):Nat):Int) a (oI (min (a+b) c))) [(1,yi y0,y1),(1,ya y1 y2,y3),(1,y3,ya y2 y0)] rfl (oL z) (oC w3) (oL (Nat.min_le_left (a+b) c))) (fun w3=>yl (Cr b ((((min (a+b) c)-a):Nat):Int)) [(1,yi y0,y1),(1,y1,yn 0),(1,yn 0,y0)] rfl (oL z) (oL (oE (Nat.sub_eq_zero_of_le w3))) (oN b))) (xg fun z=>(Nat.le_total a (min (a+b) c)).elim (fun w6=>yl (Ky ((((min (a+b) c)-a):Nat):Int) b (oI (min (a+b) c)) a) [(1,yi y0,y1),(1,y2,ya y0 y3),(1,ya y3 y1,y2)] rfl (oL z) (oD w6) (oL (oE (Nat.min_eq_left (xg fun q7=>yl (Gc a b c) [(1,ya y0 y1,y2),(1,yi y2,ya y0 y1)] rfl (oL h0) (oL q7))).symm))) (fun w6=>yl (Ky ((((min (a+b) c)-a):Nat):Int) b a (oI (min (a+b) c))) [(1,yi y0,y1),(1,ya y2 y1,y3),(1,y3,ya y0 y2)] rfl (oL z) (oL (oE (Nat.min_eq_left (xg fun q8=>yl (Gc a b c) [(1,ya y0 y1,y2),(1,yi y2,ya y0 y1)] rfl (oL h0) (oL q8))).symm)) (oL (oS (min (a+b) c) a))))
theorem C3m(h0:a<b)(h1:¬a+c<=b):b-a<=min (a+c) b-a:=xg fun z=>(Nat.le_total a (min (a+c) b)).elim (fun w3=>yl (Qi ((((min (a+c) b)-a):Nat):Int) (oI (b-a)) (oI (min (a+c) b)) a b) [(1,yi y0,y1),(1,y2,ya y0 y3),(1,y4,y2),(1,ya y1 y3,y4)] rfl (oL z) (oD w3) (oL (oE (Nat.min_eq_right (xg fun q5=>yl (Gc b a c) [(1,yi y0,ya y1 y2),(1,ya (ya y1 y2) (yn 1),y0)] rfl (oL (xh h1)) (oL q5))).symm)) (oC (xg fun q6=>yl (Cr a b) [(1,yi y0,y1),(1,yi y1,y0)] rfl (oL h0) (oL q6)))) (fun w3=>yl (Gc a b (oI (min (a+c) b))) [(1,yi y0,y1),(1,y2,y0),(1,y1,y2)] rfl (oL h0) (oL w3) (oL (oE (Nat.min_eq_right (xg fun q8=>yl (Gc b a c) [(1,yi y0,ya y1 y2),(1,ya (ya y1 y2) (yn 1),y0)] rfl (oL (xh h1)) (oL q8))).symm)))
theorem C3n(h0:a<b)(h1:¬a+c<=b):b-a<=c:=xg fun z=>yl (Ky b a c (oI (b-a))) [(1,yi y0,ya y1 y2),(1,yi y2,y3),(1,ya y3 y1,y0)] rfl (oL (xh h1)) (oL z) (oC (xg fun q1=>yl (Cr a b) [(1,yi y0,y1),(1,yi y1,y0)] rfl (oL h0) (oL q1)))
theorem C3o(h0:a<=b∨b=c)(h1:d<a)(h2:d≠c):b≠d:=by first |lia|omega
theorem C3p(h0:a<b)(h1:c<=a):c<=b:=Nat.le_of_lt (Nat.lt_of_le_of_lt h1 h0)
theorem C3q:¬0<=(-1:Int):=fun z=>yl (Cz 0) [(1,yn 0,.neg (yn 1))] rfl z
theorem C3r:1<=(a:Int)+1:=yg fun z=>yl (Cz a) [(1,ya (yi y0) (yn 1),yn 1),(1,yn 0,y0)] rfl z (oN a)
theorem C3s:(-1+((a:Int)+1)).toNat=a:=Nat.le_antisymm (xg fun z=>yl (Cr a (((Int.toNat ((-(1:Int))+(((a:Nat):Int)+(1:Int)))):Nat):Int)) [(1,yi y0,y1),(1,y1,ya (.neg (yn 1)) (yi y0))] rfl (oL z) (Int.le_of_eq (Int.toNat_of_nonneg (yg fun q1=>yl (Cz a) [(1,(ya (ya (.neg (yn 1)) (yi y0)) (yn 1)),yn 0),(1,yn 0,y0)] rfl q1 (oN a))))) (xg fun z=>yl (Cr (((Int.toNat ((-(1:Int))+(((a:Nat):Int)+(1:Int)))):Nat):Int) a) [(1,yi y0,y1),(1,ya (.neg (yn 1)) (yi y1),y0)] rfl (oL z) (Int.le_of_eq (Int.toNat_of_nonneg (yg fun q2=>yl (Cz a) [(1,(ya (ya (.neg (yn 1)) (yi y0)) (yn 1)),yn 0),(1,yn 0,y0)] rfl q2 (oN a))).symm))
theorem C3t(h0:a+(b+1)<=2000)(h1:c=a):c+1<16777216:=xh fun z=>xl (Ir a b c) [(1,xa x0 (xi x1),xn 2000),(1,x2,x0),(1,xn 16777216,xi x2)] rfl h0 (oE h1) z
theorem C3u(h0:a+(b+1)<=2000):b<=2000:=xg fun z=>xl (D7 a b) [(1,xa x0 (xi x1),xn 2000),(1,xn 2001,x1)] rfl h0 z
theorem C3v(h0:a<=b)(h1:c=d)(h2:c+e=b-a):a+d<=b:=xg fun z=>yl (yr6 d c e (oI (b-a)) b a) [(1,y0,y1),(1,ya y1 y2,y3),(1,yi y4,ya y5 y0),(1,ya y3 y5,y4),(1,yn 0,y2)] rfl (oL (oE h1.symm)) (oL (oE h2)) (oL z) (oC (xg fun q1=>yl (Cr a b) [(1,y0,y1),(1,yi y1,y0)] rfl (oL h0) (oL q1))) (oN e)
theorem C3w:((a+b:Nat):Int)=(a:Int)+(b:Int):=by rfl
theorem C3x:a<=a+1+b:=Nat.le_of_lt (Nat.succ_le_of_lt (Nat.le_add_right a.succ b))
theorem C3y(h0:a<=b)(h1:a<b):a+1+(b-(a+1))=b:=Nat.add_sub_of_le h1
theorem C3z(h0:a<b+1+c)(h1:b<a):a-(b+1)<c:=Nat.sub_lt_left_of_lt_add h1 h0
theorem C30(h0:a<=b)(h1:a≥b):b=a:=Nat.le_antisymm h1 h0
theorem C31:(a:Int)+1+(b:Int)=((a+1+b:Nat):Int):=by rfl
theorem C32:((a+1:Nat):Int)=(a:Int)+0+1:=by rfl
theorem C33:(max 0 (min (-1+(a:Int)) (a:Int))).toNat=a-1:=Nat.le_antisymm (xg fun z=>(Nat.le_total 1 a).elim (fun w3=>(Int.le_total (0:Int) (min ((-(1:Int))+((a:Nat):Int)) ((a:Nat):Int))).elim (fun w7=>yl (Qi (oI (a-1)) (((Int.toNat (max (0:Int) (min ((-(1:Int))+((a:Nat):Int)) ((a:Nat):Int)))):Nat):Int) a (max (0:Int) (min ((-(1:Int))+((a:Nat):Int)) ((a:Nat):Int))) (min ((-(1:Int))+((a:Nat):Int)) ((a:Nat):Int))) [(1,yi y0,y1),(1,y2,yi y0),(1,y1,y3),(1,y3,y4),(1,y4,ya (.neg (yn 1)) y2)] rfl (oL z) (oD w3) (Int.le_of_eq (Int.toNat_of_nonneg (yg fun q4=>yl (Cz (max (0:Int) (min ((-(1:Int))+((a:Nat):Int)) ((a:Nat):Int)))) [(1,yi y0,yn 0),(1,yn 0,y0)] rfl q4 (Int.le_max_left (0:Int) (min ((-(1:Int))+((a:Nat):Int)) ((a:Nat):Int)))))) (Int.le_of_eq (Int.max_eq_right w7)) (Int.min_le_left ((-(1:Int))+((a:Nat):Int)) ((a:Nat):Int))) (fun w7=>yl (Gc (oI (a-1)) (((Int.toNat (max (0:Int) (min ((-(1:Int))+((a:Nat):Int)) ((a:Nat):Int)))):Nat):Int) (max (0:Int) (min ((-(1:Int))+((a:Nat):Int)) ((a:Nat):Int)))) [(1,yi y0,y1),(1,y1,y2),(1,y2,yn 0),(1,yn 0,y0)] rfl (oL z) (Int.le_of_eq (Int.toNat_of_nonneg (yg fun q4=>yl (Cz (max (0:Int) (min ((-(1:Int))+((a:Nat):Int)) ((a:Nat):Int)))) [(1,yi y0,yn 0),(1,yn 0,y0)] rfl q4 (Int.le_max_left (0:Int) (min ((-(1:Int))+((a:Nat):Int)) ((a:Nat):Int)))))) (Int.le_of_eq (Int.max_eq_left w7)) (oN (a-1)))) (fun w3=>yl (Gc (oI (a-1)) (((Int.toNat (max (0:Int) (min ((-(1:Int))+((a:Nat):Int)) ((a:Nat):Int)))):Nat):Int) (max (0:Int) (min ((-(1:Int))+((a:Nat):Int)) ((a:Nat):Int)))) [(1,yi y0,y1),(1,yn 0,y0),(1,y1,y2),(1,y2,yn 0)] rfl (oL z) (oL (oE (Nat.sub_eq_zero_of_le w3).symm)) (Int.le_of_eq (Int.toNat_of_nonneg (yg fun q8=>yl (Cz (max (0:Int) (min ((-(1:Int))+((a:Nat):Int)) ((a:Nat):Int)))) [(1,yi y0,yn 0),(1,yn 0,y0)] rfl q8 (Int.le_max_left (0:Int) (min ((-(1:Int))+((a:Nat):Int)) ((a:Nat):Int)))))) (Int.le_of_eq (Int.max_eq_left (yg fun q10=>yl (Cr a (min ((-(1:Int))+((a:Nat):Int)) ((a:Nat):Int))) [(1,y0,yn 1),(1,yn 1,y1),(1,y1,ya (.neg (yn 1)) y0)] rfl (oL w3) q10 (Int.min_le_left ((-(1:Int))+((a:Nat):Int)) ((a:Nat):Int))))))) (xg fun z=>(Int.le_total (0:Int) (min ((-(1:Int))+((a:Nat):Int)) ((a:Nat):Int))).elim (fun w14=>yl (Qi (((Int.toNat (max (0:Int) (min ((-(1:Int))+((a:Nat):Int)) ((a:Nat):Int)))):Nat):Int) (oI (a-1)) (max (0:Int) (min ((-(1:Int))+((a:Nat):Int)) ((a:Nat):Int))) (min ((-(1:Int))+((a:Nat):Int)) ((a:Nat):Int)) a) [(1,yi y0,y1),(1,y2,y0),(1,y3,y2),(1,ya (.neg (yn 1)) y4,y3),(1,yi y1,y4)] rfl (oL z) (Int.le_of_eq (Int.toNat_of_nonneg (yg fun q11=>yl (Cz (max (0:Int) (min ((-(1:Int))+((a:Nat):Int)) ((a:Nat):Int)))) [(1,yi y0,yn 0),(1,yn 0,y0)] rfl q11 (Int.le_max_left (0:Int) (min ((-(1:Int))+((a:Nat):Int)) ((a:Nat):Int))))).symm) (Int.le_of_eq (Int.max_eq_right w14).symm) (Int.le_of_eq (Int.min_eq_left (yg fun q15=>yl (Cz a) [(1,yi y0,ya (.neg (yn 1)) y0)] rfl q15)).symm) (oL (oE (Nat.sub_add_cancel (xg fun q16=>yl (Cr (min ((-(1:Int))+((a:Nat):Int)) ((a:Nat):Int)) a) [(1,yn 0,y0),(1,y0,ya (.neg (yn 1)) y1),(1,yi y1,yn 1)] rfl w14 (Int.le_of_eq (Int.min_eq_left (yg fun q15=>yl (Cz a) [(1,yi y0,ya (.neg (yn 1)) y0)] rfl q15))) (oL q16)))))) (fun w14=>yl (Qi (((Int.toNat (max (0:Int) (min ((-(1:Int))+((a:Nat):Int)) ((a:Nat):Int)))):Nat):Int) (oI (a-1)) (max (0:Int) (min ((-(1:Int))+((a:Nat):Int)) ((a:Nat):Int))) a (min ((-(1:Int))+((a:Nat):Int)) ((a:Nat):Int))) [(1,yi y0,y1),(1,y2,y0),(1,ya (.neg (yn 1)) y3,y4),(1,yi y1,y3),(1,y4,y2)] rfl (oL z) (Int.le_of_eq (Int.toNat_of_nonneg (yg fun q11=>yl (Cz (max (0:Int) (min ((-(1:Int))+((a:Nat):Int)) ((a:Nat):Int)))) [(1,yi y0,yn 0),(1,yn 0,y0)] rfl q11 (Int.le_max_left (0:Int) (min ((-(1:Int))+((a:Nat):Int)) ((a:Nat):Int))))).symm) (Int.le_of_eq (Int.min_eq_left (yg fun q17=>yl (Cz a) [(1,yi y0,ya (.neg (yn 1)) y0)] rfl q17)).symm) (oL (oE (Nat.sub_add_cancel (xg fun q18=>yl (Gc (((Int.toNat (max (0:Int) (min ((-(1:Int))+((a:Nat):Int)) ((a:Nat):Int)))):Nat):Int) (oI (a-1)) a) [(1,yi y0,y1),(1,yi y2,yn 1),(1,yn 0,y0),(1,y1,y2)] rfl (oL z) (oL q18) (oN (Int.toNat (max (0:Int) (min ((-(1:Int))+((a:Nat):Int)) ((a:Nat):Int))))) (oL (Nat.sub_le a 1)))))) (Int.le_max_right (0:Int) (min ((-(1:Int))+((a:Nat):Int)) ((a:Nat):Int)))))
theorem C34(h0:¬-1<0):(max 0 (min (-1) (a:Int))).toNat=a-1:=Nat.le_antisymm (xg fun z=>yl (Cz 0) [(1,yn 0,.neg (yn 1))] rfl (yg h0)) (xg fun z=>yl (Cz 0) [(1,yn 0,.neg (yn 1))] rfl (yg h0))
theorem C35:min 4 (a+7)-0=4:=by rfl
theorem C36:min 4 (a+7)=4:=by rfl
theorem C37:a+4-4=a:=by rfl
theorem C38(h0:a<=900):a<=1000:=Nat.le_trans h0 (by decide)
theorem C39(h0:a<=900):a<4000:=Nat.lt_of_le_of_lt h0 (by decide)
theorem C4a(h0:a<=1000)(h1:b=a):b<4000:=xh fun z=>xl (D7 a b) [(1,x0,xn 1000),(1,x1,x0),(1,xn 4000,x1)] rfl h0 (oE h1) z
theorem C4b(h0:a<=1000)(h1:b=a):b<16777216:=xh fun z=>xl (D7 a b) [(1,x0,xn 1000),(1,x1,x0),(1,xn 16777216,x1)] rfl h0 (oE h1) z
theorem C4c(h0:a<=1000)(h1:b+(0+1)=a):b<=16777215:=xg fun z=>xl (D7 a b) [(1,x0,xn 1000),(1,xi x1,x0),(1,xn 16777216,x1)] rfl h0 (oE h1) z
theorem C4d(h0:a+b+c<=16777216):b<=16777216:=xg fun z=>xl (Ir a b c) [(1,xa (xa x0 x1) x2,xn 16777216),(1,xn 16777217,x1)] rfl h0 z
theorem C4e(h0:a+b+c<=16777216):a+b<=16777216:=Nat.le_of_add_right_le h0
theorem C4f(h0:a+b+c<=16777216):a<=16777216:=xg fun z=>xl (Ir a b c) [(1,xa (xa x0 x1) x2,xn 16777216),(1,xn 16777217,x0)] rfl h0 z
theorem C4g(h0:(a:Int)+1=(b:Int)):a+1=b:=Nat.le_antisymm (xg fun z=>yl (Cr a b) [(1,yi y0,y1),(1,yi y1,yi y0)] rfl (Int.le_of_eq h0) (oL z)) (xg fun z=>yl (Cr b a) [(1,y0,yi y1),(1,ya (yi y1) (yn 1),y0)] rfl (Int.le_of_eq h0.symm) (oL z))
theorem C4h(h0:a=b-(c+1))(h1:c+1=b):a=0:=Nat.le_antisymm (xg fun z=>yl (Ky a (oI (b-(c+1))) b c) [(1,y0,y1),(1,y2,yi y3),(1,yn 1,y0),(1,ya y1 (yi y3),y2)] rfl (oL (oE h0)) (oL (oE h1.symm)) (oL z) (oC (xg fun q1=>yl (Cr c b) [(1,yi y0,y1),(1,yi y1,yi y0)] rfl (oL (oE h1)) (oL q1)))) (xg fun z=>yl (Cz a) [(1,yi y0,yn 0),(1,yn 0,y0)] rfl (oL z) (oN a))
theorem C4i(h0:a<b)(h1:¬(a:Int)+1=(b:Int)):a+1≠b:=ne_of_apply_ne Int.ofNat h1
theorem C4j(h0:a<b)(h1:a+1≠b)(h2:0=b-(a+1)):False:=h1 (Nat.le_antisymm h0 (Nat.le_of_sub_eq_zero h2.symm))
theorem C4k(h0:a<=1000)(h1:b<a):((b+1:Nat):Int)<9223372036854775808:=oT (xh fun z=>xl (D7 a b) [(1,x0,xn 1000),(1,xi x1,x0),(1,xn 9223372036854775808,xi x1)] rfl h0 h1 z)
theorem C4l(h0:a<=1000)(h1:b<a)(h2:c+d=a-(b+1)):c<=1000:=xg fun z=>yl (Ky a c d (oI (a-(b+1)))) [(1,y0,yn 1000),(1,ya y1 y2,y3),(1,yn 1001,y1),(1,yn 0,y2),(1,y3,y0)] rfl (oL h0) (oL (oE h2)) (oL z) (oN d) (oL (Nat.sub_le a (b+1)))
theorem C4m(h0:a<=1000):a<=2000:=Nat.le_trans h0 (by decide)
theorem C4n(h0:a<=100000):a<=16777216:=Nat.le_trans h0 (by decide)
theorem C4o(h0:a+b=c-(d+1))(h1:d+1≠c)(h2:a<=1000)(h3:(d:Int)+1+(a:Int)=(c:Int)):b=0:=Nat.le_antisymm (xg fun z=>yl (Qi a b (oI (c-(d+1))) c d) [(1,ya y0 y1,y2),(1,y3,ya (yi y4) y0),(1,yn 1,y1),(1,ya y2 (yi y4),y3)] rfl (oL (oE h0)) (Int.le_of_eq h3.symm) (oL z) (oC (xg fun q1=>yl (Gc d a c) [(1,ya (yi y0) y1,y2),(1,yi y2,yi y0),(1,yn 0,y1)] rfl (Int.le_of_eq h3) (oL q1) (oN a)))) (xg fun z=>yl (Cz b) [(1,yi y0,yn 0),(1,yn 0,y0)] rfl (oL z) (oN b))
theorem C4p(h0:a+2*(b+1)<=10000):a+1<16777216:=xh fun z=>xl (D7 a b) [(1,xa x0 (xm 2 (xi x1)),xn 10000),(1,xn 16777216,xi x0)] rfl h0 z
theorem C4q(h0:a<b):0<b:=Nat.lt_of_le_of_lt (Nat.zero_le a) h0
theorem C4r(h0:a<b)(h1:c=b-(a+1))(h2:¬(a:Int)+1+(c:Int)=(b:Int)):False:=h2 (congrArg Int.ofNat (show a+1+c=b by rw[h1];exact Nat.add_sub_of_le h0))
theorem C4s(h0:a<=100000):0+1+1+1+1+1+1+a+(0+1)<=16777216:=xg fun z=>xl (I5 a) [(1,x0,xn 100000),(1,xn 16777217,xa (xa (xn 6) x0) (xn 1))] rfl h0 z
theorem C4t(h0:a+2*(b+1)<=10000):a+1+2*b<=10000:=xg fun z=>xl (D7 a b) [(1,xa x0 (xm 2 (xi x1)),xn 10000),(1,xn 10001,xa (xi x0) (xm 2 x1))] rfl h0 z
theorem C4u(h0:a<=1000)(h1:b<=a):b<4000:=xh fun z=>xl (D7 a b) [(1,x0,xn 1000),(1,x1,x0),(1,xn 4000,x1)] rfl h0 h1 z
theorem C4v(h0:a<=1000)(h1:b<=a):b<=2000:=xg fun z=>xl (D7 a b) [(1,x0,xn 1000),(1,x1,x0),(1,xn 2001,x1)] rfl h0 h1 z
theorem C4w(h0:a<=1000)(h1:b<=1000)(h2:c<=b):c+2*a<=10000:=xg fun z=>xl (Ir a b c) [(2,x0,xn 1000),(1,x1,xn 1000),(1,x2,x1),(1,xn 10001,xa x2 (xm 2 x0))] rfl h0 h1 h2 z
theorem C4x(h0:a<=100000)(h1:b<=1000000):a+b<=1100000:=xg fun z=>xl (D7 a b) [(1,x0,xn 100000),(1,x1,xn 1000000),(1,xn 1100001,xa x0 x1)] rfl h0 h1 z
theorem C4y(h0:a<=1100000):a<=16777216:=Nat.le_trans h0 (by decide)
theorem C4z(h0:a<=1100000):0+1+1+1+1+a+(0+1+1+1)<=16777216:=xg fun z=>xl (I5 a) [(1,x0,xn 1100000),(1,xn 16777217,xa (xa (xn 4) x0) (xn 3))] rfl h0 z
theorem C40(h0:a<1000):a<=999:=Nat.le_of_lt_succ h0
theorem C41(h0:a<=10001):0+1+a+(0+1)<=16777216:=xg fun z=>xl (I5 a) [(1,x0,xn 10001),(1,xn 16777217,xa (xa (xn 1) x0) (xn 1))] rfl h0 z
theorem C42(h0:a+1<=10000):a+1<=16777216:=Nat.le_of_lt (Nat.lt_of_le_of_lt h0 (Nat.le_add_left (Nat.succ 10000) 16767215))
theorem C43(h0:a<=9999):1+a<=16777216:=xg fun z=>xl (I5 a) [(1,x0,xn 9999),(1,xn 16777217,xa (xn 1) x0)] rfl h0 z
theorem C44(h0:a<=9999):1+(a+1)<=16777216:=xg fun z=>xl (I5 a) [(1,x0,xn 9999),(1,xn 16777217,xa (xn 1) (xi x0))] rfl h0 z
theorem C45(h0:a<=b):(a:Int)+((b-a:Nat):Int)=(b:Int):=Int.le_antisymm (yg fun z=>yl (Gc b a (oI (b-a))) [(1,yi y0,ya y1 y2),(1,ya y2 y1,y0)] rfl z (oC (xg fun q1=>yl (Cr a b) [(1,y0,y1),(1,yi y1,y0)] rfl (oL h0) (oL q1)))) (yg fun z=>yl (Gc a (oI (b-a)) b) [(1,ya (ya y0 y1) (yn 1),y2),(1,y2,ya y1 y0)] rfl z (oL (oS b a)))
theorem C46(h0:a+b=c)(h1:d<b):d<c-a:=xh fun z=>yl (Qi a b c d (oI (c-a))) [(1,ya y0 y1,y2),(1,yi y3,y1),(1,y4,y3),(1,y2,ya y4 y0)] rfl (oL (oE h0)) (oL h1) (oL z) (oL (oS c a))
theorem C47(h0:a+b=c)(h1:d<b):a+d<c:=xh fun z=>xl (Nt a b c d) [(1,xa x0 x1,x2),(1,xi x3,x1),(1,x2,xa x0 x3)] rfl (oE h0) h1 z
theorem C48(h0:a+b<=c)(h1:c<a+d):c-a<d:=xh fun z=>yl (Ky c a d (oI (c-a))) [(1,yi y0,ya y1 y2),(1,y2,y3),(1,ya y3 y1,y0)] rfl (oL h1) (oL z) (oC (xg fun q1=>yl (Gc a b c) [(1,ya y0 y1,y2),(1,yi y2,y0),(1,yn 0,y1)] rfl (oL h0) (oL q1) (oN b)))
theorem C49(h0:a+b=c)(h1:d<b)(h2:e<a+d):e-a<b:=xh fun z=>(Nat.le_total a e).elim (fun w3=>yl (Qi d b e a (oI (e-a))) [(1,yi y0,y1),(1,yi y2,ya y3 y0),(1,y1,y4),(1,ya y4 y3,y2)] rfl (oL h1) (oL h2) (oL z) (oC w3)) (fun w3=>yl (Gc d b (oI (e-a))) [(1,yi y0,y1),(1,y1,y2),(1,y2,yn 0),(1,yn 0,y0)] rfl (oL h1) (oL z) (oL (oE (Nat.sub_eq_zero_of_le w3))) (oN d))
theorem C5a(h0:(a:Int)+(b:Int)<0):False:=(fun n=>(Int.negSucc_not_nonneg n).mp) (a+b) h0
theorem C5b:a+b-a=b:=Eq.symm (Nat.eq_sub_of_add_eq' rfl)
theorem C5c(h0:a+b=c)(h1:d<b):d<=c-a:=xg fun z=>yl (Qi a b c d (oI (c-a))) [(1,ya y0 y1,y2),(1,yi y3,y1),(1,yi y4,y3),(1,y2,ya y4 y0)] rfl (oL (oE h0)) (oL h1) (oL z) (oL (oS c a))
theorem C5d(h0:a+(b+1)<=5000):a<16777216:=xh fun z=>xl (D7 a b) [(1,xa x0 (xi x1),xn 5000),(1,xn 16777216,x0)] rfl h0 z
theorem C5e(h0:a+b=c)(h1:d<b):a+d+1+(b-(d+1))=c:=Nat.le_antisymm (xg fun z=>yl (Qi a b c d (oI (b-(d+1)))) [(1,ya y0 y1,y2),(1,yi y2,ya (ya (ya y0 y3) (yn 1)) y4),(1,ya y4 (yi y3),y1)] rfl (oL (oE h0)) (oL z) (oC (xg fun q1=>yl (Cr d b) [(1,yi y0,y1),(1,yi y1,yi y0)] rfl (oL h1) (oL q1)))) (xg fun z=>yl (Qi c a b d (oI (b-(d+1)))) [(1,y0,ya y1 y2),(1,(ya (ya (ya (ya y1 y3) (yn 1)) y4) (yn 1)),y0),(1,y2,ya y4 (yi y3))] rfl (oL (oE h0.symm)) (oL z) (oL (oS b (d+1))))
theorem C5f(h0:a+(b+1)<=5000):a+1+b<=5000:=xg fun z=>xl (D7 a b) [(1,xa x0 (xi x1),xn 5000),(1,xn 5001,xa (xi x0) x1)] rfl h0 z
theorem C5g:a-(b+c+1)=a-b-(c+1):=Nat.le_antisymm (xg fun z=>(Nat.le_total (c+1) (a-b)).elim (fun w3=>(Nat.le_total b a).elim (fun w6=>yl (yr6 (oI ((a-b)-(c+1))) (((a-((b+c)+1)):Nat):Int) (oI (a-b)) c a b) [(1,yi y0,y1),(1,y2,ya y0 (yi y3)),(1,y4,ya y2 y5),(1,ya y1 (ya (ya y5 y3) (yn 1)),y4)] rfl (oL z) (oD w3) (oD w6) (oL (oE (Nat.sub_add_cancel (xg fun q7=>yl (Ky c (oI (a-b)) b a) [(1,yi y0,y1),(1,ya y1 y2,y3),(1,yi y3,ya (ya y2 y0) (yn 1))] rfl (oL w3) (oC w6) (oL q7)))))) (fun w6=>yl (Cr c (oI (a-b))) [(1,yi y0,y1),(1,y1,yn 0),(1,yn 0,y0)] rfl (oL w3) (oL (oE (Nat.sub_eq_zero_of_le w6))) (oN c))) (fun w3=>(Nat.le_total b a).elim (fun w10=>yl (Cr (oI ((a-b)-(c+1))) (((a-((b+c)+1)):Nat):Int)) [(1,yi y0,y1),(1,yn 0,y0),(1,y1,yn 0)] rfl (oL z) (oL (oE (Nat.sub_eq_zero_of_le w3).symm)) (oL (oE (Nat.sub_eq_zero_of_le (xg fun q12=>yl (Ky (oI (a-b)) c a b) [(1,y0,yi y1),(1,y2,ya y0 y3),(1,ya (ya (ya y3 y1) (yn 1)) (yn 1),y2)] rfl (oL w3) (oD w10) (oL q12)))))) (fun w10=>yl (Cr (oI ((a-b)-(c+1))) (((a-((b+c)+1)):Nat):Int)) [(1,yi y0,y1),(1,yn 0,y0),(1,y1,yn 0)] rfl (oL z) (oL (oE (Nat.sub_eq_zero_of_le w3).symm)) (oL (oE (Nat.sub_eq_zero_of_le (xg fun q14=>yl (Ky (oI (a-b)) c b a) [(1,y0,yi y1),(1,ya (ya (ya y2 y1) (yn 1)) (yn 1),y3),(1,y3,ya y0 y2)] rfl (oL w3) (oL q14) (oL (oS a b))))))))) (xg fun z=>(Nat.le_total ((b+c)+1) a).elim (fun w17=>yl (yr6 (((a-((b+c)+1)):Nat):Int) (oI ((a-b)-(c+1))) a b c (oI (a-b))) [(1,yi y0,y1),(1,y2,ya y0 (ya (ya y3 y4) (yn 1))),(1,ya y1 (yi y4),y5),(1,ya y5 y3,y2)] rfl (oL z) (oD w17) (oL (oE (Nat.sub_add_cancel (xg fun q18=>yl (Ky b c a (oI (a-b))) [(1,ya (ya y0 y1) (yn 1),y2),(1,yi y3,yi y1),(1,y2,ya y3 y0)] rfl (oL w17) (oL q18) (oL (oS a b)))))) (oC (xg fun q19=>yl (Gc b c a) [(1,ya (ya y0 y1) (yn 1),y2),(1,yi y2,y0),(1,yn 0,y1)] rfl (oL w17) (oL q19) (oN c)))) (fun w17=>(Nat.le_total (c+1) (a-b)).elim (fun w22=>(Nat.le_total b a).elim (fun w25=>yl (yr6 (((a-((b+c)+1)):Nat):Int) (oI ((a-b)-(c+1))) c (oI (a-b)) b a) [(1,yi y0,y1),(1,ya y1 (yi y2),y3),(1,ya y3 y4,y5),(1,y5,ya y0 (ya (ya y4 y2) (yn 1)))] rfl (oL z) (oC w22) (oC w25) (oL (oS a ((b+c)+1)))) (fun w25=>yl (Cr c (oI (a-b))) [(1,yi y0,y1),(1,y1,yn 0),(1,yn 0,y0)] rfl (oL w22) (oL (oE (Nat.sub_eq_zero_of_le w25))) (oN c))) (fun w22=>yl (Cr (((a-((b+c)+1)):Nat):Int) (oI ((a-b)-(c+1)))) [(1,yi y0,y1),(1,yn 0,y0),(1,y1,yn 0)] rfl (oL z) (oL (oE (Nat.sub_eq_zero_of_le w17).symm)) (oL (oE (Nat.sub_eq_zero_of_le w22))))))
theorem C5h(h0:0<a):0<=-1+(a:Int)∧-1+(a:Int)<(a:Int):=⟨yg fun z=>yl (Cz a) [(1,yn 1,y0),(1,(ya (ya (.neg (yn 1)) y0) (yn 1)),yn 0)] rfl (oL h0) z,yh fun z=>yl (Cz a) [(1,y0,ya (.neg (yn 1)) y0)] rfl z⟩
theorem C5i(h0:0<a):(-1+(a:Int)).toNat=a-1:=Nat.le_antisymm (xg fun z=>yl (Gc (oI (a-1)) (((Int.toNat ((-(1:Int))+((a:Nat):Int))):Nat):Int) a) [(1,yi y0,y1),(1,y2,yi y0),(1,y1,ya (.neg (yn 1)) y2)] rfl (oL z) (oD (xg fun q1=>yl (Cz a) [(1,yn 1,y0),(1,yi y0,yn 1)] rfl (oL h0) (oL q1))) (Int.le_of_eq (Int.toNat_of_nonneg (yg fun q2=>yl (Cz a) [(1,yn 1,y0),(1,(ya (ya (.neg (yn 1)) y0) (yn 1)),yn 0)] rfl (oL h0) q2)))) (xg fun z=>yl (Gc (((Int.toNat ((-(1:Int))+((a:Nat):Int))):Nat):Int) (oI (a-1)) a) [(1,yi y0,y1),(1,ya (.neg (yn 1)) y2,y0),(1,yi y1,y2)] rfl (oL z) (Int.le_of_eq (Int.toNat_of_nonneg (yg fun q3=>yl (Cz a) [(1,yn 1,y0),(1,(ya (ya (.neg (yn 1)) y0) (yn 1)),yn 0)] rfl (oL h0) q3)).symm) (oC (xg fun q4=>yl (Cz a) [(1,yn 1,y0),(1,yi y0,yn 1)] rfl (oL h0) (oL q4))))
theorem C5j(h0:a+1=b):(b:Int)-1<=(a:Int):=yg fun z=>yl (Cr b a) [(1,y0,yi y1),(1,yi y1,ys y0 (yn 1))] rfl (oL (oE h0.symm)) z
theorem C5k(h0:a+(b+(c+d+1))<=1000):b<=1000:=xg fun z=>xl (Nt a b c d) [(1,(xa x0 (xa x1 (xa (xa x2 x3) (xn 1)))),xn 1000),(1,xn 1001,x1)] rfl h0 z
theorem C5l(h0:a+(b+(c+d+1))<=1000):c<=999:=xg fun z=>xl (Nt a b c d) [(1,(xa x0 (xa x1 (xa (xa x2 x3) (xn 1)))),xn 1000),(1,xn 1000,x2)] rfl h0 z
theorem C5m(h0:a+(b+1)+1=c):((b+1:Nat):Int)=(c:Int)-1+(a:Int)* -1:=by first |lia|omega
theorem C5n(h0:a+(b+1)+1=c):(c:Int)-1>0:=yh fun z=>yl (Gc a b c) [(1,ya (ya y0 (yi y1)) (yn 1),y2),(1,ys y2 (yn 1),yn 0),(1,yn 0,y0),(1,yn 0,y1)] rfl (oL (oE h0)) z (oN a) (oN b)
theorem C5o(h0:a+(b+1)+1=c):(a:Int)<(c:Int)-1:=yh fun z=>yl (Gc a b c) [(1,ya (ya y0 (yi y1)) (yn 1),y2),(1,ys y2 (yn 1),y0),(1,yn 0,y1)] rfl (oL (oE h0)) z (oN b)
theorem C5p:((a+1:Nat):Int)-1=(a:Int):=Int.le_antisymm (yg fun z=>yl (Cz a) [(1,yi y0,ys (yi y0) (yn 1))] rfl z) (yg fun z=>yl (Cz a) [(1,ya (ys (yi y0) (yn 1)) (yn 1),y0)] rfl z)
theorem C5q(h0:a<=1000):a<=100000:=Nat.le_trans h0 (by decide)
theorem C5r(h0:a+1<=1000):a+1<=16777216:=Ks h0
theorem C5s(h0:a<=1000)(h1:b<=999):a-1+b<=16777216:=xg fun z=>yl (Gc a b (oI (a-1))) [(1,y0,yn 1000),(1,y1,yn 999),(1,yn 16777217,ya y2 y1),(1,y2,y0)] rfl (oL h0) (oL h1) (oL z) (oL (Nat.sub_le a 1))
theorem C5t(h0:a+(b+1+1)<=1000):a+(b+1+1)<=16777216:=U5 h0 rfl
theorem C5u(h0:a+(b+1+1)<=1000):a+(b+1)<=1000:=Nat.succ_le_of_lt (Nat.le_of_lt h0)
theorem C5v(h0:a<=1000)(h1:b+(a+(c+d+1))<=1000):b+(a-1+(c+d))<=1000:=xg fun z=>yl (Qi b a c d (oI (a-1))) [(1,(ya y0 (ya y1 (ya (ya y2 y3) (yn 1)))),yn 1000),(1,yn 1001,ya y0 (ya y4 (ya y2 y3))),(1,y4,y1)] rfl (oL h1) (oL z) (oL (Nat.sub_le a 1))
theorem C5w:a+1-a=1:=Nat.add_sub_self_left a 1
theorem C5x(h0:(a:Int)-1>0):(a:Int)-1=((a-1:Nat):Int):=Int.le_antisymm (yg fun z=>yl (Cr (oI (a-1)) a) [(1,yi y0,ys y1 (yn 1)),(1,y1,yi y0)] rfl z (oL (oS a 1))) (yg fun z=>yl (Cr a (oI (a-1))) [(1,ya (ys y0 (yn 1)) (yn 1),y1),(1,yi y1,y0)] rfl z (oC (xg fun q1=>yl (Cz a) [(1,yn 1,ys y0 (yn 1)),(1,yi y0,yn 1)] rfl h0 (oL q1))))
theorem C5y(h0:a<=100000)(h1:¬(a:Int)-1>0):0=((a-1:Nat):Int):=Int.le_antisymm (yg fun z=>yl (Cz (oI (a-1))) [(1,yi y0,yn 0),(1,yn 0,y0)] rfl z (oN (a-1))) (yg fun z=>yl (Cr a (oI (a-1))) [(1,ys y0 (yn 1),yn 0),(1,yn 1,y1),(1,yi y1,y0)] rfl (yg h1) z (oL (oE (Nat.sub_add_cancel (xg fun q1=>yl (Cr (oI (a-1)) a) [(1,yn 1,y0),(1,yi y1,yn 1),(1,y0,y1)] rfl z (oL q1) (oL (Nat.sub_le a 1)))))))
theorem C5z(h0:a<=100000):(-9223372036854775808<=(a:Int)-1∧(a:Int)-1<9223372036854775808)∧((a-1:Nat):Int)<9223372036854775808:=⟨⟨yg fun z=>yl (Cz a) [(1,ya (ys y0 (yn 1)) (yn 1),.neg (yn 9223372036854775808)),(1,yn 0,y0)] rfl z (oN a),yh fun z=>yl (Cz a) [(1,y0,yn 100000),(1,yn 9223372036854775808,ys y0 (yn 1))] rfl (oL h0) z⟩,yh fun z=>yl (Cr a (oI (a-1))) [(1,y0,yn 100000),(1,yn 9223372036854775808,y1),(1,y1,y0)] rfl (oL h0) z (oL (Nat.sub_le a 1))⟩
theorem C50(h0:a<=200)(h1:b<=a+1):¬a+b*2>16777216:=fun z=>xl (D7 a b) [(3,x0,xn 200),(2,x1,xi x0),(1,xn 16777217,xa x0 (.mulR x1 2))] rfl h0 h1 z
theorem C51(h0:a<=200)(h1:b<=2*a):b<=16777216:=xg fun z=>xl (D7 a b) [(2,x0,xn 200),(1,x1,xm 2 x0),(1,xn 16777217,x1)] rfl h0 h1 z
theorem C52(h0:a<=400*b)(h1:c<=2*d)(h2:d<=200):c+a<=400*(b+1):=xg fun z=>xl (Nt a b c d) [(1,x0,xm 400 x1),(1,x2,xm 2 x3),(2,x3,xn 200),(1,xa (xm 400 (xi x1)) (xn 1),xa x2 x0)] rfl h0 h1 h2 z
theorem C53(h0:a+b=c)(h1:0<b):a<c:=xh fun z=>xl (Ir a b c) [(1,xa x0 x1,x2),(1,xn 1,x1),(1,x2,x0)] rfl (oE h0) h1 z
theorem C54(h0:a<b):0<b-a:=Nat.zero_lt_sub_of_lt h0
theorem C55(h0:a<=b-(c+1))(h1:c<b):min c b+a<=b:=xg fun z=>yl (Qi a (oI (b-(c+1))) b (oI (min c b)) c) [(1,y0,y1),(1,yi y2,ya y3 y0),(1,ya y1 (yi y4),y2),(1,y3,y4)] rfl (oL h0) (oL z) (oC (xg fun q1=>yl (Cr c b) [(1,yi y0,y1),(1,yi y1,yi y0)] rfl (oL h1) (oL q1))) (oL (Nat.min_le_left c b))
theorem C56(h0:a+b=c)(h1:b<=60)(h2:d<=b):d<=60:=Nat.le_trans ‹_› ‹_›
theorem C57(h0:a<=b)(h1:b<=1000)(h2:c+d=a):d<=16777216:=xg fun z=>xl (Nt a b c d) [(1,x0,x1),(1,x1,xn 1000),(1,xa x2 x3,x0),(1,xn 16777217,x3)] rfl h0 h1 (oE h2) z
theorem C58(h0:a<=100):a<=16777215:=Nat.le_trans h0 (by decide)
theorem C59(h0:a<=100):a+1<=100000:=Nat.lt_of_lt_of_le (Nat.lt_succ_of_le h0) (Nat.le_add_left (Nat.succ 100) 99899)
theorem C6a(h0:a<=100):a+1<=1000:=Nat.lt_of_lt_of_le (Nat.lt_succ_of_le h0) (Nat.le_add_left (Nat.succ 100) 899)
theorem C6b(h0:a<=100):a<=999:=Nat.le_trans h0 (by decide)
theorem C6c(h0:a<=60):a<=1000:=Nat.le_trans h0 (by decide)
theorem C6d(h0:a<=b)(h1:b<=1000)(h2:c<a):(c:Int)<9223372036854775808:=oT (xh fun z=>xl (Ir a b c) [(1,x0,x1),(1,x1,xn 1000),(1,xi x2,x0),(1,xn 9223372036854775808,x2)] rfl h0 h1 h2 z)
theorem C6e(h0:a+(b+1)=c):a<c:=xh fun z=>xl (Ir a b c) [(1,xa x0 (xi x1),x2),(1,x2,x0)] rfl (oE h0) z
theorem C6f(h0:a<=1000)(h1:b<a)(h2:c+(d+1)=b):(c:Int)<9223372036854775808:=oT (xh fun z=>xl (Nt a b c d) [(1,x0,xn 1000),(1,xi x1,x0),(1,xa x2 (xi x3),x1),(1,xn 9223372036854775808,x2)] rfl h0 h1 (oE h2) z)
theorem C6g(h0:a+(b+1)=c):a+1+b=c:=Nat.le_antisymm (xg fun z=>xl (Ir a b c) [(1,xa x0 (xi x1),x2),(1,xi x2,xa (xi x0) x1)] rfl (oE h0) z) (xg fun z=>xl (Ir a b c) [(1,x2,xa x0 (xi x1)),(1,xa (xa (xi x0) x1) (xn 1),x2)] rfl (oE h0.symm) z)
theorem C6h(h0:a<b)(h1:c+(d+1)=a)(h2:b<=c):False:=xl (Nt a b c d) [(1,xi x0,x1),(1,xa x2 (xi x3),x0),(1,x1,x2)] rfl h0 (oE h1) h2
theorem C6i(h0:a-b=c+(d+1)):a=b+(c+(1+d))∧b<=a:=⟨Nat.le_antisymm (xg fun z=>yl (Qi (oI (a-b)) c d b a) [(1,y0,ya y1 (yi y2)),(1,(ya (ya y3 (ya y1 (ya (yn 1) y2))) (yn 1)),y4),(1,y4,ya y0 y3)] rfl (oL (oE h0)) (oL z) (oL (oS a b))) (xg fun z=>(Nat.le_total b a).elim (fun w3=>yl (Qi c d (oI (a-b)) a b) [(1,ya y0 (yi y1),y2),(1,yi y3,(ya y4 (ya y0 (ya (yn 1) y1)))),(1,ya y2 y4,y3)] rfl (oL (oE h0.symm)) (oL z) (oC w3)) (fun w3=>yl (Gc c d (oI (a-b))) [(1,ya y0 (yi y1),y2),(1,y2,yn 0),(1,yn 0,y0),(1,yn 0,y1)] rfl (oL (oE h0.symm)) (oL (oE (Nat.sub_eq_zero_of_le w3))) (oN c) (oN d))),xg fun z=>yl (Gc c d (oI (a-b))) [(1,ya y0 (yi y1),y2),(1,y2,yn 0),(1,yn 0,y0),(1,yn 0,y1)] rfl (oL (oE h0.symm)) (oL (oE (Nat.sub_eq_zero_of_le (xg fun q5=>yl (Cr a b) [(1,yi y0,y1),(1,yi y1,y0)] rfl (oL z) (oL q5))))) (oN c) (oN d)⟩
theorem C6j(h0:a<=b+c):a+(b+c-a)=b+c:=Nat.add_sub_of_le h0
theorem C6k(h0:a<=60)(h1:0<a)(h2:b<=c)(h3:c<=b+a):b+a-c<4000:=xh fun z=>yl (Ky a b c (oI ((b+a)-c))) [(1,y0,yn 60),(1,y1,y2),(1,yn 4000,y3),(1,ya y3 y2,ya y1 y0)] rfl (oL h0) (oL h2) (oL z) (oC (xg fun q1=>yl (Gc c b a) [(1,y0,ya y1 y2),(1,ya (ya y1 y2) (yn 1),y0)] rfl (oL h3) (oL q1)))
theorem C6l(h0:a<=b)(h1:b<=c):c=a+(c-a):=Nat.le_antisymm (xg fun z=>yl (Gc a (oI (c-a)) c) [(1,ya (ya y0 y1) (yn 1),y2),(1,y2,ya y1 y0)] rfl (oL z) (oL (oS c a))) (xg fun z=>yl (Gc c a (oI (c-a))) [(1,yi y0,ya y1 y2),(1,ya y2 y1,y0)] rfl (oL z) (oC (xg fun q1=>yl (Gc a b c) [(1,y0,y1),(1,y1,y2),(1,yi y2,y0)] rfl (oL h0) (oL h1) (oL q1))))
theorem C6m(h0:0<a)(h1:b<c+a):b-c<a:=xh fun z=>(Nat.le_total c b).elim (fun w3=>yl (Ky b c a (oI (b-c))) [(1,yi y0,ya y1 y2),(1,y2,y3),(1,ya y3 y1,y0)] rfl (oL h1) (oL z) (oC w3)) (fun w3=>yl (Cr a (oI (b-c))) [(1,yn 1,y0),(1,y0,y1),(1,y1,yn 0)] rfl (oL h0) (oL z) (oL (oE (Nat.sub_eq_zero_of_le w3))))
theorem C6n(h0:a=b+(c+(1+d))∧b<=a)(h1:(a:Int)<=(b:Int)+(c:Int)):False:=yl (Ky b c d a) [(1,(ya y0 (ya y1 (ya (yn 1) y2))),y3),(1,y3,ya y0 y1),(1,yn 0,y2)] rfl (oL (oE h0.1.symm)) h1 (oN d)
theorem C6o(h0:a=b+(c+(1+d))∧b<=a):b+c<=a:=xg fun z=>xl (Nt a b c d) [(1,(xa x1 (xa x2 (xa (xn 1) x3))),x0),(1,xi x0,xa x1 x2)] rfl (oE h0.1.symm) z
theorem C6p(h0:a<=500):a<=10000:=Nat.le_trans h0 (by decide)
theorem C6q(h0:0<a):b+a-b=a:=Nat.add_sub_self_left b a
theorem C6r(h0:a=b+(c+(1+d))∧b<=a)(h1:0<c)(h2:a<=b):False:=xl (Nt a b c d) [(1,(xa x1 (xa x2 (xa (xn 1) x3))),x0),(1,x0,x1)] rfl (oE h0.1.symm) h2
theorem C6s(h0:a<=1000)(h1:a=b+(c+(1+d))∧b<=a):(b:Int)<9223372036854775808:=oT (xh fun z=>xl (D7 a b) [(1,x0,xn 1000),(1,x1,x0),(1,xn 9223372036854775808,x1)] rfl h0 h1.2 z)
theorem C6t(h0:a<=1000)(h1:a=b+(c+(1+d))∧b<=a)(h2:e<b+c):(e:Int)<9223372036854775808:=oT (xh fun z=>xl (xr5 a b c d e) [(1,x0,xn 1000),(1,(xa x1 (xa x2 (xa (xn 1) x3))),x0),(1,xi x4,xa x1 x2),(1,xn 9223372036854775808,x4)] rfl h0 (oE h1.1.symm) h2 z)
theorem C6u(h0:a<b+c):a<=b+c:=Nat.le_of_lt ‹_›
theorem C6v(h0:a=b+(c+(1+d))∧b<=a)(h1:e<b+c)(h2:a<=e):False:=xl (xr5 a b c d e) [(1,(xa x1 (xa x2 (xa (xn 1) x3))),x0),(1,xi x4,xa x1 x2),(1,x0,x4)] rfl (oE h0.1.symm) h1 h2
theorem C6w(h0:0<a)(h1:1<a):b+1<b+a:=Nat.add_lt_add_left h1 b
theorem C6x(h0:0<a):b<b+a:=Nat.lt_add_of_pos_right h0
theorem C6y(h0:a<=b)(h1:b-a=c+d):b=a+(c+d):=Nat.le_antisymm (xg fun z=>yl (Qi (oI (b-a)) c d a b) [(1,y0,ya y1 y2),(1,ya (ya y3 (ya y1 y2)) (yn 1),y4),(1,y4,ya y0 y3)] rfl (oL (oE h1)) (oL z) (oL (oS b a))) (xg fun z=>yl (Qi c d (oI (b-a)) b a) [(1,ya y0 y1,y2),(1,yi y3,ya y4 (ya y0 y1)),(1,ya y2 y4,y3)] rfl (oL (oE h1.symm)) (oL z) (oC (xg fun q1=>yl (Cr a b) [(1,y0,y1),(1,yi y1,y0)] rfl (oL h0) (oL q1))))
theorem C6z(h0:a=b+(c+d))(h1:c=e):b+e<=a:=xg fun z=>xl (xr5 a b c d e) [(1,xa x1 (xa x2 x3),x0),(1,x4,x2),(1,xi x0,xa x1 x4)] rfl (oE h0.symm) (oE h1.symm) z
theorem C60(h0:a<1000):a<=16777216:=Nat.le_of_lt (Nat.lt_of_lt_of_le h0 (by decide))
theorem C61:a+1+b+1=a+(b+2):=Nat.le_antisymm (xg fun z=>xl (D7 a b) [(1,(xa (xa x0 (xa x1 (xn 2))) (xn 1)),xa (xa (xi x0) x1) (xn 1))] rfl z) (xg fun z=>xl (D7 a b) [(1,(xa (xa (xa (xi x0) x1) (xn 1)) (xn 1)),xa x0 (xa x1 (xn 2)))] rfl z)
theorem C62(h0:a<=990):a<=16777216:=Nat.le_trans h0 (by decide)
theorem C63(h0:a<=990):a<=1000:=Nat.le_trans h0 (by decide)
theorem C64(h0:a<990):a<4000:=Nat.lt_of_lt_of_le h0 (by decide)
theorem C65(h0:a<990):a<1000:=Nat.lt_of_lt_of_le h0 (by decide)
theorem C66(h0:a<990)(h1:a=b+c)(h2:c=d):b+d<=1000:=xg fun z=>xl (Nt a b c d) [(1,xi x0,xn 990),(1,xa x1 x2,x0),(1,x3,x2),(1,xn 1001,xa x1 x3)] rfl h0 (oE h1.symm) (oE h2.symm) z
theorem C67(h0:a<=60):a<=90:=Nat.le_trans h0 (by decide)
theorem C68(h0:a=b)(h1:c=b)(h2:d<=62*b)(h3:e<=62*b)(h4:f<=62∧g<=62):a+1=b+1∧c+1=b+1∧f+d<=62*(b+1)∧g+e<=62*(b+1):=⟨Nat.le_antisymm (xg fun z=>xl (D7 a b) [(1,x0,x1),(1,xa (xi x1) (xn 1),xi x0)] rfl (oE h0) z) (xg fun z=>xl (D7 a b) [(1,x1,x0),(1,xa (xi x0) (xn 1),xi x1)] rfl (oE h0.symm) z),⟨Nat.le_antisymm (xg fun z=>xl (D7 b c) [(1,x1,x0),(1,xa (xi x0) (xn 1),xi x1)] rfl (oE h1) z) (xg fun z=>xl (D7 b c) [(1,x0,x1),(1,xa (xi x1) (xn 1),xi x0)] rfl (oE h1.symm) z),⟨xg fun z=>xl (Ir b d f) [(1,x1,xm 62 x0),(1,x2,xn 62),(1,xa (xm 62 (xi x0)) (xn 1),xa x2 x1)] rfl h2 h4.1 z,xg fun z=>xl (Ir b e g) [(1,x1,xm 62 x0),(1,x2,xn 62),(1,xa (xm 62 (xi x0)) (xn 1),xa x2 x1)] rfl h3 h4.2 z⟩⟩⟩
theorem C69(h0:a<=900)(h1:b+c=a):b<=900∧c<=900:=⟨xg fun z=>xl (Ir a b c) [(1,x0,xn 900),(1,xa x1 x2,x0),(1,xn 901,x1)] rfl h0 (oE h1) z,xg fun z=>xl (Ir a b c) [(1,x0,xn 900),(1,xa x1 x2,x0),(1,xn 901,x2)] rfl h0 (oE h1) z⟩
theorem C7a(h0:a<=900∧b<=900):a<=100000:=xg fun z=>xl (I5 a) [(1,x0,xn 900),(1,xn 100001,x0)] rfl h0.1 z
theorem C7b(h0:a<=900):a<=100000:=Nat.le_trans h0 (by decide)
theorem C7c(h0:a<=900∧b<=900):b<=1000000:=xg fun z=>xl (I5 b) [(1,x0,xn 900),(1,xn 1000001,x0)] rfl h0.2 z
theorem C7d(h0:a<=10)(h1:b<=62*a):b<=990:=xg fun z=>xl (D7 a b) [(62,x0,xn 10),(1,x1,xm 62 x0),(1,xn 991,x1)] rfl h0 h1 z
theorem C7e(h0:a<=10):a<990:=Nat.lt_of_le_of_lt h0 (by decide)
theorem C7f(h0:a<=10)(h1:b<=62*a):b<=900:=xg fun z=>xl (D7 a b) [(62,x0,xn 10),(1,x1,xm 62 x0),(1,xn 901,x1)] rfl h0 h1 z
theorem C7g(h0:a<=10)(h1:b=a):b<=900:=xg fun z=>xl (D7 a b) [(1,x0,xn 10),(1,x1,x0),(1,xn 901,x1)] rfl h0 (oE h1) z
theorem C7h{a:Int}(h0:a<12):a.toNat<12:=xh fun z=>(Int.le_total (0:Int) a).elim (fun w3=>yl (Cr a (oI (Int.toNat a))) [(1,yi y0,yn 12),(1,yn 12,y1),(1,y1,y0)] rfl h0 (oL z) (Int.le_of_eq (Int.toNat_of_nonneg w3))) (fun w3=>yl (Cz (oI (Int.toNat a))) [(1,yn 12,y0),(1,y0,yn 0)] rfl (oL z) (oL (oE (Int.toNat_of_nonpos w3))))
theorem C7i(h0:a<4):a<8:=Nat.lt_of_lt_of_le h0 (by decide)
theorem C7j(h0:a<4):4+a<8:=Nat.add_lt_of_lt_sub' h0
theorem C7k(h0:a<=62∧b<=62)(h1:c<=62∧d<=62)(h2:e<=62∧f<=62)(h3:g<=62∧i<=62):1+(b+(d+(1+(f+(i+0)))))<=370:=xg fun z=>xl (Nt b d f i) [(1,x0,xn 62),(1,x1,xn 62),(1,x2,xn 62),(1,x3,xn 62),(1,xn 371,(xa (xn 1) (xa x0 (xa x1 (xa (xn 1) (xa x2 (xa x3 (xn 0))))))))] rfl h0.2 h1.2 h2.2 h3.2 z
theorem C7l(h0:a<256):(b*256+a)/4096=b/16:=Nat.le_antisymm (xg fun z=>yl (Ky a (oI (b/16)) (((((b*256)+a)/4096):Nat):Int) b) [(1,yi y0,yn 256),(4096,yi y1,y2),(256,yi y3,ym 16 (yi y1)),(1,ym 4096 y2,ya (.mulR y3 256) y0)] rfl (oL h0) (oL z) (oL (Nat.lt_mul_div_succ b (by decide:0<16))) (oL (Nat.mul_div_le ((b*256)+a) 4096))) (xg fun z=>yl (Ky (((((b*256)+a)/4096):Nat):Int) (oI (b/16)) a b) [(4096,yi y0,y1),(1,yn 0,y2),(1,ya (ya (.mulR y3 256) y2) (yn 1),ym 4096 (yi y0)),(256,ym 16 y1,y3)] rfl (oL z) (oN a) (oL (Nat.lt_mul_div_succ ((b*256)+a) (by decide:0<4096))) (oL (Nat.mul_div_le b 16)))
theorem C7m:a/256%2<2:=xh fun z=>yl (Cz (oI ((a/256)%2))) [(1,yn 2,y0),(1,yi y0,yn 2)] rfl (oL z) (oL (Nat.mod_lt (a/256) (by decide:0<2)))
theorem C7n:a/128%2<2:=xh fun z=>yl (Cz (oI ((a/128)%2))) [(1,yn 2,y0),(1,yi y0,yn 2)] rfl (oL z) (oL (Nat.mod_lt (a/128) (by decide:0<2)))
theorem C7o:a/64%2<2:=xh fun z=>yl (Cz (oI ((a/64)%2))) [(1,yn 2,y0),(1,yi y0,yn 2)] rfl (oL z) (oL (Nat.mod_lt (a/64) (by decide:0<2)))
theorem C7p:a/2048%2<2:=xh fun z=>yl (Cz (oI ((a/2048)%2))) [(1,yn 2,y0),(1,yi y0,yn 2)] rfl (oL z) (oL (Nat.mod_lt (a/2048) (by decide:0<2)))
theorem C7q:a/32%2<2:=xh fun z=>yl (Cz (oI ((a/32)%2))) [(1,yn 2,y0),(1,yi y0,yn 2)] rfl (oL z) (oL (Nat.mod_lt (a/32) (by decide:0<2)))
theorem C7r:a/16%2<2:=xh fun z=>yl (Cz (oI ((a/16)%2))) [(1,yn 2,y0),(1,yi y0,yn 2)] rfl (oL z) (oL (Nat.mod_lt (a/16) (by decide:0<2)))
theorem C7s:a/8%2<2:=xh fun z=>yl (Cz (oI ((a/8)%2))) [(1,yn 2,y0),(1,yi y0,yn 2)] rfl (oL z) (oL (Nat.mod_lt (a/8) (by decide:0<2)))
theorem C7t:a/1024%2<2:=xh fun z=>yl (Cz (oI ((a/1024)%2))) [(1,yn 2,y0),(1,yi y0,yn 2)] rfl (oL z) (oL (Nat.mod_lt (a/1024) (by decide:0<2)))
theorem C7u:a/4%2<2:=xh fun z=>yl (Cz (oI ((a/4)%2))) [(1,yn 2,y0),(1,yi y0,yn 2)] rfl (oL z) (oL (Nat.mod_lt (a/4) (by decide:0<2)))
theorem C7v:a/2%2<2:=xh fun z=>yl (Cz (oI ((a/2)%2))) [(1,yn 2,y0),(1,yi y0,yn 2)] rfl (oL z) (oL (Nat.mod_lt (a/2) (by decide:0<2)))
theorem C7w:a%2<2:=xh fun z=>yl (Cz (oI (a%2))) [(1,yn 2,y0),(1,yi y0,yn 2)] rfl (oL z) (oL (Nat.mod_lt a (by decide:0<2)))
theorem C7x:a/512%2<2:=xh fun z=>yl (Cz (oI ((a/512)%2))) [(1,yn 2,y0),(1,yi y0,yn 2)] rfl (oL z) (oL (Nat.mod_lt (a/512) (by decide:0<2)))
theorem C7y(h0:a<10):48+a≠61:=fun z=>xl (I5 a) [(1,xi x0,xn 10),(1,xn 61,xa (xn 48) x0)] rfl h0 (oE z.symm)
theorem C7z(h0:¬a<10):55+a≠61:=fun z=>xl (I5 a) [(1,xn 10,x0),(1,xa (xn 55) x0,xn 61)] rfl (xg h0) (oE z)
theorem C70:3-a<6:=xh fun z=>yl (Cz (oI (3-a))) [(1,yn 6,y0),(1,y0,yn 3)] rfl (oL z) (oL (Nat.sub_le 3 a))
theorem C71:5<=(a+15)/3:=xg fun z=>yl (Cr (oI ((a+15)/3)) a) [(3,yi y0,yn 5),(1,ya (ya y1 (yn 15)) (yn 1),ym 3 (yi y0)),(1,yn 0,y1)] rfl (oL z) (oL (Nat.lt_mul_div_succ (a+15) (by decide:0<3))) (oN a)
theorem C72(h0:a<=2*(0+1+1+1+1+1+1+1+1+1+1+1+1+1+1+1+1)+6)(h1:b<=2*(0+1+1+1+1+1+1+1+1+1+1+1+1+1+1+1+1)+6)(h2:c<=2*(0+1+1+1+1+1+1+1+1+1+1+1+1+1+1+1+1)+6)(h3:d<=2*(0+1+1+1+1+1+1+1+1+1+1+1+1+1+1+1+1)+6):0+1+a+(0+b)+(0+1+c)+(0+d)<=200:=xg fun z=>xl (Nt a b c d) [(1,x0,xn 38),(1,x1,xn 38),(1,x2,xn 38),(1,x3,xn 38),(1,xn 201,(xa (xa (xa (xa (xn 1) x0) (xa (xn 0) x1)) (xa (xn 1) x2)) (xa (xn 0) x3)))] rfl h0 h1 h2 h3 z
theorem C73(h0:a<=200):a<=988:=Nat.le_trans h0 (by decide)
theorem C74(h0:a=6):a+1+1<990:=xh fun z=>xl (I5 a) [(1,x0,xn 6),(1,xn 990,xa (xi x0) (xn 1))] rfl (oE h0) z
theorem C75(h0:a<=370):0+1+1+1+1+1+1+(a+(0+1+(0+1+1+0)))<=900:=xg fun z=>xl (I5 a) [(1,x0,xn 370),(1,xn 901,xa (xn 6) (xa x0 (xn 3)))] rfl h0 z
theorem C76(h0:a=b)(h1:b=6):a<=897:=xg fun z=>xl (D7 a b) [(1,x0,x1),(1,x1,xn 6),(1,xn 898,x0)] rfl (oE h0) (oE h1) z
theorem C77(h0:a<=200)(h1:b<=200):a+(b+1)<=990:=xg fun z=>xl (D7 a b) [(1,x0,xn 200),(1,x1,xn 200),(1,xn 991,xa x0 (xi x1))] rfl h0 h1 z
theorem C78(h0:a=6)(h1:b=6):a+(b+1)<990:=xh fun z=>xl (D7 a b) [(1,x0,xn 6),(1,x1,xn 6),(1,xn 990,xa x0 (xi x1))] rfl (oE h0) (oE h1) z
theorem C79(h0:a<=370)(h1:b<=370):a+(0+1+1+b)<=900:=xg fun z=>xl (D7 a b) [(1,x0,xn 370),(1,x1,xn 370),(1,xn 901,xa x0 (xa (xn 2) x1))] rfl h0 h1 z
theorem C8a(h0:a=b)(h1:c=d)(h2:b=6)(h3:d=6):a+(c+1)<=900:=xg fun z=>xl (Nt a b c d) [(1,x0,x1),(1,x2,x3),(1,x1,xn 6),(1,x3,xn 6),(1,xn 901,xa x0 (xi x2))] rfl (oE h0) (oE h1) (oE h2) (oE h3) z
theorem C8b(h0:a<=200)(h1:b<=200):a+(b+1+1)<=989:=xg fun z=>xl (D7 a b) [(1,x0,xn 200),(1,x1,xn 200),(1,xn 990,xa x0 (xa (xi x1) (xn 1)))] rfl h0 h1 z
theorem C8c(h0:a=6)(h1:b=6):a+(b+1+1)+1<990:=xh fun z=>xl (D7 a b) [(1,x0,xn 6),(1,x1,xn 6),(1,xn 990,(xa (xa x0 (xa (xi x1) (xn 1))) (xn 1)))] rfl (oE h0) (oE h1) z
theorem C8d(h0:a<=370)(h1:b<=370):0+1+1+1+1+1+1+(a+(0+1+(0+1+1+1+1+1+1+(b+(0+1+(0+1+1+0))))))<=900:=xg fun z=>xl (D7 a b) [(1,x0,xn 370),(1,x1,xn 370),(1,xn 901,(xa (xn 6) (xa x0 (xa (xn 1) (xa (xn 6) (xa x1 (xn 3)))))))] rfl h0 h1 z
theorem C8e(h0:a=b)(h1:c=d)(h2:b=6)(h3:d=6):a+(c+2+1+1)<=899:=xg fun z=>xl (Nt a b c d) [(1,x0,x1),(1,x2,x3),(1,x1,xn 6),(1,x3,xn 6),(1,xn 900,(xa x0 (xa (xa (xa x2 (xn 2)) (xn 1)) (xn 1))))] rfl (oE h0) (oE h1) (oE h2) (oE h3) z
theorem C8f(h0:a<=200):a<=989:=Nat.le_trans h0 (by decide)
theorem C8g(h0:a=6):a+1<990:=xh fun z=>xl (I5 a) [(1,x0,xn 6),(1,xn 990,xi x0)] rfl (oE h0) z
theorem C8h(h0:a<=370):0+1+1+a<=900:=xg fun z=>xl (I5 a) [(1,x0,xn 370),(1,xn 901,xa (xn 2) x0)] rfl h0 z
theorem C8i(h0:a=b)(h1:b=6):a<=899:=xg fun z=>xl (D7 a b) [(1,x0,x1),(1,x1,xn 6),(1,xn 900,x0)] rfl (oE h0) (oE h1) z
theorem C8j:0<24:=Nat.zero_lt_succ 23
theorem C8k(h0:a<24):0<=((a/2:Nat):Int)∧((a/2:Nat):Int)<12:=⟨yg fun z=>yl (Cz (oI (a/2))) [(1,yi y0,yn 0),(1,yn 0,y0)] rfl z (oN (a/2)),yh fun z=>yl (Cr a (oI (a/2))) [(1,yi y0,yn 24),(2,yn 12,y1),(1,ym 2 y1,y0)] rfl (oL h0) z (oL (Nat.mul_div_le a 2))⟩
theorem C8l:((a%2:Nat):Int)=0∨((a%2:Nat):Int)=1:=by first |lia|omega
theorem C8m:0<255:=Nat.zero_lt_succ 254
theorem C8n(h0:a<=0+1)(h1:b<=a+1)(h2:c<=b+1):c<=3:=xg fun z=>xl (Ir a b c) [(1,x0,xn 1),(1,x1,xi x0),(1,x2,xi x1),(1,xn 4,x2)] rfl h0 h1 h2 z
theorem C8o:2+2*a=2*(a+1):=Std.Commutative.comm 2 (2*a)
theorem C8p(h0:a<=10)(h1:a=b+(c+1)):b<=10:=xg fun z=>xl (Ir a b c) [(1,x0,xn 10),(1,xa x1 (xi x2),x0),(1,xn 11,x1)] rfl h0 (oE h1.symm) z
theorem C8q(h0:a<=10):2*a<=20:=xg fun z=>xl (I5 a) [(2,x0,xn 10),(1,xn 21,xm 2 x0)] rfl h0 z
theorem C8r(h0:a<=20):a<16777216:=Nat.lt_of_le_of_lt h0 (by decide)
theorem C8s(h0:a<=20):a+1<16777216:=xh fun z=>xl (I5 a) [(1,x0,xn 20),(1,xn 16777216,xi x0)] rfl h0 z
theorem C8t(h0:a<3):2*a<5:=xh fun z=>xl (I5 a) [(2,xi x0,xn 3),(1,xn 5,xm 2 x0)] rfl h0 z
theorem C8u(h0:a+0=3):3<=(a:Int):=Int.ge_of_eq (congrArg Nat.cast h0)
theorem C8v(h0:a+(b+1)=3):a<3:=xh fun z=>xl (D7 a b) [(1,xa x0 (xi x1),xn 3),(1,xn 3,x0)] rfl (oE h0) z
theorem C8w(h0:a+(b+1)=3):(a:Int)<3:=oT (xh fun z=>xl (D7 a b) [(1,xa x0 (xi x1),xn 3),(1,xn 3,x0)] rfl (oE h0) z)
theorem D42:(-18446744073709551616:Int)<2∧2<18446744073709551616:=⟨yh fun z=>yl (Cz 0) [(1,yn 2,.neg (yn 18446744073709551616))] rfl z,xh fun z=>yl (Cz 0) [(1,yn 18446744073709551616,yn 2)] rfl (oL z)⟩
theorem C8x:2*(a:Int)=((2*a:Nat):Int):=by rfl
theorem C8y:6<=1000:=Nat.le_of_ble_eq_true rfl
theorem C8z:10<=1000:=A65 rfl
theorem C80(h0:a+(b+1)=3):a+1+b=3:=Nat.le_antisymm (xg fun z=>xl (D7 a b) [(1,xa x0 (xi x1),xn 3),(1,xn 4,xa (xi x0) x1)] rfl (oE h0) z) (xg fun z=>xl (D7 a b) [(1,xn 3,xa x0 (xi x1)),(1,xa (xa (xi x0) x1) (xn 1),xn 3)] rfl (oE h0.symm) z)
theorem C81(h0:a+0=2):2<=(a:Int):=Int.ge_of_eq (congrArg Nat.cast h0)
theorem C82(h0:a+(b+1)=2):a<2:=xh fun z=>xl (D7 a b) [(1,xa x0 (xi x1),xn 2),(1,xn 2,x0)] rfl (oE h0) z
theorem C83(h0:a+(b+1)=2):(a:Int)<2:=oT (xh fun z=>xl (D7 a b) [(1,xa x0 (xi x1),xn 2),(1,xn 2,x0)] rfl (oE h0) z)
theorem C84:0+3=3:=by rfl
theorem D43(h0:a<=200):a+(0+1)<=16777216:=Nat.lt_of_lt_of_le (Nat.lt_succ_of_le h0) (Nat.le_add_left (Nat.succ 200) 16777015)
theorem D44(h0:a<=200)(h1:b<=200):a+(0+1)+b<=16777216:=xg fun z=>xl (D7 a b) [(1,x0,xn 200),(1,x1,xn 200),(1,xn 16777217,xa (xi x0) x1)] rfl h0 h1 z
theorem D45(h0:a<=200)(h1:b<=200):0+1+a+(0+1)+b<=16777216:=xg fun z=>xl (D7 a b) [(1,x0,xn 200),(1,x1,xn 200),(1,xn 16777217,(xa (xa (xa (xn 1) x0) (xn 1)) x1))] rfl h0 h1 z
theorem D46(h0:a<=200)(h1:b<=200):0+1+a+(0+1)+b+(0+1)<=16777216:=xg fun z=>xl (D7 a b) [(1,x0,xn 200),(1,x1,xn 200),(1,xn 16777217,(xa (xa (xa (xa (xn 1) x0) (xn 1)) x1) (xn 1)))] rfl h0 h1 z
theorem C85(h0:a<4):(a:Int)<9223372036854775808:=oT (xh fun z=>xl (I5 a) [(1,xi x0,xn 4),(1,xn 9223372036854775808,x0)] rfl h0 z)
theorem C86(h0:a+(b+1)=2):a+1+b=2:=Nat.le_antisymm (xg fun z=>xl (D7 a b) [(1,xa x0 (xi x1),xn 2),(1,xn 3,xa (xi x0) x1)] rfl (oE h0) z) (xg fun z=>xl (D7 a b) [(1,xn 2,xa x0 (xi x1)),(1,xa (xa (xi x0) x1) (xn 1),xn 2)] rfl (oE h0.symm) z)
theorem C87(h0:a<65536)(h1:b<65536)(h2:c<65536)(h3:d=a/256∨d=a%256∨d=b/256∨d=b%256∨d=c/256∨d=c%256):d<256:=by rcases h3 with rfl|rfl|rfl|rfl|rfl|rfl <;> first |exact Nat.mod_lt _ (by decide)|exact Nat.div_lt_of_lt_mul ‹_›
theorem C88:(a:Int)/256=((a/256:Nat):Int):=by rfl
theorem C89:(a:Int)%256=((a%256:Nat):Int):=by rfl
theorem C9a:5<4000:=by (simp;done)
theorem C9b(h0:a<5):a+1<6:=Nat.add_lt_of_lt_sub h0
theorem C9c(h0:a<5):(a:Int)<9223372036854775808:=oT (xh fun z=>xl (I5 a) [(1,xi x0,xn 5),(1,xn 9223372036854775808,x0)] rfl h0 z)
theorem D47(h0:a<256):-18446744073709551616<(a:Int)∧(a:Int)<18446744073709551616:=⟨yh fun z=>yl (Cz a) [(1,y0,.neg (yn 18446744073709551616)),(1,yn 0,y0)] rfl z (oN a),yh fun z=>yl (Cz a) [(1,yi y0,yn 256),(1,yn 18446744073709551616,y0)] rfl (oL h0) z⟩
theorem C9d(h0:a<5):((a+1:Nat):Int)<9223372036854775808:=oT (xh fun z=>xl (I5 a) [(1,xi x0,xn 5),(1,xn 9223372036854775808,xi x0)] rfl h0 z)
theorem C9e:(a:Int)*256+(b:Int)=((a*256+b:Nat):Int):=by rfl
theorem C9f(h0:a<256)(h1:b<256):a*256+b<65536:=xh fun z=>xl (D7 a b) [(256,xi x0,xn 256),(1,xi x1,xn 256),(1,xn 65536,xa (.mulR x0 256) x1)] rfl h0 h1 z
theorem C9g(h0:a<=3):a<100:=Nat.lt_of_le_of_lt h0 (by decide)
theorem C9h:0+2=2:=Nat.zero_add 2
theorem C9i(h0:5<=a):min 5 a=5:=Nat.min_eq_left h0
theorem C9j(h0:¬5<=a):a<=min 5 a:=xg fun z=>yl (Cr (oI (min 5 a)) a) [(1,yi y0,y1),(1,y1,y0)] rfl (oL z) (oL (oE (Nat.min_eq_right (xg fun q2=>yl (Cz a) [(1,yi y0,yn 5),(1,yn 6,y0)] rfl (oL (xh h0)) (oL q2))).symm))
theorem C9k(h0:¬5<=a):a<=5:=Nat.le_of_not_ge h0
theorem C9l{a b:Int}:((a+b)%65536).toNat<65536:=(Int.toNat_lt (Int.emod_nonneg _ (by decide))).mpr (Int.emod_lt_of_pos _ (by decide))
theorem C9m{a b:Int}:((a+b)%56401920).toNat<56401920:=(Int.toNat_lt (Int.emod_nonneg _ (by decide))).mpr (Int.emod_lt_of_pos _ (by decide))
theorem C9n:min 5 a<=5:=Nat.min_le_left 5 a
theorem C9o(h0:a<=5):a<=16777216:=Nat.le_trans h0 (by decide)
theorem C9p(h0:a<=5)(h1:b%a<a):((b%a:Nat):Int)<9223372036854775808:=yh fun z=>yl (Cr a (oI (b%a))) [(1,y0,yn 5),(1,yi y1,y0),(1,yn 9223372036854775808,y1)] rfl (oL h0) (oL h1) z
theorem C9q{a b:Int}:((((a+b)%65536).toNat:Nat):Int)=(a+b)%65536:=Int.toNat_of_nonneg (Int.emod_nonneg _ (by decide))
theorem C9r(h0:a<=5)(h1:(b+3)%a<a):(((b+3)%a:Nat):Int)<9223372036854775808:=yh fun z=>yl (Cr a (oI ((b+3)%a))) [(1,y0,yn 5),(1,yi y1,y0),(1,yn 9223372036854775808,y1)] rfl (oL h0) (oL h1) z
theorem C9s{a b:Int}:((((a+b)%56401920).toNat:Nat):Int)=(a+b)%56401920:=Int.toNat_of_nonneg (Int.emod_nonneg _ (by decide))
theorem C9t(h0:303<=a):1<a:=Nat.lt_of_add_left_lt h0
theorem C9u(h0:63<a):63<(a:Int):=Int.lt_of_toNat_lt h0
theorem C9v(h0:a<=63):a<=1000:=Nat.le_trans h0 (by decide)
end
open PySem in
noncomputable def fnP:Stmt->Arguments × List Stmt × Scope
 | .FunctionDef _ a b _ _ _ sc _ _ _=>(a,b,sc)
 | _=>(⟨[],[],none,[],[],none,[]⟩,[],default)
open PySem in
def Me(s:Stmt):Arguments:=(fnP s).1
open PySem in
def Az(s:Stmt):List Stmt:=(fnP s).2.1
open PySem in
def As(s:Stmt):Scope:=(fnP s).2.2
open PySem in
noncomputable def Ax(i:Nat):Stmt:=PySem.Challenge.pw_in0171_01.main.body.getD i (.Pass default)
end Mine.Internal
end
noncomputable section
open PySem PySem.W PySem.Calls PyProof.Rows
namespace Mine.Internal
local macro_rules | `(tactic|lk)=>`(tactic|first |kernel_rfl|decide+kernel)
local macro_rules | `(tactic|kd_p)=>`(tactic|decide+kernel)
set_option hygiene false in
local macro_rules | `(tactic|kpf_c)=>`(tactic|first |exact Cy hf|replace hp:=D8 hf hp|cases hf)
set_option hygiene false in
local macro_rules | `(tactic|kcf_m)=>`(tactic|refine On fun Gx hGx=>?_)
local macro_rules | `(tactic|w_up)=>`(tactic|repeat z_go)
noncomputable abbrev pw:Program:=PySem.Challenge.pw_in0171_01
local macro_rules | `(tactic|x_go)=>`(tactic|lk)
noncomputable abbrev E:BT:=.nil
noncomputable abbrev N(o:Obj)(a b:BT):BT:=.node o a b
noncomputable abbrev L(o:Obj):BT:=.node o .nil .nil
noncomputable abbrev zs(x:String)(n:Nat):Value:=.str (Str.ofString x) n
abbrev zd(P:Params)(x:String)(n:Nat)(v:Value):DictEntry:=.mk (PyData.keyHash P (Str.ofString x)) (zs x n) v
noncomputable abbrev zr(n:Nat):Value:=.ref n
noncomputable abbrev zi(n:Int):Value:=.int n 0
noncomputable abbrev zb(x:String):Value:=.builtin x
noncomputable abbrev zn:Value:=.none
noncomputable abbrev zt(l:List Value):Obj:=.mk (.type "tuple") none (.seq ⟨l⟩ 0) ⟨[]⟩
abbrev ze:Obj:=.mk zn none (.fields ⟨[]⟩) ⟨[]⟩
abbrev zc(x:String)(a b c:Nat)(d e f g h:Int)(r:Nat)(q:Bool)(i:Int)(v w y z u:Value)(j:Int)(k:Nat):Obj:=.mk (.type "code") none (.fields ⟨[zs x a,zs x b,zs "/claim/cut.py" c,zi d,zi e,zi f,zi g,zi h,zr r,.bool q,zi i,v,w,y,z,u,zi j,zi d,zs "/claim/cut.py" k]⟩) ⟨[]⟩
abbrev zf(x:String)(n:Nat):Obj:=.mk zn none (.func (.mk (Str.ofString x) (Str.ofString x) (Me (Ax n)) (.stmts (Az (Ax n))) (As (Ax n)) 0 [] zn zn zn zn none zn zn 0)) ⟨[]⟩
abbrev zg(x:String)(n k:Nat)(y:String)(a b:Nat):Obj:=.mk (.type "function") none (.func (.mk (Str.ofString x) (Str.ofString x) (Me (Ax n)) (.stmts (Az (Ax n))) (As (Ax n)) k [] zn zn zn (zs y a) none (zr b) zn 0)) ⟨[]⟩
abbrev zwT(v:Value):List Value:=[(zs "=7F" 831),(zs "=80" 835),(zs "=81" 839),(zs "=82" 843),(zs "=83" 847),(zs "=84" 851),(zs "=85" 855),(zs "=86" 859),(zs "=87" 863),(zs "=88" 867),(zs "=89" 871),(zs "=8A" 875),(zs "=8B" 879),(zs "=8C" 883),(zs "=8D" 887),(zs "=8E" 891),(zs "=8F" 895),(zs "=90" 899),(zs "=91" 903),(zs "=92" 907),(zs "=93" 911),(zs "=94" 915),(zs "=95" 919),(zs "=96" 923),(zs "=97" 927),(zs "=98" 931),(zs "=99" 935),(zs "=9A" 939),(zs "=9B" 943),(zs "=9C" 947),(zs "=9D" 951),(zs "=9E" 955),(zs "=9F" 959),(zs "=A0" 963),(zs "=A1" 967),(zs "=A2" 971),(zs "=A3" 975),(zs "=A4" 979),(zs "=A5" 983),(zs "=A6" 987),(zs "=A7" 991),(zs "=A8" 995),(zs "=A9" 999),(zs "=AA" 1003),(zs "=AB" 1007),(zs "=AC" 1011),(zs "=AD" 1015),(zs "=AE" 1019),(zs "=AF" 1023),(zs "=B0" 1027),(zs "=B1" 1031),(zs "=B2" 1035),(zs "=B3" 1039),(zs "=B4" 1043),(zs "=B5" 1047),(zs "=B6" 1051),(zs "=B7" 1055),(zs "=B8" 1059),(zs "=B9" 1063),(zs "=BA" 1067),(zs "=BB" 1071),(zs "=BC" 1075),(zs "=BD" 1079),(zs "=BE" 1083),(zs "=BF" 1087),(zs "=C0" 1091),(zs "=C1" 1095),(zs "=C2" 1099),(zs "=C3" 1103),(zs "=C4" 1107),(zs "=C5" 1111),(zs "=C6" 1115),(zs "=C7" 1119),(zs "=C8" 1123),(zs "=C9" 1127),(zs "=CA" 1131),(zs "=CB" 1135),(zs "=CC" 1139),(zs "=CD" 1143),(zs "=CE" 1147),(zs "=CF" 1151),(zs "=D0" 1155),(zs "=D1" 1159),(zs "=D2" 1163),(zs "=D3" 1167),(zs "=D4" 1171),(zs "=D5" 1175),(zs "=D6" 1179),(zs "=D7" 1183),(zs "=D8" 1187),(zs "=D9" 1191),(zs "=DA" 1195),(zs "=DB" 1199),(zs "=DC" 1203),(zs "=DD" 1207),(zs "=DE" 1211),(zs "=DF" 1215),(zs "=E0" 1219),(zs "=E1" 1223),(zs "=E2" 1227),(zs "=E3" 1231),(zs "=E4" 1235),(zs "=E5" 1239),(zs "=E6" 1243),(zs "=E7" 1247),(zs "=E8" 1251),(zs "=E9" 1255),(zs "=EA" 1259),(zs "=EB" 1263),(zs "=EC" 1267),(zs "=ED" 1271),(zs "=EE" 1275),(zs "=EF" 1279),(zs "=F0" 1283),(zs "=F1" 1287),(zs "=F2" 1291),(zs "=F3" 1295),(zs "=F4" 1299),(zs "=F5" 1303),(zs "=F6" 1307),(zs "=F7" 1311),(zs "=F8" 1315),(zs "=F9" 1319),(zs "=FA" 1323),(zs "=FB" 1327),(zs "=FC" 1331),(zs "=FD" 1335),(zs "=FE" 1339),v]
abbrev zw0(x0:Value):List Value:=[(zs "=00" 323),(zs "=01" 327),(zs "=02" 331),(zs "=03" 335),(zs "=04" 339),(zs "=05" 343),(zs "=06" 347),(zs "=07" 351),(zs "=08" 355),(zs "=09" 359),(zs "=0A" 363),(zs "=0B" 367),(zs "=0C" 371),(zs "=0D" 375),(zs "=0E" 379),(zs "=0F" 383),(zs "=10" 387),(zs "=11" 391),(zs "=12" 395),(zs "=13" 399),(zs "=14" 403),(zs "=15" 407),(zs "=16" 411),(zs "=17" 415),(zs "=18" 419),(zs "=19" 423),(zs "=1A" 427),(zs "=1B" 431),(zs "=1C" 435),(zs "=1D" 439),(zs "=1E" 443),(zs "=1F" 447),(zs "=20" 451),(zs "=21" 455),(zs "=22" 459),(zs "=23" 463),(zs "=24" 467),(zs "=25" 471),(zs "=26" 475),(zs "=27" 479),(zs "=28" 483),(zs "=29" 487),(zs "=2A" 491),(zs "=2B" 495),(zs "=2C" 499),(zs "=2D" 503),(zs "=2E" 507),(zs "=2F" 511),(zs "=30" 515),(zs "=31" 519),(zs "=32" 523),(zs "=33" 527),(zs "=34" 531),(zs "=35" 535),(zs "=36" 539),(zs "=37" 543),(zs "=38" 547),(zs "=39" 551),(zs "=3A" 555),(zs "=3B" 559),(zs "=3C" 563),(zs "=3D" 567),(zs "=3E" 571),(zs "=3F" 575),(zs "=40" 579),(zs "=41" 583),(zs "=42" 587),(zs "=43" 591),(zs "=44" 595),(zs "=45" 599),(zs "=46" 603),(zs "=47" 607),(zs "=48" 611),(zs "=49" 615),(zs "=4A" 619),(zs "=4B" 623),(zs "=4C" 627),(zs "=4D" 631),(zs "=4E" 635),(zs "=4F" 639),(zs "=50" 643),(zs "=51" 647),(zs "=52" 651),(zs "=53" 655),(zs "=54" 659),(zs "=55" 663),(zs "=56" 667),(zs "=57" 671),(zs "=58" 675),(zs "=59" 679),(zs "=5A" 683),(zs "=5B" 687),(zs "=5C" 691),(zs "=5D" 695),(zs "=5E" 699),(zs "=5F" 703),(zs "=60" 707),(zs "=61" 711),(zs "=62" 715),(zs "=63" 719),(zs "=64" 723),(zs "=65" 727),(zs "=66" 731),(zs "=67" 735),(zs "=68" 739),(zs "=69" 743),(zs "=6A" 747),(zs "=6B" 751),(zs "=6C" 755),(zs "=6D" 759),(zs "=6E" 763),(zs "=6F" 767),(zs "=70" 771),(zs "=71" 775),(zs "=72" 779),(zs "=73" 783),(zs "=74" 787),(zs "=75" 791),(zs "=76" 795),(zs "=77" 799),(zs "=78" 803),(zs "=79" 807),(zs "=7A" 811),(zs "=7B" 815),(zs "=7C" 819),(zs "=7D" 823),(zs "=7E" 827)]++zwT x0
abbrev zw1(x0 x1:Value):List Value:=[(zs "=00" 323),(zs "=01" 327),(zs "=02" 331),(zs "=03" 335),(zs "=04" 339),(zs "=05" 343),(zs "=06" 347),(zs "=07" 351),(zs "=08" 355),(zs "=09" 359),(zs "=0A" 363),(zs "=0B" 367),(zs "=0C" 371),(zs "=0D" 375),(zs "=0E" 379),(zs "=0F" 383),(zs "=10" 387),(zs "=11" 391),(zs "=12" 395),(zs "=13" 399),(zs "=14" 403),(zs "=15" 407),(zs "=16" 411),(zs "=17" 415),(zs "=18" 419),(zs "=19" 423),(zs "=1A" 427),(zs "=1B" 431),(zs "=1C" 435),(zs "=1D" 439),(zs "=1E" 443),(zs "=1F" 447),x0,(zs "!" 1369),(zs "=22" 459),(zs "=23" 463),(zs "=24" 467),(zs "=25" 471),(zs "=26" 475),(zs "=27" 479),(zs "=28" 483),(zs "=29" 487),(zs "*" 1372),(zs "+" 1375),(zs "=2C" 499),(zs "-" 1366),(zs "=2E" 507),(zs "/" 1378),(zs "0" 1537),(zs "1" 1540),(zs "2" 1543),(zs "3" 1546),(zs "4" 1549),(zs "5" 1552),(zs "6" 1555),(zs "7" 1558),(zs "8" 1561),(zs "9" 1564),(zs "=3A" 555),(zs "=3B" 559),(zs "=3C" 563),(zs "=3D" 567),(zs "=3E" 571),(zs "=3F" 575),(zs "=40" 579),(zs "A" 1459),(zs "B" 1462),(zs "C" 1465),(zs "D" 1468),(zs "E" 1471),(zs "F" 1474),(zs "G" 1477),(zs "H" 1480),(zs "I" 1483),(zs "J" 1486),(zs "K" 1489),(zs "L" 1492),(zs "M" 1495),(zs "N" 1498),(zs "O" 1501),(zs "P" 1504),(zs "Q" 1507),(zs "R" 1510),(zs "S" 1513),(zs "T" 1516),(zs "U" 1519),(zs "V" 1522),(zs "W" 1525),(zs "X" 1528),(zs "Y" 1531),(zs "Z" 1534),(zs "=5B" 687),(zs "=5C" 691),(zs "=5D" 695),(zs "=5E" 699),(zs "=5F" 703),(zs "=60" 707),(zs "a" 1381),(zs "b" 1384),(zs "c" 1387),(zs "d" 1390),(zs "e" 1393),(zs "f" 1396),(zs "g" 1399),(zs "h" 1402),(zs "i" 1405),(zs "j" 1408),(zs "k" 1411),(zs "l" 1414),(zs "m" 1417),(zs "n" 1420),(zs "o" 1423),(zs "p" 1426),(zs "q" 1429),(zs "r" 1432),(zs "s" 1435),(zs "t" 1438),(zs "u" 1441),(zs "v" 1444),(zs "w" 1447),(zs "x" 1450),(zs "y" 1453),(zs "z" 1456),(zs "=7B" 815),(zs "=7C" 819),(zs "=7D" 823),(zs "=7E" 827)]++zwT x1
abbrev zw2(x0 x1 x2:Value):List Value:=[(zs "=00" 323),(zs "=01" 327),(zs "=02" 331),(zs "=03" 335),(zs "=04" 339),(zs "=05" 343),(zs "=06" 347),(zs "=07" 351),(zs "=08" 355),(zs "\t" 1853),x0,(zs "=0B" 367),(zs "=0C" 371),x1,(zs "=0E" 379),(zs "=0F" 383),(zs "=10" 387),(zs "=11" 391),(zs "=12" 395),(zs "=13" 399),(zs "=14" 403),(zs "=15" 407),(zs "=16" 411),(zs "=17" 415),(zs "=18" 419),(zs "=19" 423),(zs "=1A" 427),(zs "=1B" 431),(zs "=1C" 435),(zs "=1D" 439),(zs "=1E" 443),(zs "=1F" 447),(zs " " 1571),(zs "!" 1574),(zs "\"" 1577),(zs "#" 1580),(zs "$" 1583),(zs "%" 1586),(zs "&" 1589),(zs "'" 1592),(zs "(" 1595),(zs ")" 1598),(zs "*" 1601),(zs "+" 1604),(zs "," 1607),(zs "-" 1610),(zs "." 1613),(zs "/" 1616),(zs "0" 1619),(zs "1" 1622),(zs "2" 1625),(zs "3" 1628),(zs "4" 1631),(zs "5" 1634),(zs "6" 1637),(zs "7" 1640),(zs "8" 1643),(zs "9" 1646),(zs ":" 1649),(zs ";" 1652),(zs "<" 1655),(zs "=3D" 567),(zs ">" 1658),(zs "?" 1661),(zs "@" 1664),(zs "A" 1667),(zs "B" 1670),(zs "C" 1673),(zs "D" 1676),(zs "E" 1679),(zs "F" 1682),(zs "G" 1685),(zs "H" 1688),(zs "I" 1691),(zs "J" 1694),(zs "K" 1697),(zs "L" 1700),(zs "M" 1703),(zs "N" 1706),(zs "O" 1709),(zs "P" 1712),(zs "Q" 1715),(zs "R" 1718),(zs "S" 1721),(zs "T" 1724),(zs "U" 1727),(zs "V" 1730),(zs "W" 1733),(zs "X" 1736),(zs "Y" 1739),(zs "Z" 1742),(zs "[" 1745),(zs "\\" 1748),(zs "]" 1751),(zs "^" 1754),(zs "_" 1757),(zs "`" 1760),(zs "a" 1763),(zs "b" 1766),(zs "c" 1769),(zs "d" 1772),(zs "e" 1775),(zs "f" 1778),(zs "g" 1781),(zs "h" 1784),(zs "i" 1787),(zs "j" 1790),(zs "k" 1793),(zs "l" 1796),(zs "m" 1799),(zs "n" 1802),(zs "o" 1805),(zs "p" 1808),(zs "q" 1811),(zs "r" 1814),(zs "s" 1817),(zs "t" 1820),(zs "u" 1823),(zs "v" 1826),(zs "w" 1829),(zs "x" 1832),(zs "y" 1835),(zs "z" 1838),(zs "{" 1841),(zs "|" 1844),(zs "}" 1847),(zs "~" 1850)]++zwT x2
def U6(P:Params):Obj:=(Obj.mk (Value.type "dict") none (Data.dict ⟨[(zd P "__name__" 1 (zs "builtins" 160)),(zd P "__doc__" 2 (zb "builtins.__doc__:str#opaque")),(zd P "__package__" 3 (zb "builtins.__package__:str#opaque")),(zd P "__loader__" 4 (zb "builtins.__loader__:shared#opaque")),(zd P "__spec__" 5 (zb "builtins.__spec__#opaque")),(zd P "__build_class__" 6 (zb "__build_class__")),(zd P "__import__" 7 (zb "__import__")),(zd P "abs" 8 (zb "abs")),(zd P "all" 9 (zb "all")),(zd P "any" 10 (zb "any")),(zd P "ascii" 11 (zb "ascii")),(zd P "bin" 12 (zb "bin")),(zd P "breakpoint" 13 (zb "breakpoint")),(zd P "callable" 14 (zb "callable")),(zd P "chr" 15 (zb "chr")),(zd P "compile" 16 (zb "compile")),(zd P "delattr" 17 (zb "delattr")),(zd P "dir" 18 (zb "dir")),(zd P "divmod" 19 (zb "divmod")),(zd P "eval" 20 (zb "eval")),(zd P "exec" 21 (zb "exec")),(zd P "format" 22 (zb "format")),(zd P "getattr" 23 (zb "getattr")),(zd P "globals" 24 (zb "globals")),(zd P "hasattr" 25 (zb "hasattr")),(zd P "hash" 26 (zb "hash")),(zd P "hex" 27 (zb "hex")),(zd P "id" 28 (zb "id")),(zd P "input" 29 (zb "input")),(zd P "isinstance" 30 (zb "isinstance")),(zd P "issubclass" 31 (zb "issubclass")),(zd P "iter" 32 (zb "iter")),(zd P "aiter" 33 (zb "aiter")),(zd P "len" 34 (zb "len")),(zd P "locals" 35 (zb "locals")),(zd P "max" 36 (zb "max")),(zd P "min" 37 (zb "min")),(zd P "next" 38 (zb "next")),(zd P "anext" 39 (zb "anext")),(zd P "oct" 40 (zb "oct")),(zd P "ord" 41 (zb "ord")),(zd P "pow" 42 (zb "pow")),(zd P "print" 43 (zb "print")),(zd P "repr" 44 (zb "repr")),(zd P "round" 45 (zb "round")),(zd P "setattr" 46 (zb "setattr")),(zd P "sorted" 47 (zb "sorted")),(zd P "sum" 48 (zb "sum")),(zd P "vars" 49 (zb "vars")),(zd P "None" 50 zn),(zd P "Ellipsis" 51 Value.ellipsis),(zd P "NotImplemented" 52 Value.notImplemented),(zd P "False" 53 (Value.bool false)),(zd P "True" 54 (Value.bool true)),(zd P "bool" 55 (Value.type "bool")),(zd P "memoryview" 56 (Value.type "memoryview")),(zd P "bytearray" 57 (Value.type "bytearray")),(zd P "bytes" 58 (Value.type "bytes")),(zd P "classmethod" 59 (Value.type "classmethod")),(zd P "complex" 60 (Value.type "complex")),(zd P "dict" 61 (Value.type "dict")),(zd P "enumerate" 62 (Value.type "enumerate")),(zd P "filter" 63 (Value.type "filter")),(zd P "float" 64 (Value.type "float")),(zd P "frozenset" 65 (Value.type "frozenset")),(zd P "property" 66 (Value.type "property")),(zd P "int" 67 (Value.type "int")),(zd P "list" 68 (Value.type "list")),(zd P "map" 69 (Value.type "map")),(zd P "object" 70 (Value.type "object")),(zd P "range" 71 (Value.type "range")),(zd P "reversed" 72 (Value.type "reversed")),(zd P "set" 73 (Value.type "set")),(zd P "slice" 74 (Value.type "slice")),(zd P "staticmethod" 75 (Value.type "staticmethod")),(zd P "str" 76 (Value.type "str")),(zd P "super" 77 (Value.type "super")),(zd P "tuple" 78 (Value.type "tuple")),(zd P "type" 79 (Value.type "type")),(zd P "zip" 80 (Value.type "zip")),(zd P "__debug__" 81 (Value.bool true)),(zd P "BaseException" 82 (Value.type "BaseException")),(zd P "BaseExceptionGroup" 83 (Value.type "BaseExceptionGroup")),(zd P "Exception" 84 (Value.type "Exception")),(zd P "GeneratorExit" 85 (Value.type "GeneratorExit")),(zd P "KeyboardInterrupt" 86 (Value.type "KeyboardInterrupt")),(zd P "SystemExit" 87 (Value.type "SystemExit")),(zd P "ArithmeticError" 88 (Value.type "ArithmeticError")),(zd P "AssertionError" 89 (Value.type "AssertionError")),(zd P "AttributeError" 90 (Value.type "AttributeError")),(zd P "BufferError" 91 (Value.type "BufferError")),(zd P "EOFError" 92 (Value.type "EOFError")),(zd P "ImportError" 93 (Value.type "ImportError")),(zd P "LookupError" 94 (Value.type "LookupError")),(zd P "MemoryError" 95 (Value.type "MemoryError")),(zd P "NameError" 96 (Value.type "NameError")),(zd P "OSError" 97 (Value.type "OSError")),(zd P "ReferenceError" 98 (Value.type "ReferenceError")),(zd P "RuntimeError" 99 (Value.type "RuntimeError")),(zd P "StopAsyncIteration" 100 (Value.type "StopAsyncIteration")),(zd P "StopIteration" 101 (Value.type "StopIteration")),(zd P "SyntaxError" 102 (Value.type "SyntaxError")),(zd P "SystemError" 103 (Value.type "SystemError")),(zd P "TypeError" 104 (Value.type "TypeError")),(zd P "ValueError" 105 (Value.type "ValueError")),(zd P "Warning" 106 (Value.type "Warning")),(zd P "FloatingPointError" 107 (Value.type "FloatingPointError")),(zd P "OverflowError" 108 (Value.type "OverflowError")),(zd P "ZeroDivisionError" 109 (Value.type "ZeroDivisionError")),(zd P "BytesWarning" 110 (Value.type "BytesWarning")),(zd P "DeprecationWarning" 111 (Value.type "DeprecationWarning")),(zd P "EncodingWarning" 112 (Value.type "EncodingWarning")),(zd P "FutureWarning" 113 (Value.type "FutureWarning")),(zd P "ImportWarning" 114 (Value.type "ImportWarning")),(zd P "PendingDeprecationWarning" 115 (Value.type "PendingDeprecationWarning")),(zd P "ResourceWarning" 116 (Value.type "ResourceWarning")),(zd P "RuntimeWarning" 117 (Value.type "RuntimeWarning")),(zd P "SyntaxWarning" 118 (Value.type "SyntaxWarning")),(zd P "UnicodeWarning" 119 (Value.type "UnicodeWarning")),(zd P "UserWarning" 120 (Value.type "UserWarning")),(zd P "BlockingIOError" 121 (Value.type "BlockingIOError")),(zd P "ChildProcessError" 122 (Value.type "ChildProcessError")),(zd P "ConnectionError" 123 (Value.type "ConnectionError")),(zd P "FileExistsError" 124 (Value.type "FileExistsError")),(zd P "FileNotFoundError" 125 (Value.type "FileNotFoundError")),(zd P "InterruptedError" 126 (Value.type "InterruptedError")),(zd P "IsADirectoryError" 127 (Value.type "IsADirectoryError")),(zd P "NotADirectoryError" 128 (Value.type "NotADirectoryError")),(zd P "PermissionError" 129 (Value.type "PermissionError")),(zd P "ProcessLookupError" 130 (Value.type "ProcessLookupError")),(zd P "TimeoutError" 131 (Value.type "TimeoutError")),(zd P "IndentationError" 132 (Value.type "IndentationError")),(zd P "_IncompleteInputError" 133 (Value.type "_IncompleteInputError")),(zd P "IndexError" 134 (Value.type "IndexError")),(zd P "KeyError" 135 (Value.type "KeyError")),(zd P "ModuleNotFoundError" 136 (Value.type "ModuleNotFoundError")),(zd P "NotImplementedError" 137 (Value.type "NotImplementedError")),(zd P "PythonFinalizationError" 138 (Value.type "PythonFinalizationError")),(zd P "RecursionError" 139 (Value.type "RecursionError")),(zd P "UnboundLocalError" 140 (Value.type "UnboundLocalError")),(zd P "UnicodeError" 141 (Value.type "UnicodeError")),(zd P "BrokenPipeError" 142 (Value.type "BrokenPipeError")),(zd P "ConnectionAbortedError" 143 (Value.type "ConnectionAbortedError")),(zd P "ConnectionRefusedError" 144 (Value.type "ConnectionRefusedError")),(zd P "ConnectionResetError" 145 (Value.type "ConnectionResetError")),(zd P "TabError" 146 (Value.type "TabError")),(zd P "UnicodeDecodeError" 147 (Value.type "UnicodeDecodeError")),(zd P "UnicodeEncodeError" 148 (Value.type "UnicodeEncodeError")),(zd P "UnicodeTranslateError" 149 (Value.type "UnicodeTranslateError")),(zd P "ExceptionGroup" 150 (Value.type "ExceptionGroup")),(zd P "EnvironmentError" 151 (Value.type "OSError")),(zd P "IOError" 152 (Value.type "OSError")),(zd P "open" 153 (zb "open")),(zd P "quit" 154 (zb "builtins.quit#opaque")),(zd P "exit" 155 (zb "builtins.exit#opaque")),(zd P "copyright" 156 (zb "builtins.copyright#opaque")),(zd P "credits" 157 (zb "builtins.credits#opaque")),(zd P "license" 158 (zb "builtins.license#opaque")),(zd P "help" 159 (zb "builtins.help#opaque"))]⟩ 159) ⟨[]⟩)
def U7(P:Params):Obj:=(Obj.mk (Value.type "dict") none (Data.dict ⟨[(zd P "builtins" 162 (zr 4)),(zd P "__main__" 163 (zr 5)),(zd P "_sre" 244 (zr 12))]⟩ 3) ⟨[]⟩)
def U8(P:Params):Obj:=(Obj.mk zn none (Data.dict ⟨[(zd P "\x69mport.loaded._sre" 183 (Value.bool true)),(zd P "class._frozen_importlib.BuiltinImporter" 185 (zr 14)),(zd P "watched.\x69mport" 206 (zr 18)),(zd P "class._frozen_importlib.ModuleSpec" 216 (zr 22)),(zd P "sys.modules.booked-epoch" 245 (zi 3)),(zd P "\x69mport.later-laid._sre" 270 (Value.bool true)),(zd P "watched.library" 272 (zr 27)),(zd P "watched.library-objects" 0 (zs "\x0c" 0)),(zd P "watched.library-deep._sre" 273 (zs "\x04\x00\x00\x0b\x04\x00\x00\x0b\x04\x00\x00\x03\x04\x00\x00\x0b\x08\x04dict\x02" 0))]⟩ 9) ⟨[]⟩)
def C9w(P:Params):Obj:=(Obj.mk (Value.type "dict") none (Data.dict ⟨[(zd P "__name__" 165 (zs "__main__" 164)),(zd P "__doc__" 166 zn),(zd P "__package__" 167 zn),(zd P "__loader__" 168 (zb "__main__.__loader__#opaque")),(zd P "__spec__" 169 zn),(zd P "__annotations__" 170 (zr 6)),(zd P "__builtins__" 171 (zr 4)),(zd P "__file__" 173 (zs "/claim/cut.py" 172)),(zd P "__cached__" 174 zn),(zd P "_sre" 275 (zr 12))]⟩ 10) ⟨[]⟩)
noncomputable def Q8:Obj:=(Obj.mk (Value.type "module") (some 0) Data.plain ⟨[]⟩)
noncomputable def U9:Obj:=(Obj.mk (Value.type "module") (some 3) Data.plain ⟨[]⟩)
noncomputable def Va:Obj:=(Obj.mk (Value.type "dict") none (Data.dict ⟨[]⟩ 0) ⟨[]⟩)
def Vb:Obj:=zt []
def Vc:Obj:=ze
def Vd:Obj:=zc "<module>" 176 177 178 1 0 0 0 0 7 false 175 (zr 8) zn zn zn zn 179 180
def N5:Obj:=(Obj.mk (Value.type "frame") none Data.plain ⟨[(some (zr 9)),(some (zr 3)),(some (zr 3)),none,(some (zs "__main__" 164)),none,(some (zr 0))]⟩)
def N6(P:Params):Obj:=(Obj.mk (Value.type "dict") none (Data.dict ⟨[(zd P "__name__" 247 (zs "_sre" 246)),(zd P "__doc__" 248 zn),(zd P "__package__" 250 (zs "" 249)),(zd P "__loader__" 251 (zb "off-the-table:_sre.__loader__:shared#opaque")),(zd P "__spec__" 252 (zb "off-the-table:_sre.__spec__:shared#opaque")),(zd P "compile" 253 (zb "_sre.compile")),(zd P "template" 254 (zb "off-the-table:_sre.template:shared#opaque")),(zd P "getcodesize" 255 (zb "off-the-table:_sre.getcodesize:shared#opaque")),(zd P "ascii_iscased" 256 (zb "off-the-table:_sre.ascii_iscased:shared#opaque")),(zd P "unicode_iscased" 257 (zb "off-the-table:_sre.unicode_iscased:shared#opaque")),(zd P "ascii_tolower" 258 (zb "off-the-table:_sre.ascii_tolower:shared#opaque")),(zd P "unicode_tolower" 259 (zb "off-the-table:_sre.unicode_tolower:shared#opaque")),(zd P "MAGIC" 261 (Value.int 20230612 260)),(zd P "CODESIZE" 263 (Value.int 4 262)),(zd P "MAXREPEAT" 265 (Value.int 4294967295 264)),(zd P "MAXGROUPS" 267 (Value.int 1073741823 266)),(zd P "copyright" 269 (zs " SRE 2.2.2 Copyright (c) 1997-2002 by Secret Labs AB " 268))]⟩ 17) ⟨[]⟩)
noncomputable def N7:Obj:=(Obj.mk (Value.type "module") (some 11) Data.plain ⟨[]⟩)
def N8(P:Params):Obj:=(Obj.mk (Value.type "dict") none (Data.dict ⟨[(zd P "__module__" 189 (zs "_frozen_importlib" 186)),(zd P "__firstlineno__" 190 (Value.int 971 187)),(zd P "__doc__" 191 (zb "_frozen_importlib.BuiltinImporter.__doc__:str#opaque")),(zd P "_ORIGIN" 192 (zs "built-in" 188)),(zd P "find_spec" 193 (zb "_frozen_importlib.BuiltinImporter.find_spec#opaque")),(zd P "create_module" 194 (zb "_frozen_importlib.BuiltinImporter.create_module#opaque")),(zd P "exec_module" 195 (zb "_frozen_importlib.BuiltinImporter.exec_module#opaque")),(zd P "get_code" 196 (zb "_frozen_importlib.BuiltinImporter.get_code#opaque")),(zd P "get_source" 197 (zb "_frozen_importlib.BuiltinImporter.get_source#opaque")),(zd P "is_package" 198 (zb "_frozen_importlib.BuiltinImporter.is_package#opaque")),(zd P "load_module" 199 (zb "_frozen_importlib.BuiltinImporter.load_module#opaque")),(zd P "__static_attributes__" 200 (zr 15)),(zd P "__dict__" 202 (zr 16)),(zd P "__weakref__" 204 (zr 17))]⟩ 14) ⟨[]⟩)
def N9:Obj:=(Obj.mk (Value.type "type") none (Data.cls (ClassData.mk (Str.ofString "BuiltinImporter") [(Value.type "object")] [(zr 14),(Value.type "object")] 13 (Str.ofString "BuiltinImporter") true [] [] false none false)) ⟨[]⟩)
def Oa:Obj:=zt []
def Ob:Obj:=(Obj.mk (Value.type "getset_descriptor") none (Data.fields ⟨[(zs "__dict__" 201),(zr 14),(zb "function.__dict__"),(zb "function.__dict__#set")]⟩) ⟨[]⟩)
def Oc:Obj:=(Obj.mk (Value.type "getset_descriptor") none (Data.fields ⟨[(zs "__weakref__" 203),(zr 14),(zb "ExceptionGroup.__weakref__"),zn]⟩) ⟨[]⟩)
def Od:Obj:=(Obj.mk zn none (Data.seq ⟨[(zi 13),(zs "\x06½\n__module__\x06º\x11_frozen_importlib\x06¾\x0f__firstlineno__\x04»\x00ϋ\x06¿\x07__doc__\t4_frozen_importlib.BuiltinImporter.__doc__:str#opaque\x06À\x07_ORIGIN\x06¼\x08built-in\x06Á\tfind_spec\t2_frozen_importlib.BuiltinImporter.find_spec#opaque\x06Â\x0dcreate_module\t6_frozen_importlib.BuiltinImporter.create_module#opaque\x06Ã\x0bexec_module\t4_frozen_importlib.BuiltinImporter.exec_module#opaque\x06Ä\x08get_code\t1_frozen_importlib.BuiltinImporter.get_code#opaque\x06Å\nget_source\t3_frozen_importlib.BuiltinImporter.get_source#opaque\x06Æ\nis_package\t3_frozen_importlib.BuiltinImporter.is_package#opaque\x06Ç\x0bload_module\t4_frozen_importlib.BuiltinImporter.load_module#opaque\x06È\x15__static_attributes__\x04\x00\x00\x0f\x06Ê\x08__dict__\x04\x00\x00\x10\x06Ì\x0b__weakref__\x04\x00\x00\x11" 0),(Value.bool true),(Value.bool true),(zs "" 205),(zi 21),(zs "\x06ã\n__module__\x06Ù\x11_frozen_importlib\x06ä\x0f__firstlineno__\x04Ú\x00Ȳ\x06å\x07__doc__\t/_frozen_importlib.ModuleSpec.__doc__:str#opaque\x06æ\x08__init__\t,_frozen_importlib.ModuleSpec.__init__#opaque\x06ç\x08__repr__\t,_frozen_importlib.ModuleSpec.__repr__#opaque\x06è\x06__eq__\t*_frozen_importlib.ModuleSpec.__eq__#opaque\x06é\x06cached\t*_frozen_importlib.ModuleSpec.cached#opaque\x06ê\x06parent\t*_frozen_importlib.ModuleSpec.parent#opaque\x06ë\x0chas_location\t0_frozen_importlib.ModuleSpec.has_location#opaque\x06ì\x15__static_attributes__\x04\x00\x00\x17\x06î\x08__dict__\x04\x00\x00\x18\x06ð\x0b__weakref__\x04\x00\x00\x19\x06ñ\x08__hash__\x00" 0),(Value.bool true),(Value.bool true),(zs "" 242)]⟩ 1) ⟨[]⟩)
noncomputable def Oe:Obj:=(Obj.mk (Value.type "list") none (Data.seq ⟨[]⟩ 0) ⟨[]⟩)
def Of(P:Params):Obj:=(Obj.mk (Value.type "dict") none (Data.dict ⟨[(zd P "name" 208 (zs "_sre" 207)),(zd P "loader" 209 (zr 14)),(zd P "origin" 210 (zs "built-in" 184)),(zd P "loader_state" 211 zn),(zd P "submodule_search_locations" 212 zn),(zd P "_uninitialized_submodules" 213 (zr 19)),(zd P "_set_fileattr" 214 (Value.bool false)),(zd P "_cached" 215 zn),(zd P "_initializing" 243 (Value.bool false))]⟩ 9) ⟨[]⟩)
def Og(P:Params):Obj:=(Obj.mk (Value.type "dict") none (Data.dict ⟨[(zd P "__module__" 227 (zs "_frozen_importlib" 217)),(zd P "__firstlineno__" 228 (Value.int 562 218)),(zd P "__doc__" 229 (zb "_frozen_importlib.ModuleSpec.__doc__:str#opaque")),(zd P "__init__" 230 (zb "_frozen_importlib.ModuleSpec.__init__#opaque")),(zd P "__repr__" 231 (zb "_frozen_importlib.ModuleSpec.__repr__#opaque")),(zd P "__eq__" 232 (zb "_frozen_importlib.ModuleSpec.__eq__#opaque")),(zd P "cached" 233 (zb "_frozen_importlib.ModuleSpec.cached#opaque")),(zd P "parent" 234 (zb "_frozen_importlib.ModuleSpec.parent#opaque")),(zd P "has_location" 235 (zb "_frozen_importlib.ModuleSpec.has_location#opaque")),(zd P "__static_attributes__" 236 (zr 23)),(zd P "__dict__" 238 (zr 24)),(zd P "__weakref__" 240 (zr 25)),(zd P "__hash__" 241 zn)]⟩ 13) ⟨[]⟩)
def Oh:Obj:=(Obj.mk (Value.type "type") none (Data.cls (ClassData.mk (Str.ofString "ModuleSpec") [(Value.type "object")] [(zr 22),(Value.type "object")] 21 (Str.ofString "ModuleSpec") true [] [] false none false)) ⟨[]⟩)
def Oi:Obj:=zt [(zs "_cached" 219),(zs "_set_fileattr" 220),(zs "_uninitialized_submodules" 221),(zs "loader" 222),(zs "loader_state" 223),(zs "name" 224),(zs "origin" 225),(zs "submodule_search_locations" 226)]
def Oj:Obj:=(Obj.mk (Value.type "getset_descriptor") none (Data.fields ⟨[(zs "__dict__" 237),(zr 22),(zb "function.__dict__"),(zb "function.__dict__#set")]⟩) ⟨[]⟩)
def Ok:Obj:=(Obj.mk (Value.type "getset_descriptor") none (Data.fields ⟨[(zs "__weakref__" 239),(zr 22),(zb "ExceptionGroup.__weakref__"),zn]⟩) ⟨[]⟩)
def Ol:Obj:=(Obj.mk (zr 22) (some 20) Data.plain ⟨[]⟩)
def Om:Obj:=(Obj.mk zn none (Data.seq ⟨[(zi 11),(Value.str (Str.mk ⟨[6,247,8,95,95,110,97,109,101,95,95,6,246,4,95,115,114,101,6,248,7,95,95,100,111,99,95,95,0,6,250,11,95,95,112,97,99,107,97,103,101,95,95,6,249,0,6,251,10,95,95,108,111,97,100,101,114,95,95,4,0,0,14,6,252,8,95,95,115,112,101,99,95,95,4,0,0,26,6,253,7,99,111,109,112,105,108,101,9,12,95,115,114,101,46,99,111,109,112,105,108,101,6,254,8,116,101,109,112,108,97,116,101,9,13,95,115,114,101,46,116,101,109,112,108,97,116,101,6,255,11,103,101,116,99,111,100,101,115,105,122,101,9,16,95,115,114,101,46,103,101,116,99,111,100,101,115,105,122,101,6,256,13,97,115,99,105,105,95,105,115,99,97,115,101,100,9,18,95,115,114,101,46,97,115,99,105,105,95,105,115,99,97,115,101,100,6,257,15,117,110,105,99,111,100,101,95,105,115,99,97,115,101,100,9,20,95,115,114,101,46,117,110,105,99,111,100,101,95,105,115,99,97,115,101,100,6,258,13,97,115,99,105,105,95,116,111,108,111,119,101,114,9,18,95,115,114,101,46,97,115,99,105,105,95,116,111,108,111,119,101,114,6,259,15,117,110,105,99,111,100,101,95,116,111,108,111,119,101,114,9,20,95,115,114,101,46,117,110,105,99,111,100,101,95,116,111,108,111,119,101,114,6,261,5,77,65,71,73,67,4,260,0,20230612,6,263,8,67,79,68,69,83,73,90,69,4,262,0,4,6,265,9,77,65,88,82,69,80,69,65,84,4,264,0,4294967295,6,267,9,77,65,88,71,82,79,85,80,83,4,266,0,1073741823,6,269,9,99,111,112,121,114,105,103,104,116,6,268,53,32,83,82,69,32,50,46,50,46,50,32,67,111,112,121,114,105,103,104,116,32,40,99,41,32,49,57,57,55,45,50,48,48,50,32,98,121,32,83,101,99,114,101,116,32,76,97,98,115,32,65,66,32]⟩) 0),(Value.bool true),(Value.bool false),(zs "_sre" 271)]⟩ 0) ⟨[]⟩)
def H0(P:Params):Heap:=⟨⟨[U6 P,U7 P,U8 P,C9w P,Q8,U9,Va,Vb,Vc,Vd,N5,N6 P,N7,N8 P,N9,Oa,Ob,Oc,Od,Oe,Of P,Og P,Oh,Oi,Oj,Ok,Ol,Om]⟩,(Life.mk [] [] [] 0 [] [] false ⟨[]⟩ [] 0 false false false 0 [2000,10,10] false 0 true [] [] 0 false)⟩
noncomputable abbrev d0:Drawn:=(Drawn.mk 0 0 0 0)
def Qj:Obj:=zt []
def A1i:Obj:=ze
def Qk:Obj:=zc "<module>" 277 278 279 1 0 0 0 0 28 false 276 (zr 29) zn zn zn zn 280 281
def Ql:Obj:=(Obj.mk (Value.type "frame") none Data.plain ⟨[(some (zr 30)),(some (zr 3)),(some (zr 3)),none,(some (zs "__main__" 164)),none,(some (zr 0))]⟩)
def T1(P:Params):BT:=(N (U6 P) (N (U7 P) (N (C9w P) (N Vb (N Oa (L Ql) E) (L Oi)) (N (N6 P) (L Oe) (L Om))) (N U9 (N Vd (L Oc) (L Ok)) (N (N8 P) (L (Og P)) (L A1i)))) (N (U8 P) (N Q8 (N Vc (L Ob) (L Oj)) (N N7 (L (Of P)) (L Qj))) (N Va (N N5 (L Od) (L Ol)) (N N9 (L Oh) (L Qk)))))
def S1(w:World)(os:OsState):SharedT:=⟨T1 w.params,32,(Life.mk [] [] [] 0 [] [] false ⟨[]⟩ [] 0 false false false 0 [2000,10,10] false 0 true [] [] 0 false),⟨[]⟩,(Drawn.mk 0 0 0 0),282,os⟩
def D2n(P:Params):Obj:=(Obj.mk (Value.type "dict") none (Data.dict ⟨[(zd P "__name__" 165 (zs "__main__" 164)),(zd P "__doc__" 166 zn),(zd P "__package__" 167 zn),(zd P "__loader__" 168 (zb "__main__.__loader__#opaque")),(zd P "__spec__" 169 zn),(zd P "__annotations__" 170 (zr 6)),(zd P "__builtins__" 171 (zr 4)),(zd P "__file__" 173 (zs "/claim/cut.py" 172)),(zd P "__cached__" 174 zn),(zd P "_sre" 275 (zr 12)),(zd P "twin_re_1_quoprimime" 316 (zr 36)),(zd P "_QUOPRI_MAP" 1344 (zr 39))]⟩ 12) ⟨[]⟩)
noncomputable def Sj:Obj:=(Obj.mk (Value.type "list") none (Data.seq ⟨[(Value.int 14 285),(Value.int 8 286),(Value.int 1 287),(Value.int 3 288),(Value.int 3 289),(Value.int 1 290),(Value.int 1 291),(Value.int 61 292),(Value.int 0 293),(Value.int 16 294),(Value.int 61 295),(Value.int 24 296),(Value.int 16 297),(Value.int 2 298),(Value.int 2 299),(Value.int 13 300),(Value.int 11 301),(Value.int 9 302),(Value.int 0 303),(Value.int 67043328 304),(Value.int 126 305),(Value.int 126 306),(Value.int 0 307),(Value.int 0 308),(Value.int 0 309),(Value.int 0 310),(Value.int 0 311),(Value.int 1 312),(Value.int 1 313)]⟩ 0) ⟨[]⟩)
noncomputable def Sk:Obj:=(Obj.mk (Value.type "dict") none (Data.dict ⟨[]⟩ 0) ⟨[]⟩)
def Sl:Obj:=zt [zn]
def Qm:Obj:=zt [(zi 14),(zi 8),(zi 1),(zi 3),(zi 3),(zi 1),(zi 1),(zi 61),(zi 0),(zi 16),(zi 61),(zi 24),(zi 16),(zi 2),(zi 2),(zi 13),(zi 11),(zi 9),(zi 0),(zi 67043328),(zi 126),(zi 126),(zi 0),(zi 0),(zi 0),(zi 0),(zi 0),(zi 1),(zi 1)]
def Qo:Obj:=(Obj.mk (Value.type "re.Pattern") none (Data.fields ⟨[(zs "=[a-fA-F0-9]{2}" 283),(Value.int 256 315),(zi 0),zn,zn,(zr 35),(zi 0)]⟩) ⟨[]⟩)
noncomputable def Sm:Obj:=(Obj.mk (Value.type "range") none (Data.fields ⟨[(Value.int 0 318),(Value.int 256 317),(Value.int 1 319)]⟩) ⟨[]⟩)
def Sn:Obj:=(Obj.mk (Value.type "range_iterator") none (Data.fields ⟨[(zi 256),(zi 0),(zi 1)]⟩) ⟨[]⟩)
def So:Obj:=(Obj.mk (Value.type "list") none (Data.seq ⟨zw0 (zs "=FF" 1343)⟩ 256) ⟨[]⟩)
noncomputable def Sp:Obj:=(Obj.mk (Value.type "dict") none (Data.dict ⟨[]⟩ 2) ⟨[]⟩)
def Sq:Obj:=zt []
def Sr:Obj:=(Obj.mk (Value.type "StopIteration") none (Data.fields ⟨[(zr 41),zn,zn,zn,(Value.bool false),zn]⟩) ⟨[]⟩)
def T2(P:Params):BT:=(N (U6 P) (N (U7 P) (N (D2n P) (N Vb (N Oa (L Ql) E) (N Oi (L So) E)) (N (N6 P) (N Oe (L Qm) E) (L Om))) (N U9 (N Vd (N Oc (L Sk) E) (N Ok (L Sq) E)) (N (N8 P) (N (Og P) (L Sm) E) (L A1i)))) (N (U8 P) (N Q8 (N Vc (N Ob (L Sj) E) (N Oj (L Sp) E)) (N N7 (N (Of P) (L Qo) E) (L Qj))) (N Va (N N5 (N Od (L Sl) E) (N Ol (L Sr) E)) (N N9 (N Oh (L Sn) E) (L Qk)))))
def S2(w:World)(os:OsState):SharedT:=⟨T2 w.params,43,(Life.mk [] [] [] 0 [] [] false ⟨[]⟩ [] 0 false false false 0 [2000,10,10] false 0 true [] [] 0 false),⟨[]⟩,(Drawn.mk 0 0 0 0),1345,os⟩
def D2o(P:Params):Obj:=(Obj.mk (Value.type "dict") none (Data.dict ⟨[(zd P "__name__" 165 (zs "cpy313.email.quoprimime" 1355)),(zd P "__doc__" 166 zn),(zd P "__package__" 167 zn),(zd P "__loader__" 168 (zb "__main__.__loader__#opaque")),(zd P "__spec__" 169 zn),(zd P "__annotations__" 170 (zr 6)),(zd P "__builtins__" 171 (zr 4)),(zd P "__file__" 173 (zs "/claim/cut.py" 172)),(zd P "__cached__" 174 zn),(zd P "_sre" 275 (zr 12)),(zd P "twin_re_1_quoprimime" 316 (zr 36)),(zd P "_QUOPRI_MAP" 1344 (zr 39)),(zd P "_QUOPRI_HEADER_MAP" 1345 (zr 44)),(zd P "_QUOPRI_BODY_MAP" 1346 (zr 46)),(zd P "ascii_lowercase" 1348 (zs "abcdefghijklmnopqrstuvwxyz" 1347)),(zd P "ascii_uppercase" 1350 (zs "ABCDEFGHIJKLMNOPQRSTUVWXYZ" 1349)),(zd P "ascii_letters" 1352 (zs "abcdefghijklmnopqrstuvwxyzABCDEFGHIJKLMNOPQRSTUVWXYZ" 1351)),(zd P "digits" 1354 (zs "0123456789" 1353)),(zd P "c" 1365 (Value.int 57 1562))]⟩ 19) ⟨[]⟩)
def Xq:Obj:=(Obj.mk (Value.type "slice") none (Data.fields ⟨[zn,zn,zn]⟩) ⟨[]⟩)
def C9x:Obj:=(Obj.mk (Value.type "list") none (Data.seq ⟨zw1 (zs "=20" 451) (zs "=FF" 1343)⟩ 0) ⟨[]⟩)
def Xr:Obj:=(Obj.mk (Value.type "slice") none (Data.fields ⟨[zn,zn,zn]⟩) ⟨[]⟩)
def C9y:Obj:=(Obj.mk (Value.type "list") none (Data.seq ⟨zw0 (zs "=FF" 1343)⟩ 0) ⟨[]⟩)
def Xs:Obj:=(Obj.mk (Value.type "bytes_iterator") none (Data.fields ⟨[zn,(zi 67)]⟩) ⟨[]⟩)
def Xu:Obj:=zt []
def Xv:Obj:=(Obj.mk (Value.type "StopIteration") none (Data.fields ⟨[(zr 48),zn,zn,zn,(Value.bool false),zn]⟩) ⟨[]⟩)
def T3(P:Params):BT:=(N (U6 P) (N (U7 P) (N (D2o P) (N Vb (N Oa (L Ql) (L Xs)) (N Oi (L So) E)) (N (N6 P) (N Oe (L Qm) E) (N Om (L Xq) E))) (N U9 (N Vd (N Oc (L Sk) (L Xv)) (N Ok (L Sq) E)) (N (N8 P) (N (Og P) (L Sm) E) (N A1i (L Xr) E)))) (N (U8 P) (N Q8 (N Vc (N Ob (L Sj) (L Xu)) (N Oj (L Sp) E)) (N N7 (N (Of P) (L Qo) E) (N Qj (L C9x) E))) (N Va (N N5 (N Od (L Sl) E) (N Ol (L Sr) E)) (N N9 (N Oh (L Sn) E) (N Qk (L C9y) E)))))
def S3(w:World)(os:OsState):SharedT:=⟨T3 w.params,50,(Life.mk [] [] [] 0 [] [] false ⟨[]⟩ [] 0 false false false 0 [2000,10,10] false 0 true [] [] 0 false),⟨[]⟩,(Drawn.mk 0 0 0 0),1565,os⟩
def D2p(P:Params):Obj:=(Obj.mk (Value.type "dict") none (Data.dict ⟨[(zd P "__name__" 165 (zs "re" 1940)),(zd P "__doc__" 166 zn),(zd P "__package__" 167 zn),(zd P "__loader__" 168 (zb "__main__.__loader__#opaque")),(zd P "__spec__" 169 zn),(zd P "__annotations__" 170 (zr 6)),(zd P "__builtins__" 171 (zr 4)),(zd P "__file__" 173 (zs "/claim/cut.py" 172)),(zd P "__cached__" 174 zn),(zd P "_sre" 275 (zr 12)),(zd P "twin_re_1_quoprimime" 316 (zr 36)),(zd P "_QUOPRI_MAP" 1344 (zr 39)),(zd P "_QUOPRI_HEADER_MAP" 1345 (zr 44)),(zd P "_QUOPRI_BODY_MAP" 1346 (zr 46)),(zd P "ascii_lowercase" 1348 (zs "abcdefghijklmnopqrstuvwxyz" 1347)),(zd P "ascii_uppercase" 1350 (zs "ABCDEFGHIJKLMNOPQRSTUVWXYZ" 1349)),(zd P "ascii_letters" 1352 (zs "abcdefghijklmnopqrstuvwxyzABCDEFGHIJKLMNOPQRSTUVWXYZ" 1351)),(zd P "digits" 1354 (zs "0123456789" 1353)),(zd P "unquote" 1860 (zr 59)),(zd P "quote" 1867 (zr 66)),(zd P "_QUOPRI_BODY_ENCODE_MAP" 1868 (zr 68)),(zd P "_unquote_match" 1883 (zr 78)),(zd P "header_decode" 1890 (zr 85)),(zd P "twin_re_1_fnmatch" 1930 (zr 90)),(zd P "translate" 1939 (zr 97))]⟩ 27) ⟨[]⟩)
def A9h:Obj:=(Obj.mk zn none (Data.fields ⟨[(zi 16),(zi 0),(zr 58),(zi 18),(zi 0),(zr 65),(zi 24),(zi 0),(zr 77),(zi 27),(zi 0),(zr 84),(zi 32),(zi 0),(zr 96)]⟩) ⟨[]⟩)
def A1j:Obj:=(Obj.mk (Value.type "list") none (Data.seq ⟨zw1 (zs "_" 1565) (zs "=FF" 1343)⟩ 0) ⟨[]⟩)
def A1k:Obj:=(Obj.mk (Value.type "list") none (Data.seq ⟨zw2 (zs "=0A" 363) (zs "=0D" 375) (zs "=FF" 1343)⟩ 0) ⟨[]⟩)
def A1l:Obj:=(Obj.mk (Value.type "bytes_iterator") none (Data.fields ⟨[zn,(zi 95)]⟩) ⟨[]⟩)
def A1m:Obj:=zt []
def A1n:Obj:=(Obj.mk (Value.type "StopIteration") none (Data.fields ⟨[(zr 51),zn,zn,zn,(Value.bool false),zn]⟩) ⟨[]⟩)
def A1o:Obj:=zt []
def A1p:Obj:=ze
def A1q:Obj:=zt [(zs "s" 1857)]
def A1r:Obj:=zt []
def A1s:Obj:=zf "unquote" 13
def Xw:Obj:=zc "unquote" 1854 1855 1856 16 1 0 0 3 53 true 276 (zr 54) zn (zr 55) (zr 56) (zr 57) 1858 1859
def Xx:Obj:=zg "unquote" 13 3 "cpy313.email.quoprimime" 1355 58
def A1t:Obj:=zt []
def A1u:Obj:=ze
def A1v:Obj:=zt [(zs "c" 1864)]
def A1w:Obj:=zt []
def A1x:Obj:=zf "quote" 14
def Xy:Obj:=zc "quote" 1861 1862 1863 18 1 0 0 3 60 true 276 (zr 61) zn (zr 62) (zr 63) (zr 64) 1865 1866
def Xz:Obj:=zg "quote" 14 3 "cpy313.email.quoprimime" 1355 65
def A1y:Obj:=(Obj.mk (Value.type "slice") none (Data.fields ⟨[zn,zn,zn]⟩) ⟨[]⟩)
def A1z:Obj:=(Obj.mk (Value.type "list") none (Data.seq ⟨zw2 (zs "\n" 1875) (zs "\x0d" 1872) (zs "=FF" 1343)⟩ 0) ⟨[]⟩)
def A10:Obj:=(Obj.mk (Value.type "bytes_iterator") none (Data.fields ⟨[zn,(zi 2)]⟩) ⟨[]⟩)
def A11:Obj:=zt []
def A12:Obj:=(Obj.mk (Value.type "StopIteration") none (Data.fields ⟨[(zr 70),zn,zn,zn,(Value.bool false),zn]⟩) ⟨[]⟩)
def A13:Obj:=zt []
def A14:Obj:=ze
def A15:Obj:=zt [(zs "match" 1879),(zs "s" 1880)]
def A16:Obj:=zt []
def A17:Obj:=zf "_unquote_match" 18
def X0:Obj:=zc "_unquote_match" 1876 1877 1878 24 1 0 0 3 72 true 276 (zr 73) zn (zr 74) (zr 75) (zr 76) 1881 1882
def X1:Obj:=zg "_unquote_match" 18 3 "cpy313.email.quoprimime" 1355 77
def A18:Obj:=zt []
def A19:Obj:=ze
def A2a:Obj:=zt [(zs "s" 1887)]
def A2b:Obj:=zt []
def A2c:Obj:=zf "header_decode" 19
def X2:Obj:=zc "header_decode" 1884 1885 1886 27 1 0 0 3 79 true 276 (zr 80) zn (zr 81) (zr 82) (zr 83) 1888 1889
def X3:Obj:=zg "header_decode" 19 3 "cpy313.email.quoprimime" 1355 84
noncomputable def A2d:Obj:=(Obj.mk (Value.type "list") none (Data.seq ⟨[(Value.int 14 1896),(Value.int 14 1897),(Value.int 4 1898),(Value.int 1 1899),(Value.int 1 1900),(Value.int 9 1901),(Value.int 0 1902),(Value.int 64 1903),(Value.int 0 1904),(Value.int 1342177280 1905),(Value.int 0 1906),(Value.int 0 1907),(Value.int 0 1908),(Value.int 0 1909),(Value.int 0 1910),(Value.int 17 1911),(Value.int 0 1912),(Value.int 13 1913),(Value.int 11 1914),(Value.int 9 1915),(Value.int 0 1916),(Value.int 64 1917),(Value.int 0 1918),(Value.int 1342177280 1919),(Value.int 0 1920),(Value.int 0 1921),(Value.int 0 1922),(Value.int 0 1923),(Value.int 0 1924),(Value.int 17 1925),(Value.int 1 1926),(Value.int 1 1927)]⟩ 0) ⟨[]⟩)
noncomputable def A2e:Obj:=(Obj.mk (Value.type "dict") none (Data.dict ⟨[]⟩ 0) ⟨[]⟩)
def A2f:Obj:=zt [zn,zn]
def X4:Obj:=zt [(zi 14),(zi 14),(zi 4),(zi 1),(zi 1),(zi 9),(zi 0),(zi 64),(zi 0),(zi 1342177280),(zi 0),(zi 0),(zi 0),(zi 0),(zi 0),(zi 17),(zi 0),(zi 13),(zi 11),(zi 9),(zi 0),(zi 64),(zi 0),(zi 1342177280),(zi 0),(zi 0),(zi 0),(zi 0),(zi 0),(zi 17),(zi 1),(zi 1)]
def X5:Obj:=(Obj.mk (Value.type "re.Pattern") none (Data.fields ⟨[(zs "([&~|])" 1894),(Value.int 32 1929),(zi 1),zn,zn,(zr 89),(zi 0)]⟩) ⟨[]⟩)
def A2g:Obj:=zt []
def A2h:Obj:=ze
def A2i:Obj:=zt [(zs "pat" 1934),(zs "STAR" 1935),(zs "parts" 1936)]
def A2j:Obj:=zt []
def A2k:Obj:=zf "translate" 22
def X6:Obj:=zc "translate" 1931 1932 1933 32 1 0 0 3 91 true 276 (zr 92) zn (zr 93) (zr 94) (zr 95) 1937 1938
def X7:Obj:=zg "translate" 22 3 "cpy313.fnmatch" 1891 96
def T4(P:Params):BT:=(N (U6 P) (N (U7 P) (N (D2p P) (N Vb (N Oa (N Ql (L A1w) (L A2k)) (N Xs (L A18) E)) (N Oi (N So (L A12) E) (N A1q (L A2e) E))) (N (N6 P) (N Oe (N Qm (L A1y) E) (N A1m (L A2c) E)) (N Om (N Xq (L A16) E) (N Xx (L A2g) E)))) (N U9 (N Vd (N Oc (N Sk (L Xy) (L X7)) (N Xv (L A2a) E)) (N Ok (N Sq (L A14) E) (N A1s (L X4) E))) (N (N8 P) (N (Og P) (N Sm (L A10) E) (N A1o (L X3) E)) (N A9h (N Xr (L X0) E) (N A1u (L A2i) E))))) (N (U8 P) (N Q8 (N Vc (N Ob (N Sj (L A1x) (L X6)) (N Xu (L A19) E)) (N Oj (N Sp (L A13) E) (N A1r (L A2f) E))) (N N7 (N (Of P) (N Qo (L A1z) E) (N A1n (L X2) E)) (N Qj (N A1j (L A17) E) (N A1t (L A2h) E)))) (N Va (N N5 (N Od (N Sl (L Xz) E) (N A1l (L A2b) E)) (N Ol (N Sr (L A15) E) (N Xw (L X5) E))) (N N9 (N Oh (N Sn (L A11) E) (N A1p (L A2d) E)) (N Qk (N A1k (L X1) E) (N A1v (L A2j) E))))))
def S4(w:World)(os:OsState):SharedT:=⟨T4 w.params,98,(Life.mk [] [] [] 0 [] [] false ⟨[]⟩ [] 0 false false false 0 [2000,10,10] false 0 true [] [] 0 false),⟨[]⟩,(Drawn.mk 0 0 0 0),1942,os⟩
def D2q(P:Params):Obj:=(Obj.mk (Value.type "dict") none (Data.dict ⟨[(zd P "__name__" 165 (zs "re" 1940)),(zd P "__doc__" 166 zn),(zd P "__package__" 167 zn),(zd P "__loader__" 168 (zb "__main__.__loader__#opaque")),(zd P "__spec__" 169 zn),(zd P "__annotations__" 170 (zr 6)),(zd P "__builtins__" 171 (zr 4)),(zd P "__file__" 173 (zs "/claim/cut.py" 172)),(zd P "__cached__" 174 zn),(zd P "_sre" 275 (zr 12)),(zd P "twin_re_1_quoprimime" 316 (zr 36)),(zd P "_QUOPRI_MAP" 1344 (zr 39)),(zd P "_QUOPRI_HEADER_MAP" 1345 (zr 44)),(zd P "_QUOPRI_BODY_MAP" 1346 (zr 46)),(zd P "ascii_lowercase" 1348 (zs "abcdefghijklmnopqrstuvwxyz" 1347)),(zd P "ascii_uppercase" 1350 (zs "ABCDEFGHIJKLMNOPQRSTUVWXYZ" 1349)),(zd P "ascii_letters" 1352 (zs "abcdefghijklmnopqrstuvwxyzABCDEFGHIJKLMNOPQRSTUVWXYZ" 1351)),(zd P "digits" 1354 (zs "0123456789" 1353)),(zd P "unquote" 1860 (zr 59)),(zd P "quote" 1867 (zr 66)),(zd P "_QUOPRI_BODY_ENCODE_MAP" 1868 (zr 68)),(zd P "_unquote_match" 1883 (zr 78)),(zd P "header_decode" 1890 (zr 85)),(zd P "twin_re_1_fnmatch" 1930 (zr 90)),(zd P "translate" 1939 (zr 97)),(zd P "_special_chars_map" 2087 (zr 99))]⟩ 28) ⟨[]⟩)
def A9i:Obj:=(Obj.mk (Value.type "bytes_iterator") none (Data.fields ⟨[zn,(zi 24)]⟩) ⟨[]⟩)
def o99v0:Obj:=(Obj.mk (Value.type "dict") none (Data.dict ⟨[(DictEntry.mk 40 (Value.int 40 1943) (zs "\\(" 1947)),(DictEntry.mk 41 (Value.int 41 1949) (zs "\\)" 1953)),(DictEntry.mk 91 (Value.int 91 1955) (zs "\\[" 1959)),(DictEntry.mk 93 (Value.int 93 1961) (zs "\\]" 1965)),(DictEntry.mk 123 (Value.int 123 1967) (zs "\\{" 1971)),(DictEntry.mk 125 (Value.int 125 1973) (zs "\\}" 1977)),(DictEntry.mk 63 (Value.int 63 1979) (zs "\\?" 1983)),(DictEntry.mk 42 (Value.int 42 1985) (zs "\\*" 1989)),(DictEntry.mk 43 (Value.int 43 1991) (zs "\\+" 1995)),(DictEntry.mk 45 (Value.int 45 1997) (zs "\\-" 2001)),(DictEntry.mk 124 (Value.int 124 2003) (zs "\\|" 2007)),(DictEntry.mk 94 (Value.int 94 2009) (zs "\\^" 2013)),(DictEntry.mk 36 (Value.int 36 2015) (zs "\\$" 2019)),(DictEntry.mk 92 (Value.int 92 2021) (zs "\\\\" 2025)),(DictEntry.mk 46 (Value.int 46 2027) (zs "\\." 2031)),(DictEntry.mk 38 (Value.int 38 2033) (zs "\\&" 2037)),(DictEntry.mk 126 (Value.int 126 2039) (zs "\\~" 2043)),(DictEntry.mk 35 (Value.int 35 2045) (zs "\\#" 2049)),(DictEntry.mk 32 (Value.int 32 2051) (zs "\\ " 2055)),(DictEntry.mk 9 (Value.int 9 2057) (zs "\\\t" 2061)),(DictEntry.mk 10 (Value.int 10 2063) (zs "\\\n" 2067)),(DictEntry.mk 13 (Value.int 13 2069) (zs "\\\x0d" 2073)),(DictEntry.mk 11 (Value.int 11 2075) (zs "\\\x0b" 2079)),(DictEntry.mk 12 (Value.int 12 2081) (zs "\\\x0c" 2085))]⟩ 24) ⟨[]⟩)
noncomputable def A2l:Obj:=(Obj.mk (Value.type "dict") none (Data.dict ⟨[]⟩ 2) ⟨[]⟩)
def A2m:Obj:=zt []
def A2n:Obj:=(Obj.mk (Value.type "StopIteration") none (Data.fields ⟨[(zr 101),zn,zn,zn,(Value.bool false),zn]⟩) ⟨[]⟩)
def T5(P:Params):BT:=(N (U6 P) (N (U7 P) (N (D2q P) (N Vb (N Oa (N Ql (L A1w) (L A2k)) (N Xs (L A18) E)) (N Oi (N So (L A12) E) (N A1q (L A2e) E))) (N (N6 P) (N Oe (N Qm (L A1y) (L o99v0)) (N A1m (L A2c) E)) (N Om (N Xq (L A16) E) (N Xx (L A2g) E)))) (N U9 (N Vd (N Oc (N Sk (L Xy) (L X7)) (N Xv (L A2a) E)) (N Ok (N Sq (L A14) E) (N A1s (L X4) E))) (N (N8 P) (N (Og P) (N Sm (L A10) (L A2m)) (N A1o (L X3) E)) (N A9h (N Xr (L X0) E) (N A1u (L A2i) E))))) (N (U8 P) (N Q8 (N Vc (N Ob (N Sj (L A1x) (L X6)) (N Xu (L A19) E)) (N Oj (N Sp (L A13) E) (N A1r (L A2f) E))) (N N7 (N (Of P) (N Qo (L A1z) (L A2l)) (N A1n (L X2) E)) (N Qj (N A1j (L A17) E) (N A1t (L A2h) E)))) (N Va (N N5 (N Od (N Sl (L Xz) (L A9i)) (N A1l (L A2b) E)) (N Ol (N Sr (L A15) E) (N Xw (L X5) E))) (N N9 (N Oh (N Sn (L A11) (L A2n)) (N A1p (L A2d) E)) (N Qk (N A1k (L X1) E) (N A1v (L A2j) E))))))
def S5(w:World)(os:OsState):SharedT:=⟨T5 w.params,103,(Life.mk [] [] [] 0 [] [] false ⟨[]⟩ [] 0 false false false 0 [2000,10,10] false 0 true [] [] 0 false),⟨[]⟩,(Drawn.mk 0 0 0 0),2088,os⟩
def A68(P:Params):Obj:=(Obj.mk (Value.type "dict") none (Data.dict ⟨[(zd P "__name__" 165 (zs "law_in0171_01" 2270)),(zd P "__doc__" 166 zn),(zd P "__package__" 167 zn),(zd P "__loader__" 168 (zb "__main__.__loader__#opaque")),(zd P "__spec__" 169 zn),(zd P "__annotations__" 170 (zr 6)),(zd P "__builtins__" 171 (zr 4)),(zd P "__file__" 173 (zs "/claim/cut.py" 172)),(zd P "__cached__" 174 zn),(zd P "_sre" 275 (zr 12)),(zd P "twin_re_1_quoprimime" 316 (zr 36)),(zd P "_QUOPRI_MAP" 1344 (zr 39)),(zd P "_QUOPRI_HEADER_MAP" 1345 (zr 44)),(zd P "_QUOPRI_BODY_MAP" 1346 (zr 46)),(zd P "ascii_lowercase" 1348 (zs "abcdefghijklmnopqrstuvwxyz" 1347)),(zd P "ascii_uppercase" 1350 (zs "ABCDEFGHIJKLMNOPQRSTUVWXYZ" 1349)),(zd P "ascii_letters" 1352 (zs "abcdefghijklmnopqrstuvwxyzABCDEFGHIJKLMNOPQRSTUVWXYZ" 1351)),(zd P "digits" 1354 (zs "0123456789" 1353)),(zd P "unquote" 1860 (zr 59)),(zd P "quote" 1867 (zr 66)),(zd P "_QUOPRI_BODY_ENCODE_MAP" 1868 (zr 68)),(zd P "_unquote_match" 1883 (zr 78)),(zd P "header_decode" 1890 (zr 85)),(zd P "twin_re_1_fnmatch" 1930 (zr 90)),(zd P "translate" 1939 (zr 97)),(zd P "_special_chars_map" 2087 (zr 99)),(zd P "escape" 2094 (zr 109)),(zd P "_translate" 2115 (zr 116)),(zd P "_join_translated_parts" 2128 (zr 123)),(zd P "S_IMODE" 2137 (zr 130)),(zd P "S_IFMT" 2144 (zr 137)),(zd P "S_IFDIR" 2146 (Value.int 16384 2145)),(zd P "S_IFCHR" 2148 (Value.int 8192 2147)),(zd P "S_IFBLK" 2150 (Value.int 24576 2149)),(zd P "S_IFREG" 2152 (Value.int 32768 2151)),(zd P "S_IFIFO" 2154 (Value.int 4096 2153)),(zd P "S_IFLNK" 2156 (Value.int 40960 2155)),(zd P "S_IFSOCK" 2158 (Value.int 49152 2157)),(zd P "S_ISDIR" 2165 (zr 144)),(zd P "S_ISCHR" 2172 (zr 151)),(zd P "S_ISBLK" 2179 (zr 158)),(zd P "S_ISREG" 2186 (zr 165)),(zd P "S_ISFIFO" 2193 (zr 172)),(zd P "S_ISLNK" 2200 (zr 179)),(zd P "S_ISSOCK" 2207 (zr 186)),(zd P "S_ISUID" 2209 (Value.int 2048 2208)),(zd P "S_ISGID" 2211 (Value.int 1024 2210)),(zd P "S_ISVTX" 2213 (Value.int 512 2212)),(zd P "S_IRUSR" 2215 (Value.int 256 2214)),(zd P "S_IWUSR" 2217 (Value.int 128 2216)),(zd P "S_IXUSR" 2219 (Value.int 64 2218)),(zd P "S_IRGRP" 2221 (Value.int 32 2220)),(zd P "S_IWGRP" 2223 (Value.int 16 2222)),(zd P "S_IXGRP" 2225 (Value.int 8 2224)),(zd P "S_IROTH" 2227 (Value.int 4 2226)),(zd P "S_IWOTH" 2229 (Value.int 2 2228)),(zd P "S_IXOTH" 2231 (Value.int 1 2230)),(zd P "_filemode_table" 2257 (zr 219)),(zd P "filemode" 2269 (zr 226)),(zd P "_law_listed" 2283 (zr 233)),(zd P "_law_set" 2289 (zr 238)),(zd P "_law_read" 2295 (zr 243)),(zd P "_law_fits" 2305 (zr 250)),(zd P "_law_takes" 2316 (zr 257)),(zd P "_law_question" 2322 (zr 262)),(zd P "_law_holds" 2328 (zr 267)),(zd P "_law_bracket" 2334 (zr 272)),(zd P "_law_figures" 2340 (zr 277)),(zd P "_law_columns" 2346 (zr 282)),(zd P "_law_kinds" 2352 (zr 287)),(zd P "_law_row" 2358 (zr 292)),(zd P "_law_run" 2364 (zr 297)),(zd P "law" 2370 (zr 302))]⟩ 75) ⟨[]⟩)
def C9z:Obj:=(Obj.mk zn none (Data.fields ⟨[(zi 16),(zi 0),(zr 58),(zi 18),(zi 0),(zr 65),(zi 24),(zi 0),(zr 77),(zi 27),(zi 0),(zr 84),(zi 32),(zi 0),(zr 96),(zi 38),(zi 0),(zr 108),(zi 45),(zi 0),(zr 115),(zi 107),(zi 0),(zr 122),(zi 135),(zi 0),(zr 129),(zi 137),(zi 0),(zr 136),(zi 146),(zi 0),(zr 143),(zi 148),(zi 0),(zr 150),(zi 150),(zi 0),(zr 157),(zi 152),(zi 0),(zr 164),(zi 154),(zi 0),(zr 171),(zi 156),(zi 0),(zr 178),(zi 158),(zi 0),(zr 185),(zi 173),(zi 0),(zr 225),(zi 191),(zi 0),(zr 232),(zi 198),(zi 0),(zr 237),(zi 214),(zi 0),(zr 242),(zi 246),(zi 0),(zr 249),(zi 253),(zi 0),(zr 256),(zi 265),(zi 0),(zr 261),(zi 272),(zi 0),(zr 266),(zi 276),(zi 0),(zr 271),(zi 291),(zi 0),(zr 276),(zi 301),(zi 0),(zr 281),(zi 311),(zi 0),(zr 286),(zi 316),(zi 0),(zr 291),(zi 322),(zi 0),(zr 296),(zi 343),(zi 0),(zr 301)]⟩) ⟨[]⟩)
def B0s:Obj:=zt []
def B0t:Obj:=ze
def B0u:Obj:=zt [(zs "pattern" 2091)]
def B0v:Obj:=zt []
def B0w:Obj:=zf "escape" 25
def A2o:Obj:=zc "escape" 2088 2089 2090 38 1 0 0 3 103 true 276 (zr 104) zn (zr 105) (zr 106) (zr 107) 2092 2093
def A2p:Obj:=zg "escape" 25 3 "re" 1940 108
def B0x:Obj:=zt []
def I6:Obj:=ze
def B0y:Obj:=zt [(zs "pat" 2100),(zs "STAR" 2101),(zs "QUESTION_MARK" 2102),(zs "res" 2103),(zs "add" 2104),(zs "i" 2105),(zs "n" 2106),(zs "c" 2107),(zs "j" 2108),(zs "stuff" 2109),(zs "chunks" 2110),(zs "k" 2111),(zs "chunk" 2112)]
def B0z:Obj:=zt []
def B00:Obj:=zf "_translate" 27
def Kz:Obj:=zc "_translate" 2097 2098 2099 45 3 0 0 3 110 true 276 (zr 111) zn (zr 112) (zr 113) (zr 114) 2113 2114
def A2q:Obj:=zg "_translate" 27 3 "cpy313.fnmatch" 2095 115
def B01:Obj:=zt []
def B02:Obj:=ze
def B03:Obj:=zt [(zs "inp" 2119),(zs "STAR" 2120),(zs "res" 2121),(zs "add" 2122),(zs "i" 2123),(zs "n" 2124),(zs "fixed" 2125)]
def B04:Obj:=zt []
def B05:Obj:=zf "_join_translated_parts" 28
def A2r:Obj:=zc "_join_translated_parts" 2116 2117 2118 107 2 0 0 3 117 true 276 (zr 118) zn (zr 119) (zr 120) (zr 121) 2126 2127
def A2s:Obj:=zg "_join_translated_parts" 28 3 "cpy313.fnmatch" 2095 122
def B06:Obj:=zt []
def B07:Obj:=ze
def B08:Obj:=zt [(zs "mode" 2134)]
def B09:Obj:=zt []
def B1a:Obj:=(Obj.mk zn none (Data.func (FuncData.mk (Str.ofString "S_IMODE") (Str.ofString "S_IMODE") (Me (Ax 30)) (FuncBody.stmts (Az (Ax 30))) (As (Ax 31)) 0 [] zn zn zn zn none zn zn 0)) ⟨[]⟩)
def A2t:Obj:=zc "S_IMODE" 2131 2132 2133 135 1 0 0 3 124 true 276 (zr 125) zn (zr 126) (zr 127) (zr 128) 2135 2136
def A2u:Obj:=(Obj.mk (Value.type "function") none (Data.func (FuncData.mk (Str.ofString "S_IMODE") (Str.ofString "S_IMODE") (Me (Ax 30)) (FuncBody.stmts (Az (Ax 30))) (As (Ax 31)) 3 [] zn zn zn (zs "cpy313.stat" 2129) none (zr 129) zn 0)) ⟨[]⟩)
def B1b:Obj:=zt []
def B1c:Obj:=ze
def B1d:Obj:=zt [(zs "mode" 2141)]
def B1e:Obj:=zt []
def B1f:Obj:=zf "S_IFMT" 31
def A2v:Obj:=zc "S_IFMT" 2138 2139 2140 137 1 0 0 3 131 true 276 (zr 132) zn (zr 133) (zr 134) (zr 135) 2142 2143
def A2w:Obj:=zg "S_IFMT" 31 3 "cpy313.stat" 2129 136
def B1g:Obj:=zt []
def B1h:Obj:=ze
def B1i:Obj:=zt [(zs "mode" 2162)]
def B1j:Obj:=zt []
def B1k:Obj:=zf "S_ISDIR" 39
def A2x:Obj:=zc "S_ISDIR" 2159 2160 2161 146 1 0 0 3 138 true 276 (zr 139) zn (zr 140) (zr 141) (zr 142) 2163 2164
def A2y:Obj:=zg "S_ISDIR" 39 3 "cpy313.stat" 2129 143
def B1l:Obj:=zt []
def B1m:Obj:=ze
def B1n:Obj:=zt [(zs "mode" 2169)]
def B1o:Obj:=zt []
def B1p:Obj:=zf "S_ISCHR" 40
def A2z:Obj:=zc "S_ISCHR" 2166 2167 2168 148 1 0 0 3 145 true 276 (zr 146) zn (zr 147) (zr 148) (zr 149) 2170 2171
def A20:Obj:=zg "S_ISCHR" 40 3 "cpy313.stat" 2129 150
def B1q:Obj:=zt []
def B1r:Obj:=ze
def B1s:Obj:=zt [(zs "mode" 2176)]
def B1t:Obj:=zt []
def B1u:Obj:=zf "S_ISBLK" 41
def A21:Obj:=zc "S_ISBLK" 2173 2174 2175 150 1 0 0 3 152 true 276 (zr 153) zn (zr 154) (zr 155) (zr 156) 2177 2178
def A22:Obj:=zg "S_ISBLK" 41 3 "cpy313.stat" 2129 157
def B1v:Obj:=zt []
def B1w:Obj:=ze
def B1x:Obj:=zt [(zs "mode" 2183)]
def B1y:Obj:=zt []
def B1z:Obj:=zf "S_ISREG" 42
def A23:Obj:=zc "S_ISREG" 2180 2181 2182 152 1 0 0 3 159 true 276 (zr 160) zn (zr 161) (zr 162) (zr 163) 2184 2185
def A24:Obj:=zg "S_ISREG" 42 3 "cpy313.stat" 2129 164
def B10:Obj:=zt []
def B11:Obj:=ze
def B12:Obj:=zt [(zs "mode" 2190)]
def B13:Obj:=zt []
def B14:Obj:=zf "S_ISFIFO" 43
def A25:Obj:=zc "S_ISFIFO" 2187 2188 2189 154 1 0 0 3 166 true 276 (zr 167) zn (zr 168) (zr 169) (zr 170) 2191 2192
def A26:Obj:=zg "S_ISFIFO" 43 3 "cpy313.stat" 2129 171
def B15:Obj:=zt []
def B16:Obj:=ze
def B17:Obj:=zt [(zs "mode" 2197)]
def B18:Obj:=zt []
def B19:Obj:=zf "S_ISLNK" 44
def A27:Obj:=zc "S_ISLNK" 2194 2195 2196 156 1 0 0 3 173 true 276 (zr 174) zn (zr 175) (zr 176) (zr 177) 2198 2199
def A28:Obj:=zg "S_ISLNK" 44 3 "cpy313.stat" 2129 178
def B2a:Obj:=zt []
def B2b:Obj:=ze
def B2c:Obj:=zt [(zs "mode" 2204)]
def B2d:Obj:=zt []
def B2e:Obj:=zf "S_ISSOCK" 45
def A29:Obj:=zc "S_ISSOCK" 2201 2202 2203 158 1 0 0 3 180 true 276 (zr 181) zn (zr 182) (zr 183) (zr 184) 2205 2206
def A3a:Obj:=zg "S_ISSOCK" 45 3 "cpy313.stat" 2129 185
def B2f:Obj:=zt [(Value.int 40960 2155),(zs "l" 2232)]
def B2g:Obj:=zt [(Value.int 49152 2157),(zs "s" 2233)]
def B2h:Obj:=zt [(Value.int 32768 2151),(zs "-" 2234)]
def B2i:Obj:=zt [(Value.int 24576 2149),(zs "b" 2235)]
def B2j:Obj:=zt [(Value.int 16384 2145),(zs "d" 2236)]
def B2k:Obj:=zt [(Value.int 8192 2147),(zs "c" 2237)]
def B2l:Obj:=zt [(Value.int 4096 2153),(zs "p" 2238)]
def B2m:Obj:=zt [(zr 187),(zr 188),(zr 189),(zr 190),(zr 191),(zr 192),(zr 193)]
def B2n:Obj:=zt [(Value.int 256 2214),(zs "r" 2239)]
def B2o:Obj:=zt [(zr 195)]
def B2p:Obj:=zt [(Value.int 128 2216),(zs "w" 2240)]
def B2q:Obj:=zt [(zr 197)]
def B2r:Obj:=zt [(Value.int 2112 2241),(zs "s" 2242)]
def B2s:Obj:=zt [(Value.int 2048 2208),(zs "S" 2243)]
def B2t:Obj:=zt [(Value.int 64 2218),(zs "x" 2244)]
def B2u:Obj:=zt [(zr 199),(zr 200),(zr 201)]
def B2v:Obj:=zt [(Value.int 32 2220),(zs "r" 2245)]
def B2w:Obj:=zt [(zr 203)]
def B2x:Obj:=zt [(Value.int 16 2222),(zs "w" 2246)]
def B2y:Obj:=zt [(zr 205)]
def B2z:Obj:=zt [(Value.int 1032 2247),(zs "s" 2248)]
def B20:Obj:=zt [(Value.int 1024 2210),(zs "S" 2249)]
def B21:Obj:=zt [(Value.int 8 2224),(zs "x" 2250)]
def B22:Obj:=zt [(zr 207),(zr 208),(zr 209)]
def B23:Obj:=zt [(Value.int 4 2226),(zs "r" 2251)]
def B24:Obj:=zt [(zr 211)]
def B25:Obj:=zt [(Value.int 2 2228),(zs "w" 2252)]
def B26:Obj:=zt [(zr 213)]
def B27:Obj:=zt [(Value.int 513 2253),(zs "t" 2254)]
def B28:Obj:=zt [(Value.int 512 2212),(zs "T" 2255)]
def B29:Obj:=zt [(Value.int 1 2230),(zs "x" 2256)]
def B3a:Obj:=zt [(zr 215),(zr 216),(zr 217)]
def B3b:Obj:=zt [(zr 194),(zr 196),(zr 198),(zr 202),(zr 204),(zr 206),(zr 210),(zr 212),(zr 214),(zr 218)]
def B3c:Obj:=zt []
def B3d:Obj:=ze
def B3e:Obj:=zt [(zs "mode" 2261),(zs "perm" 2262),(zs "index" 2263),(zs "table" 2264),(zs "bit" 2265),(zs "char" 2266)]
def B3f:Obj:=zt []
def B3g:Obj:=zf "filemode" 59
def A3b:Obj:=zc "filemode" 2258 2259 2260 173 1 0 0 3 220 true 276 (zr 221) zn (zr 222) (zr 223) (zr 224) 2267 2268
def A3c:Obj:=zg "filemode" 59 3 "cpy313.stat" 2129 225
def B3h:Obj:=zt []
def B3i:Obj:=ze
def B3j:Obj:=zt [(zs "mode" 2275),(zs "told" 2276),(zs "k" 2277),(zs "figure" 2278),(zs "above" 2279),(zs "ends" 2280)]
def B3k:Obj:=zt []
def B3l:Obj:=zf "_law_listed" 61
def A3d:Obj:=zc "_law_listed" 2272 2273 2274 191 1 0 0 3 227 true 276 (zr 228) zn (zr 229) (zr 230) (zr 231) 2281 2282
def A3e:Obj:=zg "_law_listed" 61 3 "law_in0171_01" 2270 232
def B3m:Obj:=zt []
def B3n:Obj:=ze
def B3o:Obj:=zf "_law_set" 62
def A3f:Obj:=zc "_law_set" 2284 2285 2286 198 1 0 0 3 234 true 276 (zr 235) zn zn zn (zr 236) 2287 2288
def A3g:Obj:=zg "_law_set" 62 3 "law_in0171_01" 2270 237
def B3p:Obj:=zt []
def B3q:Obj:=ze
def B3r:Obj:=zf "_law_read" 63
def A3h:Obj:=zc "_law_read" 2290 2291 2292 214 1 0 0 3 239 true 276 (zr 240) zn zn zn (zr 241) 2293 2294
def A3i:Obj:=zg "_law_read" 63 3 "law_in0171_01" 2270 242
def B3s:Obj:=zt []
def B3t:Obj:=ze
def B3u:Obj:=zt [(zs "atoms" 2299),(zs "name" 2300),(zs "at" 2301),(zs "k" 2302)]
def B3v:Obj:=zt []
def B3w:Obj:=zf "_law_fits" 64
def A3j:Obj:=zc "_law_fits" 2296 2297 2298 246 3 0 0 3 244 true 276 (zr 245) zn (zr 246) (zr 247) (zr 248) 2303 2304
def A3k:Obj:=zg "_law_fits" 64 3 "law_in0171_01" 2270 249
def B3x:Obj:=zt []
def B3y:Obj:=ze
def B3z:Obj:=zt [(zs "parts" 2309),(zs "name" 2310),(zs "at" 2311),(zs "kind" 2312),(zs "atoms" 2313)]
def B30:Obj:=zt []
def B31:Obj:=zf "_law_takes" 65
def A3l:Obj:=zc "_law_takes" 2306 2307 2308 253 2 0 0 3 251 true 276 (zr 252) zn (zr 253) (zr 254) (zr 255) 2314 2315
def A3m:Obj:=zg "_law_takes" 65 3 "law_in0171_01" 2270 256
def B32:Obj:=zt []
def B33:Obj:=ze
def B34:Obj:=zf "_law_question" 66
def A3n:Obj:=zc "_law_question" 2317 2318 2319 265 1 0 0 3 258 true 276 (zr 259) zn zn zn (zr 260) 2320 2321
def A3o:Obj:=zg "_law_question" 66 3 "law_in0171_01" 2270 261
def B35:Obj:=zt []
def B36:Obj:=ze
def B37:Obj:=zf "_law_holds" 67
def A3p:Obj:=zc "_law_holds" 2323 2324 2325 272 2 0 0 3 263 true 276 (zr 264) zn zn zn (zr 265) 2326 2327
def A3q:Obj:=zg "_law_holds" 67 3 "law_in0171_01" 2270 266
def B38:Obj:=zt []
def B39:Obj:=ze
def B4a:Obj:=zf "_law_bracket" 68
def A3r:Obj:=zc "_law_bracket" 2329 2330 2331 276 3 0 0 3 268 true 276 (zr 269) zn zn zn (zr 270) 2332 2333
def A3s:Obj:=zg "_law_bracket" 68 3 "law_in0171_01" 2270 271
def B4b:Obj:=zt []
def B4c:Obj:=ze
def B4d:Obj:=zf "_law_figures" 69
def A3t:Obj:=zc "_law_figures" 2335 2336 2337 291 1 0 0 3 273 true 276 (zr 274) zn zn zn (zr 275) 2338 2339
def A3u:Obj:=zg "_law_figures" 69 3 "law_in0171_01" 2270 276
def B4e:Obj:=zt []
def B4f:Obj:=ze
def B4g:Obj:=zf "_law_columns" 70
def A3v:Obj:=zc "_law_columns" 2341 2342 2343 301 1 0 0 3 278 true 276 (zr 279) zn zn zn (zr 280) 2344 2345
def A3w:Obj:=zg "_law_columns" 70 3 "law_in0171_01" 2270 281
def B4h:Obj:=zt []
def B4i:Obj:=ze
def B4j:Obj:=zf "_law_kinds" 71
def A3x:Obj:=zc "_law_kinds" 2347 2348 2349 311 2 0 0 3 283 true 276 (zr 284) zn zn zn (zr 285) 2350 2351
def A3y:Obj:=zg "_law_kinds" 71 3 "law_in0171_01" 2270 286
def B4k:Obj:=zt []
def B4l:Obj:=ze
def B4m:Obj:=zf "_law_row" 72
def A3z:Obj:=zc "_law_row" 2353 2354 2355 316 3 0 0 3 288 true 276 (zr 289) zn zn zn (zr 290) 2356 2357
def A30:Obj:=zg "_law_row" 72 3 "law_in0171_01" 2270 291
def B4n:Obj:=zt []
def B4o:Obj:=ze
def B4p:Obj:=zf "_law_run" 73
def A31:Obj:=zc "_law_run" 2359 2360 2361 322 2 0 0 3 293 true 276 (zr 294) zn zn zn (zr 295) 2362 2363
def A32:Obj:=zg "_law_run" 73 3 "law_in0171_01" 2270 296
def B4q:Obj:=zt []
def B4r:Obj:=ze
def B4s:Obj:=zf "law" 74
def A33:Obj:=zc "law" 2365 2366 2367 343 1 0 0 3 298 true 276 (zr 299) zn zn zn (zr 300) 2368 2369
def Q9:Obj:=zg "law" 74 3 "law_in0171_01" 2270 301
def T6(P:Params):BT:=(N (U6 P) (N (U7 P) (N (A68 P) (N Vb (N Oa (N Ql (N A1w (N B09 (L B31) E) (L B2j)) (N A2k (N B1v (L A3y) E) (L B3f))) (N Xs (N A18 (N A2x (L A3r) E) (L B2z)) (N I6 (L B17) (L B3p)))) (N Oi (N So (N A12 (N B1f (L B35) E) (L B2r)) (N B0s (N B11 (L B4p) E) (L B3l))) (N A1q (N A2e (N A20 (L B4f) E) (L B27)) (N B03 (L B2d) (L B3v))))) (N (N6 P) (N Oe (N Qm (N A1y (N B1b (L B33) E) (L B2n)) (N o99v0 (N B1z (L A3z) E) (L B3h))) (N A1m (N A2c (N B1n (L B4d) E) (L B23)) (N Kz (L A28) (L A3i)))) (N Om (N Xq (N A16 (N B1h (L A3q) E) (L B2v)) (N B0w (N A25 (L B4r) E) (L B3n))) (N Xx (N A2g (N B1t (L B4h) E) (L B3b)) (N A2s (L B2f) (L B3x)))))) (N U9 (N Vd (N Oc (N Sk (N Xy (N A2t (L A3m) E) (L B2l)) (N X7 (N B1x (L B4l) E) (L A3b))) (N Xv (N A2a (N B1l (L B4b) E) (L B21)) (N B0z (L B19) (L B3r)))) (N Ok (N Sq (N A14 (N A2w (L B37) E) (L B2t)) (N B0u (N B13 (L A32) E) (L A3e))) (N A1s (N X4 (N B1r (L A3v) E) (L B29)) (N B05 (L A29) (L A3j))))) (N (N8 P) (N (Og P) (N Sm (N A10 (N B1d (L A3n) E) (L B2p)) (N A2m (N A24 (L B4n) E) (L B3j))) (N A1o (N X3 (N B1p (L A3u) E) (L B25)) (N B01 (L B2b) (L B3t)))) (N C9z (N Xr (N X0 (N B1j (L B39) E) (L B2x)) (N A2p (N B15 (L A33) E) (L A3f))) (N A1u (N A2i (N A21 (L B4j) E) (L B3d)) (N B07 (L B2h) (L B3z))))))) (N (U8 P) (N Q8 (N Vc (N Ob (N Sj (N A1x (N B1a (L A3l) E) (L B2k)) (N X6 (N B1w (L B4k) E) (L B3g))) (N Xu (N A19 (N A2y (L A3s) E) (L B20)) (N B0y (L B18) (L B3q)))) (N Oj (N Sp (N A13 (N A2v (L B36) E) (L B2s)) (N B0t (N B12 (L A31) E) (L A3d))) (N A1r (N A2f (N B1q (L B4g) E) (L B28)) (N B04 (L B2e) (L B3w))))) (N N7 (N (Of P) (N Qo (N A1z (N B1c (L B34) E) (L B2o)) (N A2l (N A23 (L A30) E) (L B3i))) (N A1n (N X2 (N B1o (L A3t) E) (L B24)) (N A2q (L B2a) (L B3s)))) (N Qj (N A1j (N A17 (N B1i (L B38) E) (L B2w)) (N A2o (N A26 (L B4s) E) (L B3o))) (N A1t (N A2h (N B1u (L B4i) E) (L B3c)) (N B06 (L B2g) (L B3y)))))) (N Va (N N5 (N Od (N Sl (N Xz (N A2u (L B32) E) (L B2m)) (N A9i (N B1y (L B4m) E) (L A3c))) (N A1l (N A2b (N B1m (L B4c) E) (L B22)) (N B00 (L A27) (L A3h)))) (N Ol (N Sr (N A15 (N B1g (L A3p) E) (L B2u)) (N B0v (N B14 (L B4q) E) (L B3m))) (N Xw (N X5 (N B1s (L A3w) E) (L B3a)) (N A2r (L A3a) (L A3k))))) (N N9 (N Oh (N Sn (N A11 (N B1e (L A3o) E) (L B2q)) (N A2n (N B10 (L B4o) E) (L B3k))) (N A1p (N A2d (N A2z (L B4e) E) (L B26)) (N B02 (L B2c) (L B3u)))) (N Qk (N A1k (N X1 (N B1k (L B4a) E) (L B2y)) (N B0x (N B16 (L Q9) E) (L A3g))) (N A1v (N A2j (N A22 (L A3x) E) (L B3e)) (N B08 (L B2i) (L B30))))))))
def S6(w:World)(os:OsState):SharedT:=⟨T6 w.params,303,(Life.mk [] [] [] 0 [] [] false ⟨[]⟩ [] 0 false false false 0 [2000,10,10] false 0 true [] [] 0 false),⟨[]⟩,(Drawn.mk 0 0 0 0),2371,os⟩
theorem C90(w:World):(fencedOpening treeTable pw w 40100).map (fun s=>(s.heap,s.gens,s.drawn,s.toks))=some (H0 w.params,⟨[]⟩,d0,276):=by
 unfold fencedOpening;rw[Fast.te10274390034422433532,Fast.te14364793385576792824,Fast.te1435165496053646825,Fast.te14289696077712309145]
 lk
noncomputable abbrev Zc:Env:={scope:=pw.main.scope,locals:=mainNs,globals:=mainNs,cells:=[],code:=.ref 30,frame:=some 31}
abbrev bd:List Stmt:=behindTheImports pw
abbrev cE:Code:=.body bd Zc
noncomputable abbrev ann:Option Value:=some (.ref 6)
noncomputable abbrev po:Pos:=⟨0,0,0,0⟩
theorem D2r(w:World)(os:OsState):topGo treeTable pw w 28 ann 12 ⟨H0 w.params,⟨[]⟩,d0,276,os⟩ (topStub pw)=some ((S1 w os).abs,⟨denote treeTable cE,cE,po,[topFrame po]⟩):=by
 rw[Fast.te15667345088766844465,Fast.te14364793385576792824,Fast.te11892475500146522536]
 lk
theorem D2s(w:World)(os:OsState):segRun treeTable pw w 28 ann 1 1 (S1 w os).abs (blockOf bd Zc cE po [topFrame po])=some (.next,(S1 w os).abs,cE,po):=by
 rw[Fast.te14374325043358763698,Fast.te14364793385576792824]
 lk
theorem D2t(w:World):(fun os=>segRunT treeTable pw w 28 ann 1 1145 (S5 w os) (piecesOf (bd.drop 24) Zc cE ⟨37,0,37,18⟩ [topFrame po]))=fun os=>some (.next,S6 w os,cE,⟨343,0,351,20⟩):=by
 rw[Fast.te10110043849684766642,Fast.te14364793385576792824]
 lk
def G5(w:World):Prop:=(fun os=>segRunT treeTable pw w 28 ann 1 1255 (S4 w os) (piecesOf ((bd.drop 23).take 1) Zc cE ⟨36,0,36,8⟩ [topFrame po]))=fun os=>some (.next,S5 w os,cE,⟨37,0,37,18⟩)
theorem D2u(w:World):G5 ((w.withFollow "special-get-raises" false).withFollow "comprehension-iter-twice" false):=by
 unfold G5;rw[Fast.te10110043849684766642,Fast.te14364793385576792824]
 lk
theorem D2v(w:World):G5 ((w.withFollow "special-get-raises" true).withFollow "comprehension-iter-twice" false):=by
 unfold G5;rw[Fast.te10110043849684766642,Fast.te14364793385576792824]
 lk
theorem D2w(w:World):G5 ((w.withFollow "special-get-raises" false).withFollow "comprehension-iter-twice" true):=by
 unfold G5;rw[Fast.te10110043849684766642,Fast.te14364793385576792824]
 lk
theorem D2x(w:World):G5 ((w.withFollow "special-get-raises" true).withFollow "comprehension-iter-twice" true):=by
 unfold G5;rw[Fast.te10110043849684766642,Fast.te14364793385576792824]
 lk
theorem D2y:∀w,G5 w:=byRow2 "comprehension-iter-twice" (byRow2 "special-get-raises" (P:=fun w=>G5 (w.withFollow "comprehension-iter-twice" false)) D2u D2v) (byRow2 "special-get-raises" (P:=fun w=>G5 (w.withFollow "comprehension-iter-twice" true)) D2w D2x)
def G3(w:World):Prop:=(fun os=>segRunT treeTable pw w 28 ann 1 3187 (S2 w os) (piecesOf ((bd.drop 2).take 8) Zc cE ⟨3,0,3,11⟩ [topFrame po]))=fun os=>some (.next,S3 w os,cE,⟨11,9,11,74⟩)
theorem g3f(w:World):G3 (w.withFollow "special-get-raises" false):=by
 unfold G3;rw[Fast.te10110043849684766642,Fast.te14364793385576792824]
 lk
theorem g3t(w:World):G3 (w.withFollow "special-get-raises" true):=by
 unfold G3;rw[Fast.te10110043849684766642,Fast.te14364793385576792824]
 lk
theorem D2z:∀w,G3 w:=byRow2 "special-get-raises" g3f g3t
def G4(w:World):Prop:=(fun os=>segRunT treeTable pw w 28 ann 1 4726 (S3 w os) (piecesOf ((bd.drop 10).take 13) Zc cE ⟨11,9,11,74⟩ [topFrame po]))=fun os=>some (.next,S4 w os,cE,⟨36,0,36,8⟩)
theorem g4f(w:World):G4 (w.withFollow "special-get-raises" false):=by
 unfold G4;rw[Fast.te10110043849684766642,Fast.te14364793385576792824]
 lk
theorem g4t(w:World):G4 (w.withFollow "special-get-raises" true):=by
 unfold G4;rw[Fast.te10110043849684766642,Fast.te14364793385576792824]
 lk
theorem D20:∀w,G4 w:=byRow2 "special-get-raises" g4f g4t
def G2(w:World):Prop:=(fun os=>segRunT treeTable pw w 28 ann 1 9632 (S1 w os) (piecesOf ((bd.drop 0).take 2) Zc cE ⟨0,0,0,0⟩ [topFrame po]))=fun os=>some (.next,S2 w os,cE,⟨3,0,3,11⟩)
theorem D21(w:World):G2 ((w.withFollow "special-get-raises" false).withFollow "comprehension-iter-twice" false):=by
 unfold G2;rw[Fast.te10110043849684766642,Fast.te14364793385576792824]
 lk
theorem D22(w:World):G2 ((w.withFollow "special-get-raises" true).withFollow "comprehension-iter-twice" false):=by
 unfold G2;rw[Fast.te10110043849684766642,Fast.te14364793385576792824]
 lk
theorem D23(w:World):G2 ((w.withFollow "special-get-raises" false).withFollow "comprehension-iter-twice" true):=by
 unfold G2;rw[Fast.te10110043849684766642,Fast.te14364793385576792824]
 lk
theorem D24(w:World):G2 ((w.withFollow "special-get-raises" true).withFollow "comprehension-iter-twice" true):=by
 unfold G2;rw[Fast.te10110043849684766642,Fast.te14364793385576792824]
 lk
theorem D25:∀w,G2 w:=byRow2 "comprehension-iter-twice" (byRow2 "special-get-raises" (P:=fun w=>G2 (w.withFollow "comprehension-iter-twice" false)) D21 D22) (byRow2 "special-get-raises" (P:=fun w=>G2 (w.withFollow "comprehension-iter-twice" true)) D23 D24)
theorem A69(k n:Nat):bd.drop k=(bd.drop k).take n++bd.drop (k+n):=by rw[<- List.drop_drop,List.take_append_drop]
theorem D26(w:World)(os:OsState):topRun treeTable pw w 28 ann 2 (S6 w os).abs (restOf [] Zc cE ⟨343,0,351,20⟩ [topFrame po])=some (S6 w os).abs:=by
 rw[Fast.te14082659384304107361,Fast.te14364793385576792824]
 lk
theorem D27(w:World)(os:OsState):topRun treeTable pw w 28 ann (1145+2) (S5 w os).abs (restOf (bd.drop 24) Zc cE ⟨37,0,37,18⟩ [topFrame po])=some (S6 w os).abs:=by
 have:=piece_app (rest:=[]) (segRun_of (congrFun (D2t w) os)) (D26 w os)
 rwa [List.append_nil] at this
theorem D28(w:World)(os:OsState):topRun treeTable pw w 28 ann (1255+(1145+2)) (S4 w os).abs (restOf (bd.drop 23) Zc cE ⟨36,0,36,8⟩ [topFrame po])=some (S6 w os).abs:=by
 rw[A69 23 1];exact piece_app (segRun_of (congrFun (D2y w) os)) (D27 w os)
theorem D29(w:World)(os:OsState):topRun treeTable pw w 28 ann (4726+(1255+(1145+2))) (S3 w os).abs (restOf (bd.drop 10) Zc cE ⟨11,9,11,74⟩ [topFrame po])=some (S6 w os).abs:=by
 rw[A69 10 13];exact piece_app (segRun_of (congrFun (D20 w) os)) (D28 w os)
theorem D3a(w:World)(os:OsState):topRun treeTable pw w 28 ann (3187+(4726+(1255+(1145+2)))) (S2 w os).abs (restOf (bd.drop 2) Zc cE ⟨3,0,3,11⟩ [topFrame po])=some (S6 w os).abs:=by
 rw[A69 2 8];exact piece_app (segRun_of (congrFun (D2z w) os)) (D29 w os)
theorem D3b(w:World)(os:OsState):topRun treeTable pw w 28 ann (9632+(3187+(4726+(1255+(1145+2))))) (S1 w os).abs (restOf bd Zc cE po [topFrame po])=some (S6 w os).abs:=by
 have e:=A69 0 2;rw[List.drop_zero] at e;rw[e];exact piece_app (segRun_of (congrFun (D25 w) os)) (D3a w os)
theorem D3c(w:World)(os:OsState):topRun treeTable pw w 28 ann (12+(1+(9632+(3187+(4726+(1255+(1145+2))))))) ⟨H0 w.params,⟨[]⟩,d0,276,os⟩ (topStub pw)=some (S6 w os).abs:=
 go_top (D2r w os) (piece_block (D2s w os) (D3b w os))
def vq:Program:={pw with main:={pw.main with body:=[Ax 74]}}
noncomputable def lse:List Str:=pw.boundNames.filter fun x=>x != "law"
theorem C91(w:World):((H0 w.params).isNs mainGlobals&&(⟨[]⟩:Array GenState).size==0,(H0 w.params).objs.size,(H0 w.params).nsMap mainGlobals "__annotations__")=(true,28,ann):=by
 lk
theorem C92(w:World)(os:OsState):(staticsOk (importedModules pw.main.body) (H0 w.params) (S6 w os).abs.heap&&namesBound pw (S6 w os).abs.heap&&gensDone (S6 w os).abs&&laidKept (H0 w.params) (S6 w os).abs.heap)=true:=by
 rw[Fast.te5923862056798008813]
 lk
theorem C93(w:World)(os:OsState):seen ((recsOf vq).map (·.name)) (ownsOf vq) [] {(S6 w os).abs with gens:=#[]}=expectedOf vq:=by
 lk
theorem C94(w:World)(os:OsState):(S6 w os).abs.heap.bltView=bltViewBooted:=by
 lk
theorem C95(w:World)(os:OsState):((S6 w os).abs.heap.keysOk (looseW vq lse) ((recsOf vq).map (·.name)) ((litsOf vq).map (·.1)) ((clssOf vq (looseW vq lse)).map (·.name))&&(S6 w os).abs.heap.accountedOkI (importedModules pw.main.body)&&(S6 w os).abs.heap.isNs mainGlobals&&(S6 w os).abs.heap.isNs builtinsNs&&tablesOk vq (S6 w os).abs.heap&&(fun zz:Shared=>true) (S6 w os).abs&&(if true then (S6 w os).abs.gens.size==0 else !leftWithCleanup (S6 w os).abs.gens))=true:=by
 rw[Fast.te5923862056798008813]
 lk
theorem C96(w:World)(os:OsState):tabsOk vq (S6 w os).abs=true:=by
 lk
theorem C97(w:World)(os:OsState):pinSeenD vq (drecsOf vq) (S6 w os).abs=pinGoodD (drecsOf vq):=by
 lk
theorem C98(w:World)(os:OsState):plainSeenE vq (looseW vq lse) (S6 w os).abs=plainGoodE vq (looseW vq lse):=by
 lk
theorem C99(w:World)(os:OsState):plainSeenD vq lse (S6 w os).abs=plainGoodD vq lse:=by
 lk
theorem D0a(w:World)(os:OsState):wideSeen vq (S6 w os).abs=wideGood vq:=by
 lk
theorem B4t(w:World)(os:OsState):clsSeenW vq lse (S6 w os).abs=clsGoodW vq lse:=by
 lk
def H1(P:Params):Heap:=absHeap (T6 P) 303 (Life.mk [] [] [] 0 [] [] false ⟨[]⟩ [] 0 false false false 0 [2000,10,10] false 0 true [] [] 0 false)
theorem D0b:LeftO pw vq lse (fun zz=>true) (fun s=>s.heap) (fun w=>H1 w.params) 40100:=
 LeftO.of_pieces (H₀:=H0) (H₁:=H1) (gs₀:=⟨[]⟩) (gs₁:=⟨[]⟩) (d₀:=d0) (d₁:=d0) (k₀:=276) (k₁:=2371) (m₀:=28) (ann:=ann) (M:=12+(1+(9632+(3187+(4726+(1255+(1145+2))))))) C90 C91 D3c (by decide)
  fun w=>funext fun os=>by
   refine looks_pair (C92 w os) (looks_pair ?_ rfl);unfold openSeen openGood;exact looks_pair (C93 w os) (looks_pair (C94 w os) (looks_pair (C95 w os) (looks_pair (C96 w os) (looks_pair (C97 w os) (looks_pair (C98 w os) (looks_pair (C99 w os) (looks_pair (D0a w os) (B4t w os))))))))
noncomputable abbrev lw:OpenLaw:=PySem.Challenge.rw_in0171_01
theorem D0c:lw.wellSaid=true:=by lk
theorem okk:(chainsOk vq&&opensWell lw.row.prog&&(frees lw.row.toRowW&&lw.row.within.isEmpty))=true:=by lk
def D0d:DefRec:=⟨"law",Me (Ax 74),Az (Ax 74),As (Ax 74),match Ax 74 with | .FunctionDef _ _ _ _ _ _ _ _ _ p=>p|_=>default⟩
theorem B4u(call:WalkO vq lse (fun zz zz=>True) (fun w h=>∀b o,(H1 w.params).get? b=some o->h.get? b=some o) lw.row.toRowW D0d [] fun f vs=>PySem.call f vs):lw.Holds:=by
 refine holds_law D0c fun said=>?_;refine holds_open (q:=vq) (loose:=lse) (Xt:=fun zz=>true) (XP:=fun zz zz=>True) (Yf:=fun s=>s.heap) (Ya:=fun w=>H1 w.params) (YP:=fun w h=>∀b o,(H1 w.params).get? b=some o->h.get? b=some o) (N:=40100) (kwd:=[]) D0b
  (fun w s e b o h=>by have e:s.heap=_:=e;rw[e];exact h) (fun w h h' k q b o x=>q _ _ (k _ _ x)) (fun zz zz=>trivial) (fun zz zz zz zz zz=>trivial) ?a ?b ?c (fun s zz=>recFacts_of rfl) ?d said okk ?e ?f call
 case a=>rfl
 case b=>rfl
 case c=>rfl
 case d=>rfl
 case e=>exact⟨rfl,rfl,rfl,rfl,rfl,by kd_p⟩
 case f=>exact⟨[.list []],by lk,by lk⟩
theorem I7{P:Params}{b:Nat}{o:Obj}(hb:Nat.blt b 303=true)(e:(T6 P).get b=some o):(H1 P).get? b=alive o:=abs_get (Nat.le_of_ble_eq_true hb) e
theorem B4v(P:Params):(H1 P).get? 3=some (A68 P):=(I7 (b:=3) (o:=A68 P) (by lk) (by lk)).trans rfl
end Mine.Internal
end
noncomputable section
open PySem PySem.W PyProof.Rows
namespace Mine.Internal
local macro_rules | `(tactic|lk)=>`(tactic|first |kernel_rfl|decide+kernel)
local macro_rules | `(tactic|kd_p)=>`(tactic|decide+kernel)
set_option hygiene false in
local macro_rules | `(tactic|kpf_c)=>`(tactic|first |exact Cy hf|replace hp:=D8 hf hp|cases hf)
set_option hygiene false in
local macro_rules | `(tactic|kcf_m)=>`(tactic|refine On fun Gx hGx=>?_)
local macro_rules | `(tactic|w_up)=>`(tactic|repeat z_go)
theorem On{p:Prop}(h:∀q:Prop,(p->q)->q):p:=h p fun x=>x
inductive All2{α β:Type}(R:α->β->Prop):List α->List β->Prop where
 | nil:All2 R [] []
 | cons {a b l m}:R a b->All2 R l m->All2 R (a::l) (b::m)
namespace All2
variable {α β:Type} {R S:α->β->Prop}
theorem imp(f:∀a b,R a b->S a b){l:List α}{m:List β}(h:All2 R l m):All2 S l m:=by
 induction h with
 | nil=>exact .nil
 | cons h _ ih=>exact .cons (f _ _ h) ih
theorem length{l:List α}{m:List β}(h:All2 R l m):l.length=m.length:=by
 induction h with
 | nil=>rfl
 | cons _ _ ih=>exact congrArg Nat.succ ih
theorem get{l:List α}{m:List β}(h:All2 R l m){i:Nat}{a:α}(e:l[i]?=some a):∃b,m[i]?=some b∧R a b:=by
 induction h generalizing i with
 | nil=>cases e
 | cons h _ ih=>
  cases i with
  | zero=>cases e;exact⟨_,rfl,h⟩
  | succ i=>exact ih e
theorem flip{l:List α}{m:List β}(h:All2 R l m):All2 (fun b a=>R a b) m l:=by
 induction h with
 | nil=>exact .nil
 | cons h _ ih=>exact .cons h ih
theorem get'{l:List α}{m:List β}(h:All2 R l m){i:Nat}{b:β}(e:m[i]?=some b):∃a,l[i]?=some a∧R a b:=h.flip.get e
theorem none{l:List α}{m:List β}(h:All2 R l m){i:Nat}(e:l[i]?=.none):m[i]?=.none:=by
 rw[List.getElem?_eq_none_iff] at *;rw[<- h.length];exact e
theorem append{l l':List α}{m m':List β}(h:All2 R l m)(h':All2 R l' m'):All2 R (l++l') (m++m'):=by
 induction h with
 | nil=>exact h'
 | cons h _ ih=>exact .cons h ih
theorem set{l:List α}{m:List β}(h:All2 R l m)(i:Nat){a:α}{b:β}(r:R a b):All2 R (l.set i a) (m.set i b):=by
 induction h generalizing i with
 | nil=>exact .nil
 | cons h t ih=>
  cases i with
  | zero=>exact .cons r t
  | succ i=>exact .cons h (ih i)
theorem impAt{l:List α}{m:List β}(h:All2 R l m)(k:∀(j:Nat) (a:α) (c:β),l[j]?=some a->m[j]?=some c->R a c->S a c):All2 S l m:=by
 induction h with
 | nil=>exact .nil
 | cons x _ ih=>exact .cons (k 0 _ _ rfl rfl x) (ih fun j a c p q=>k (j+1) a c p q)
theorem turn{l:List α}{m:List β}(h:All2 R l m){i:Nat}{b:β}(f:∀(j:Nat) (a:α) (c:β),l[j]?=some a->m[j]?=some c->j≠i->R a c->S a c)(g:∀a,l[i]?=some a->S a b):All2 S l (m.set i b):=by
 induction h generalizing i with
 | nil=>exact .nil
 | cons h t ih=>
  cases i with
  | zero=>exact .cons (g _ rfl) (t.impAt fun j a c p q=>f (j+1) a c p q (Nat.succ_ne_zero j))
  | succ i=>exact .cons (f 0 _ _ rfl rfl (Nat.succ_ne_zero i).symm h) (ih (fun j a c p q n=>f (j+1) a c p q fun e=>n (Nat.succ.inj e)) g)
end All2
inductive MV where
 | none
 | bool (b:Bool)
 | int (i:Int)
 | str (s:Str)
 | ref (k:Nat)
 | val (v:Value)
inductive MO where
 | list (xs:List MV)
 | tup (xs:List MV)
 | dict (es:List (Int × MV))
 | meth (id:String) (k:Nat)
 | rng (a b c:Int)
 | obj (o:Obj)
 | mtch (x:Str) (j:Nat)
noncomputable abbrev Hp:=List MO
noncomputable abbrev Aj:=Str->Option MV
noncomputable def VRel(α:List Addr):MV->Value->Prop
 | .none,v=>v=.none
 | .bool b,v=>v=.bool b
 | .int i,v=>∃t,v=.int i t
 | .str s,v=>∃t,v=.str s t
 | .ref k,v=>∃a,α[k]?=some a∧v=.ref a
 | .val u,v=>v=u
def VRels(α:List Addr)(xs:List MV)(vs:List Value):Prop:=All2 (VRel α) xs vs
structure GT where
 lst:Addr->Option (List MV)
 tup:Addr->Option (List MV)
structure Cx where
 T:GT
 prog:Program
 w:World
 B:Heap
 tabs:List Addr
 mg:Str->Option Value
 mb:Str->Option Value
 os:OsState
 inv:Heap->Prop
 invk:∀h h',inv h->(∀b o,h.get? b=some o->(B.get? b).isSome=true->h'.get? b=some o)->inv h'
 cd:Scope->Addr->Prop
noncomputable def ORel(C:Cx)(α:List Addr)(h:Heap)(a:Addr):MO->Prop
 | .list xs=>∃vs,h.PlainList a vs∧VRels α xs vs.toList
 | .tup xs=>∃vs,h.IsTuple a vs∧VRels α xs vs.toList
 | .dict es=>∃kvs,h.DictAt (intKind C.prog C.w) a kvs es.length∧All2 (fun (x:Int × MV) (y:Int × Value)=>x.1=y.1∧VRel α x.2 y.2) es kvs
 | .meth id k=>∃b,α[k]?=some b∧h.get? a=some {cls:=.type "builtin_function_or_method",data:=.fields #[.builtin id,.ref b]}
 | .obj o=>h.get? a=some o
 | .rng x y z=>∃t u v,h.get? a=some {cls:=.type "range",data:=.fields #[.int x t,.int y u,.int z v]}
 | .mtch x j=>∃b t v1 v2 v3 v4,α[j]?=some b∧h.get? a=some {cls:=.type "re.Match",data:=.fields #[.str x t,v1,v2,v3,v4,.ref b]}
structure HR(C:Cx)(α:List Addr)(H:Hp)(s:Shared):Prop where
 keepB:∀b o,C.B.get? b=some o->b ∉ C.tabs->s.heap.get? b=some o
 liveB:∀b o,C.B.get? b=some o->∃o',s.heap.get? b=some o'
 new:∀a∈α,C.B.objs.size<=a∧a ∉ C.tabs
 nodup:α.Nodup
 objs:All2 (ORel C α s.heap) α H
 gens:AllBare s.gens
 os:s.os=C.os
 inv:C.inv s.heap
structure Ext(C:Cx)(X:List Addr)(α:List Addr)(s:Shared)(α':List Addr)(s':Shared):Prop where
 pre:α<+:α'
 fresh:∀a∈α',a∈α∨s.heap.get? a=none
 keep:∀b o,s.heap.get? b=some o->b ∉ α->b ∉ X->b ∉ C.tabs->s'.heap.get? b=some o
 live:∀b o,s.heap.get? b=some o->∃o',s'.heap.get? b=some o'
theorem Ext.refl{C X α s}:Ext C X α s α s:=⟨List.prefix_refl _,fun zz h=>.inl h,fun zz zz h zz zz zz=>h,fun zz o h=>⟨o,h⟩⟩
theorem Ext.dead{C X α s α' s'}(e:Ext C X α s α' s'){b}(h:s'.heap.get? b=.none):s.heap.get? b=.none:=by
 cases q:s.heap.get? b with
 | none=>rfl
 | some o=>obtain⟨o',h'⟩:=e.live b o q;rw[h] at h';cases h'
theorem Ext.trans{C X α s α' s' α'' s''}(e:Ext C X α s α' s')(f:Ext C X α' s' α'' s''):Ext C X α s α'' s'':=by
 refine⟨e.pre.trans f.pre,fun a ha=>?_,fun b o h h1 h2 h3=>?_,fun b o h=>?_⟩
 ·rcases f.fresh a ha with h|h
  ·exact e.fresh a h
  ·exact .inr (e.dead h)
 ·refine f.keep b o (e.keep b o h h1 h2 h3) (fun q=>?_) h2 h3;rcases e.fresh b q with z|z
  ·exact h1 z
  ·rw[h] at z;cases z
 ·obtain⟨o',h'⟩:=e.live b o h;exact f.live b o' h'
theorem Ext.mono{C X Y α s α' s'}(e:Ext C X α s α' s')(h:∀x∈X,x∈Y):Ext C Y α s α' s':=
 ⟨e.pre,e.fresh,fun b o h1 h2 h3 h4=>e.keep b o h1 h2 (fun q=>h3 (h b q)) h4,e.live⟩
theorem Ext.weak{C Y α s α' s'}(e:Ext C [] α s α' s'):Ext C Y α s α' s':=e.mono fun zz h=>nomatch h
theorem VRel.mono{α α':List Addr}(p:α<+:α'):∀ {m:MV} {v:Value},VRel α m v->VRel α' m v
 | .none,_,h=>h
 | .bool _,_,h=>h
 | .int _,_,h=>h
 | .str _,_,h=>h
 | .ref k,_,⟨a,h,e⟩=>⟨a,by obtain⟨t,rfl⟩:=p;rw[List.getElem?_append_left (by rw[List.getElem?_eq_some_iff] at h;exact h.1)];exact h,e⟩
 | .val _,_,h=>h
theorem VRels.mono{α α':List Addr}(p:α<+:α'){xs:List MV}{vs:List Value}(h:VRels α xs vs):VRels α' xs vs:=by
 exact All2.imp (fun zz zz=>VRel.mono p) h
theorem Hz{α α':List Addr}(p:α<+:α'){k:Nat}{a:Addr}(h:α[k]?=some a):α'[k]?=some a:=by
 obtain⟨t,rfl⟩:=p;rw[List.getElem?_append_left (by rw[List.getElem?_eq_some_iff] at h;exact h.1)];exact h
theorem ORel.mono{C α α' h h' a}(p:α<+:α')(k:∀o,h.get? a=some o->h'.get? a=some o){m:MO}(x:ORel C α h a m):ORel C α' h' a m:=by
 cases m with
 | list xs=>exact let ⟨vs,y,f⟩:=x;let ⟨n,ho⟩:=y;⟨vs,⟨n,k _ ho⟩,f.mono p⟩
 | tup xs=>exact let ⟨vs,y,f⟩:=x;let ⟨o,ho,r⟩:=y;⟨vs,⟨o,k _ ho,r⟩,f.mono p⟩
 | dict es=>exact let ⟨kvs,y,f⟩:=x;let ⟨o,es,ho,r⟩:=y;⟨kvs,⟨o,es,k _ ho,r⟩,f.imp fun zz zz z=>⟨z.1,z.2.mono p⟩⟩
 | meth id q=>exact let ⟨b,hb,ho⟩:=x;⟨b,Hz p hb,k _ ho⟩
 | obj o=>exact k _ x
 | rng a b c=>exact let ⟨t,u,v,ho⟩:=x;⟨t,u,v,k _ ho⟩
 | mtch y j=>obtain⟨b,t,v1,v2,v3,v4,hb,ho⟩:=x;exact⟨b,t,v1,v2,v3,v4,Hz p hb,k _ ho⟩
theorem HR.step{C α H s s'}(r:HR C α H s)(k:∀b o,s.heap.get? b=some o->b∈α∨(C.B.get? b).isSome=true->s'.heap.get? b=some o)
  (l:∀b o,s.heap.get? b=some o->∃o',s'.heap.get? b=some o') (g:AllBare s'.gens) (os:s'.os=s.os):HR C α H s':=by
 refine⟨fun b o h n=>k b o (r.keepB b o h n) (.inr (by rw[h];rfl)),fun b o h=>?_,r.new,r.nodup,?_,g,os.trans r.os,C.invk _ _ r.inv fun b o h q=>k b o h (.inr q)⟩
 ·obtain⟨o',h'⟩:=r.liveB b o h;exact l b o' h'
 ·have z:=r.objs;have:∀(β:List Addr) (J:Hp),(∀a∈β,a∈α)->All2 (ORel C α s.heap) β J->All2 (ORel C α s'.heap) β J:=by
   intro β J hb f
   induction f with
   | nil=>exact .nil
   | @cons a m β J h _ ih=>
    exact .cons (h.mono (List.prefix_refl _) fun o ho=>k a o ho (.inl (hb a (.head _)))) (ih fun x hx=>hb x (.tail _ hx))
  exact this α H (fun zz h=>h) z
abbrev P(β:Type):=Hp->Option (β × Hp)
noncomputable def Bg{β:Type}(b:β):P β:=fun H=>some (b,H)
noncomputable def B9{β γ:Type}(m:P β)(f:β->P γ):P γ:=fun H=>match m H with
 | .none=>.none
 | .some (b,H')=>f b H'
theorem Cy{β:Type}{x:β}{p:Prop}(h:(Option.none:Option β)=some x):p:=nomatch h
inductive D3d{β γ:Type}(m:P β)(f:β->P γ)(H:Hp)(r:γ × Hp):Prop
 | mk (b:β) (H':Hp) (q:m H=some (b,H')) (h:f b H'=some r)
theorem Aw{β γ:Type}{m:P β}{f:β->P γ}{H:Hp}{r:γ × Hp}(h:B9 m f H=some r):D3d m f H r:=by
 unfold B9 at h;cases e:m H with
 | none=>rw[e] at h;exact Cy h
 | some p=>obtain⟨b,H'⟩:=p;rw[e] at h;exact⟨b,H',e,h⟩
noncomputable def Fb(env:Env):List Addr:=env.locals::env.cells.map (·.2)
structure ER(C:Cx)(α:List Addr)(ρ:Aj)(sc:Scope)(env:Env)(h:Heap):Prop where
 scope:env.scope=sc
 kind:sc.kind=.function
 glob:env.globals=mainGlobals
 blt:env.builtins=builtinsNs
 own:∀b∈Fb env,b ∉ α∧b ∉ C.tabs∧C.B.objs.size<=b∧∃o,h.get? b=some o
 loc:∃m,h.Ns env.locals m∧∀x v,sc.names.lookup x=some .local->ρ x=some v->∃v',m x=some v'∧VRel α v v'
 cell:∀x,sc.names.lookup x=some .cell∨sc.names.lookup x=some .free->∃c ov,env.cells.lookup x=some c∧h.IsCell c ov∧∀v,ρ x=some v->∃v',ov=some v'∧VRel α v v'
 apart:∀x y c,env.cells.lookup x=some c->env.cells.lookup y=some c->x=y
 off:∀x c,env.cells.lookup x=some c->c≠env.locals
 code:∀c,C.cd sc c->env.code=.ref c
theorem Ke{env:Env}{x:Str}{c:Addr}(h:env.cells.lookup x=some c):c∈Fb env:=by
 refine .tail _ ?_;have:∀l:List (Str × Addr),l.lookup x=some c->c∈l.map (·.2):=by
  intro l
  induction l with
  | nil=>intro h;cases h
  | cons p l ih=>
   obtain⟨y,d⟩:=p;intro h;rw[List.lookup_cons] at h
   split at h
   ·cases h;exact .head _
   ·exact .tail _ (ih h)
 exact this _ h
theorem ER.keep{C α ρ sc env h α' h'}(r:ER C α ρ sc env h)(p:α<+:α')(fr:∀a∈α',a∈α∨h.get? a=none)(k:∀b∈Fb env,∀o,h.get? b=some o->h'.get? b=some o):ER C α' ρ sc env h':=by
 refine⟨r.scope,r.kind,r.glob,r.blt,fun b hb=>?_,?_,fun x hx=>?_,r.apart,r.off,r.code⟩
 ·obtain⟨h1,h2,h3,o,h4⟩:=r.own b hb;exact⟨fun q=>(fr b q).elim h1 fun z=>Cy (z.symm.trans h4),h2,h3,o,k b hb o h4⟩
 ·obtain⟨m,hn,hm⟩:=r.loc;exact⟨m,hn.at fun o ho=>k _ (.head _) o ho,fun x v h1 h2=>(hm x v h1 h2).imp fun zz a=>⟨a.1,a.2.mono p⟩⟩
 ·obtain⟨c,ov,h1,⟨o,h2,h2'⟩,h3⟩:=r.cell x hx;exact⟨c,ov,h1,⟨o,k c (Ke h1) o h2,h2'⟩,fun v hv=>(h3 v hv).imp fun zz a=>⟨a.1,a.2.mono p⟩⟩
theorem ER.ext{C α ρ sc env s α' s'}(r:ER C α ρ sc env s.heap)(e:Ext C [] α s α' s'):ER C α' ρ sc env s'.heap:=
 r.keep e.pre e.fresh fun b hb o ho=>e.keep b o ho (r.own b hb).1 (fun h=>nomatch h) (r.own b hb).2.1
structure Room(k:Nat)(A:Around):Prop where
 handled:A.handled=.none
 depth:A.depth+k<recursionLimit
 units:A.units+8*k+200<cLine
theorem Room.mono{k k' A}(r:Room k A)(h:k'<=k):Room k' A:=⟨r.handled,by have:=r.depth;exact B7t h this,by have:=r.units;exact B7u h this⟩
structure Gd(C:Cx):Prop where
 g:C.B.Ns mainGlobals C.mg
 b:C.B.Ns builtinsNs C.mb
 gt:mainGlobals ∉ C.tabs
 bt:builtinsNs ∉ C.tabs
 st:cStatics ∉ C.tabs
 nolimit:C.B.NoLimit
 nodigits:∃mc,C.B.Ns cStatics mc∧mc "sys.int_max_str_digits"=.none
 tabs:∀t∈C.tabs,∃o,C.B.get? t=some o
 glst:∀a xs,C.T.lst a=some xs->∃vs,C.B.IsList a vs∧VRels [] xs vs.toList∧a ∉ C.tabs
 gtup:∀a xs,C.T.tup a=some xs->∃vs,C.B.IsTuple a vs∧VRels [] xs vs.toList∧a ∉ C.tabs
 low:sysModules<C.B.objs.size
 last:∃o,C.B.get? (C.B.objs.size-1)=some o
def Post(C:Cx)(α:List Addr)(s:Shared)(r:MV)(H':Hp)(Q:Value->Shared->Prop):Prop:=
 ∀α' s' v,HR C α' H' s'->Ext C [] α s α' s'->VRel α' r v->Q v s'
theorem D8{C α s r H' Q}{b:MV}{H:Hp}(h:some (b,H)=some (r,H'))(k:Post C α s r H' Q):Post C α s b H Q:=by cases h;exact k
theorem Post.chain{C α s r H' Q αA sA}(h:Post C α s r H' Q)(e:Ext C [] α s αA sA):Post C αA sA r H' Q:=
 fun α' s' v h1 h2 h3=>h α' s' v h1 (e.trans h2) h3
def SE(C:Cx)(sc:Scope)(k:Nat)(e:Expr)(f:Aj->P MV):Prop:=
 ∀(A:Around) (env:Env) (α:List Addr) (ρ:Aj) (H:Hp) (s:Shared) (Q:Value->Shared->Prop) (E:Value->Shared->Prop) (r:MV) (H':Hp),
  Room k A->HR C α H s->ER C α ρ sc env s.heap->f ρ H=some (r,H')->Post C α s r H' Q->wpAny (model C.prog C.w) A (eval e env) Q E s
def ST(C:Cx)(sc:Scope)(k:Nat)(e:Expr)(f:Aj->P Bool):Prop:=
 ∀(A:Around) (env:Env) (α:List Addr) (ρ:Aj) (H:Hp) (s:Shared) (Q:Bool->Shared->Prop) (E:Value->Shared->Prop) (r:Bool) (H':Hp),
  Room k A->HR C α H s->ER C α ρ sc env s.heap->f ρ H=some (r,H')->(∀α' s',HR C α' H' s'->Ext C [] α s α' s'->Q r s')->wpAny (model C.prog C.w) A (isTrue e env (eval e env)) Q E s
theorem HR.toks{C α H s}(r:HR C α H s)(tk:Nat):HR C α H {s with toks:=tk}:=⟨r.keepB,r.liveB,r.new,r.nodup,r.objs,r.gens,r.os,r.inv⟩
theorem Ext.toks{C X α s}(tk:Nat):Ext C X α s α {s with toks:=tk}:=⟨List.prefix_refl _,fun zz h=>.inl h,fun zz zz h zz zz zz=>h,fun zz o h=>⟨o,h⟩⟩
theorem Post.here{C α s r H Q v}(h:Post C α s r H Q)(hr:HR C α H s)(hv:VRel α r v):Q v s:=h α s v hr .refl hv
theorem Post.hereT{C α s r H Q v}(h:Post C α s r H Q)(hr:HR C α H s)(tk:Nat)(hv:VRel α r v):Q v {s with toks:=tk}:=h α _ v (hr.toks tk) (.toks tk) hv
section
variable {C:Cx} {sc:Scope} {k:Nat}
noncomputable abbrev D3e(sc:Scope)(x:Str):Bool:=sc.names.lookup x==some .local||sc.names.lookup x==some .cell||sc.names.lookup x==some .free
noncomputable abbrev Ss(sc:Scope)(x:Str):Bool:=sc.names.lookup x==some .local||sc.names.lookup x==some .cell
noncomputable def Zd(sc:Scope)(x:Str):Bool:=decide (sc.names.lookup x=some .globalImplicit)
theorem Al{i:Int}{kd:Nat}{pos:Pos}:SE C sc k (.Constant (.int i) kd pos) (fun zz=>Bg (.int i)):=by
 intro A env α ρ H s Q E r H' _ hr _ hf hp
 first |replace hp:=D8 hf hp|cases hf
 exact wpAny_Constant_int (hp.hereT hr _ ⟨_,rfl⟩)
theorem Ay{x:Str}{kd:Nat}{pos:Pos}:SE C sc k (.Constant (.str x) kd pos) (fun zz=>Bg (.str x)):=by
 intro A env α ρ H s Q E r H' _ hr _ hf hp
 first |replace hp:=D8 hf hp|cases hf
 exact wpAny_Constant_str (hp.hereT hr _ ⟨_,rfl⟩)
theorem Ew{b:Bool}{kd:Nat}{pos:Pos}:SE C sc k (.Constant (.bool b) kd pos) (fun zz=>Bg (.bool b)):=by
 intro A env α ρ H s Q E r H' _ hr _ hf hp
 first |replace hp:=D8 hf hp|cases hf
 exact wpAny_Constant_bool (hp.here hr rfl)
noncomputable def Ac(x:Str)(ρ:Aj):P MV:=fun H=>match ρ x with
 | .none=>.none
 | .some v=>some (v,H)
theorem A34{A env α ρ H s Q E r H'}{x:Str}(hr:HR C α H s)(he:ER C α ρ sc env s.heap)(hf:Ac x ρ H=some (r,H'))(hp:Post C α s r H' Q)
  (hx:sc.names.lookup x=some .local∨sc.names.lookup x=some .cell∨sc.names.lookup x=some .free) (hc:(x==("__classdict__":Str))=false):wpAny (model C.prog C.w) A (loadName env x) Q E s:=by
 unfold Ac at hf;cases q:ρ x with
 | none=>rw[q] at hf;cases hf
 | some v=>
  rw[q] at hf
  first |replace hp:=D8 hf hp|cases hf
  have hk:env.scope.kind=.function:=by rw[he.scope];exact he.kind
  have hlk:env.kindOf x=sc.names.lookup x:=by unfold Env.kindOf;rw[he.scope]
  rcases hx with hx|hx|hx
  ·obtain⟨m,hn,hm⟩:=he.loc;obtain⟨v',h1,h2⟩:=hm x _ hx q;exact wpAny_loadName_local hk (hlk.trans hx) hn h1 (hp.here hr h2)
  ·obtain⟨c,ov,h1,h2,h3⟩:=he.cell x (.inl hx);obtain⟨v',rfl,h4⟩:=h3 _ q;exact wpAny_loadName_cell hk (hlk.trans hx) h1 h2 (hp.here hr h4)
  ·obtain⟨c,ov,h1,h2,h3⟩:=he.cell x (.inr hx);obtain⟨v',rfl,h4⟩:=h3 _ q;exact wpAny_loadName_free hk (hlk.trans hx) h1 h2 (hp.here hr h4) hc
def nmB(sc:Scope)(x:Str):Bool:=D3e sc x&&((x==("__debug__":Str))==false&&(x==("__classdict__":Str))==false)
theorem Aa{x:Str}{pos:Pos}(h:nmB sc x=true:=by lk):SE C sc k (.Name x pos) (Ac x):=by
 intro A env α ρ H s Q E r H' _ hr he hf hp;have hx:=(Bool.and_eq_true_iff.mp h).1;have h2:=Bool.and_eq_true_iff.mp (Bool.and_eq_true_iff.mp h).2;refine wpAny_Name (A34 hr he hf hp ?_ (eq_of_beq h2.2)) (eq_of_beq h2.1);clear h h2;rcases Bool.or_eq_true_iff.mp hx with h|h
 ·rcases Bool.or_eq_true_iff.mp h with h|h
  ·exact .inl (by simpa using h)
  ·exact .inr (.inl (by simpa using h))
 ·exact .inr (.inr (by simpa using h))
theorem Ea(G:Gd C){x:Str}{pos:Pos}{v:Value}(hx:Zd sc x=true)(hv:C.mg x=some v)
  (hd:(x==("__debug__":Str))=false:=by decide):SE C sc k (.Name x pos) (fun zz=>Bg (.val v)):=by
 intro A env α ρ H s Q E r H' _ hr he hf hp
 first |replace hp:=D8 hf hp|cases hf
 have hk:env.scope.kind=.function:=by rw[he.scope];exact he.kind
 have hlk:env.kindOf x=sc.names.lookup x:=by unfold Env.kindOf;rw[he.scope]
 exact PySem.Calls.Name_function_global hk (hlk.trans (of_decide_eq_true hx)) (PySem.Calls.loadGlobal_global (by rw[he.glob];exact G.g.at fun o ho=>hr.keepB _ o ho G.gt) hv (hp.here hr rfl)) hd
theorem Ve(G:Gd C){x:Str}{pos:Pos}{v:Value}(hx:Zd sc x=true)(hn:C.mg x=.none)(hv:C.mb x=some v)
  (hd:(x==("__debug__":Str))=false:=by decide):SE C sc k (.Name x pos) (fun zz=>Bg (.val v)):=by
 intro A env α ρ H s Q E r H' _ hr he hf hp
 first |replace hp:=D8 hf hp|cases hf
 have hk:env.scope.kind=.function:=by rw[he.scope];exact he.kind
 have hlk:env.kindOf x=sc.names.lookup x:=by unfold Env.kindOf;rw[he.scope]
 exact PySem.Calls.Name_function_global hk (hlk.trans (of_decide_eq_true hx)) (PySem.Calls.loadGlobal_builtin (by rw[he.glob];exact G.g.at fun o ho=>hr.keepB _ o ho G.gt) hn (by rw[he.blt];exact G.b.at fun o ho=>hr.keepB _ o ho G.bt) hv (hp.here hr rfl)) hd
def Oo(C:Cx)(k:Nat)(op:Value->Value->Sem Value)(g:MV->MV->P MV):Prop:=
 ∀(A:Around) (α:List Addr) (H:Hp) (s:Shared) (Q:Value->Shared->Prop) (E:Value->Shared->Prop) (a b r:MV) (va vb:Value) (H':Hp),
  Room k A->HR C α H s->VRel α a va->VRel α b vb->g a b H=some (r,H')->Post C α s r H' Q->wpAny (model C.prog C.w) A (op va vb) Q E s
theorem Av{eO eP:Expr}{fA fB:Aj->P MV}{op:Operator}{pos:Pos}{g:MV->MV->P MV}(hH:SE C sc k eO fA)(h₂:SE C sc k eP fB)(ho:Oo C k (binaryOp op) g):
  SE C sc k (.BinOp eO op eP pos) (fun ρ=>B9 (fA ρ) fun a=>B9 (fB ρ) fun b=>g a b):=by
 intro A env α ρ H s Q E r H' hR hr he hf hp;obtain⟨a,H₁,qA,hf⟩:=Aw hf;obtain⟨b,HP,qB,hf⟩:=Aw hf;refine wpAny_BinOp (hH A env α ρ H s _ _ _ _ hR hr he qA fun αA sA vA rH xO wA=>?_);refine h₂ A env αA ρ H₁ sA _ _ _ _ hR rH (he.ext xO) qB fun αB sB vB rI xP wB=>?_;exact ho A αB HP sB _ _ _ _ _ _ _ _ hR rI (wA.mono xP.pre) wB hf (hp.chain (xO.trans xP))
theorem Dq{eO eP:Expr}{fA fB:Aj->P MV}{op:CmpOp}{pos:Pos}{g:MV->MV->P MV}(hH:SE C sc k eO fA)(h₂:SE C sc k eP fB)(ho:Oo C k (compareOp op) g)
  (hm:behindInMarks op eP=false:=by with_unfolding_all rfl):
  SE C sc k (.Compare eO [op] [eP] pos) (fun ρ=>B9 (fA ρ) fun a=>B9 (fB ρ) fun b=>g a b):=by
 intro A env α ρ H s Q E r H' hR hr he hf hp;obtain⟨a,H₁,qA,hf⟩:=Aw hf;obtain⟨b,HP,qB,hf⟩:=Aw hf;refine wpAny_Compare1 (hH A env α ρ H s _ _ _ _ hR hr he qA fun αA sA vA rH xO wA=>?_) hm;refine h₂ A env αA ρ H₁ sA _ _ _ _ hR rH (he.ext xO) qB fun αB sB vB rI xP wB=>?_;exact ho A αB HP sB _ _ _ _ _ _ _ _ hR rI (wA.mono xP.pre) wB hf (hp.chain (xO.trans xP))
def D2a:MV->P Bool
 | .none=>Bg false
 | .bool b=>Bg b
 | .int i=>Bg (i != 0)
 | .str x=>Bg (x.length != 0)
 | .ref k=>fun H=>match H[k]? with
  | some (.list xs)=>some (!xs.isEmpty,H)
  | _=>.none
 | .val _=>fun zz=>.none
end
section
variable {C:Cx} {sc:Scope} {k:Nat}
noncomputable def big:Int:=18446744073709551616
noncomputable def fl{β:Type}:P β:=fun zz=>.none
theorem B4w{a:Int}(h:-big<a∧a<big):Builtin.Int.intBits a<=64:=by
 obtain⟨h1,h2⟩:=h;unfold big at h1 h2;exact intBits_le_64 (by assumption) (by assumption)
theorem ifP{β:Type}{c:Prop}{_:Decidable c}{p:P β}{H:Hp}{r:β × Hp}(h:(if c then p else fl) H=some r):c∧p H=some r:=by
 by_cases hc:c
 ·rw[if_pos hc] at h;exact⟨hc,h⟩
 ·rw[if_neg hc] at h;exact Cy h
def A1:MV->MV->P MV
 | .int a,.int b=>Bg (.int (a+b))
 | .str x,.str y=>if x.length+y.length<=16777216 then Bg (.str (x++y)) else fl
 | _,_=>fl
theorem A8:Oo C k (binaryOp .Add) A1:=by
 intro A α H s Q E a b r va vb H' hR hr ha hb hf hp;cases a <;> cases b <;> try (exact Cy hf)
 ·obtain⟨t,rfl⟩:=ha;obtain⟨u,rfl⟩:=hb;kpf_c;exact PyProof.Rows.add_int (hp.hereT hr _ ⟨_,rfl⟩)
 ·obtain⟨t,rfl⟩:=ha;obtain⟨u,rfl⟩:=hb;replace hf:=ifP hf;obtain⟨hl,hf⟩:=hf
  ·kpf_c;exact PyProof.Rows.add_str (fun t' tk=>hp.hereT hr _ ⟨_,rfl⟩) (by rw[show sizeLine=16777216 from rfl];exact hl)
def De:MV->MV->P MV
 | .int a,.int b=>Bg (.int (a-b))
 | _,_=>fl
theorem F0:Oo C k (binaryOp .Sub) De:=by
 intro A α H s Q E a b r va vb H' hR hr ha hb hf hp;cases a <;> cases b <;> try (exact Cy hf)
 obtain⟨t,rfl⟩:=ha;obtain⟨u,rfl⟩:=hb;kpf_c;exact PyProof.Rows.sub_int (hp.hereT hr _ ⟨_,rfl⟩)
def Iu:MV->MV->P MV
 | .int a,.int b=>if -big<a∧a<big then Bg (.int (a*b)) else fl
 | _,_=>fl
theorem Mf:Oo C k (binaryOp .Mult) Iu:=by
 intro A α H s Q E a b r va vb H' hR hr ha hb hf hp;cases a <;> cases b <;> try (exact Cy hf)
 obtain⟨t,rfl⟩:=ha;obtain⟨u,rfl⟩:=hb;replace hf:=ifP hf;obtain⟨hl,hf⟩:=hf
 ·kpf_c;exact PyProof.Rows.mul_int (hp.hereT hr _ ⟨_,rfl⟩) (IntMulOk.of_left (B4w hl))
def E4:MV->MV->P MV
 | .int a,.int b=>if 0<b∧b<1073741824 then Bg (.int (a/b)) else fl
 | _,_=>fl
theorem El:Oo C k (binaryOp .FloorDiv) E4:=by
 intro A α H s Q E a b r va vb H' hR hr ha hb hf hp;cases a <;> cases b <;> try (exact Cy hf)
 obtain⟨t,rfl⟩:=ha;obtain⟨u,rfl⟩:=hb;replace hf:=ifP hf;obtain⟨hl,hf⟩:=hf
 ·kpf_c;refine PyProof.Rows.floordiv_int (B7v hl) ?_ (.inl (PyProof.noPylong_small (by omega)));rw[Int.fdiv_eq_ediv_of_nonneg _ (B7w hl)];exact hp.hereT hr _ ⟨_,rfl⟩
def Ec:MV->MV->P MV
 | .int a,.int b=>if 0<b then Bg (.int (a%b)) else fl
 | _,_=>fl
theorem D1:Oo C k (binaryOp .Mod) Ec:=by
 intro A α H s Q E a b r va vb H' hR hr ha hb hf hp;cases a <;> cases b <;> try (exact Cy hf)
 obtain⟨t,rfl⟩:=ha;obtain⟨u,rfl⟩:=hb;replace hf:=ifP hf;obtain⟨hl,hf⟩:=hf
 ·kpf_c;refine PyProof.Rows.mod_int (B7x hl) ?_;rw[Int.fmod_eq_emod_of_nonneg _ (B7y hl)];exact hp.hereT hr _ ⟨_,rfl⟩
def Kt:MV->MV->P MV
 | .int a,.int b=>if 0<=b∧b<=100∧0<=a∧a<=100 then Bg (.int (a ^ b.toNat)) else fl
 | _,_=>fl
theorem Mg:Oo C k (binaryOp .Pow) Kt:=by
 intro A α H s Q E a b r va vb H' hR hr ha hb hf hp;cases a <;> cases b <;> try (exact Cy hf)
 obtain⟨t,rfl⟩:=ha;obtain⟨u,rfl⟩:=hb;replace hf:=ifP hf;obtain⟨hl,hf⟩:=hf
 ·kpf_c;exact PyProof.Rows.pow_int_small (B7z hl) (B70 hl) (by omega) (hp.hereT hr _ ⟨_,rfl⟩)
def Qp:MV->MV->P MV
 | .int a,.int b=>Bg (.int (Builtin.bitAnd a b))
 | _,_=>fl
theorem Vf:Oo C k (binaryOp .BitAnd) Qp:=by
 intro A α H s Q E a b r va vb H' hR hr ha hb hf hp;cases a <;> cases b <;> try (exact Cy hf)
 obtain⟨t,rfl⟩:=ha;obtain⟨u,rfl⟩:=hb;kpf_c;exact PyProof.Rows.and_int (hp.hereT hr _ ⟨_,rfl⟩)
def Fz:MV->MV->P MV
 | .int a,.int b=>Bg (.bool (decide (a<b)))
 | .str a,.str b=>Bg (.bool (decide (a.cps.toList<b.cps.toList)))
 | _,_=>fl
theorem Jv:Oo C k (compareOp .Lt) Fz:=by
 intro A α H s Q E a b r va vb H' hR hr ha hb hf hp;cases a <;> cases b <;> try (exact Cy hf)
 ·obtain⟨t,rfl⟩:=ha;obtain⟨u,rfl⟩:=hb;kpf_c;exact PyProof.Rows.lt_int (hp.here hr rfl)
 ·obtain⟨t,rfl⟩:=ha;obtain⟨u,rfl⟩:=hb;kpf_c;exact PyProof.Rows.lt_str (hp.here hr rfl)
def Vg:MV->MV->P MV
 | .int a,.int b=>Bg (.bool (decide (b<a)))
 | .str a,.str b=>Bg (.bool (decide (b.cps.toList<a.cps.toList)))
 | _,_=>fl
theorem A35:Oo C k (compareOp .Gt) Vg:=by
 intro A α H s Q E a b r va vb H' hR hr ha hb hf hp;cases a <;> cases b <;> try (exact Cy hf)
 ·obtain⟨t,rfl⟩:=ha;obtain⟨u,rfl⟩:=hb;kpf_c;exact PyProof.Rows.gt_int (hp.here hr rfl)
 ·obtain⟨t,rfl⟩:=ha;obtain⟨u,rfl⟩:=hb;kpf_c;exact PySem.P.gt_str (hp.here hr rfl)
def Ze:MV->MV->P MV
 | .int a,.int b=>Bg (.bool (decide (a<=b)))
 | _,_=>fl
theorem A9j:Oo C k (compareOp .LtE) Ze:=by
 intro A α H s Q E a b r va vb H' hR hr ha hb hf hp;cases a <;> cases b <;> try (exact Cy hf)
 obtain⟨t,rfl⟩:=ha;obtain⟨u,rfl⟩:=hb;kpf_c;exact PyProof.Rows.le_int (hp.here hr rfl)
def Vh:MV->MV->P MV
 | .int a,.int b=>Bg (.bool (decide (b<=a)))
 | _,_=>fl
theorem A9k:Oo C k (compareOp .GtE) Vh:=by
 intro A α H s Q E a b r va vb H' hR hr ha hb hf hp;cases a <;> cases b <;> try (exact Cy hf)
 obtain⟨t,rfl⟩:=ha;obtain⟨u,rfl⟩:=hb;kpf_c;exact PyProof.Rows.ge_int (hp.here hr rfl)
end
section
variable {C:Cx} {sc:Scope} {k:Nat}
theorem HR.at{C α H s}(r:HR C α H s){i:Nat}{m:MO}(h:H[i]?=some m):∃a,α[i]?=some a∧ORel C α s.heap a m:=r.objs.get' h
theorem HR.refAt{C α H s}(r:HR C α H s){i:Nat}{m:MO}{v:Value}(h:H[i]?=some m)(hv:VRel α (.ref i) v):∃a,v=.ref a∧ORel C α s.heap a m:=by
 obtain⟨a,h1,h2⟩:=r.at h;obtain⟨b,h3,rfl⟩:=hv;rw[h1] at h3;cases h3;exact⟨_,rfl,h2⟩
noncomputable def Hj:List MV->Option (List Int)
 | []=>some []
 | .int i::r=>(Hj r).map (i::·)
 | _::_=>none
noncomputable def Gu:List MV->Option (List Str)
 | []=>some []
 | .str i::r=>(Gu r).map (i::·)
 | _::_=>none
theorem Hk{α:List Addr}{xs:List MV}{vs:List Value}{ns:List Int}(h:VRels α xs vs)(e:Hj xs=some ns):IntsAre vs ns:=by
 unfold VRels at h
 induction h generalizing ns with
 | nil=>cases e;exact .nil
 | @cons m v l vs r _ ih=>
  cases m with
  | int i=>
   obtain⟨t,rfl⟩:=r;obtain⟨l',h1,rfl⟩:=Ju (show (Hj l).map (i::·)=some ns from e);exact .cons _ _ (ih h1)
  | _=>exact Cy e
theorem F1{α:List Addr}{xs:List MV}{vs:List Value}{ns:List Str}(h:VRels α xs vs)(e:Gu xs=some ns):StrsAre vs ns:=by
 unfold VRels at h
 induction h generalizing ns with
 | nil=>cases e;exact .nil
 | @cons m v l vs r _ ih=>
  cases m with
  | str i=>
   obtain⟨t,rfl⟩:=r;obtain⟨l',h1,rfl⟩:=Ju (show (Gu l).map (i::·)=some ns from e);exact .cons _ _ (ih h1)
  | _=>exact Cy e
theorem G9{vs:List Value}{ys:List Str}(h:StrsAre vs ys):CarriedAll vs (ys.map PyData.str):=by
 induction h with
 | nil=>exact .nil
 | cons _ t _ ih=>exact .cons (.str _ t) ih
theorem Ln(ys:List Str)(h:ys.all PyData.strOk=true):SeqAt.shaped (.list (ys.map PyData.str))=true:=by
 have h1:PyData.canLayAll0 (ys.map PyData.str)=true:=by
  induction ys with
  | nil=>rfl
  | cons y l ih=>
   simp only[List.all_cons,Bool.and_eq_true] at h;simp only[List.map_cons,PyData.canLayAll0,PyData.canLay0,Bool.and_eq_true];exact⟨h.1,ih h.2⟩
 have h2:PyData.depthAll (ys.map PyData.str)<=1:=by
  clear h h1
  induction ys with
  | nil=>simp[PyData.depthAll]
  | cons y l ih=>simp only[List.map_cons,PyData.depthAll,PyData.depth];assumption
 simp only[SeqAt.shaped,PyData.canLay0,PyData.depth,h1,Bool.true_and];refine decide_eq_true ?_;exact B71 h2
theorem Mh:∀ns ms:List Str,PySem.Spec.sameAll (ns.map PyData.str) (ms.map PyData.str)=decide (ns=ms)
 | [],[]=>by simp[PySem.Spec.sameAll]
 | [],_::_=>by simp[PySem.Spec.sameAll]
 | _::_,[]=>by simp[PySem.Spec.sameAll]
 | a::r,b::t=>by
  simp only[List.map_cons,PySem.Spec.sameAll,PySem.Spec.same,Mh r t];by_cases h:a=b <;> by_cases h':r=t <;> simp[h,h']
noncomputable def Pw:MV->Option Int
 | .int i=>some i
 | _=>none
noncomputable def Lo:MV->Option Str
 | .str x=>some x
 | _=>none
theorem C1{α:List Addr}{m:MV}{i:Int}{v:Value}(h:Pw m=some i)(hv:VRel α m v):∃t,v=.int i t:=by
 cases m <;> first |exact Cy h|(cases h;exact hv)
theorem Cm{α:List Addr}{m:MV}{x:Str}{v:Value}(h:Lo m=some x)(hv:VRel α m v):∃t,v=.str x t:=by
 cases m <;> first |exact Cy h|(cases h;exact hv)
noncomputable def asR:MV->Option Nat
 | .ref i=>some i
 | _=>none
theorem Ii{m:MV}{i:Nat}(h:asR m=some i):m=.ref i:=by
 cases m <;> first |exact Cy h|(cases h;rfl)
def I8(xs ys:List MV):Option Bool:=
 ((Hj xs).bind fun ns=>(Hj ys).map fun ms=>decide (ns=ms)).or
  ((Gu xs).bind fun ns=>(Gu ys).bind fun ms=>if (ns.all PyData.strOk&&ms.all PyData.strOk)=true then some (decide (ns=ms)) else none)
inductive LEq(xs ys:List MV)(b:Bool):Prop
 | ofI (ns ms:List Int) (i1:Hj xs=some ns) (i2:Hj ys=some ms) (e:b=decide (ns=ms))
 | ofS (ns ms:List Str) (i1:Gu xs=some ns) (i2:Gu ys=some ms) (o1:ns.all PyData.strOk=true) (o2:ms.all PyData.strOk=true) (e:b=decide (ns=ms))
theorem Na{xs ys:List MV}{b:Bool}(h:I8 xs ys=some b):LEq xs ys b:=by
 rcases orS h with h|⟨_,h⟩
 ·obtain⟨ns,i1,h⟩:=Dw h;obtain⟨ms,i2,h⟩:=Ju h;exact .ofI ns ms i1 i2 h.symm
 ·obtain⟨ns,i1,h⟩:=Dw h;obtain⟨ms,i2,h⟩:=Dw h;obtain⟨o,h⟩:=Lm h;obtain⟨o1,o2⟩:=Bool.and_eq_true_iff.mp o;exact .ofS ns ms i1 i2 o1 o2 (Option.some.inj h).symm
noncomputable def Kn:MO->Option (List MV)
 | .list xs=>some xs
 | _=>none
theorem Fi{H:Hp}{i:Nat}{xs:List MV}(h:H[i]?.bind Kn=some xs):H[i]?=some (.list xs):=by
 obtain⟨o,e,h⟩:=Dw h;cases o <;> first |exact Cy h|(cases h;exact e)
def D0f(i j:Nat):P MV:=fun H=>(H[i]?.bind Kn).bind fun xs=>(H[j]?.bind Kn).bind fun ys=>
 if xs.length=ys.length then (I8 xs ys).map fun b=>(.bool b,H) else some (.bool false,H)
def Bb:MV->MV->P MV
 | .bool a,.bool b=>Bg (.bool (a==b))
 | .int a,.int b=>Bg (.bool (a==b))
 | .str a,.str b=>Bg (.bool (a==b))
 | .ref i,.ref j=>D0f i j
 | _,_=>fl
theorem C2{h:Heap}{a:Addr}{vs:Array Value}(x:h.IsList a vs):h.IsList a vs.toList.toArray:=by simpa using x
theorem Bn:Oo C k (compareOp .Eq) Bb:=by
 intro A α H s Q E a b r va vb H' hR hr ha hb hf hp;cases a <;> cases b <;> try (exact Cy hf)
 ·obtain rfl:=ha;obtain rfl:=hb;replace hp:=D8 hf hp;exact PyProof.Rows.eq_bool (hp.here hr rfl)
 ·obtain⟨t,rfl⟩:=ha;obtain⟨u,rfl⟩:=hb;replace hp:=D8 hf hp;exact PyProof.Rows.eq_int (hp.here hr rfl)
 ·obtain⟨t,rfl⟩:=ha;obtain⟨u,rfl⟩:=hb;replace hp:=D8 hf hp;exact PyProof.Rows.eq_str (hp.here hr rfl)
 ·rename_i i j;have hu:A.units+64<cLine:=by have:=hR.units;exact B6r this
  obtain⟨xs,e1,hf⟩:=Dw (show (H[i]?.bind Kn).bind _=_ from hf);obtain⟨ys,e2,hf⟩:=Dw hf;obtain⟨x,rfl,us,lu,ru⟩:=hr.refAt (Fi e1) ha;obtain⟨y,rfl,vs,lv,rv⟩:=hr.refAt (Fi e2) hb;by_cases hl:xs.length=ys.length
  ·rw[if_pos hl] at hf;obtain⟨b,hb',hf⟩:=Ju hf;replace hp:=D8 (congrArg some hf) hp;cases Na hb' with
   | ofI ns ms i1 i2 e=>
    subst e;exact ke_eq_ints (C2 lu.isList) (C2 lv.isList) (Hk ru i1) (Hk rv i2) hu (hp.here hr rfl)
   | ofS ns ms i1 i2 o1 o2 e=>
    subst e;exact eq_dataH_same (reads_newData (C2 lu.isList) (G9 (F1 ru i1))) (reads_newData (C2 lv.isList) (G9 (F1 rv i2))) (Ln _ o1) (Ln _ o2) hu
     (SeqAt.noMix_of_shape (.list .str) rfl _ _ (list_map_has fun zz=>rfl) (list_map_has fun zz=>rfl)) (by simp only[PySem.Spec.same];rw[Mh];exact hp.here hr rfl)
  ·rw[if_neg hl] at hf;replace hp:=D8 hf hp;have s1:=ru.length;have s2:=rv.length;simp only[Array.length_toList] at s1 s2;exact SeqAt.eq_list_lengthsAt lu.isList lv.isList (by simp;exact B72 hl s1 s2) (B73 hu) (hp.here hr rfl)
def D0g(i j:Nat):P MV:=fun H=>(H[i]?.bind Kn).bind fun xs=>(H[j]?.bind Kn).bind fun ys=>(I8 xs ys).map fun b=>(.bool (!b),H)
def I9:MV->MV->P MV
 | .int a,.int b=>Bg (.bool (a != b))
 | .str a,.str b=>Bg (.bool (a != b))
 | .ref i,.ref j=>D0g i j
 | _,_=>fl
theorem Jw:Oo C k (compareOp .NotEq) I9:=by
 intro A α H s Q E a b r va vb H' hR hr ha hb hf hp;cases a <;> cases b <;> try (exact Cy hf)
 ·obtain⟨t,rfl⟩:=ha;obtain⟨u,rfl⟩:=hb;replace hp:=D8 hf hp;exact PyProof.Rows.ne_int (hp.here hr rfl)
 ·obtain⟨t,rfl⟩:=ha;obtain⟨u,rfl⟩:=hb;replace hp:=D8 hf hp;exact PyProof.Rows.ne_str (hp.here hr rfl)
 ·rename_i i j;have hu:A.units+64<cLine:=by have:=hR.units;exact B6r this
  obtain⟨xs,e1,hf⟩:=Dw (show (H[i]?.bind Kn).bind _=_ from hf);obtain⟨ys,e2,hf⟩:=Dw hf;obtain⟨x,rfl,us,lu,ru⟩:=hr.refAt (Fi e1) ha;obtain⟨y,rfl,vs,lv,rv⟩:=hr.refAt (Fi e2) hb;obtain⟨b,hb',hf⟩:=Ju hf;replace hp:=D8 (congrArg some hf) hp;cases Na hb' with
  | ofI ns ms i1 i2 e=>
   subst e;exact ke_ne_ints (C2 lu.isList) (C2 lv.isList) (Hk ru i1) (Hk rv i2) hu (hp.here hr rfl)
  | ofS ns ms i1 i2 o1 o2 e=>
   subst e;exact ne_dataH_same (reads_newData (C2 lu.isList) (G9 (F1 ru i1))) (reads_newData (C2 lv.isList) (G9 (F1 rv i2))) (Ln _ o1) (Ln _ o2) hu
    (SeqAt.noMix_of_shape (.list .str) rfl _ _ (list_map_has fun zz=>rfl) (list_map_has fun zz=>rfl)) (by simp only[PySem.Spec.same];rw[Mh];exact hp.here hr rfl)
def Nb:MV->List MV->Option Bool
 | .int i,xs=>(Hj xs).map fun ns=>ns.any (·==i)
 | .str i,xs=>(Gu xs).map fun ns=>ns.any (·==i)
 | _,_=>none
def A37(x:MV)(j:Nat):P MV:=fun H=>(H[j]?.bind Kn).bind fun xs=>(Nb x xs).map fun b=>(.bool (!b),H)
def Fj:MV->MV->P MV
 | .str y,.str x=>Bg (.bool (Builtin.Str.occurrences x y 0 x.length 1).isEmpty)
 | x,.ref j=>A37 x j
 | _,_=>fl
theorem A38{h:Heap}{a:Addr}{vs:Array Value}(x:h.IsTuple a vs):IsTup h a vs:=x
theorem Nu{h:Heap}{a:Addr}{vs:Array Value}(x:h.IsList a vs):h.IsList a vs.toList.toArray:=by simpa using x
theorem Lp:Oo C k (compareOp .NotIn) Fj:=by
 intro A α H s Q E a b r va vb H' hR hr ha hb hf hp;cases b with
 | str x=>
  cases a <;> try (exact Cy hf)
  obtain⟨t,rfl⟩:=ha;obtain⟨u,rfl⟩:=hb;kpf_c;exact PyProof.Rows.notIn_str (by rw[Bool.not_not];exact hp.here hr rfl)
 | ref j=>
  have hf:A37 a j H=some (r,H'):=by cases a <;> exact hf
  obtain⟨xs,e,hf⟩:=Dw (show (H[j]?.bind Kn).bind _=_ from hf);obtain⟨x,rfl,us,lu,ru⟩:=hr.refAt (Fi e) hb;obtain⟨c,h1,h2⟩:=Ju hf;replace hp:=D8 (congrArg some h2) hp;cases a <;> try (exact Cy h1)
  ·obtain⟨ns,h3,rfl⟩:=Ju h1;obtain⟨t,rfl⟩:=ha;exact PyProof.Rows.notin_list_ints (Nu lu.isList) (Hk ru h3) (hp.here hr rfl)
  ·obtain⟨ns,h3,rfl⟩:=Ju h1;obtain⟨t,rfl⟩:=ha;exact PyProof.Rows.notin_list_strs (Nu lu.isList) (F1 ru h3) (hp.here hr rfl)
 | _=>cases a <;> exact Cy hf
end
section
variable {C:Cx} {sc:Scope} {k:Nat}
theorem Py(G:Gd C){α H s}(r:HR C α H s):C.B.objs.size<=s.heap.objs.size:=by
 obtain⟨o,ho⟩:=G.last;obtain⟨o',ho'⟩:=r.liveB _ _ ho;have h1:C.B.objs.size-1<s.heap.objs.size:=Heap.lt_size ho';exact B74 h1
theorem Fk(G:Gd C){a:Addr}(h:C.B.objs.size<=a):a ∉ C.tabs:=fun q=>by
 obtain⟨o,ho⟩:=G.tabs a q;exact absurd (Heap.lt_size ho) (Nat.not_lt.mpr h)
theorem Jx{h:Heap}:h.get? h.objs.size=none:=by
 cases q:h.get? h.objs.size with
 | none=>rfl
 | some o=>exact absurd (Heap.lt_size q) (Nat.lt_irrefl _)
theorem HR.push{α H s}(r:HR C α H s)(o:Obj)(tk:Nat):HR C α H {s with heap:=s.heap.push o,toks:=tk}:=
 r.step (fun zz zz h zz=>Heap.get?_push_of_some _ h) (fun zz o h=>⟨o,Heap.get?_push_of_some _ h⟩) r.gens rfl
theorem Ext.push{X α s}(o:Obj)(tk:Nat):Ext C X α s α {s with heap:=s.heap.push o,toks:=tk}:=
 ⟨List.prefix_refl _,fun zz h=>.inl h,fun zz zz h zz zz zz=>Heap.get?_push_of_some _ h,fun zz o h=>⟨o,Heap.get?_push_of_some _ h⟩⟩
theorem HR.follow(G:Gd C){α H s}(r:HR C α H s){a:Addr}{m:MO}(ha:C.B.objs.size<=a)(hn:a ∉ α)(ho:ORel C (α++[a]) s.heap a m):HR C (α++[a]) (H++[m]) s:=by
 refine⟨r.keepB,r.liveB,fun b hb=>?_,?_,?_,r.gens,r.os,r.inv⟩
 ·rcases List.mem_append.mp hb with h|h
  ·exact r.new b h
  ·cases List.mem_singleton.mp h;exact⟨ha,Fk G ha⟩
 ·rw[List.nodup_append];exact⟨r.nodup,by simp,fun x hx y hy=>by cases List.mem_singleton.mp hy;intro e;subst e;exact hn hx⟩
 ·refine All2.append ?_ (.cons ho .nil);exact r.objs.imp fun a m h=>h.mono (List.prefix_append ..) fun o ho=>ho
theorem Iv{α H s}(r:HR C α H s){a:Addr}(h:a∈α):∃o,s.heap.get? a=some o:=by
 obtain⟨i,hi,e⟩:=List.getElem_of_mem h;obtain⟨m,_,hm⟩:=r.objs.get (i:=i) (a:=a) (by rw[List.getElem?_eq_getElem hi,e]);cases m with
 | list xs=>obtain⟨_,⟨_,ho⟩,_⟩:=hm;exact⟨_,ho⟩
 | tup xs=>obtain⟨_,⟨o,ho,_⟩,_⟩:=hm;exact⟨o,ho⟩
 | dict es=>obtain⟨_,⟨o,_,ho,_⟩,_⟩:=hm;exact⟨o,ho⟩
 | meth id k=>obtain⟨_,_,ho⟩:=hm;exact⟨_,ho⟩
 | obj o=>exact⟨o,hm⟩
 | rng a b c=>obtain⟨_,_,_,ho⟩:=hm;exact⟨_,ho⟩
 | mtch x j=>obtain⟨_,_,_,_,_,_,_,ho⟩:=hm;exact⟨_,ho⟩
theorem Lq{α H s}(r:HR C α H s):s.heap.objs.size ∉ α:=fun h=>by
 obtain⟨o,ho⟩:=Iv r h;exact Nat.lt_irrefl _ (Heap.lt_size ho)
theorem HR.alloc(G:Gd C){α H s}(r:HR C α H s)(o:Obj)(m:MO)(tk:Nat)(ho:∀α' h,α<+:α'->h.get? s.heap.objs.size=some o->ORel C α' h s.heap.objs.size m)(hf:o.isFreed=false:=by rfl):
  HR C (α++[s.heap.objs.size]) (H++[m]) {s with heap:=s.heap.push o,toks:=tk}:=
 (r.push o tk).follow G (Py G r) (Lq r) (ho _ _ (List.prefix_append ..) (Heap.get?_push_size _ hf))
theorem Ext.alloc{X α s}(o:Obj)(tk:Nat):Ext C X α s (α++[s.heap.objs.size]) {s with heap:=s.heap.push o,toks:=tk}:=
 ⟨List.prefix_append ..,fun a ha=>by
   rcases List.mem_append.mp ha with h|h
   ·exact .inl h
   ·cases List.mem_singleton.mp h;exact .inr Jx,
  fun zz zz h zz zz zz=>Heap.get?_push_of_some _ h,fun zz o h=>⟨o,Heap.get?_push_of_some _ h⟩⟩
theorem Fc{α H s}(r:HR C α H s)(a:Addr):VRel (α++[a]) (.ref H.length) (.ref a):=⟨a,by rw[<- r.objs.length];simp,rfl⟩
def SEs(C:Cx)(sc:Scope)(k:Nat)(es:List Expr)(f:Aj->P (List MV)):Prop:=
 ∀(A:Around) (env:Env) (α:List Addr) (ρ:Aj) (H:Hp) (s:Shared) (pos:Pos) (Q:List Value->Shared->Prop) (E:Value->Shared->Prop) (r:List MV) (H':Hp),
  Room k A->HR C α H s->ER C α ρ sc env s.heap->f ρ H=some (r,H')->
  (∀α' s' vs,HR C α' H' s'->Ext C [] α s α' s'->VRels α' r vs->Q vs s')->wpAny (model C.prog C.w) A (spliced (backTo pos (starEach es env))) Q E s
theorem Ai:SEs C sc k [] (fun zz=>Bg []):=by
 intro A env α ρ H s pos Q E r H' _ hr _ hf hp;kpf_c;exact spliced_none (hp α s [] hr .refl .nil)
theorem Ad{e:Expr}{es:List Expr}{f:Aj->P MV}{g:Aj->P (List MV)}(h:SE C sc k e f)(hs:SEs C sc k es g)
  (hst:∀env,starEach (e::es) env=(false,eval e env)::starEach es env:=by intro _;rfl):SEs C sc k (e::es) (fun ρ=>B9 (f ρ) fun a=>B9 (g ρ) fun r=>Bg (a::r)):=by
 intro A env α ρ H s pos Q E r H' hR hr he hf hp;obtain⟨a,H₁,qA,hf⟩:=Aw hf;obtain⟨b,HP,qB,hf⟩:=Aw hf;kpf_c;refine spliced_more ?_ (hst env);refine h A env α ρ H s _ _ _ _ hR hr he qA fun αA sA vA rH xO wA=>?_;refine hs A env αA ρ H₁ sA pos _ _ _ _ hR rH (he.ext xO) qB fun αB sB vs rI xP wB=>?_;exact hp αB sB (vA::vs) rI (xO.trans xP) (.cons (wA.mono xP.pre) wB)
noncomputable def Bd(xs:List MV):P MV:=fun H=>if xs.length<=16777216 then some (.ref H.length,H++[.list xs]) else none
noncomputable def Bq(xs:List MV):P MV:=fun H=>if xs.length<=16777216 then some (.ref H.length,H++[.tup xs]) else none
theorem Op(G:Gd C){A:Around}{α H s Q E r H'}{xs:List MV}{vs:List Value}(hr:HR C α H s)(hv:VRels α xs vs)(hf:Bd xs H=some (r,H'))(hp:Post C α s r H' Q):
  wpAny (model C.prog C.w) A (newList vs) Q E s:=by
 unfold Bd at hf
 split at hf
 ·rename_i hl;kpf_c;refine wpAny_newObj_type (hp _ _ _ (hr.alloc G _ (.list xs) s.toks fun α' h p ho=>?_) (.alloc _ _) (Fc hr _)) (by show vs.toArray.size<=sizeLine;rw[List.size_toArray,<- hv.length];exact hl);exact⟨vs.toArray,⟨0,ho⟩,by simpa using hv.mono p⟩
 ·kpf_c
theorem St(G:Gd C){A:Around}{α H s Q E r H'}{xs:List MV}{vs:List Value}(hr:HR C α H s)(hv:VRels α xs vs)(hf:Bq xs H=some (r,H'))(hp:Post C α s r H' Q):
  wpAny (model C.prog C.w) A (newTuple vs) Q E s:=by
 unfold Bq at hf
 split at hf
 ·rename_i hl;kpf_c;refine wpAny_newObj_type (hp _ _ _ (hr.alloc G _ (.tup xs) s.toks fun α' h p ho=>?_) (.alloc _ _) (Fc hr _)) (by show vs.toArray.size<=sizeLine;rw[List.size_toArray,<- hv.length];exact hl);exact⟨vs.toArray,⟨_,ho,rfl,0,rfl⟩,by simpa using hv.mono p⟩
 ·kpf_c
theorem Ca(G:Gd C){es:List Expr}{pos:Pos}{f:Aj->P (List MV)}(h:SEs C sc k es f):SE C sc k (.List es pos) (fun ρ=>B9 (f ρ) Bd):=by
 intro A env α ρ H s Q E r H' hR hr he hf hp;obtain⟨xs,H₁,qA,hf⟩:=Aw hf;exact List_ (h A env α ρ H s pos _ _ _ _ hR hr he qA fun αA sA vs rH xO wA=>Op G rH wA hf (hp.chain xO))
theorem Cn(G:Gd C){es:List Expr}{kd:Nat}{pos:Pos}{f:Aj->P (List MV)}(h:SEs C sc k es f):SE C sc k (.Tuple es kd pos) (fun ρ=>B9 (f ρ) Bq):=by
 intro A env α ρ H s Q E r H' hR hr he hf hp;obtain⟨xs,H₁,qA,hf⟩:=Aw hf;exact Tuple_ (h A env α ρ H s pos _ _ _ _ hR hr he qA fun αA sA vs rH xO wA=>St G rH wA hf (hp.chain xO))
noncomputable def Vi:P MV:=fun H=>some (.ref H.length,H++[.dict []])
theorem A39(G:Gd C){pos:Pos}:SE C sc k (.Dict [] [] pos) (fun zz=>Vi):=by
 intro A env α ρ H s Q E r H' hR hr he hf hp;kpf_c;refine wpAny_Dict_empty (hp _ _ _ (hr.alloc G _ (.dict []) s.toks fun α' h p ho=>?_) (.alloc _ _) (Fc hr _));exact⟨[],⟨_,#[],ho,⟨rfl,rfl,rfl⟩,rfl,fun zz he=>by simp at he,.nil,List.nodup_nil⟩,.nil⟩
end
section
variable {C:Cx} {sc:Scope} {k:Nat}
noncomputable def ofT:MO->Option (List MV)
 | .tup xs=>some xs
 | _=>none
theorem Ra{H:Hp}{i:Nat}{xs:List MV}(h:H[i]?.bind ofT=some xs):H[i]?=some (.tup xs):=by
 obtain⟨o,e,h⟩:=Dw h;cases o <;> first |exact Cy h|(cases h;exact e)
noncomputable def ofD:MO->Option (List (Int × MV))
 | .dict xs=>some xs
 | _=>none
theorem Rb{H:Hp}{i:Nat}{xs:List (Int × MV)}(h:H[i]?.bind ofD=some xs):H[i]?=some (.dict xs):=by
 obtain⟨o,e,h⟩:=Dw h;cases o <;> first |exact Cy h|(cases h;exact e)
noncomputable def asA:Value->Option Addr
 | .ref a=>some a
 | _=>none
theorem Vj{v:Value}{a:Addr}(h:asA v=some a):v=.ref a:=by
 cases v <;> first |exact Cy h|(cases h;rfl)
def D0(T:GT)(H:Hp):MV->Option (List MV)
 | .ref i=>H[i]?.bind ofT
 | .val v=>(asA v).bind T.tup
 | _=>none
def C7(T:GT)(H:Hp):MV->Option (List MV)
 | .ref i=>H[i]?.bind Kn
 | .val v=>(asA v).bind T.lst
 | _=>none
inductive D3f(α:List Addr)(s:Shared)(v:Value)(xs:List MV):Prop
 | mk (a:Addr) (vs:Array Value) (e:v=.ref a) (h:s.heap.IsTuple a vs) (r:VRels α xs vs.toList)
inductive D3g(α:List Addr)(s:Shared)(v:Value)(xs:List MV):Prop
 | mk (a:Addr) (vs:Array Value) (e:v=.ref a) (h:s.heap.IsList a vs) (r:VRels α xs vs.toList)
theorem Jy(G:Gd C){α H s}(r:HR C α H s){m:MV}{v:Value}{xs:List MV}(h:D0 C.T H m=some xs)(hv:VRel α m v):D3f α s v xs:=by
 cases m <;> try (exact Cy h)
 ·obtain⟨a,rfl,vs,h1,h2⟩:=r.refAt (Ra h) hv;exact⟨a,vs,rfl,h1,h2⟩
 ·cases hv;obtain⟨a,ea,h⟩:=Dw (show (asA _).bind _=_ from h);obtain⟨vs,⟨o,ho,q⟩,h2,h3⟩:=G.gtup _ _ h;exact⟨_,vs,Vj ea,⟨o,r.keepB _ _ ho h3,q⟩,h2.mono (List.nil_prefix)⟩
theorem Ij(G:Gd C){α H s}(r:HR C α H s){m:MV}{v:Value}{xs:List MV}(h:C7 C.T H m=some xs)(hv:VRel α m v):D3g α s v xs:=by
 cases m <;> try (exact Cy h)
 ·obtain⟨a,rfl,vs,h1,h2⟩:=r.refAt (Fi h) hv;exact⟨a,vs,rfl,h1.isList,h2⟩
 ·cases hv;obtain⟨a,ea,h⟩:=Dw (show (asA _).bind _=_ from h);obtain⟨vs,⟨o,ho,q⟩,h2,h3⟩:=G.glst _ _ h;exact⟨_,vs,Vj ea,⟨o,r.keepB _ _ ho h3,q⟩,h2.mono (List.nil_prefix)⟩
noncomputable def Lr(es:List (Int × MV))(i:Int):Option MV:=(es.find? fun e=>e.1=i).map (·.2)
theorem Mi{kvs:List (Int × Value)}{es:List (Int × MV)}{α:List Addr}(h:All2 (fun (x:Int × MV) (y:Int × Value)=>x.1=y.1∧VRel α x.2 y.2) es kvs)(i:Int):
  (∀v,Lr es i=some v->∃u,valueAt kvs i=some u∧VRel α v u)∧(Lr es i=none->valueAt kvs i=none):=by
 unfold Lr valueAt
 induction h with
 | nil=>exact⟨fun zz h=>by simp at h,fun zz=>rfl⟩
 | @cons a b l m h _ ih=>
  obtain⟨x,v⟩:=a;obtain⟨y,u⟩:=b;obtain⟨e,r⟩:=h;dsimp only at e r;subst e;simp only[List.find?_cons];by_cases q:x=i
  ·simp only[q,decide_true,Option.map_some];exact⟨fun v' h=>by cases h;exact⟨_,rfl,r⟩,fun h=>by cases h⟩
  ·simp only[q,decide_false];exact ih
def Mj(H:Hp)(m:MV):Option (List (Int × MV)):=(asR m).bind fun j=>H[j]?.bind ofD
theorem Jz{H:Hp}{m:MV}{es:List (Int × MV)}(h:Mj H m=some es):∃j,m=.ref j∧H[j]?=some (.dict es):=by
 obtain⟨j,e,h⟩:=Dw h;exact⟨j,Ii e,Rb h⟩
def Su(x c:MV):Option Bool:=(Lo c).bind fun t=>(Lo x).map fun y=>!(Builtin.Str.occurrences t y 0 t.length 1).isEmpty
def Oq(T:GT)(H:Hp)(x c:MV):Option Bool:=
 (Su x c).or (((C7 T H c).bind (Nb x)).or (((D0 T H c).bind (Nb x)).or ((Mj H c).bind fun es=>(Pw x).map fun i=>(Lr es i).isSome)))
def Fa(T:GT):MV->MV->P MV:=fun x c H=>(Oq T H x c).map fun b=>(.bool b,H)
theorem X8(G:Gd C){α H s}(hr:HR C α H s){j:Nat}{x:Addr}(hb:VRel α (.ref j) (.ref x)):(x==sysModules)=false:=by
 obtain⟨y,h1,h2⟩:=hb;cases h2;exact beq_eq_false_iff_ne.mpr (Nat.ne_of_gt (Nat.lt_of_lt_of_le G.low (hr.new _ (List.mem_of_getElem? h1)).1))
theorem Iw(G:Gd C):Oo C k (compareOp .In) (Fa C.T):=by
 intro A α H s Q E a b r va vb H' hR hr ha hb hf hp;obtain⟨c,hf',e⟩:=Ju hf;clear hf;cases e;have hf:=hf';clear hf';rcases orS hf with hf|⟨_,hf⟩
 ·obtain⟨t,e1,hf⟩:=Dw hf;obtain⟨y,e2,hf⟩:=Ju hf;obtain⟨u,rfl⟩:=Cm e1 hb;obtain⟨u',rfl⟩:=Cm e2 ha;cases hf;exact PyProof.Rows.in_str (hp.here hr rfl)
 rcases orS hf with hf|⟨_,hf⟩
 ·obtain⟨xs,e,h1⟩:=Dw hf;obtain⟨x,us,rfl,lu,ru⟩:=Ij G hr e hb;cases a <;> try (exact Cy h1)
  ·obtain⟨ns,h3,rfl⟩:=Ju h1;obtain⟨t,rfl⟩:=ha;exact PyProof.Rows.in_list_ints (Nu lu) (Hk ru h3) (hp.here hr rfl)
  ·obtain⟨ns,h3,rfl⟩:=Ju h1;obtain⟨t,rfl⟩:=ha;exact PyProof.Rows.in_list_strs (Nu lu) (F1 ru h3) (hp.here hr rfl)
 rcases orS hf with hf|⟨_,hf⟩
 ·obtain⟨xs,e,h1⟩:=Dw hf;obtain⟨x,us,rfl,lu,ru⟩:=Jy G hr e hb;cases a <;> try (exact Cy h1)
  ·obtain⟨ns,h3,rfl⟩:=Ju h1;obtain⟨t,rfl⟩:=ha;exact PyProof.Rows.in_tuple_ints lu (Hk ru h3) (hp.here hr rfl)
  ·obtain⟨ns,h3,rfl⟩:=Ju h1;obtain⟨t,rfl⟩:=ha;exact PyProof.Rows.in_tuple_strs lu (F1 ru h3) (hp.here hr rfl)
 ·obtain⟨es,e,hf⟩:=Dw hf;obtain⟨j,hi,ec⟩:=Ju hf;obtain⟨i,rfl,e'⟩:=Jz e;obtain⟨x,rfl,kvs,hd,hv⟩:=hr.refAt e' hb;obtain⟨t,rfl⟩:=C1 hi ha;refine wpAny_in_of (knd:=intKind C.prog C.w) (k:=j) (by simp[intKind,Value.isInt]) (X8 G hr hb) hd.dictOf.mapOf ?_;have q:(valueAt kvs j).isSome=(Lr es j).isSome:=by
   obtain⟨f1,f2⟩:=Mi hv j;cases q:Lr es j with
   | none=>rw[f2 q];rfl
   | some v=>obtain⟨u,hu,_⟩:=f1 v q;rw[hu];rfl
  rw[q,ec];exact hp.hereT hr _ rfl
noncomputable def K4(xs:List MV)(i:Int):Option MV:=if 0<=i then xs[i.toNat]? else if -(xs.length:Int)<=i then xs[(i+xs.length).toNat]? else none
noncomputable def lim:Int:=9223372036854775808
def X9(o:MV)(n:Int):Option MV:=(Lo o).bind fun x=>((seqIndex? n x.length).bind (x.cps[·]?)).map fun c=>.str ⟨#[c]⟩
def Os(T:GT)(H:Hp)(o:MV)(n:Int):Option MV:=
 (X9 o n).or (((C7 T H o).bind fun xs=>K4 xs n).or (((D0 T H o).bind fun xs=>if 0<=n then xs[n.toNat]? else none).or ((Mj H o).bind fun es=>Lr es n)))
def Ao(T:GT):MV->MV->P MV:=fun o i H=>(Pw i).bind fun n=>if -lim<=n∧n<lim then (Os T H o n).map fun v=>(v,H) else none
theorem Rc{n:Int}{m:Nat}(h0:0<=n)(h:n.toNat<m):seqIndex? n m=some n.toNat:=by
 unfold seqIndex?;have h1:¬n<0:=by exact B75 h0
 have h2:n<(m:Int):=by exact B76 h0 h
 simp only[if_neg h1];rw[decide_eq_true h0,decide_eq_true h2];rfl
theorem Zf(G:Gd C){value slice:Expr}(hs:∀o i,subscripted slice false o i=operate [o,i] (getItem o i)):Oo C k (fun o i=>subscriptTail value slice o i) (Ao C.T):=by
 intro A α H s Q E a b r va vb H' hR hr ha hb hf hp;obtain⟨n,e,hf⟩:=Dw hf;obtain⟨t,rfl⟩:=C1 e hb;obtain⟨⟨n1,n2⟩,hf⟩:=Lm hf;obtain⟨v,hf',e⟩:=Ju hf;clear hf;cases e;have hf:=hf';clear hf';unfold lim at n1 n2;rcases orS hf with hf|⟨_,hf⟩
 ·obtain⟨x,e1,hf⟩:=Dw hf;obtain⟨c,h1,h2⟩:=Ju hf;obtain⟨u,rfl⟩:=Cm e1 ha;cases h2;refine tail_any (typeIs_str _ _ _) PySem.F.slot_str_getitem.lookup (getItem_str ?_ h1 (hp.hereT hr _ ⟨_,rfl⟩)) (hs _ _);simp only[Bool.or_eq_false_iff,decide_eq_false_iff_not];exact⟨Int.not_lt.mpr n1,Int.not_le.mpr n2⟩
 rcases orS hf with hf|⟨_,hf⟩
 ·obtain⟨xs,e,h1⟩:=Dw hf;obtain⟨x,us,rfl,lu,ru⟩:=Ij G hr e ha;refine tail_any lu.typeIs slot_list_getitem.lookup ?_ (hs _ _);unfold K4 at h1
  split at h1
  ·rename_i h0;obtain⟨v',g1,g2⟩:=ru.get h1;exact wpAny_getItem_list lu h0 n2 (by simpa using g1) (hp.here hr g2)
  ·rename_i h0;obtain⟨hl,h1⟩:=Lm h1;obtain⟨v',g1,g2⟩:=ru.get h1;have sz:xs.length=us.size:=by simpa using ru.length
   rw[sz] at g1 hl;exact wpAny_getItem_list_neg lu (Int.not_le.mp h0) hl n1 (by simpa using g1) (hp.here hr g2)
 rcases orS hf with hf|⟨_,hf⟩
 ·obtain⟨xs,e,h1⟩:=Dw hf;obtain⟨x,us,rfl,lu,ru⟩:=Jy G hr e ha;obtain⟨h0,h1⟩:=Lm h1;obtain⟨v',g1,g2⟩:=ru.get h1;have hlt:=(List.getElem?_eq_some_iff.mp g1).1;exact item_tupleT (l:=us.toList) (A38 (by simpa using lu)) (by assumption) (by assumption) (Rc h0 hlt) g1 (hp.here hr g2) (hs _ _)
 ·obtain⟨es,e,h1⟩:=Dw hf;obtain⟨j,rfl,e'⟩:=Jz e;obtain⟨x,rfl,kvs,hd,hv⟩:=hr.refAt e' ha;obtain⟨u,hu,hv'⟩:=(Mi hv n).1 _ h1;refine tail_any hd.dictOf.typeIs slot_dict_getitem.lookup ?_ (hs _ _);exact wpAny_getItem_of (knd:=intKind C.prog C.w) (k:=n) (by simp[intKind,Value.isInt]) hd.dictOf.mapOf hu (hp.hereT hr _ hv')
theorem A3(G:Gd C){eO eP:Expr}{fA fB:Aj->P MV}{pos:Pos}(hH:SE C sc k eO fA)(h₂:SE C sc k eP fB)
  (hs:∀o i,subscripted eP false o i=operate [o,i] (getItem o i):=by intro _ _;rfl):SE C sc k (.Subscript eO eP pos) (fun ρ=>B9 (fA ρ) fun a=>B9 (fB ρ) fun b=>Ao C.T a b):=by
 intro A env α ρ H s Q E r H' hR hr he hf hp;obtain⟨a,H₁,qA,hf⟩:=Aw hf;obtain⟨b,HP,qB,hf⟩:=Aw hf;refine Subscript_ (hH A env α ρ H s _ _ _ _ hR hr he qA fun αA sA vA rH xO wA=>?_);refine h₂ A env αA ρ H₁ sA _ _ _ _ hR rH (he.ext xO) qB fun αB sB vB rI xP wB=>?_;exact Zf G hs A αB HP sB _ _ _ _ _ _ _ _ hR rI (wA.mono xP.pre) wB hf (hp.chain (xO.trans xP))
def Fs(T:GT):MV->P Bool:=fun v H=>match v with
 | .bool b=>some (b,H)
 | .int i=>some (i != 0,H)
 | .str x=>if x.length<=16777216 then some ((x.length:Int) != 0,H) else none
 | .none=>some (false,H)
 | v=>(C7 T H v).bind fun xs=>if xs.length<=16777216 then some (!xs.isEmpty,H) else none
theorem Qq(G:Gd C){A:Around}{α H s E H'}{Q:Bool->Shared->Prop}{m:MV}{v:Value}{b:Bool}(hr:HR C α H s)(hv:VRel α m v)(hf:((C7 C.T H m).bind fun xs=>if xs.length<=16777216 then some (!xs.isEmpty,H) else none)=some (b,H'))
  (hq:∀tk,HR C α H' {s with toks:=tk}->Q b {s with toks:=tk}):wpAny (model C.prog C.w) A (truthy v) Q E s:=by
 obtain⟨xs,h1,h2⟩:=Dw hf;obtain⟨hl,h2⟩:=Lm h2;cases h2;obtain⟨x,us,rfl,lu,ru⟩:=Ij G hr h1 hv;have sz:xs.length=us.size:=by simpa using ru.length
 have e:(!us.isEmpty)= !xs.isEmpty:=by
  have:us.isEmpty=xs.isEmpty:=by
   rw[Bool.eq_iff_iff,Array.isEmpty_iff_size_eq_zero,List.isEmpty_iff_length_eq_zero,sz]
  rw[this]
 exact wpAny_truthy_list lu (by omega) (by rw[e];exact hq _ (hr.toks _))
theorem Ls(G:Gd C){A:Around}{α H s E H'}{Q:Bool->Shared->Prop}{m:MV}{v:Value}{b:Bool}(hr:HR C α H s)(hv:VRel α m v)(hf:Fs C.T m H=some (b,H'))
  (hq:∀tk,HR C α H' {s with toks:=tk}->Q b {s with toks:=tk}):wpAny (model C.prog C.w) A (truthy v) Q E s:=by
 cases m
 case none=>cases hf;cases hv;exact wpAny_pure (hq s.toks (hr.toks _))
 case bool=>cases hf;cases hv;exact wpAny_pure (hq s.toks (hr.toks _))
 case int=>cases hf;obtain⟨t,rfl⟩:=hv;exact truthy_int (hq s.toks (hr.toks _))
 case str x=>
  obtain⟨hl,h2⟩:=Lm (show (if x.length<=16777216 then _ else _)=_ from hf);cases h2;obtain⟨t,rfl⟩:=hv;exact PySem.P.truthy_str (by lia) (hq _ (hr.toks _))
 case ref=>exact Qq G hr hv hf hq
 case val=>exact Qq G hr hv hf hq
end
section
variable {C:Cx} {sc:Scope} {k:Nat}
theorem D2(G:Gd C){e:Expr}{f:Aj->P MV}(h:SE C sc k e f)(he:∀env whole,isTrue e env whole=(do let v <- whole;standAt e.pos;holding [v] (truthy v)):=by intro _ _;rfl):
  ST C sc k e (fun ρ=>B9 (f ρ) (Fs C.T)):=by
 intro A env α ρ H s Q E r H' hR hr her hf hq;obtain⟨a,H₁,qA,hf⟩:=Aw hf;refine isTrue_plain (h A env α ρ H s _ _ _ _ hR hr her qA fun αA sA vA rH xO wA=>?_) (he _ _);exact Ls G rH wA hf fun tk rI=>hq αA _ rI (xO.trans (.toks _))
theorem Ot{e:Expr}{f:Aj->P Bool}{pos:Pos}(h:ST C sc k e f):ST C sc k (.UnaryOp .Not e pos) (fun ρ=>B9 (f ρ) fun b=>Bg (!b)):=by
 intro A env α ρ H s Q E r H' hR hr her hf hq;obtain⟨a,H₁,qA,hf⟩:=Aw hf;kpf_c;exact isTrue_not (h A env α ρ H s _ _ _ _ hR hr her qA hq)
theorem A0(G:Gd C){eO eP:Expr}{fA fB:Aj->P MV}{op:CmpOp}{pos:Pos}{g:MV->MV->P MV}(hH:SE C sc k eO fA)(h₂:SE C sc k eP fB)(ho:Oo C k (compareOp op) g)
  (hm:behindInMarks op eP=false:=by with_unfolding_all rfl):
  ST C sc k (.Compare eO [op] [eP] pos) (fun ρ=>B9 (fA ρ) fun a=>B9 (fB ρ) fun b=>B9 (g a b) (Fs C.T)):=by
 intro A env α ρ H s Q E r H' hR hr he hf hq;obtain⟨a,H₁,qA,hf⟩:=Aw hf;obtain⟨b,HP,qB,hf⟩:=Aw hf;obtain⟨c,HJ,qC,hf⟩:=Aw hf;refine wpAny_isTrue_Compare1 (hH A env α ρ H s _ _ _ _ hR hr he qA fun αA sA vA rH xO wA=>?_) hm;refine h₂ A env αA ρ H₁ sA _ _ _ _ hR rH (he.ext xO) qB fun αB sB vB rI xP wB=>?_;refine ho A αB HP sB _ _ _ _ _ _ _ _ hR rI (wA.mono xP.pre) wB qC fun αC sC vC rC xJ wJ=>?_;exact Ls G rC wJ hf fun tk rD=>hq αC _ rD (((xO.trans xP).trans xJ).trans (.toks _))
def STA(C:Cx)(sc:Scope)(k:Nat)(op:BoolOp)(es:List Expr)(f:Aj->P Bool):Prop:=
 ∀(A:Around) (env:Env) (α:List Addr) (ρ:Aj) (H:Hp) (s:Shared) (Q:Bool->Shared->Prop) (E:Value->Shared->Prop) (r:Bool) (H':Hp),
  Room k A->HR C α H s->ER C α ρ sc env s.heap->f ρ H=some (r,H')->(∀α' s',HR C α' H' s'->Ext C [] α s α' s'->Q r s')->wpAny (model C.prog C.w) A (allTrue op es env) Q E s
theorem Fd:STA C sc k .And [] (fun zz=>Bg true):=by
 intro A env α ρ H s Q E r H' hR hr her hf hq;kpf_c;exact wpAny_pure (hq α s hr .refl)
theorem Ja:STA C sc k .Or [] (fun zz=>Bg false):=by
 intro A env α ρ H s Q E r H' hR hr her hf hq;kpf_c;exact wpAny_pure (hq α s hr .refl)
theorem C4{e:Expr}{es:List Expr}{f g:Aj->P Bool}(h:ST C sc k e f)(hs:STA C sc k .And es g):STA C sc k .And (e::es) (fun ρ=>B9 (f ρ) fun b=>if b then g ρ else Bg false):=by
 intro A env α ρ H s Q E r H' hR hr her hf hq;obtain⟨a,H₁,qA,hf⟩:=Aw hf;have z:wpAny (model C.prog C.w) A (isTrue (.BoolOp .And (e::es) default) env (pure .none)) Q E s:=by
  refine isTrue_and (h A env α ρ H s _ _ _ _ hR hr her qA fun αA sA rH xO=>?_);cases a with
  | true=>exact hs A env αA ρ H₁ sA _ _ _ _ hR rH (her.ext xO) hf fun αB sB rI xP=>hq αB sB rI (xO.trans xP)
  | false=>cases hf;exact hq αA sA rH xO
 exact z
theorem F2{e:Expr}{es:List Expr}{f g:Aj->P Bool}(h:ST C sc k e f)(hs:STA C sc k .Or es g):STA C sc k .Or (e::es) (fun ρ=>B9 (f ρ) fun b=>if b then Bg true else g ρ):=by
 intro A env α ρ H s Q E r H' hR hr her hf hq;obtain⟨a,H₁,qA,hf⟩:=Aw hf;have z:wpAny (model C.prog C.w) A (isTrue (.BoolOp .Or (e::es) default) env (pure .none)) Q E s:=by
  refine isTrue_or (h A env α ρ H s _ _ _ _ hR hr her qA fun αA sA rH xO=>?_);cases a with
  | true=>cases hf;exact hq αA sA rH xO
  | false=>exact hs A env αA ρ H₁ sA _ _ _ _ hR rH (her.ext xO) hf fun αB sB rI xP=>hq αB sB rI (xO.trans xP)
 exact z
theorem Dt{op:BoolOp}{es:List Expr}{f:Aj->P Bool}{pos:Pos}(h:STA C sc k op es f):ST C sc k (.BoolOp op es pos) f:=by
 intro A env α ρ H s Q E r H' hR hr her hf hq;exact wpAny_isTrue_BoolOp (h A env α ρ H s _ _ _ _ hR hr her hf hq)
theorem Ik{e:Expr}{f:Aj->P MV}{pos:Pos}(h:SE C sc k e f):SE C sc k (.UnaryOp .USub e pos) (fun ρ=>B9 (f ρ) fun a=>match a with | .int i=>Bg (.int (-i))|_=>fl):=by
 intro A env α ρ H s Q E r H' hR hr he hf hp;obtain⟨a,H₁,qA,hf⟩:=Aw hf;refine wpAny_UnaryOp (h A env α ρ H s _ _ _ _ hR hr he qA fun αA sA vA rH xO wA=>?_);cases a <;> try (exact Cy hf)
 kpf_c;obtain⟨t,rfl⟩:=wA;exact PyProof.Rows.neg_int ((hp.chain xO).hereT rH _ ⟨_,rfl⟩)
theorem F3{t b o:Expr}{f:Aj->P Bool}{g j:Aj->P MV}{pos:Pos}(ht:ST C sc k t f)(hb:SE C sc k b g)(ho:SE C sc k o j):
  SE C sc k (.IfExp t b o pos) (fun ρ=>B9 (f ρ) fun c=>if c then g ρ else j ρ):=by
 intro A env α ρ H s Q E r H' hR hr he hf hp;obtain⟨c,H₁,qA,hf⟩:=Aw hf;refine wpAny_IfExp (ht A env α ρ H s _ _ _ _ hR hr he qA fun αA sA rH xO=>?_);cases c with
 | true=>exact hb A env αA ρ H₁ sA _ _ _ _ hR rH (he.ext xO) hf (hp.chain xO)
 | false=>exact ho A env αA ρ H₁ sA _ _ _ _ hR rH (he.ext xO) hf (hp.chain xO)
theorem Ou{e:Expr}{f:Aj->P MV}{op:BoolOp}{pos:Pos}(h:SE C sc k e f):SE C sc k (.BoolOp op [e] pos) f:=h
theorem Rd(G:Gd C){eO eP:Expr}{es:List Expr}{f g:Aj->P MV}{pos:Pos}(hH:SE C sc k eO f)(h₂:SE C sc k (.BoolOp .And (eP::es) pos) g):
  SE C sc k (.BoolOp .And (eO::eP::es) pos) (fun ρ=>B9 (f ρ) fun a=>B9 (Fs C.T a) fun b=>if b then g ρ else Bg a):=by
 intro A env α ρ H s Q E r H' hR hr he hf hp;obtain⟨a,H₁,qA,hf⟩:=Aw hf;obtain⟨b,HP,qB,hf⟩:=Aw hf;refine BoolOp_and (hH A env α ρ H s _ _ _ _ hR hr he qA fun αA sA vA rH xO wA=>?_);refine Ls G rH wA qB fun tk rI=>?_;have xP:=xO.trans (.toks tk);cases b with
 | true=>exact h₂ A env αA ρ HP _ _ _ _ _ hR rI (he.ext xP) hf (hp.chain xP)
 | false=>cases hf;exact hp _ _ _ rI xP wA
theorem D0h(G:Gd C){eO eP:Expr}{es:List Expr}{f g:Aj->P MV}{pos:Pos}(hH:SE C sc k eO f)(h₂:SE C sc k (.BoolOp .Or (eP::es) pos) g):
  SE C sc k (.BoolOp .Or (eO::eP::es) pos) (fun ρ=>B9 (f ρ) fun a=>B9 (Fs C.T a) fun b=>if b then Bg a else g ρ):=by
 intro A env α ρ H s Q E r H' hR hr he hf hp;obtain⟨a,H₁,qA,hf⟩:=Aw hf;obtain⟨b,HP,qB,hf⟩:=Aw hf;refine BoolOp_or (hH A env α ρ H s _ _ _ _ hR hr he qA fun αA sA vA rH xO wA=>?_);refine Ls G rH wA qB fun tk rI=>?_;have xP:=xO.trans (.toks tk);cases b with
 | false=>exact h₂ A env αA ρ HP _ _ _ _ _ hR rI (he.ext xP) hf (hp.chain xP)
 | true=>cases hf;exact hp _ _ _ rI xP wA
def SP(C:Cx)(sc:Scope)(k:Nat)(e:Option Expr)(f:Aj->P (Option Int)):Prop:=
 ∀(A:Around) (env:Env) (α:List Addr) (ρ:Aj) (H:Hp) (s:Shared) (Q:Value->Shared->Prop) (E:Value->Shared->Prop) (r:Option Int) (H':Hp),
  Room k A->HR C α H s->ER C α ρ sc env s.heap->f ρ H=some (r,H')->(∀α' s' p,HR C α' H' s'->Ext C [] α s α' s'->p.map (·.1)=r->Q (partValue p) s')->wpAny (model C.prog C.w) A (evalPart e env) Q E s
theorem SP.none:SP C sc k none (fun zz=>Bg none):=by
 intro A env α ρ H s Q E r H' hR hr her hf hq;kpf_c;exact wpAny_evalPart_none (hq α s .none hr .refl rfl)
theorem SP.some{e:Expr}{f:Aj->P MV}(h:SE C sc k e f):SP C sc k (some e) (fun ρ=>B9 (f ρ) fun a=>match a with | .int i=>Bg (Option.some i)|_=>fl):=by
 intro A env α ρ H s Q E r H' hR hr her hf hq;obtain⟨a,H₁,qA,hf⟩:=Aw hf;refine wpAny_evalPart_some (h A env α ρ H s _ _ _ _ hR hr her qA fun αA sA vA rH xO wA=>?_);cases a <;> try (exact Cy hf)
 kpf_c;obtain⟨t,rfl⟩:=wA;exact hq αA sA (.some (_,t)) rH xO rfl
theorem All2.pick{α β:Type}{R:α->β->Prop}{xs:List α}{ys:List β}(h:All2 R xs ys)(is:List Nat):All2 R (is.filterMap (xs[·]?)) (is.filterMap (ys[·]?)):=by
 induction is with
 | nil=>exact .nil
 | cons i is ih=>
  rw[List.filterMap_cons,List.filterMap_cons];cases e:xs[i]? with
  | none=>rw[h.none e];exact ih
  | some a=>obtain⟨b,hb,r⟩:=h.get e;rw[hb];exact .cons r ih
noncomputable def Ov(xs:List MV)(l u:Option Int):List MV:=(sliceRange (sliceBounds l u none xs.length).1 (sliceBounds l u none xs.length).2.1 (sliceBounds l u none xs.length).2.2).filterMap (xs[·]?)
def Kf(T:GT)(o:MV)(l u:Option Int):P MV:=fun H=>
 ((Lo o).bind fun x=>if x.length<=16777216 then some (.str (Txt.slice x l u),H) else none).or ((C7 T H o).bind fun xs=>if xs.length<=16777216 then Bd (Ov xs l u) H else none)
theorem Qr:∀p:Option (Int × Tok),IsPart (partValue p) (p.map (·.1))
 | none=>.none
 | some (i,t)=>.int i t
theorem Zg{A:Around}{s:Shared}{Q E}{x:Str}{t:Tok}{p q:Option (Int × Tok)}{sl:Addr}(hs:s.heap.get? sl=some {cls:=.type "slice",data:=.fields #[partValue p,partValue q,.none]})(hx:x.length<=sizeLine)
  (h:∀t' tk,Q (.str (Txt.slice x (p.map (·.1)) (q.map (·.1))) t') {s with toks:=tk}):wpAny (model C.prog C.w) A (getItem (.str x t) (.ref sl)) Q E s:=
 wpAny_getItem_str_slice (l:=p) (u:=q) (st:=none) ⟨_,hs,rfl,rfl⟩ rfl (post_val_or_str ⟨Nat.le_trans (PySem.Txt.slice_le x _ _) hx,fun t' k=>h t' k⟩)
theorem Ce(G:Gd C){e:Expr}{lo hi:Option Expr}{f:Aj->P MV}{g j:Aj->P (Option Int)}{p pos:Pos}(h:SE C sc k e f)(hl:SP C sc k lo g)(hu:SP C sc k hi j)
  (ht:∀o i,∃ops,subscripted (.Slice lo hi Option.none p) false o i=operate ops (getItem o i):=by exact fun zz zz=>⟨_,rfl⟩):
  SE C sc k (.Subscript e (.Slice lo hi Option.none p) pos) (fun ρ=>B9 (f ρ) fun a=>B9 (g ρ) fun l=>B9 (j ρ) fun u=>Kf C.T a l u):=by
 intro A env α ρ H s Q E r H' hR hr he hf hp;obtain⟨a,H₁,qA,hf⟩:=Aw hf;obtain⟨l,HP,qB,hf⟩:=Aw hf;obtain⟨u,HJ,qC,hf⟩:=Aw hf;refine Subscript_ (h A env α ρ H s _ _ _ _ hR hr he qA fun αA sA vA rH xO wA=>?_);refine wpAny_Slice (hl A env αA ρ H₁ sA _ _ _ _ hR rH (he.ext xO) qB fun αB sB pB rI xP wB=>?_);refine hu A env αB ρ HP sB _ _ _ _ hR rI (he.ext (xO.trans xP)) qC fun αC sC pJ rC xJ wJ=>?_;refine wpAny_evalPart_none ?_;have eJ:=(xO.trans xP).trans xJ;have rD:=rC.push {cls:=.type "slice",data:=.fields #[partValue pB,partValue pJ,.none]} sC.toks;have eK:Ext C [] α s αC _:=eJ.trans (.push {cls:=.type "slice",data:=.fields #[partValue pB,partValue pJ,.none]} sC.toks);have hsl:(sC.heap.push {cls:=.type "slice",data:=.fields #[partValue pB,partValue pJ,.none]}).get? sC.heap.objs.size=some {cls:=.type "slice",data:=.fields #[partValue pB,partValue pJ,.none]}:=Heap.get?_push_size _ rfl;have wA:=wA.mono (xP.trans xJ).pre;rcases orS (show Option.or _ _=some _ from hf) with hf|⟨_,hf⟩
 ·obtain⟨x,ex,hf⟩:=Dw hf;obtain⟨hx,hf⟩:=Lm hf
  ·obtain⟨t,rfl⟩:=Cm ex wA;replace hp:=D8 hf hp;obtain⟨ops,ho⟩:=ht (.str _ t) (.ref sC.heap.objs.size);exact tail_any (typeIs_str _ _ _) PySem.F.slot_str_getitem.lookup (Zg hsl hx fun t' tk=>hp _ _ _ (rD.toks _) (eK.trans (.toks _)) (by rw[wB,wJ];exact⟨_,rfl⟩)) ho
 ·obtain⟨xs,h1,h2⟩:=Dw hf;obtain⟨hx,h2⟩:=Lm h2
  ·obtain⟨hz,h2⟩:=Lm (show (if (Ov xs l u).length<=16777216 then Option.some (MV.ref HJ.length,HJ++[MO.list (Ov xs l u)]) else Option.none)=_ from h2)
   ·replace hp:=D8 h2 hp;obtain⟨b,us,rfl,lu,ru⟩:=Ij G rD h1 wA;have sz:xs.length=us.size:=by simpa using ru.length
    obtain⟨ops,ho'⟩:=ht (.ref b) (.ref sC.heap.objs.size);refine tail_any lu.typeIs slot_list_getitem.lookup (wpAny_getItem_list_slice (vl:=partValue pB) (vu:=partValue pJ) (vs:=.none) (lo:=l) (hi:=u) (st:=Option.none) lu ⟨_,hsl,rfl,rfl⟩ (wB▸Qr pB) (wJ▸Qr pJ) .none (by simp) ?_ (by rw[<- sz];exact hx)) ho';refine hp _ _ _ (rD.alloc G _ (.list (Ov xs l u)) sC.toks fun α' h q ho=>?_) (eK.trans (.alloc _ _)) (Fc rD _);refine⟨slicePick us l u Option.none,⟨0,ho⟩,?_⟩;unfold slicePick Ov;rw[sz];have:=(ru.mono q).pick (sliceRange (sliceBounds l u Option.none us.size).1 (sliceBounds l u Option.none us.size).2.1 (sliceBounds l u Option.none us.size).2.2);simpa [VRels] using this
end
inductive Fl where
 | next|brk|cont
 | ret (v:MV)
def D0i(α:List Addr):Fl->Flow->Prop
 | .next,f=>f=.next
 | .brk,f=>f=.brk
 | .cont,f=>f=.cont
 | .ret m,f=>∃v,f=.ret v∧VRel α m v
theorem Ext.drop{C X J α s α' s'}(e:Ext C (X++J) α s α' s')(h:∀j∈J,s.heap.get? j=none):Ext C X α s α' s':=
 ⟨e.pre,e.fresh,fun b o h1 h2 h3 h4=>e.keep b o h1 h2 (fun q=>by
  rcases List.mem_append.mp q with q|q
  ·exact h3 q
  ·rw[h b q] at h1;cases h1) h4,e.live⟩
def SS(C:Cx)(sc:Scope)(k:Nat)(st:Stmt)(f:Aj->P (Fl × Aj)):Prop:=
 ∀(A:Around) (env:Env) (α:List Addr) (ρ:Aj) (H:Hp) (s:Shared) (Q:Flow->Shared->Prop) (E:Value->Shared->Prop) (fl:Fl) (ρ':Aj) (H':Hp),
  Room k A->HR C α H s->ER C α ρ sc env s.heap->f ρ H=some ((fl,ρ'),H')->
  (∀α' s' g,HR C α' H' s'->ER C α' ρ' sc env s'.heap->Ext C (Fb env) α s α' s'->D0i α' fl g->Q g s')->wpAny (model C.prog C.w) A (exec st env) Q E s
def SB(C:Cx)(sc:Scope)(k:Nat)(st:List Stmt)(f:Aj->P (Fl × Aj)):Prop:=
 ∀(A:Around) (env:Env) (α:List Addr) (ρ:Aj) (H:Hp) (s:Shared) (Q:Flow->Shared->Prop) (E:Value->Shared->Prop) (fl:Fl) (ρ':Aj) (H':Hp),
  Room k A->HR C α H s->ER C α ρ sc env s.heap->f ρ H=some ((fl,ρ'),H')->
  (∀α' s' g,HR C α' H' s'->ER C α' ρ' sc env s'.heap->Ext C (Fb env) α s α' s'->D0i α' fl g->Q g s')->wpAny (model C.prog C.w) A (execs st env) Q E s
noncomputable def upd(ρ:Aj)(x:Str)(v:MV):Aj:=fun y=>if y=x then some v else ρ y
section
variable {C:Cx} {sc:Scope} {k:Nat}
theorem HR.same(G:Gd C){α ρ H s h'}{env:Env}{c:Addr}{tk:Nat}(r:HR C α H s)(he:ER C α ρ sc env s.heap)(hc:c∈Fb env)(hs:Heap.SameBut c s.heap h')(hl:∃o,h'.get? c=some o):HR C α H {s with heap:=h',toks:=tk}:=by
 obtain⟨o1,o2,o3,_⟩:=he.own c hc;refine r.step (fun b o h q=>?_) (fun b o h=>?_) r.gens rfl
 ·have:b≠c:=fun e=>by
   subst e;rcases q with q|q
   ·exact o1 q
   ·obtain⟨o',ho'⟩:=Option.isSome_iff_exists.mp q;exact absurd (Heap.lt_size ho') (Nat.not_lt.mpr o3)
  exact(hs.2 b this).trans h
 ·by_cases e:b=c
  ·subst e;exact hl
  ·exact⟨o,(hs.2 b e).trans h⟩
theorem Ext.same{α s h'}{X:List Addr}{c:Addr}{tk:Nat}(hc:c∈X)(hs:Heap.SameBut c s.heap h')(hl:∃o,h'.get? c=some o):Ext C X α s α {s with heap:=h',toks:=tk}:=by
 refine⟨List.prefix_refl _,fun zz h=>.inl h,fun b o h zz q zz=>(hs.2 b fun e=>q (e▸hc)).trans h,fun b o h=>?_⟩;by_cases e:b=c
 ·subst e;exact hl
 ·exact⟨o,(hs.2 b e).trans h⟩
noncomputable def slots(env:Env)(ns:List Str):List Addr:=env.locals::ns.filterMap fun n=>env.cells.lookup n
theorem Ix{env:Env}{ns:List Str}:∀c∈slots env ns,c∈Fb env:=by
 intro c hc;rcases List.mem_cons.mp hc with rfl|hc
 ·exact .head _
 ·obtain⟨n,_,h⟩:=List.mem_filterMap.mp hc;exact Ke h
theorem Jb{env:Env}{ns ms:List Str}(h:∀n∈ns,n∈ms):∀c∈slots env ns,c∈slots env ms:=by
 intro c hc;rcases List.mem_cons.mp hc with rfl|hc
 ·exact .head _
 ·obtain⟨n,hn,e⟩:=List.mem_filterMap.mp hc;exact .tail _ (List.mem_filterMap.mpr ⟨n,h n hn,e⟩)
theorem Ow(G:Gd C){A:Around}{env:Env}{α ρ H s E}{Q:Unit->Shared->Prop}{x:Str}{mv:MV}{v:Value}(hr:HR C α H s)(he:ER C α ρ sc env s.heap)(hv:VRel α mv v)
  (hx:sc.names.lookup x=some .local∨sc.names.lookup x=some .cell) (hq:∀s',HR C α H s'->ER C α (upd ρ x mv) sc env s'.heap->Ext C (slots env [x]) α s α s'->Q () s'):
  wpAny (model C.prog C.w) A (storeName env x v) Q E s:=by
 have hk:env.scope.kind=.function:=by rw[he.scope];exact he.kind
 have hlk:env.kindOf x=sc.names.lookup x:=by unfold Env.kindOf;rw[he.scope]
 rcases hx with hx|hx
 ·obtain⟨m,hn,hm⟩:=he.loc;refine wpAny_storeName_local (hlk.trans hx) hn (fun h' hn' hs=>?_) (by rw[hk];rfl);have live:∃o,h'.get? env.locals=some o:=by obtain⟨o,_,_,ho,_⟩:=hn';exact⟨o,ho⟩
  refine hq _ (hr.same G he (.head _) hs live) ?_ (.same (.head _) hs live);refine⟨he.scope,he.kind,he.glob,he.blt,fun b hb=>?_,⟨_,hn',fun y w hy hw=>?_⟩,fun y hy=>?_,he.apart,he.off,he.code⟩
  ·obtain⟨o1,o2,o3,o,ho⟩:=he.own b hb;refine⟨o1,o2,o3,?_⟩;by_cases e:b=env.locals
   ·subst e;exact live
   ·exact⟨o,(hs.2 b e).trans ho⟩
  ·unfold upd at hw;by_cases e:y=x
   ·subst e;rw[if_pos rfl] at hw
    first |exact Cy hw|replace hp:=D8 hw hp|cases hw
    exact⟨v,by simp,hv⟩
   ·rw[if_neg e] at hw;obtain⟨v',h1,h2⟩:=hm y w hy hw;exact⟨v',by simp[e,h1],h2⟩
  ·obtain⟨c,ov,h1,⟨o,h2,h2'⟩,h3⟩:=he.cell y hy;refine⟨c,ov,h1,⟨o,(hs.2 c (he.off _ _ h1)).trans h2,h2'⟩,fun w hw=>?_⟩;have e:y≠x:=fun e=>by subst e;rw[hx] at hy;simp at hy
   unfold upd at hw;rw[if_neg e] at hw;exact h3 w hw
 ·obtain⟨c,ov,h1,h2,h3⟩:=he.cell x (.inl hx);refine wpAny_storeName_cell hk (hlk.trans hx) h1 h2 (fun h' hc' hs=>?_);have live:∃o,h'.get? c=some o:=by obtain⟨o,ho,_⟩:=hc';exact⟨o,ho⟩
  refine hq _ (hr.same G he (Ke h1) hs live) ?_ (.same (by unfold slots;simp[h1]) hs live);refine⟨he.scope,he.kind,he.glob,he.blt,fun b hb=>?_,?_,fun y hy=>?_,he.apart,he.off,he.code⟩
  ·obtain⟨o1,o2,o3,o,ho⟩:=he.own b hb;refine⟨o1,o2,o3,?_⟩;by_cases e:b=c
   ·subst e;exact live
   ·exact⟨o,(hs.2 b e).trans ho⟩
  ·obtain⟨m,hn,hm⟩:=he.loc;refine⟨m,hn.sameBut hs (he.off _ _ h1).symm,fun y w hy hw=>?_⟩;have e:y≠x:=fun e=>by subst e;rw[hx] at hy;simp at hy
   unfold upd at hw;rw[if_neg e] at hw;exact hm y w hy hw
  ·obtain⟨c',ov',g1,⟨o,g2,g2'⟩,g3⟩:=he.cell y hy;by_cases e:y=x
   ·subst e;rw[h1] at g1;cases g1;refine⟨c,some v,h1,hc',fun w hw=>?_⟩;unfold upd at hw;rw[if_pos rfl] at hw
    first |exact Cy hw|replace hp:=D8 hw hp|cases hw
    exact⟨v,rfl,hv⟩
   ·have ne:c'≠c:=fun q=>e (he.apart y x c (q▸g1) h1);refine⟨c',ov',g1,⟨o,(hs.2 c' ne).trans g2,g2'⟩,fun w hw=>?_⟩;unfold upd at hw;rw[if_neg e] at hw;exact g3 w hw
theorem J0(G:Gd C){A:Around}{env:Env}{α ρ H s E}{Q:Unit->Shared->Prop}{x:Str}{mv:MV}{v:Value}(hr:HR C α H s)(he:ER C α ρ sc env s.heap)(hv:VRel α mv v)
  (hx:sc.names.lookup x=some .local∨sc.names.lookup x=some .cell) (hq:∀s',HR C α H s'->ER C α (upd ρ x mv) sc env s'.heap->Ext C (Fb env) α s α s'->Q () s'):
  wpAny (model C.prog C.w) A (storeName env x v) Q E s:=
 Ow G hr he hv hx fun s' r e x=>hq s' r e (x.mono Ix)
theorem D9{x:Str}(h:Ss sc x=true):sc.names.lookup x=some .local∨sc.names.lookup x=some .cell:=by
 rcases Bool.or_eq_true_iff.mp h with h|h
 ·exact .inl (by simpa using h)
 ·exact .inr (by simpa using h)
theorem Bh(G:Gd C){x:Str}{e:Expr}{f:Aj->P MV}{p pos:Pos}(h:SE C sc k e f)(hx:Ss sc x=true)
  (hs:∀env,swapsWith e (some (.Name x p)) pos.line env=pure false:=by intro _;rfl):SS C sc k (.Assign [.Name x p] e pos) (fun ρ=>B9 (f ρ) fun a=>Bg (.next,upd ρ x a)):=by
 intro A env α ρ H s Q E fl ρ' H' hR hr he hf hq;obtain⟨a,H₁,qA,hf⟩:=Aw hf;kpf_c;refine wpAny_Assign_Name (h A env α ρ H s _ _ _ _ hR hr he qA fun αA sA vA rH xO wA=>?_) (hs _);exact J0 G rH (he.ext xO) wA (D9 hx) fun sB rI eP xP=>hq αA sB _ rI eP (xO.weak.trans xP) rfl
theorem Dj(G:Gd C){x:Str}{e:Expr}{f:Aj->P MV}{op:Operator}{g:MV->MV->P MV}{p pos:Pos}(h:SE C sc k e f)(ho:Oo C k (inplaceOp op) g)(hx:Ss sc x=true)
  (hc:(x==("__classdict__":Str))=false:=by decide):SS C sc k (.AugAssign (.Name x p) op e pos) (fun ρ=>B9 (Ac x ρ) fun a=>B9 (f ρ) fun b=>B9 (g a b) fun c=>Bg (.next,upd ρ x c)):=by
 intro A env α ρ H s Q E fl ρ' H' hR hr he hf hq;obtain⟨a,H₁,qA,hf⟩:=Aw hf;obtain⟨b,HP,qB,hf⟩:=Aw hf;obtain⟨c,HJ,qC,hf⟩:=Aw hf;kpf_c;refine wpAny_AugAssign_Name (A34 hr he qA (fun αA sA vA rH xO wA=>?_) ((D9 hx).imp id .inl) hc);refine h A env αA ρ H₁ sA _ _ _ _ hR rH (he.ext xO) qB fun αB sB vB rI xP wB=>?_;refine ho A αB HP sB _ _ _ _ _ _ _ _ hR rI (wA.mono xP.pre) wB qC fun αC sC vC rC xJ wJ=>?_;have x:=(xO.trans xP).trans xJ;exact J0 G rC (he.ext x) wJ (D9 hx) fun sD rD eK xK=>hq αC sD _ rD eK (x.weak.trans xK) rfl
theorem Cg{e:Expr}{f:Aj->P MV}{pos:Pos}(h:SE C sc k e f)(hi:∀env:Env,env.scope=sc->interactive env=false:=by rintro ⟨⟩ rfl;rfl)(hs:∀env,swapsWith e none pos.line env=pure false:=by intro _;rfl):
  SS C sc k (.Expr e pos) (fun ρ=>B9 (f ρ) fun zz=>Bg (.next,ρ)):=by
 intro A env α ρ H s Q E fl ρ' H' hR hr he hf hq;obtain⟨a,H₁,qA,hf⟩:=Aw hf;kpf_c;exact wpAny_Expr_any (h A env α ρ H s _ _ _ _ hR hr he qA fun αA sA vA rH xO wA=>hq αA sA _ rH (he.ext xO) xO.weak rfl) (hi _ he.scope) (hs _)
theorem Bm{e:Expr}{f:Aj->P MV}{pos:Pos}(h:SE C sc k e f):SS C sc k (.Return (some e) pos) (fun ρ=>B9 (f ρ) fun a=>Bg (.ret a,ρ)):=by
 intro A env α ρ H s Q E fl ρ' H' hR hr he hf hq;obtain⟨a,H₁,qA,hf⟩:=Aw hf;kpf_c;exact wpAny_Return_some (h A env α ρ H s _ _ _ _ hR hr he qA fun αA sA vA rH xO wA=>hq αA sA _ rH (he.ext xO) xO.weak ⟨_,rfl,wA⟩)
theorem Rf{pos:Pos}:SS C sc k (.Break pos) (fun ρ=>Bg (.brk,ρ)):=by
 intro A env α ρ H s Q E fl ρ' H' hR hr he hf hq;kpf_c;exact wpAny_Break (hq α s _ hr he .refl rfl)
theorem Kg{t:Expr}{m:Option Expr}{pos:Pos}{f:Aj->P Bool}(h:ST C sc k t f):SS C sc k (.Assert t m pos) (fun ρ=>B9 (f ρ) fun b=>if b then Bg (.next,ρ) else fl):=by
 intro A env α ρ H s Q E fl ρ' H' hR hr he hf hq;obtain⟨b,H₁,qA,hf⟩:=Aw hf;refine wpAny_Assert_holds (h A env α ρ H s _ _ _ _ hR hr he qA fun αA sA rH xO=>?_);cases b with
 | true=>cases hf;exact⟨rfl,hq αA sA _ rH (he.ext xO) xO.weak rfl⟩
 | false=>kpf_c
theorem An:SB C sc k [] (fun ρ=>Bg (.next,ρ)):=by
 intro A env α ρ H s Q E fl ρ' H' hR hr he hf hq;kpf_c;exact wpAny_execs_nil (hq α s _ hr he .refl rfl)
def Ag(f g:Aj->P (Fl × Aj)):Aj->P (Fl × Aj):=fun ρ=>B9 (f ρ) fun r=>match r with
 | (.next,ρ')=>g ρ'
 | (fl,ρ')=>Bg (fl,ρ')
theorem Ae{st:Stmt}{sts:List Stmt}{f g:Aj->P (Fl × Aj)}(h:SS C sc k st f)(hs:SB C sc k sts g):SB C sc k (st::sts) (Ag f g):=by
 intro A env α ρ H s Q E fl ρ' H' hR hr he hf hq;obtain⟨⟨flA,ρA⟩,H₁,qA,hf⟩:=Aw hf;refine wpAny_execs_cons (h A env α ρ H s _ _ _ _ _ hR hr he qA fun αA sA gA rH eO xO wA=>?_);cases flA with
 | next=>cases wA;exact hs A env αA ρA H₁ sA _ _ _ _ _ hR rH eO hf fun αB sB gB rI eP xP wB=>hq αB sB gB rI eP (xO.trans xP) wB
 | brk=>cases wA;cases hf;exact hq αA sA _ rH eO xO rfl
 | cont=>cases wA;cases hf;exact hq αA sA _ rH eO xO rfl
 | ret v=>obtain⟨u,rfl,w⟩:=wA;cases hf;exact hq αA sA _ rH eO xO ⟨_,rfl,w⟩
theorem Bf{t:Expr}{b o:List Stmt}{pos:Pos}{f:Aj->P Bool}{g j:Aj->P (Fl × Aj)}(ht:ST C sc k t f)(hb:SB C sc k b g)(ho:SB C sc k o j):
  SS C sc k (.If t b o pos) (fun ρ=>B9 (f ρ) fun c=>if c then g ρ else j ρ):=by
 intro A env α ρ H s Q E fl ρ' H' hR hr he hf hq;obtain⟨c,H₁,qA,hf⟩:=Aw hf;refine wpAny_If (ht A env α ρ H s _ _ _ _ hR hr he qA fun αA sA rH xO=>?_);cases c with
 | true=>exact hb A env αA ρ H₁ sA _ _ _ _ _ hR rH (he.ext xO) hf fun αB sB gB rI eP xP wB=>hq αB sB gB rI eP (xO.weak.trans xP) wB
 | false=>exact ho A env αA ρ H₁ sA _ _ _ _ _ hR rH (he.ext xO) hf fun αB sB gB rI eP xP wB=>hq αB sB gB rI eP (xO.weak.trans xP) wB
def By(t:Aj->P Bool)(b:Aj->P (Fl × Aj)):Nat->Aj->P (Fl × Aj)
 | 0,_=>fl
 | n+1,ρ=>B9 (t ρ) fun c=>if c then B9 (b ρ) fun r=>match r with
   | (.next,ρ')=>By t b n ρ'
   | (.cont,ρ')=>By t b n ρ'
   | (.brk,ρ')=>Bg (.next,ρ')
   | (.ret v,ρ')=>Bg (.ret v,ρ')
  else Bg (.next,ρ)
inductive WhI(C:Cx)(sc:Scope)(env:Env)(α:List Addr)(s:Shared)(W:Nat->Aj->P (Fl × Aj))(R:(Fl × Aj) × Hp)(m:Nat)(sA:Shared):Prop
 | mk (αA:List Addr) (ρA:Aj) (H₁:Hp) (r:HR C αA H₁ sA) (e:ER C αA ρA sc env sA.heap) (x:Ext C (Fb env) α s αA sA) (w:W m ρA H₁=some R)
theorem F4{t:Expr}{b:List Stmt}{pos:Pos}{f:Aj->P Bool}{g:Aj->P (Fl × Aj)}(n:Nat)(ht:ST C sc k t f)(hb:SB C sc k b g):SS C sc k (.While t b [] pos) (By f g n):=by
 intro A env α ρ H s Q E fl ρ' H' hR hr he hf hq;refine wpAny_While ?_;refine codeAny_whileLoop (I:=WhI C sc env α s (By f g) ((fl,ρ'),H')) ?_ n ⟨α,ρ,H,hr,he,.refl,hf⟩;rintro m sA ⟨αA,ρA,H₁,rH,eO,xO,hw⟩;cases m with
 | zero=>first |exact Cy hw|replace hp:=D8 hw hp|cases hw
 | succ m=>
  unfold By at hw;obtain⟨c,HP,qB,hw⟩:=Aw hw;refine ht A env αA ρA H₁ sA _ _ _ _ hR rH eO qB fun αB sB rI xP=>?_;have x:=xO.trans xP.weak;cases c with
  | false=>
   first |exact Cy hw|replace hp:=D8 hw hp|cases hw
   exact wpAny_execs_nil (hq αB sB _ rI (eO.ext xP) x rfl)
  | true=>
   rw[if_pos rfl] at hw;obtain⟨⟨flC,ρC⟩,HJ,qC,hw⟩:=Aw hw;refine hb A env αB ρA HP sB _ _ _ _ _ hR rI (eO.ext xP) qC fun αC sC gC rC eJ xJ wJ=>?_;cases flC with
   | next=>cases wJ;exact⟨m,Nat.lt_succ_self _,αC,ρC,HJ,rC,eJ,x.trans xJ,hw⟩
   | cont=>cases wJ;exact⟨m,Nat.lt_succ_self _,αC,ρC,HJ,rC,eJ,x.trans xJ,hw⟩
   | brk=>cases wJ;cases hw;exact hq αC sC _ rC eJ (x.trans xJ) rfl
   | ret v=>obtain⟨u,rfl,w⟩:=wJ;cases hw;exact hq αC sC _ rC eJ (x.trans xJ) ⟨_,rfl,w⟩
end
def D0j(α:List Addr):Option MV->Option Value->Prop
 | .none,.none=>True
 | .some m,.some v=>VRel α m v
 | _,_=>False
structure StepJ(C:Cx)(J:List Addr)(α:List Addr)(s:Shared)(α':List Addr)(s':Shared):Prop where
 pre:α<+:α'
 fresh:∀a∈α',a∈α∨s.heap.get? a=.none
 keep:∀b o,s.heap.get? b=some o->b ∉ α->b ∉ J->b ∉ C.tabs->s'.heap.get? b=some o
 live:∀b o,s.heap.get? b=some o->b ∉ J->∃o',s'.heap.get? b=some o'
theorem Ext.stepJ{C X J α₀ s₀ α s α' s'}(e:Ext C X α₀ s₀ α s)(f:StepJ C J α s α' s')(hJ:∀j∈J,s₀.heap.get? j=.none):Ext C X α₀ s₀ α' s':=by
 refine⟨e.pre.trans f.pre,fun a ha=>?_,fun b o h h1 h2 h3=>?_,fun b o h=>?_⟩
 ·rcases f.fresh a ha with h|h
  ·exact e.fresh a h
  ·exact .inr (e.dead h)
 ·refine f.keep b o (e.keep b o h h1 h2 h3) (fun q=>?_) (fun q=>?_) h3
  ·rcases e.fresh b q with z|z
   ·exact h1 z
   ·rw[h] at z;cases z
  ·rw[hJ b q] at h;cases h
 ·obtain⟨o',h'⟩:=e.live b o h;exact f.live b o' h' fun q=>by rw[hJ b q] at h;cases h
structure Src(C:Cx)(it:Value)(J:List Addr)(I:Nat->List Addr->Heap->Prop)(Cb:Expr)(src:Nat->P (Option MV)):Prop where
 dep:∀i α h α' h',I i α h->α<+:α'->(∀b∈J,∀o,h.get? b=some o->h'.get? b=some o)->I i α' h'
 alive:∀i α h,I i α h->∀b∈J,∃o,h.get? b=some o
 again:∀(A:Around) (α:List Addr) (s:Shared) (i:Nat) (Q:Value->Shared->Prop) (E:Value->Shared->Prop),I i α s.heap->Q it s->wpAny (model C.prog C.w) A (pyIter it) Q E s
 step:∀(A:Around) (α:List Addr) (H:Hp) (s:Shared) (i:Nat) (r:Option MV) (H':Hp) (Q:Option Value->Shared->Prop) (E:Value->Shared->Prop),
  A.handled=.none->HR C α H s->I i α s.heap->(∀b∈J,b ∉ α∧C.B.objs.size<=b)->src i H=some (r,H')->
  (∀α' s' o,HR C α' H' s'->StepJ C J α s α' s'->D0j α' r o->(r≠.none->I (i+1) α' s'.heap)->Q o s')->
  wpAny (model C.prog C.w) A (pyNext it) (fun o sA=>match o with | .none=>Q .none sA | .some v=>wpAny (model C.prog C.w) A (letOwnedTupleGo Cb it v) (fun zz sB=>Q (.some v) sB) E sA) E s
def K5(C:Cx)(Cb:Expr)(mv:MV)(H:Hp)(src:Nat->P (Option MV)):Prop:=
 ∀(A:Around) (α:List Addr) (s:Shared) (v:Value) (Q:Value->Shared->Prop) (E:Value->Shared->Prop),HR C α H s->VRel α mv v->
  (∀it J I s',Src C it J I Cb src->I 0 α s'.heap->(∀b∈J,s.heap.get? b=.none∧C.B.objs.size<=b∧b ∉ α)->HR C α H s'->Ext C [] α s α s'->Q it s')->wpAny (model C.prog C.w) A (pyIter v) Q E s
section
variable {C:Cx} {sc:Scope} {k:Nat}
theorem HR.off{α H s h'}{c:Addr}{tk:Nat}(r:HR C α H s)(hc:c ∉ α)(hb:C.B.objs.size<=c)(hs:Heap.ExtBut c s.heap h'):HR C α H {s with heap:=h',toks:=tk}:=by
 have ne:∀b,(∃o,C.B.get? b=some o)->b≠c:=fun b ⟨o,ho⟩ e=>by
  subst e;exact absurd (Heap.lt_size ho) (Nat.not_lt.mpr hb)
 refine⟨fun b o h n=>hs b o (ne b ⟨o,h⟩) (r.keepB b o h n),fun b o h=>?_,r.new,r.nodup,?_,r.gens,r.os,C.invk _ _ r.inv fun b o h q=>hs b o (ne b (Option.isSome_iff_exists.mp q)) h⟩
 ·obtain⟨o',h'⟩:=r.liveB b o h;exact⟨o',hs b o' (ne b ⟨o,h⟩) h'⟩
 ·have:∀(β:List Addr) (J:Hp),(∀a∈β,a∈α)->All2 (ORel C α s.heap) β J->All2 (ORel C α h') β J:=by
   intro β J hb f
   induction f with
   | nil=>exact .nil
   | @cons a m β J h _ ih=>
    exact .cons (h.mono (List.prefix_refl _) fun o ho=>hs a o (fun e=>hc (e▸hb a (.head _))) ho) (ih fun x hx=>hb x (.tail _ hx))
  exact this α H (fun zz h=>h) r.objs
theorem StepJ.off{α s h'}{c:Addr}{tk:Nat}(hs:Heap.ExtBut c s.heap h'):StepJ C [c] α s α {s with heap:=h',toks:=tk}:=
 ⟨List.prefix_refl _,fun zz h=>.inl h,fun b o h zz q zz=>hs b o (fun e=>q (by rw[e];exact .head _)) h,fun b o h q=>⟨o,hs b o (fun e=>q (by rw[e];exact .head _)) h⟩⟩
theorem B1{c:Addr}{h h':Heap}(hs:Heap.SameBut c h h'):Heap.ExtBut c h h':=fun b zz e g=>(hs.2 b e).trans g
theorem Zh{A:Around}{s:Shared}{E:Value->Shared->Prop}{Q:Unit->Shared->Prop}{Cb:Expr}{it:Addr}{v:Value}{o:Obj}{n:String}{vs:Array Value}(ho:s.heap.get? it=some o)(hc:o.cls=.type n)(hd:o.data=.fields vs)
  (hn:(["enumerate","zip","dict_itemiterator","dict_reverseitemiterator","odict_iterator","itertools.zip_longest","itertools.pairwise"].contains n)=false) (h:Q () s):wpAny (model C.prog C.w) A (letOwnedTupleGo Cb (.ref it) v) Q E s:=by
 have go:∀a:Addr,wpAny (model C.prog C.w) A (do
   let o <- load it
   match o.cls,o.data with
   | .type n,.fields vs=>
    if ["enumerate","zip","dict_itemiterator","dict_reverseitemiterator","odict_iterator","itertools.zip_longest","itertools.pairwise"].contains n&&vs[0]?==some (rawInt a) then
     rule "for.unpacks-the-owned-tuple"
     updateField it 0 .none
   | _,_=>pure ()) Q E s:=fun a=>by
  refine wpAny_bind (wpAny_load ho ?_);simp only[hc,hd,hn,Bool.false_and,Bool.false_eq_true,if_false];exact wpAny_pure h
 cases Cb <;> first |exact wpAny_pure h|(cases v <;> first |exact wpAny_pure h|exact go _)
end
noncomputable def owners:List String:=["enumerate","zip","dict_itemiterator","dict_reverseitemiterator","odict_iterator","itertools.zip_longest","itertools.pairwise"]
section
variable {C:Cx} {sc:Scope} {k:Nat}
theorem A4a{it:Addr}{Cb:Expr}{src:Nat->P (Option MV)}{I:Nat->List Addr->Heap->Prop}
  (dep:∀i α h α' h',I i α h->α<+:α'->(∀o,h.get? it=some o->h'.get? it=some o)->I i α' h')
  (cls:∀i α h,I i α h->∃o n vs,h.get? it=some o∧o.cls=.type n∧o.data=.fields vs∧owners.contains n=false)
  (again:∀(A:Around) (α:List Addr) (s:Shared) (i:Nat) (Q:Value->Shared->Prop) (E:Value->Shared->Prop),I i α s.heap->Q (.ref it) s->wpAny (model C.prog C.w) A (pyIter (.ref it)) Q E s)
  (turn:∀(A:Around) (α:List Addr) (H:Hp) (s:Shared) (i:Nat) (r:Option MV) (H':Hp) (Q:Option Value->Shared->Prop) (E:Value->Shared->Prop),
   A.handled=.none->HR C α H s->I i α s.heap->src i H=some (r,H')->
   (∀h' tk o,H'=H->Heap.ExtBut it s.heap h'->D0j α r o->(r≠.none->I (i+1) α h')->Q o {s with heap:=h',toks:=tk})->wpAny (model C.prog C.w) A (pyNext (.ref it)) Q E s):
  Src C (.ref it) [it] I Cb src:=by
 refine⟨fun i α h α' h' hI hp hk=>dep i α h α' h' hI hp (hk it (.head _)),fun i α h hI b hb=>?_,again,fun A α H s i r H' Q E hh hr hI hJ hs hq=>?_⟩
 ·cases List.mem_singleton.mp hb;kcf_m;obtain⟨o,_,_,ho,_⟩:=cls i α h hI;refine hGx ?_;exact⟨o,ho⟩
 ·obtain⟨hJ,hB⟩:=hJ it (.head _);refine turn A α H s i r H' _ E hh hr hI hs fun h' tk o e hx hsr hi=>?_;subst e;have r':HR C α H' {s with heap:=h',toks:=tk}:=hr.off hJ hB hx;have st:StepJ C [it] α s α {s with heap:=h',toks:=tk}:=.off hx;cases o with
  | none=>exact hq α _ .none r' st hsr hi
  | some v=>
   have:r≠.none:=fun e=>by subst e;exact hsr
   kcf_m;obtain⟨o,n,vs,ho,hc,hd,hn⟩:=cls _ _ _ (hi this);refine hGx ?_;exact Zh ho hc hd hn (hq α _ (.some v) r' st hsr hi)
theorem G6(G:Gd C){Cb:Expr}{mv:MV}{H:Hp}{src:Nat->P (Option MV)}
  (h:∀(A:Around) (α:List Addr) (s:Shared) (v:Value) (Q:Value->Shared->Prop) (E:Value->Shared->Prop),HR C α H s->VRel α mv v->
   (∀I o,o.isFreed=false->Src C (.ref s.heap.objs.size) [s.heap.objs.size] I Cb src->I 0 α (s.heap.push o)->Q (.ref s.heap.objs.size) {s with heap:=s.heap.push o})->wpAny (model C.prog C.w) A (pyIter v) Q E s):K5 C Cb mv H src:=by
 intro A α s v Q E hr hv hq;refine h A α s v Q E hr hv fun I o hf S hI=>hq _ [s.heap.objs.size] I _ S hI (fun b hb=>?_) (hr.push o s.toks) (.push o s.toks);cases List.mem_singleton.mp hb;exact⟨Jx,Py G hr,Lq hr⟩
def Ox(T:GT)(mv:MV)(i:Nat):P (Option MV):=fun H=>(C7 T H mv).map fun xs=>(xs[i]?,H)
theorem Zi(G:Gd C){Cb:Expr}{mv:MV}{H:Hp}(hm:(C7 C.T H mv).isSome=true):K5 C Cb mv H (Ox C.T mv):=by
 refine G6 G fun A α s v Q E hr hv hq=>?_;obtain⟨xs,hx⟩:=Option.isSome_iff_exists.mp hm;kcf_m;obtain⟨l,us,rfl,lu,ru⟩:=Ij G hr hx hv;refine hGx ?_;refine wpAny_pyIter_list lu (hq (fun i α h=>h.IsListIter s.heap.objs.size l i∧VRel α mv (.ref l)) _ rfl ?_ ⟨⟨_,Heap.get?_push_size _ rfl,rfl,rfl⟩,hv⟩);refine A4a (fun i α h α' h' hI hp hk=>?_) (fun i α h hI=>?_) (fun A α s i Q E hI hQ=>wpAny_pyIter_listiter hI.1 hQ) (fun A α H s i r H' Q E hh hr hI hs hq=>?_)
 ·kcf_m;obtain⟨⟨o,ho,x⟩,y⟩:=hI;refine hGx ?_;exact⟨⟨o,hk _ ho,x⟩,y.mono hp⟩
 ·kcf_m;obtain⟨⟨o,ho,hc,hd⟩,_⟩:=hI;refine hGx ?_;exact⟨o,_,_,ho,hc,hd,by decide⟩
 ·obtain⟨hI,hv⟩:=hI;simp only[Ox,Option.map_eq_some_iff] at hs;obtain⟨ys,h1,h2⟩:=hs
  first |exact Cy h2|replace hp:=D8 h2 hp|cases h2
  kcf_m;obtain⟨l',us,e,lu,ru⟩:=Ij G hr h1 hv;refine hGx ?_
  first |exact Cy e|replace hp:=D8 e hp|cases e
  cases e:ys[i]? with
  | none=>exact wpAny_pyNext_list_end hh hI lu (by simpa using ru.none e) fun h' hx=>hq h' s.toks .none rfl hx (by rw[e];trivial) fun q=>absurd e q
  | some m=>
   obtain⟨v',g1,g2⟩:=ru.get e;exact wpAny_pyNext_list_item hI lu (by simpa using g1) fun h' hi hx=>hq h' s.toks (.some v') rfl (B1 hx) (by rw[e];exact g2) fun zz=>⟨hi,hv⟩
def Sv(T:GT)(mv:MV)(i:Nat):P (Option MV):=fun H=>(D0 T H mv).map fun xs=>(xs[i]?,H)
theorem A4b(G:Gd C){Cb:Expr}{mv:MV}{H:Hp}(hm:(D0 C.T H mv).isSome=true):K5 C Cb mv H (Sv C.T mv):=by
 refine G6 G fun A α s v Q E hr hv hq=>?_;obtain⟨xs,hx⟩:=Option.isSome_iff_exists.mp hm;kcf_m;obtain⟨l,us,rfl,lu,ru⟩:=Jy G hr hx hv;refine hGx ?_;refine wpAny_pyIter_tuple lu (hq (fun i α h=>h.IsTupleIter s.heap.objs.size l i∧VRel α mv (.ref l)) _ rfl ?_ ⟨⟨_,Heap.get?_push_size _ rfl,rfl,rfl⟩,hv⟩);refine A4a (fun i α h α' h' hI hp hk=>?_) (fun i α h hI=>?_) (fun A α s i Q E hI hQ=>wpAny_pyIter_tupleiter hI.1 hQ) (fun A α H s i r H' Q E hh hr hI hs hq=>?_)
 ·kcf_m;obtain⟨⟨o,ho,x⟩,y⟩:=hI;refine hGx ?_;exact⟨⟨o,hk _ ho,x⟩,y.mono hp⟩
 ·kcf_m;obtain⟨⟨o,ho,hc,hd⟩,_⟩:=hI;refine hGx ?_;exact⟨o,_,_,ho,hc,hd,by decide⟩
 ·obtain⟨hI,hv⟩:=hI;simp only[Sv,Option.map_eq_some_iff] at hs;obtain⟨ys,h1,h2⟩:=hs
  first |exact Cy h2|replace hp:=D8 h2 hp|cases h2
  kcf_m;obtain⟨l',us,e,lu,ru⟩:=Jy G hr h1 hv;refine hGx ?_
  first |exact Cy e|replace hp:=D8 e hp|cases e
  cases e:ys[i]? with
  | none=>exact wpAny_pyNext_tuple_end hh hI lu (by simpa using ru.none e) fun h' hx=>hq h' s.toks .none rfl hx (by rw[e];trivial) fun q=>absurd e q
  | some m=>
   obtain⟨v',g1,g2⟩:=ru.get e;exact wpAny_pyNext_tuple_item hI lu (by simpa using g1) fun h' hi hx=>hq h' s.toks (.some v') rfl (B1 hx) (by rw[e];exact g2) fun zz=>⟨hi,hv⟩
noncomputable def A4c(x:Str)(i:Nat):P (Option MV):=fun H=>some ((x.cps[i]?).map fun c=>.str ⟨#[c]⟩,H)
theorem A4d(G:Gd C){Cb:Expr}{x:Str}{H:Hp}(hm:x.cps.all (·<128)=true):K5 C Cb (.str x) H (A4c x):=by
 refine G6 G fun A α s v Q E hr hv hq=>?_;obtain⟨t,rfl⟩:=hv;have ty:strIterType x="str_ascii_iterator":=by unfold strIterType;rw[if_pos hm]
 refine wpAny_pyIter_strU (hq (fun i α h=>h.IsStrIter s.heap.objs.size "str_ascii_iterator" x t i) _ rfl ?_ ⟨_,Heap.get?_push_size _ rfl,by rw[ty],rfl⟩);refine A4a (fun i α h α' h' hI hp hk=>?_) (fun i α h hI=>?_) (fun A α s i Q E hI hQ=>wpAny_pyIter_striter_ascii hI hQ) (fun A α H s i r H' Q E hh hr hI hs hq=>?_)
 ·obtain⟨o,ho,x⟩:=hI;exact⟨o,hk _ ho,x⟩
 ·kcf_m;obtain⟨o,ho,hc,hd⟩:=hI;refine hGx ?_;exact⟨o,_,_,ho,hc,hd,by decide⟩
 ·cases hs;cases e:x.cps[i]? with
  | none=>exact wpAny_pyNext_ascii_end hh hI e fun h' hx=>hq h' s.toks .none rfl hx (by rw[e];trivial) fun q=>absurd (by rw[e];rfl) q
  | some c=>exact wpAny_pyNext_ascii_item hI e fun h' hi hx=>hq h' _ (.some _) rfl (B1 hx) (by rw[e];exact⟨_,rfl⟩) fun zz=>hi
noncomputable def Jq(a b c:Int)(i:Nat):P (Option MV):=fun H=>some (if (i:Int)<Builtin.Range.rangeSize a b c then some (.int (a+i*c)) else none,H)
theorem Vk(G:Gd C){Cb:Expr}{j:Nat}{a b c:Int}{H:Hp}(hm:H[j]?=some (.rng a b c))(hs:Builtin.Range.small a b c=true):K5 C Cb (.ref j) H (Jq a b c):=by
 refine G6 G fun A α s v Q E hr hv hq=>?_;kcf_m;obtain⟨l,rfl,t,u,w,hl⟩:=hr.refAt hm hv;refine hGx ?_;refine wpAny_pyIter_range hl hs (hq (fun i α h=>IsRangeIter h s.heap.objs.size (a+i*c) (Builtin.Range.rangeSize a b c-i) c) _ rfl ?_ ?_)
 ·refine A4a (fun i α h α' h' hI hp hk=>hk _ hI) (fun i α h hI=>⟨_,_,_,hI,rfl,rfl,by decide⟩) (fun A α s i Q E hI hQ=>wpAny_pyIter_rangeiter hI hQ) (fun A α H s i r H' Q E hh hr hI hs hq=>?_);cases hs;by_cases e:(i:Int)<Builtin.Range.rangeSize a b c
  ·refine wpAny_pyNext_range_item hI (B77 e) fun h' hi hx=>hq h' _ (.some _) rfl (B1 hx) (by rw[if_pos e];exact⟨_,rfl⟩) fun zz=>?_;have e1:a+i*c+c=a+((i+1:Nat):Int)*c:=by rw[Int.natCast_add,Int.add_mul];simp[Int.add_assoc]
   have e2:Builtin.Range.rangeSize a b c-i-1=Builtin.Range.rangeSize a b c-((i+1:Nat):Int):=by exact B78
   rw[e1,e2] at hi;exact hi
  ·exact wpAny_pyNext_range_end hh hI (B79 e) fun h' hx=>hq h' s.toks .none rfl hx (by rw[if_neg e];trivial) fun q=>absurd (by rw[if_neg e]) q
 ·have:=Heap.get?_push_size (h:=s.heap) (o:={cls:=.type "range_iterator",data:=.fields #[rawInt a,rawInt (Builtin.Range.rangeSize a b c),rawInt c]}) rfl;simpa using this
noncomputable def Zj(j n:Nat)(i:Nat):P (Option MV):=fun H=>match H[j]? with
 | some (.dict es)=>if es.length=n then some ((es[i]?).map fun e=>.int e.1,H) else none
 | _=>none
theorem Zk(G:Gd C){Cb:Expr}{j:Nat}{es:List (Int × MV)}{H:Hp}(hm:H[j]?=some (.dict es)):K5 C Cb (.ref j) H (Zj j es.length):=by
 refine G6 G fun A α s v Q E hr hv hq=>?_;kcf_m;obtain⟨l,rfl,kvs,hl,hk⟩:=hr.refAt hm hv;refine hGx ?_;have n:=hk.length;refine wpAny_pyIter_dict (X8 G hr hv) hl (hq (fun i α h=>h.IsKeyIter s.heap.objs.size l i es.length es.length∧VRel α (.ref j) (.ref l)) _ rfl ?_ ⟨⟨_,Heap.get?_push_size _ rfl,rfl,by rw[n];rfl⟩,hv⟩);refine A4a (fun i α h α' h' hI hp hk=>?_) (fun i α h hI=>?_) (fun A α s i Q E hI hQ=>wpAny_pyIter_keyiter hI.1 hQ) (fun A α H s i r H' Q E hh hr hI hs hq=>?_)
 ·kcf_m;obtain⟨⟨o,ho,x⟩,y⟩:=hI;refine hGx ?_;exact⟨⟨o,hk _ ho,x⟩,VRel.mono hp y⟩
 ·kcf_m;obtain⟨⟨o,ho,hc,hd⟩,_⟩:=hI;refine hGx ?_;exact⟨o,_,_,ho,hc,hd,by decide⟩
 ·obtain⟨hI,hv⟩:=hI;unfold Zj at hs
  split at hs
  ·rename_i es' e
   split at hs
   ·rename_i hn;cases hs;kcf_m;obtain⟨l',el,kvs',hl',hk'⟩:=hr.refAt e hv;refine hGx ?_;cases el;have n':=hk'.length;rw[hn] at hl' n';rw[n'] at hI hl';cases e:es'[i]? with
    | none=>exact wpAny_pyNext_dict_end hh hI hl' (by simpa using hk'.none e) fun h' hx=>hq h' s.toks .none rfl hx (by rw[e];trivial) fun q=>absurd (by rw[e];rfl) q
    | some m=>
     kcf_m;obtain⟨⟨k',v'⟩,g1,g2⟩:=hk'.get e;refine hGx ?_;refine wpAny_pyNext_dict_item hI hl' g1 fun key h' hi hit hx=>?_;obtain⟨t,rfl⟩:=Value.isInt_shape hi;obtain⟨q,_⟩:=g2;dsimp only at q;exact hq h' s.toks (.some _) rfl (B1 hx) (by rw[e];exact⟨t,by rw[q]⟩) fun zz=>⟨by rw[n'];exact hit,hv⟩
   ·cases hs
  ·cases hs
end
section
variable {C:Cx} {sc:Scope} {k:Nat}
def TG(C:Cx)(sc:Scope)(ns:List Str)(Cb:Expr)(f:Aj->MV->P Aj):Prop:=
 ∀(A:Around) (env:Env) (α:List Addr) (ρ:Aj) (H:Hp) (s:Shared) (Q:Unit->Shared->Prop) (E:Value->Shared->Prop) (m:MV) (v:Value) (ρ':Aj) (H':Hp),
  A.handled=.none->HR C α H s->ER C α ρ sc env s.heap->VRel α m v->f ρ m H=some (ρ',H')->
  (∀s',HR C α H' s'->ER C α ρ' sc env s'.heap->Ext C (slots env ns) α s α s'->Q () s')->wpAny (model C.prog C.w) A (assign Cb env v) Q E s
theorem A4(G:Gd C){x:Str}{pos:Pos}(hx:Ss sc x=true):TG C sc [x] (.Name x pos) (fun ρ m=>Bg (upd ρ x m)):=by
 intro A env α ρ H s Q E m v ρ' H' hh hr he hv hf hq;kpf_c;exact wpAny_assign_Name (Ow G hr he hv (D9 hx) hq)
def TGs(C:Cx)(sc:Scope)(ns:List Str)(elts:List Expr)(f:Aj->List MV->P Aj):Prop:=
 (∀env,assignEach elts env=elts.map fun e=>(false,assign e env))∧
 ∀(A:Around) (env:Env) (α:List Addr) (ρ:Aj) (H:Hp) (s:Shared) (Q:Unit->Shared->Prop) (E:Value->Shared->Prop) (ms:List MV) (vs:List Value) (ρ':Aj) (H':Hp),
  A.handled=.none->HR C α H s->ER C α ρ sc env s.heap->VRels α ms vs->ms.length=elts.length->f ρ ms H=some (ρ',H')->
  (∀s',HR C α H' s'->ER C α ρ' sc env s'.heap->Ext C (slots env ns) α s α s'->Q () s')->wpAny (model C.prog C.w) A (assignInOrder (elts.map fun e=>assign e env) vs) Q E s
theorem Gk:TGs C sc [] [] (fun ρ zz=>Bg ρ):=by
 refine⟨fun zz=>rfl,fun A env α ρ H s Q E ms vs ρ' H' hh hr he hv hl hf hq=>?_⟩;kpf_c;exact assignInOrder_nil (hq s hr he .refl)
theorem Bu{ns ms:List Str}{e:Expr}{es:List Expr}{f:Aj->MV->P Aj}{g:Aj->List MV->P Aj}(h:TG C sc ns e f)(hs:TGs C sc ms es g)
  (he:∀env,assignEach (e::es) env=(false,assign e env)::assignEach es env:=by intro _;rfl):
  TGs C sc (ns++ms) (e::es) (fun ρ ms=>match ms with|m::ms=>B9 (f ρ m) fun ρ'=>g ρ' ms|[]=>fl):=by
 refine⟨fun env=>by rw[he,hs.1];rfl,fun A env α ρ H s Q E ms vs ρ' H' hh hr her hv hl hf hq=>?_⟩;cases hv with
 | nil=>simp at hl
 | cons a b=>
  rename_i m v ms vs;obtain⟨ρA,H₁,qA,hf⟩:=Aw hf;refine assignInOrder_cons (h A env α ρ H s _ _ _ _ _ _ hh hr her a qA fun sA rH eO xO=>?_);exact hs.2 A env α ρA H₁ sA _ _ _ _ _ _ hh rH eO b (by simpa using hl) hf fun sB rI eP xP=>hq sB rI eP ((xO.mono (Jb fun zz h=>List.mem_append_left _ h)).trans (xP.mono (Jb fun zz h=>List.mem_append_right _ h)))
theorem HR.extBut{α H s h'}(r:HR C α H s)(hs:Heap.ExtBut s.heap.objs.size s.heap h'):HR C α H {s with heap:=h'}:=
 r.step (fun b o h zz=>hs b o (Nat.ne_of_lt (Heap.lt_size h)) h) (fun b o h=>⟨o,hs b o (Nat.ne_of_lt (Heap.lt_size h)) h⟩) r.gens rfl
theorem Ext.extBut{X:List Addr}{α s h'}(hs:Heap.ExtBut s.heap.objs.size s.heap h'):Ext C X α s α {s with heap:=h'}:=
 ⟨List.prefix_refl _,fun zz h=>.inl h,fun b o h zz zz zz=>hs b o (Nat.ne_of_lt (Heap.lt_size h)) h,fun b o h=>⟨o,hs b o (Nat.ne_of_lt (Heap.lt_size h)) h⟩⟩
def Gl(T:GT)(n:Nat)(m:MV):P (List MV):=fun H=>(D0 T H m).bind fun xs=>if xs.length=n then some (xs,H) else none
theorem Il(G:Gd C){ns:List Str}{es:List Expr}{kd:Nat}{pos:Pos}{f:Aj->List MV->P Aj}(h:TGs C sc ns es f):
  TG C sc ns (.Tuple es kd pos) (fun ρ m=>B9 (Gl C.T es.length m) fun xs=>f ρ xs):=by
 intro A env α ρ H s Q E m v ρ' H' hh hr he hv hf hq;obtain⟨xs,H₁,qA,hf⟩:=Aw hf;simp only[Gl,Option.bind_eq_some_iff] at qA;obtain⟨ys,h1,h2⟩:=qA
 split at h2
 ·rename_i hl
  first |exact Cy h2|replace hp:=D8 h2 hp|cases h2
  obtain⟨a,us,rfl,lu,ru⟩:=Jy G hr h1 hv;have sz:xs.length=us.size:=by simpa using ru.length
  show wpAny _ _ (do standAt pos;unpack (.ref a) (assignEach es env)) Q E s;refine wpAny_bind (wpAny_standAt (wpAny_unpack_tuple hh lu (by rw[h.1];simp;exact B8a hl sz) (by rw[h.1];simp) fun h' hx=>?_));rw[h.1,List.map_map];have xO:Ext C [] α s α {s with heap:=h'}:=.extBut hx;exact h.2 A env α ρ _ _ _ _ _ _ _ _ hh (hr.extBut hx) (he.ext xO) ru hl hf fun sB rI eP xP=>hq sB rI eP (xO.weak.trans xP)
 ·first |exact Cy h2|replace hp:=D8 h2 hp|cases h2
theorem Iy(G:Gd C){ns:List Str}{Cb e:Expr}{f:Aj->P MV}{g:Aj->MV->P Aj}{pos:Pos}(h:SE C sc k e f)(ht:TG C sc ns Cb g)
  (he:∀env,(assignEach [Cb] env).map (·.2)=[PySem.assign Cb env]:=by intro _;rfl)
  (hs:∀env,swapsWithSole [Cb] e pos.line env=pure false:=by intro _;rfl) (hw:∀env:Env,env.scope=sc->swappedStores [Cb] e env=pure none:=by rintro ⟨⟩ rfl;rfl):
  SS C sc k (.Assign [Cb] e pos) (fun ρ=>B9 (f ρ) fun a=>B9 (g ρ a) fun ρ'=>Bg (.next,ρ')):=by
 intro A env α ρ H s Q E fl ρ' H' hR hr her hf hq;obtain⟨a,H₁,qA,hf⟩:=Aw hf;obtain⟨ρA,HP,qB,hf⟩:=Aw hf;kpf_c;refine wpAny_Assign_stores (h A env α ρ H s _ _ _ _ hR hr her qA fun αA sA vA rH xO wA=>?_) (hs _) (hw _ her.scope);rw[he];exact ht A env αA ρ H₁ sA _ _ _ _ _ _ hR.handled rH (her.ext xO) wA qB fun sB rI eP xP=>hq αA sB _ rI eP (xO.weak.trans (xP.mono Ix)) rfl
def Ci:List Str->List MV->Aj->Aj
 | x::xs,m::ms,ρ=>Ci xs ms (upd ρ x m)
 | _,_,ρ=>ρ
theorem A4e(G:Gd C):∀(ns:List Str) (A:Around) (env:Env) (α:List Addr) (ρ:Aj) (H:Hp) (s:Shared) (Q:Unit->Shared->Prop) (E:Value->Shared->Prop) (ms:List MV) (vs:List Value),
  (ns.all fun x=>sc.names.lookup x==some .local||sc.names.lookup x==some .cell)=true->HR C α H s->ER C α ρ sc env s.heap->VRels α ms vs->ms.length=ns.length->
  (∀s',HR C α H s'->ER C α (Ci ns ms ρ) sc env s'.heap->Ext C (Fb env) α s α s'->Q () s')->wpAny (model C.prog C.w) A (assignInOrder (ns.map fun n=>bindName env n) vs) Q E s:=by
 intro rest__
 induction rest__ with
 | nil=>
  intro A env α ρ H s Q E ms vs hk hr he hv hl hq;cases hv with
  | nil=>exact assignInOrder_nil (hq s hr he .refl)
  | cons=>simp at hl
 | cons n ns ih=>
  intro A env α ρ H s Q E ms vs hk hr he hv hl hq;cases hv with
  | nil=>simp at hl
  | cons a b=>
   rw[List.all_cons,Bool.and_eq_true] at hk;refine assignInOrder_cons (wpAny_bindName (J0 G hr he a (D9 hk.1) fun sA rH eO xO=>?_));exact ih A env α _ H sA _ _ _ _ hk.2 rH eO b (by simpa using hl) fun sB rI eP xP=>hq sB rI eP (xO.trans xP)
theorem All2.rev{α β:Type}{R:α->β->Prop}{l:List α}{m:List β}(h:All2 R l m):All2 R l.reverse m.reverse:=by
 induction h with
 | nil=>exact .nil
 | cons h t ih=>rw[List.reverse_cons,List.reverse_cons];exact ih.append (.cons h .nil)
theorem Ha(G:Gd C){Cb e:Expr}{f:Aj->P MV}{pos:Pos}(ns:List Str)(h:SE C sc k e f)(hk:(ns.all fun x=>sc.names.lookup x==some .local||sc.names.lookup x==some .cell)=true)
  (hs:∀env,swapsWithSole [Cb] e pos.line env=pure false:=by intro _;rfl) (hw:∀env:Env,env.scope=sc->swappedStores [Cb] e env=pure (some ns):=by rintro ⟨⟩ rfl;rfl):
  SS C sc k (.Assign [Cb] e pos) (fun ρ=>B9 (f ρ) fun a=>B9 (Gl C.T ns.length a) fun xs=>Bg (.next,Ci ns.reverse xs.reverse ρ)):=by
 intro A env α ρ H s Q E fl ρ' H' hR hr her hf hq;obtain⟨a,H₁,qA,hf⟩:=Aw hf;obtain⟨xs,HP,qB,hf⟩:=Aw hf;kpf_c;simp only[Gl,Option.bind_eq_some_iff] at qB;obtain⟨ys,h1,h2⟩:=qB
 split at h2
 ·rename_i hl
  first |exact Cy h2|replace hp:=D8 h2 hp|cases h2
  rw[arm_exec_Assign];refine wpAny_bind (wpAny_standAt ?_);rw[hs];refine wpAny_bind (wpAny_pure ?_);rw[if_neg (by decide)];refine wpAny_bind (h A env α ρ H s _ _ _ _ hR hr her qA fun αA sA vA rH xO wA=>?_);rw[hw _ her.scope];refine wpAny_bind (wpAny_pure ?_);obtain⟨b,us,rfl,lu,ru⟩:=Jy G rH h1 wA;have sz:ns.length=us.size:=by rw[<- hl];simpa using ru.length
  show wpAny _ _ (do rule "assign.swapped-stores";let items <- unpackItems (.ref b) ns.length none;assignInOrder (ns.reverse.map fun n=>bindName env n) items.reverse;pure Flow.next) Q E sA;refine wpAny_bind (wpAny_rule (wpAny_bind ?_));rw[sz];refine wpAny_unpackItems_tuple hR.handled lu fun h' hx=>?_;have xP:Ext C [] αA sA αA {sA with heap:=h'}:=.extBut hx;refine wpAny_bind ?_;refine A4e G ns.reverse A env αA ρ _ _ _ _ xs.reverse us.toList.reverse (by rw[List.all_reverse];exact hk) (rH.extBut hx) (her.ext (xO.trans xP)) ru.rev (by simpa using hl) fun sC rC eJ xJ=>?_;exact wpAny_pure (hq αA sC _ rC eJ ((xO.trans xP).weak.trans xJ) rfl)
 ·first |exact Cy h2|replace hp:=D8 h2 hp|cases h2
theorem Src.turn{it:Value}{J:List Addr}{I:Nat->List Addr->Heap->Prop}{Cb:Expr}{src:Nat->P (Option MV)}(S:Src C it J I Cb src)
  {A:Around} {α:List Addr} {H:Hp} {s:Shared} {i:Nat} {r:Option MV} {H':Hp} {Qn:Shared->Prop} {Qs:Value->Shared->Prop} {E E':Value->Shared->Prop}
  (hh:A.handled=.none) (hr:HR C α H s) (hI:I i α s.heap) (hJ:∀b∈J,b ∉ α∧C.B.objs.size<=b) (hs:src i H=some (r,H'))
  (hn:r=.none->∀α' s',HR C α' H' s'->StepJ C J α s α' s'->Qn s')
  (hm:∀m,r=.some m->∀α' s' v,HR C α' H' s'->StepJ C J α s α' s'->VRel α' m v->I (i+1) α' s'.heap->Qs v s') (hE:∀e s,E e s->E' e s):
  wpAny (model C.prog C.w) A (pyNext it) (fun r sA=>match r with
   | .none=>Qn sA
   | .some v=>wpAny (model C.prog C.w) A (letOwnedTupleGo Cb it v) (fun zz sA'=>Qs v sA') E sA) E' s:=by
 refine wpAny_mono (S.step A α H s i r H' (fun o s=>match o with | .none=>Qn s | .some v=>Qs v s) E hh hr hI hJ hs fun α' s' o h1 h2 h3 h4=>?_) (fun o s h=>?_) hE
 ·cases r with
  | none=>
   cases o with
   | none=>exact hn rfl α' s' h1 h2
   | some v=>exact h3.elim
  | some m=>
   cases o with
   | none=>exact h3.elim
   | some v=>exact hm m rfl α' s' v h1 h2 h3 (h4 (by simp))
 ·cases o with
  | none=>exact h
  | some v=>exact h
def Gg(src:Nat->P (Option MV))(tg:Aj->MV->P Aj)(b o:Aj->P (Fl × Aj)):Nat->Nat->Aj->P (Fl × Aj)
 | 0,_,_=>fl
 | n+1,i,ρ=>B9 (src i) fun m=>match m with
  | .none=>o ρ
  | .some v=>B9 (tg ρ v) fun ρ'=>B9 (b ρ') fun r=>match r with
   | (.next,ρ'')=>Gg src tg b o n (i+1) ρ''
   | (.cont,ρ'')=>Gg src tg b o n (i+1) ρ''
   | (.brk,ρ'')=>Bg (.next,ρ'')
   | (.ret v,ρ'')=>Bg (.ret v,ρ'')
def Jn(C:Cx)(Cb:Expr)(g:MV->Hp->Option (Nat->P (Option MV))):Prop:=∀m H src,g m H=some src->K5 C Cb m H src
theorem ER.stepJ{J:List Addr}{env:Env}{α ρ s α' s'}(r:ER C α ρ sc env s.heap)(st:StepJ C J α s α' s')(hj:∀j∈J,j ∉ Fb env):ER C α' ρ sc env s'.heap:=
 r.keep st.pre st.fresh fun b hb o ho=>st.keep b o ho (r.own b hb).1 (fun q=>hj b q hb) (r.own b hb).2.1
def ItE(C:Cx)(sc:Scope)(k:Nat)(Cb e:Expr)(F:Aj->P (Nat->P (Option MV))):Prop:=
 ∀(A:Around) (env:Env) (α:List Addr) (ρ:Aj) (H:Hp) (s:Shared) (Q:Value->Shared->Prop) (E:Value->Shared->Prop) (src:Nat->P (Option MV)) (H':Hp),
  Room k A->HR C α H s->ER C α ρ sc env s.heap->F ρ H=some (src,H')->
  (∀α' it J I s',HR C α' H' s'->Ext C [] α s α' s'->Src C it J I Cb src->I 0 α' s'.heap->(∀b∈J,s.heap.get? b=.none∧C.B.objs.size<=b∧b ∉ α')->Q it s')->
  wpAny (model C.prog C.w) A (eval e env) (fun v sA=>wpAny (model C.prog C.w) A (pyIter v) Q E sA) E s
inductive D3h(C:Cx)(sc:Scope)(env:Env)(α:List Addr)(s:Shared)(J:List Addr)(I:Nat->List Addr->Heap->Prop)(W:Nat->Nat->Aj->P (Fl × Aj))(R:(Fl × Aj) × Hp)(m:Nat)(sC:Shared):Prop
 | mk (i:Nat) (αC:List Addr) (ρC:Aj) (HJ:Hp) (r:HR C αC HJ sC) (e:ER C αC ρC sc env sC.heap) (x:Ext C (Fb env) α s αC sC) (hj:∀j∈J,j ∉ αC∧j ∉ Fb env) (hI:I i αC sC.heap) (w:W m i ρC HJ=some R)
theorem Yb(G:Gd C){ns:List Str}{Cb e:Expr}{b o:List Stmt}{pos:Pos}{F:Aj->P (Nat->P (Option MV))}{t:Aj->MV->P Aj}{bf of:Aj->P (Fl × Aj)}(n:Nat)
  (h:ItE C sc k Cb e F) (ht:TG C sc ns Cb t) (hb:SB C sc k b bf) (ho:SB C sc k o of)
  (hs:∀env x,foldedSetIterable e env x=pure x:=by intro _ _;rfl):
  SS C sc k (.For Cb e b o pos) (fun ρ=>B9 (F ρ) fun src=>Gg src t bf of n 0 ρ):=by
 intro A env α ρ H s Q E fl ρ' H' hR hr her hf hq;obtain⟨src,H₁,qA,hf⟩:=Aw hf;refine wpAny_For ?_ (hs _);refine h A env α ρ H s _ _ _ _ hR hr her qA fun αA it J I sB rI xP S hI hJ=>?_;have eP:=her.ext xP;refine codeAny_forLoop_any (I:=D3h C sc env α s J I (Gg src t bf of) ((fl,ρ'),H')) ?_ n
  ⟨0,αA,ρ,H₁,rI,eP,xP.weak,fun j hj=>⟨(hJ j hj).2.2,fun q=>?_⟩,hI,hf⟩
 ·intro nn sC hpat;kcf_m;obtain⟨i,αC,ρC,HJ,rC,eJ,xJ,hjC,hIC,hw⟩:=hpat;cases nn with
  | zero=>first |exact Cy hw|replace hp:=D8 hw hp|cases hw
  | succ nn=>
   unfold Gg at hw;obtain⟨oK,HK,qD,hw⟩:=Aw hw;have key:∀αD sD,HR C αD HK sD->StepJ C J αC sC αD sD->Ext C (Fb env) α s αD sD∧ER C αD ρC sc env sD.heap:=fun αD sD rD st=>
    ⟨xJ.stepJ st fun j hj=>(hJ j hj).1,eJ.stepJ st fun j hj=>(hjC j hj).2⟩
   refine hGx ?_;refine S.turn hR.handled rC hIC (fun j hj=>⟨(hjC j hj).1,(hJ j hj).2.1⟩) qD (fun hoD αD sD rD st=>?_) (fun mv hmD αD sD v rD st wD hiD=>?_) fun zz zz hx=>hx
   ·subst hoD;obtain⟨xK,eK⟩:=key αD sD rD st;exact ho A env αD ρC HK sD _ _ _ _ _ hR rD eK hw fun αE sE gE rE eE xL wE=>hq αE sE _ rE eE (xK.trans xL) wE
   ·subst hmD;obtain⟨xK,eK⟩:=key αD sD rD st;have ja:∀j∈J,j ∉ αD:=fun j hj q=>by
     rcases st.fresh j q with z|z
     ·exact(hjC j hj).1 z
     ·obtain⟨o,ho⟩:=S.alive i αC _ hIC j hj;rw[ho] at z;cases z
    obtain⟨ρE,HL,qE,hw⟩:=Aw hw;obtain⟨⟨flF,ρF⟩,HM,qF,hw⟩:=Aw hw;refine ht A env αD ρC HK sD _ _ _ _ _ _ hR.handled rD eK wD qE fun sE rE eE xL=>?_;have xL:=xL.mono (Ix (env:=env));have kE:∀b∈J,∀o,sD.heap.get? b=some o->sE.heap.get? b=some o:=fun b hb o ho=>xL.keep b o ho (ja b hb) (hjC b hb).2 (Fk G (hJ b hb).2.1);have hiE:=S.dep _ _ _ αD _ hiD (List.prefix_refl _) kE;refine hb A env αD ρE HL sE _ _ _ _ _ hR rE eE qF fun αF sF gF rF eM xT wF=>?_;have kF:∀b∈J,∀o,sE.heap.get? b=some o->sF.heap.get? b=some o:=fun b hb o ho=>xT.keep b o ho (ja b hb) (hjC b hb).2 (Fk G (hJ b hb).2.1);have hiF:=S.dep _ _ _ αF _ hiE xT.pre kF;have jaF:∀j∈J,j ∉ αF:=fun j hj q=>by
     rcases xT.fresh j q with z|z
     ·exact ja j hj z
     ·obtain⟨o,ho⟩:=S.alive _ _ _ hiE j hj;rw[ho] at z;cases z
    have xN:=(xK.trans xL).trans xT;cases flF with
    | next=>cases wF;exact⟨nn,Nat.lt_succ_self _,i+1,αF,ρF,HM,rF,eM,xN,fun j hj=>⟨jaF j hj,(hjC j hj).2⟩,hiF,hw⟩
    | cont=>cases wF;exact⟨nn,Nat.lt_succ_self _,i+1,αF,ρF,HM,rF,eM,xN,fun j hj=>⟨jaF j hj,(hjC j hj).2⟩,hiF,hw⟩
    | brk=>cases wF;cases hw;exact hq αF sF _ rF eM xN rfl
    | ret v=>obtain⟨u,rfl,w⟩:=wF;cases hw;exact hq αF sF _ rF eM xN ⟨_,rfl,w⟩
 ·obtain⟨_,_,_,o,ho⟩:=her.own j q;rw[(hJ j hj).1] at ho;cases ho
theorem B4y{Cb e:Expr}{f:Aj->P MV}{g:MV->Hp->Option (Nat->P (Option MV))}(h:SE C sc k e f)(hg:Jn C Cb g):ItE C sc k Cb e (fun ρ=>B9 (f ρ) fun m H=>(g m H).map fun src=>(src,H)):=by
 intro A env α ρ H s Q E src H' hR hr her hf hq;obtain⟨m,H₁,qA,hf⟩:=Aw hf;obtain⟨_,gA,hf⟩:=Ju hf;obtain⟨rfl,rfl⟩:=Prod.mk.inj hf;exact h A env α ρ H s _ _ _ _ hR hr her qA fun αA sA vA rH xO wA=>hg m _ _ gA A αA sA vA _ _ rH wA fun it J I sB S hI hJ rI xP=>hq αA it J I sB rI (xO.trans xP) S hI fun b hb=>⟨xO.dead (hJ b hb).1,(hJ b hb).2⟩
theorem Hl(G:Gd C){ns:List Str}{Cb e:Expr}{b o:List Stmt}{pos:Pos}{f:Aj->P MV}{g:MV->Hp->Option (Nat->P (Option MV))}{t:Aj->MV->P Aj}{bf of:Aj->P (Fl × Aj)}(n:Nat)
  (h:SE C sc k e f) (hg:Jn C Cb g) (ht:TG C sc ns Cb t) (hb:SB C sc k b bf) (ho:SB C sc k o of)
  (hs:∀env x,foldedSetIterable e env x=pure x:=by intro _ _;rfl):
  SS C sc k (.For Cb e b o pos) (fun ρ=>B9 (f ρ) fun m=>fun H=>(g m H).bind fun src=>Gg src t bf of n 0 ρ H):=fun A env α ρ H s Q E fl ρ' H' hR hr her hf hq=>
 Yb G n (B4y h hg) ht hb ho hs A env α ρ H s Q E fl ρ' H' hR hr her (by
  obtain⟨m,H₁,qA,hf⟩:=Aw hf;obtain⟨src,gA,hf⟩:=Dw hf;simp only[B9,qA,gA,Option.map_some];exact hf) hq
end
section
variable {C:Cx} {sc:Scope} {k:Nat}
def CallOk(C:Cx)(k:Nat)(f:Value)(g:List MV->P MV):Prop:=
 ∀(A:Around) (α:List Addr) (H:Hp) (s:Shared) (Q:Value->Shared->Prop) (E:Value->Shared->Prop) (ms:List MV) (vs:List Value) (r:MV) (H':Hp),
  Room k A->HR C α H s->VRels α ms vs->g ms H=some (r,H')->Post C α s r H' Q->wpAny (model C.prog C.w) A (call f vs) Q E s
theorem K6(G:Gd C){α H s}(hr:HR C α H s):s.heap.NoLimit:=G.nolimit.at fun o ho=>hr.keepB _ o ho G.st
def Ct(ps:List Str)(f:Aj->P (Fl × Aj))(ms:List MV):P MV:=fun H=>if ms.length=ps.length then
  (B9 (f (Ci ps ms fun zz=>none)) fun r=>match r.1 with
   | .ret v=>Bg v
   | .next=>Bg .none
   | _=>fl) H else none
theorem Gh{cs:List (Str × Addr)}{x:Str}{c:Addr}(h:cs.lookup x=some c):(x,c)∈cs:=by
 induction cs with
 | nil=>cases h
 | cons p l ih=>
  obtain⟨y,d⟩:=p;rw[List.lookup_cons] at h
  split at h
  ·rename_i e
   first |exact Cy h|replace hp:=D8 h hp|cases h
   rw[eq_of_beq e];exact .head _
  ·exact .tail _ (ih h)
theorem Oy{cs:List (Str × Addr)}(h:cs.Pairwise fun x y=>x.2≠y.2){p q:Str × Addr}(hp:p∈cs)(hq:q∈cs)(e:p.2=q.2):p=q:=by
 induction cs with
 | nil=>cases hp
 | cons x l ih=>
  rw[List.pairwise_cons] at h;cases List.mem_cons.mp hp with
  | inl h1=>
   cases List.mem_cons.mp hq with
   | inl h2=>rw[h1,h2]
   | inr h2=>exact absurd (h1▸e) (h.1 q h2)
  | inr h1=>
   cases List.mem_cons.mp hq with
   | inl h2=>exact absurd (h2▸e.symm) (h.1 p h1)
   | inr h2=>exact ih h.2 h1 h2
theorem Ku:∀ {cs:List (Str × Addr)} {x:Str} {c:Addr},(cs.map (·.1)).Nodup->(x,c)∈cs->cs.lookup x=some c
 | (y,d)::l,x,c,hn,hm=>by
  rw[List.map_cons,List.nodup_cons] at hn;rw[List.lookup_cons];cases List.mem_cons.mp hm with
  | inl h=>cases h;simp
  | inr h=>
   have:(x==y)=false:=by
    rw[beq_eq_false_iff_ne];intro e;subst e;exact hn.1 (List.mem_map.mpr ⟨_,h,rfl⟩)
   rw[this];exact Ku hn.2 h
theorem J1:∀(names:List (Str × NameKind)) (n n':Nat) (acc acc':List (Str × Addr)),acc'.map (·.1)=acc.map (·.1)->(cellsFrom n' names acc').map (·.1)=(cellsFrom n names acc).map (·.1)
 | [],_,_,_,_,h=>h
 | (x,kd)::r,n,n',acc,acc',h=>by
  unfold cellsFrom
  split
  ·exact J1 r _ _ _ _ (by simp[h])
  ·exact J1 r _ _ _ _ h
theorem Zl{α:List Addr}{kd:Str->Option NameKind}{ps:List Str}{ms:List MV}{vs:List Value}{ρ:Aj}{m:Str->Option Value}(h0:VRels α ms vs)(hl:ms.length=ps.length)
  (h:∀x v,kd x=some .local->ρ x=some v->∃v',m x=some v'∧VRel α v v'):
  ∀x v,kd x=some .local->Ci ps ms ρ x=some v->∃v',bindL kd (ps.zip vs) m x=some v'∧VRel α v v':=by
 unfold VRels at h0
 induction h0 generalizing ps ρ m with
 | nil=>
  cases ps with
  | nil=>exact h
  | cons=>cases hl
 | @cons mv u ms vs a b ih=>
  cases ps with
  | nil=>cases hl
  | cons p ps=>
  intro x v hk e;refine ih (ps:=ps) (by simpa using hl) (ρ:=upd ρ p mv) ?_ x v hk e;intro y w hy hw;unfold upd at hw;by_cases q:y=p
  ·subst q;rw[if_pos rfl] at hw
   first |exact Cy hw|replace hp:=D8 hw hp|cases hw
   exact⟨u,by simp[hy],a⟩
  ·rw[if_neg q] at hw;obtain⟨v',h1,h2⟩:=h y w hy hw;refine⟨v',?_,h2⟩;by_cases z:kd p=some .local
   ·simp[z,q,h1]
   ·simp[z,h1]
theorem Zm{α:List Addr}{kd:Str->Option NameKind}{ps:List Str}{ms:List MV}{vs:List Value}{ρ:Aj}{m:Str->Option Value}(h0:VRels α ms vs)(hl:ms.length=ps.length)
  (h:∀x v,kd x=some .cell->ρ x=some v->∃v',m x=some v'∧VRel α v v'):
  ∀x v,kd x=some .cell->Ci ps ms ρ x=some v->∃v',bindC kd (ps.zip vs) m x=some v'∧VRel α v v':=by
 unfold VRels at h0
 induction h0 generalizing ps ρ m with
 | nil=>
  cases ps with
  | nil=>exact h
  | cons=>cases hl
 | @cons mv u ms vs a b ih=>
  cases ps with
  | nil=>cases hl
  | cons p ps=>
  intro x v hk e;refine ih (ps:=ps) (by simpa using hl) (ρ:=upd ρ p mv) ?_ x v hk e;intro y w hy hw;unfold upd at hw;by_cases q:y=p
  ·subst q;rw[if_pos rfl] at hw
   first |exact Cy hw|replace hp:=D8 hw hp|cases hw
   exact⟨u,by simp[hy],a⟩
  ·rw[if_neg q] at hw;obtain⟨v',h1,h2⟩:=h y w hy hw;refine⟨v',?_,h2⟩;by_cases z:kd p=some .local
   ·simp[z,h1]
   ·simp[z,q,h1]
theorem Room.deeper{A:Around}{env:Env}(r:Room (k+1) A):Room k (A.deeper env):=
 ⟨r.handled,by have:=r.depth;show A.depth+1+k<_;exact B8b this,by have:=r.units;show A.units+3+8*k+200<_;exact B8c this⟩
theorem CallOk.fn(G:Gd C){a c:Addr}{o oc:Obj}{fd:FuncData}{body:List Stmt}{ps:List Str}{f:Aj->P (Fl × Aj)}{vc:Array Value}{t:Tok}
  (ho:C.B.get? a=some o) (hd:o.data=.func fd) (ht:a ∉ C.tabs) (hb:fd.body=.stmts body) (hcl:fd.closure=[]) (hg:fd.globals=mainGlobals) (hbl:fd.builtins=builtinsNs)
  (hc:fd.code=.ref c) (hoc:C.B.get? c=some oc) (hct:c ∉ C.tabs) (hdc:oc.data=.fields vc) (hq:vc[1]?=some (.str fd.qualname t))
  (hbind:∀vs:List Value,vs.length=ps.length->bindArgs fd ⟨vs,[]⟩=pure (ps.zip vs))
  (hkind:(ps.all fun x=>fd.scope.names.lookup x==some .local||fd.scope.names.lookup x==some .cell)=true)
  (hfree:∀x,fd.scope.names.lookup x≠some .free) (hnd:((cellsFrom 0 fd.scope.names []).map (·.1)).Nodup)
  (hco:fd.scope.isCoroutine=false) (hgen:fd.scope.isGenerator=false) (hk:fd.scope.kind=.function)
  (hcd:∀c',C.cd fd.scope c'->c'=c) (hbody:SB C fd.scope k body f):CallOk C (k+1) (.ref a) (Ct ps f):=by
 intro A α H s Q E ms vs r H' hR hr hv hf hp;unfold Ct at hf
 split at hf
 ·rename_i hl;obtain⟨⟨fl,ρ'⟩,H₁,qA,hf⟩:=Aw hf;have hlen:vs.length=ps.length:=by rw[<- hv.length];exact hl
  have hoc':=hr.keepB _ _ hoc hct;refine wpAny_call (codeAny_call_function (by have:=hR.depth;exact B8d this) (hr.keepB _ _ ho ht) hd hco hgen hb ⟨c,oc,vc,t,hc,hoc',hdc,hq⟩ ?_);rw[hbind vs hlen,hcl,hg,hbl];refine wpAny_pure (wpAny_newFunctionEnv_cells hk ?_ fun env henv s' X=>?_)
  ·intro x hx;have:x.1∈ps:=(List.of_mem_zip hx).1;rcases D9 (List.all_eq_true.mp hkind _ this) with z|z
   ·exact .inl z
   ·exact .inr ⟨z,cellsFrom_some _ _ _ (.inl z)⟩
  ·obtain⟨⟨⟨hH,tk,hs'⟩,hns,keep,_⟩,hcell,hap,hab⟩:=X;have Px:env.scope=fd.scope:=by rw[henv];rfl
   have eL:env.locals=s.heap.objs.size:=by rw[henv];rfl
   have ekd:env.kindOf=fun x=>fd.scope.names.lookup x:=by funext x;unfold Env.kindOf;rw[Px]
   rw[ekd] at hns hcell;have hrs:HR C α H s':=by
    rw[hs'] at keep ⊢;exact hr.step (fun b o h zz=>keep b o h) (fun b o h=>⟨o,keep b o h⟩) hr.gens rfl
   have xs:Ext C [] α s α s':=⟨List.prefix_refl _,fun zz h=>.inl h,fun b o h zz zz zz=>keep b o h,fun b o h=>⟨o,keep b o h⟩⟩;have dead:∀b∈Fb env,s.heap.get? b=none∧s.heap.objs.size<=b:=by
    intro b hb;rcases List.mem_cons.mp hb with rfl|hb
    ·exact⟨by rw[eL];exact Jx,by rw[eL];exact Nat.le_refl _⟩
    ·obtain⟨⟨n,c⟩,hm,rfl⟩:=List.mem_map.mp hb;have:=hab n c hm;rw[eL] at this;exact⟨Heap.get?_none_of_le (Nat.le_of_lt this),Nat.le_of_lt this⟩
   have her:ER C α (Ci ps ms fun zz=>none) fd.scope env s'.heap:=by
    refine⟨Px,hk,by rw[henv];rfl,by rw[henv];rfl,fun b hb=>?_,⟨_,hns,?_⟩,fun x hx=>?_,fun x y c hx hy=>?_,fun x c hx=>?_,fun c' h=>by rw[henv,hcd c' h];exact hc⟩
    ·obtain⟨h1,h2⟩:=dead b hb;refine⟨fun q=>?_,Fk G (Nat.le_trans (Py G hr) h2),Nat.le_trans (Py G hr) h2,?_⟩
     ·obtain⟨o,ho⟩:=Iv hr q;rw[h1] at ho;cases ho
     ·rcases List.mem_cons.mp hb with rfl|hb
      ·obtain⟨o,_,_,ho,_⟩:=hns;exact⟨o,ho⟩
      ·obtain⟨⟨n,c⟩,hm,rfl⟩:=List.mem_map.mp hb;have e:env.cells.lookup n=some c:=Ku (by rw[henv];exact(J1 _ _ 0 [] [] rfl)▸hnd) hm;obtain⟨o,ho,_⟩:=hcell n c e;exact⟨o,ho⟩
    ·intro x v hx hv';exact Zl (kd:=fun x=>fd.scope.names.lookup x) hv hl (by intro _ _ _ h;cases h) x v hx hv'
    ·rcases hx with hx|hx
     ·have cl:(env.cells.lookup x).isSome=true:=by rw[henv];exact cellsFrom_some _ _ _ (.inl hx)
      obtain⟨c,hc⟩:=Option.isSome_iff_exists.mp cl;refine⟨c,_,hc,hcell x c hc,fun v hv'=>?_⟩;exact Zm (kd:=fun x=>fd.scope.names.lookup x) hv hl (by intro _ _ _ h;cases h) x v hx hv'
     ·exact absurd hx (hfree x)
    ·exact congrArg Prod.fst (Oy hap (Gh hx) (Gh hy) rfl)
    ·exact Nat.ne_of_gt (hab x c (Gh hx))
   refine⟨K6 G hrs,codeAny_func (hbody _ env α _ H s' _ _ _ _ _ hR.deeper hrs her qA fun αB sB g rI eP xP wB=>?_)⟩;have xx:Ext C [] α s αB sB:=(xs.weak.trans xP).drop (X:=[]) fun j hj=>(dead j hj).1;cases fl with
   | ret v=>
    obtain⟨u,rfl,w⟩:=wB;kpf_c;exact hp αB sB u rI xx w
   | next=>
    cases wB;kpf_c;exact hp αB sB _ rI xx rfl
   | brk=>kpf_c
   | cont=>kpf_c
 ·kpf_c
end
section
variable {C:Cx} {sc:Scope} {k:Nat}
noncomputable def Kp(C:Cx)(f:Value)(h:Heap):Prop:=∃kk,(kk=Keeper.frame∨kk=Keeper.machine∨kk=Keeper.boundFrame)∧Looks (model C.prog C.w) h (keeperOf f) kk
noncomputable def Gi(es:List Expr):Prop:=∀env pos,(es=[])∨∃x rest,backTo pos (starEach es env)=(false,x)::rest∧rest.any (·.1)=false
theorem Ar{es:List Expr}(h:∀env,starEach es env=es.map fun e=>(false,eval e env):=by exact fun zz=>rfl):Gi es:=fun env pos=>by
 rw[h env];cases es with
 | nil=>exact .inl rfl
 | cons e es=>
  refine .inr ⟨_,_,rfl,?_⟩;clear h
  induction es with
  | nil=>rfl
  | cons a es ih=>exact ih
theorem Fy{A:Around}{E:Value->Shared->Prop}{s:Shared}{env:Env}{pos:Pos}{f:Value}{first:List Value}{es:List Expr}{Q:Value->Shared->Prop}(hpl:Gi es)
  (h:wpAny (model C.prog C.w) A (spliced (backTo pos (starEach es env))) (fun vs sA=>Kp C f sA.heap∧wpAny (model C.prog C.w) A (call f (first++vs)) Q E sA) E s):
  wpAny (model C.prog C.w) A (callWith pos f first (backTo pos (starEach es env)) []) Q E s:=by
 have e0:∀sA:Shared,Kp C f sA.heap∧wpAny (model C.prog C.w) A (call f (first++[])) Q E sA->wpAny (model C.prog C.w) A (evalArgs f true [] []) (fun a sA=>Kp C f sA.heap∧wpAny (model C.prog C.w) A (call f (first++a.pos) a.kw) Q E sA) E sA:=
  fun sA h=>evalArgs_nil3 h
 rcases hpl env pos with rfl|⟨x,rest,e,hp⟩
 ·have h':wpAny (model C.prog C.w) A (spliced []) (fun vs sA=>Kp C f sA.heap∧wpAny (model C.prog C.w) A (call f (first++vs)) Q E sA) E s:=h;have:wpAny (model C.prog C.w) A (evalArgs f true [] []) (fun a sA=>Kp C f sA.heap∧wpAny (model C.prog C.w) A (call f (first++a.pos) a.kw) Q E sA) E s:=by
   unfold evalArgs;show wpAny (model C.prog C.w) A (spliced [] >>=_) _ E s;refine wpAny_bind (wpAny_mono h' (fun vs sA hv=>wpAny_bind (wpAny_pure ?_)) fun zz zz x=>x);refine wpAny_holding ?_;exact wpAny_bind (wpAny_pure (wpAny_pure hv))
  exact callWith_of (P:=Kp C f) (args:=[]) rfl (fun zz h=>h) this
 ·rw[e] at h ⊢;exact callWith_of (P:=Kp C f) (by show ((false||rest.any (·.1))||false)=false;rw[hp];rfl) (fun zz h=>h) (PySem.Calls.evalArgs_plain h)
theorem Kp.builtin{id:String}{h:Heap}:Kp C (.builtin id) h:=⟨.machine,.inr (.inl rfl),Looks.of_pure rfl⟩
theorem Kp.type{id:String}{h:Heap}:Kp C (.type id) h:=⟨.machine,.inr (.inl rfl),Looks.of_pure rfl⟩
theorem Kp.fn{a:Addr}{o:Obj}{fd:FuncData}{h:Heap}(ho:h.get? a=some o)(hd:o.data=.func fd):Kp C (.ref a) h:=by
 refine⟨.frame,.inl rfl,?_⟩;refine(Looks.ld (part:=.none) ho).andThen ?_;rw[hd];exact .now
def KpA(C:Cx)(f:Value):Prop:=∀α H s,HR C α H s->Kp C f s.heap
theorem KpA.builtin{id:String}:KpA C (.builtin id):=fun zz zz zz zz=>.builtin
theorem KpA.type{id:String}:KpA C (.type id):=fun zz zz zz zz=>.type
theorem KpA.fn{a:Addr}{o:Obj}{fd:FuncData}(ho:C.B.get? a=some o)(ht:a ∉ C.tabs)(hd:o.data=.func fd):KpA C (.ref a):=fun zz zz zz hr=>.fn (hr.keepB _ _ ho ht) hd
theorem Yc{func:Expr}{es:List Expr}{pos:Pos}{f:Value}{fa:Aj->P (List MV)}{g:List MV->P MV}(hf:SE C sc k func (fun zz=>Bg (.val f)))(hs:SEs C sc k es fa)(hpl:Gi es)
  (hk:KpA C f) (hc:CallOk C k f g)
  (he:∀env,eval (.Call func es [] pos) env=(do callWith pos (<- eval func env) [] (backTo pos (starEach es env)) (backToKw pos (keywordEach [] env))):=by intro _;rfl):
  SE C sc k (.Call func es [] pos) (fun ρ=>B9 (fa ρ) g):=by
 intro A env α ρ H s Q E r H' hR hr hE hq hp;obtain⟨ms,H₁,qA,hq⟩:=Aw hq;refine Call_ (hf A env α ρ H s _ _ _ H hR hr hE rfl fun α₀ s₀ vZ rZ xZ wZ=>?_) (he env);cases wZ;refine Fy hpl (hs A env α₀ ρ H s₀ pos _ _ _ _ hR rZ (hE.ext xZ) qA fun αA sA vs rH xO wA=>⟨hk _ _ _ rH,?_⟩);exact hc A αA H₁ sA Q E ms vs r H' hR rH wA hq (hp.chain (xZ.trans xO))
def Oz(C:Cx)(k:Nat)(It:MV->List MV->P MV):Prop:=
 ∀(A:Around) (α:List Addr) (H:Hp) (s:Shared) (Q:Value->Shared->Prop) (E:Value->Shared->Prop) (m:MV) (f:Value) (ms:List MV) (vs:List Value) (r:MV) (H':Hp),
  Room k A->HR C α H s->VRel α m f->VRels α ms vs->It m ms H=some (r,H')->Post C α s r H' Q->Kp C f s.heap∧wpAny (model C.prog C.w) A (call f vs) Q E s
theorem D3{func:Expr}{es:List Expr}{pos:Pos}{ff:Aj->P MV}{fa:Aj->P (List MV)}{It:MV->List MV->P MV}(hf:SE C sc k func ff)(hs:SEs C sc k es fa)(hpl:Gi es)
  (hc:Oz C k It)
  (he:∀env,eval (.Call func es [] pos) env=(do callWith pos (<- eval func env) [] (backTo pos (starEach es env)) (backToKw pos (keywordEach [] env))):=by intro _;rfl):
  SE C sc k (.Call func es [] pos) (fun ρ=>B9 (ff ρ) fun m=>B9 (fa ρ) fun ms=>It m ms):=by
 intro A env α ρ H s Q E r H' hR hr hE hq hp;obtain⟨m,H₀,qZ,hq⟩:=Aw hq;obtain⟨ms,H₁,qA,hq⟩:=Aw hq;refine Call_ (hf A env α ρ H s _ _ _ _ hR hr hE qZ fun α₀ s₀ vZ rZ xZ wZ=>?_) (he env);refine Fy hpl (hs A env α₀ ρ H₀ s₀ pos _ _ _ _ hR rZ (hE.ext xZ) qA fun αA sA vs rH xO wA=>?_);exact hc A αA H₁ sA Q E m vZ ms vs r H' hR rH (wZ.mono xO.pre) wA hq (hp.chain (xZ.trans xO))
def one(f:MV->P MV):List MV->P MV:=fun ms=>match ms with
 | [a]=>f a
 | _=>fl
def two(f:MV->MV->P MV):List MV->P MV:=fun ms=>match ms with
 | [a,b]=>f a b
 | _=>fl
def three(f:MV->MV->MV->P MV):List MV->P MV:=fun ms=>match ms with
 | [a,b,c]=>f a b c
 | _=>fl
theorem CallOk.one{f:Value}{g:MV->P MV} (h:∀(A:Around) (α:List Addr) (H:Hp) (s:Shared) (Q:Value->Shared->Prop) (E:Value->Shared->Prop) (a:MV) (v:Value) (r:MV) (H':Hp),
  Room k A->HR C α H s->VRel α a v->g a H=some (r,H')->Post C α s r H' Q->wpAny (model C.prog C.w) A (call f [v]) Q E s):CallOk C k f (one g):=by
 intro A α H s Q E ms vs r H' hR hr hv hf hp;cases hv with
 | nil=>kpf_c
 | cons a t=>cases t with
  | nil=>exact h A α H s Q E _ _ r H' hR hr a hf hp
  | cons=>kpf_c
theorem CallOk.two{f:Value}{g:MV->MV->P MV} (h:∀(A:Around) (α:List Addr) (H:Hp) (s:Shared) (Q:Value->Shared->Prop) (E:Value->Shared->Prop) (a b:MV) (v u:Value) (r:MV) (H':Hp),
  Room k A->HR C α H s->VRel α a v->VRel α b u->g a b H=some (r,H')->Post C α s r H' Q->wpAny (model C.prog C.w) A (call f [v,u]) Q E s):CallOk C k f (two g):=by
 intro A α H s Q E ms vs r H' hR hr hv hf hp;cases hv with
 | nil=>kpf_c
 | cons a t=>cases t with
  | nil=>kpf_c
  | cons b t=>cases t with
   | nil=>exact h A α H s Q E _ _ _ _ r H' hR hr a b hf hp
   | cons=>kpf_c
theorem CallOk.three{f:Value}{g:MV->MV->MV->P MV} (h:∀(A:Around) (α:List Addr) (H:Hp) (s:Shared) (Q:Value->Shared->Prop) (E:Value->Shared->Prop) (a b c:MV) (v u w:Value) (r:MV) (H':Hp),
  Room k A->HR C α H s->VRel α a v->VRel α b u->VRel α c w->g a b c H=some (r,H')->Post C α s r H' Q->wpAny (model C.prog C.w) A (call f [v,u,w]) Q E s):CallOk C k f (three g):=by
 intro A α H s Q E ms vs r H' hR hr hv hf hp;cases hv with
 | nil=>kpf_c
 | cons a t=>cases t with
  | nil=>kpf_c
  | cons b t=>cases t with
   | nil=>kpf_c
   | cons c t=>cases t with
    | nil=>exact h A α H s Q E _ _ _ _ _ _ r H' hR hr a b c hf hp
    | cons=>kpf_c
def D4(T:GT):MV->P MV:=fun x H=>
 ((Lo x).bind fun s=>if s.length<=16777216 then some (.int s.length,H) else none).or ((C7 T H x).bind fun xs=>if xs.length<=16777216 then some (.int xs.length,H) else none)
theorem B4z(G:Gd C):CallOk C k (.builtin "len") (one (D4 C.T)):=by
 refine .one fun A α H s Q E a v r H' hR hr hv hf hp=>?_;rcases orS hf with hf|⟨_,hf⟩
 ·obtain⟨x,e,hf⟩:=Dw hf;obtain⟨hl,hf⟩:=Lm hf;obtain⟨t,rfl⟩:=Cm e hv;replace hp:=D8 hf hp;exact PyProof.Rows.len_str (by omega) (hp.hereT hr _ ⟨_,rfl⟩)
 ·obtain⟨xs,e,hf⟩:=Dw hf;obtain⟨hl,hf⟩:=Lm hf;obtain⟨x,us,rfl,lu,ru⟩:=Ij G hr e hv;replace hp:=D8 hf hp;have:us.size=xs.length:=by rw[<- Array.length_toList,<- ru.length]
  exact PySem.Calls.call_len_list lu (by omega) (hp.hereT hr _ ⟨_,by rw[this]⟩)
def Pz:MV->P MV:=fun x H=>(Pw x).bind fun i=>if 0<=i∧i<=1114111 then some (.str ⟨#[i.toNat]⟩,H) else none
noncomputable def D0k:List Nat->Option Nat
 | [c]=>some c
 | _=>none
theorem Zn{l:List Nat}{c:Nat}(h:D0k l=some c):l=[c]:=by
 rcases l with _|⟨a,_|⟨b,l⟩⟩ <;> first |exact Cy h|(cases h;rfl)
def Rg:MV->P MV:=fun x H=>(Lo x).bind fun s=>(D0k s.cps.toList).map fun (c:Nat)=>(.int (c:Int),H)
end
section
variable {C:Cx} {sc:Scope} {k:Nat}
theorem HR.turn{α H s}{i:Nat}{a:Addr}{m':MO}{h':Heap}{tk:Nat}(r:HR C α H s)(ha:α[i]?=some a)(hs:Heap.ExtBut a s.heap h')(ho:ORel C α h' a m'):HR C α (H.set i m') {s with heap:=h',toks:=tk}:=by
 have hm:a∈α:=List.mem_of_getElem? ha;obtain⟨hb,ht⟩:=r.new a hm;have ne:∀b,(∃o,C.B.get? b=some o)->b≠a:=fun b ⟨o,hq⟩ e=>by
  subst e;exact absurd (Heap.lt_size hq) (Nat.not_lt.mpr hb)
 refine⟨fun b o h n=>hs b o (ne b ⟨o,h⟩) (r.keepB b o h n),fun b o h=>?_,r.new,r.nodup,?_,r.gens,r.os,C.invk _ _ r.inv fun b o h q=>hs b o (ne b (Option.isSome_iff_exists.mp q)) h⟩
 ·obtain⟨o',h'⟩:=r.liveB b o h;exact⟨o',hs b o' (ne b ⟨o,h⟩) h'⟩
 ·refine r.objs.turn (fun j x m hx hm' hj hr=>hr.mono (List.prefix_refl _) fun o q=>hs x o (fun e=>?_) q) fun x hx=>?_
  ·subst e;have l1:=(List.getElem?_eq_some_iff.mp hx);have l2:=(List.getElem?_eq_some_iff.mp ha);obtain⟨p1,e1⟩:=l1;obtain⟨p2,e2⟩:=l2;exact hj ((List.getElem_inj r.nodup).mp (e1.trans e2.symm))
  ·rw[ha] at hx;cases hx;exact ho
theorem A7a{α h a}{m:MO}(hm:ORel C α h a m):∃o,h.get? a=some o:=by
 cases m with
 | list xs=>obtain⟨_,⟨_,ho⟩,_⟩:=hm;exact⟨_,ho⟩
 | tup xs=>obtain⟨_,⟨o,ho,_⟩,_⟩:=hm;exact⟨o,ho⟩
 | dict es=>obtain⟨_,⟨o,_,ho,_⟩,_⟩:=hm;exact⟨o,ho⟩
 | meth id k=>obtain⟨_,_,ho⟩:=hm;exact⟨_,ho⟩
 | obj o=>exact⟨o,hm⟩
 | rng a b c=>obtain⟨_,_,_,ho⟩:=hm;exact⟨_,ho⟩
 | mtch x j=>obtain⟨_,_,_,_,_,_,_,ho⟩:=hm;exact⟨_,ho⟩
theorem Ext.turn{α H s}{i:Nat}{a:Addr}{m':MO}{h':Heap}{tk:Nat}(r:HR C α H s)(ha:α[i]?=some a)(hs:Heap.ExtBut a s.heap h')(ho:ORel C α h' a m'):Ext C [] α s α {s with heap:=h',toks:=tk}:=by
 have hm:a∈α:=List.mem_of_getElem? ha;refine⟨List.prefix_refl _,fun zz h=>.inl h,fun b o h h1 zz zz=>hs b o (fun e=>h1 (e▸hm)) h,fun b o h=>?_⟩;by_cases e:b=a
 ·subst e;exact A7a ho
 ·exact⟨o,hs b o e h⟩
theorem O0:CallOk C k (.builtin "chr") (one Pz):=by
 refine .one fun A α H s Q E a v r H' hR hr hv hf hp=>?_;obtain⟨x,e,hf⟩:=Dw hf;obtain⟨hl,hf⟩:=Lm hf;obtain⟨t,rfl⟩:=C1 e hv;replace hp:=D8 hf hp;exact chr_of_range hl.1 hl.2 (hp.hereT hr _ ⟨_,rfl⟩)
theorem Vl:CallOk C k (.builtin "ord") (one Rg):=by
 refine .one fun A α H s Q E a v r H' hR hr hv hf hp=>?_;obtain⟨⟨⟨x⟩⟩,e,hf⟩:=Dw hf;obtain⟨c,ec,hg⟩:=Ju hf;obtain⟨t,rfl⟩:=Cm e hv;cases Zn ec;replace hp:=D8 (congrArg some hg) hp;exact PyProof.Rows.ord_of_one rfl (hp.hereT hr _ ⟨_,rfl⟩)
def A4f:MV->MV->P MV:=fun x zz H=>(Lo x).map fun zz=>(.bool true,H)
theorem Lu:CallOk C k (.builtin "isinstance") (two fun x c=>match c with
  | .val (.type "str")=>A4f x c
  | _=>fl):=by
 refine .two fun A α H s Q E a b v u r H' hR hr hv hu hf hp=>?_
 split at hf
 ·cases hu;obtain⟨x,e,hf⟩:=Ju hf;obtain⟨t,rfl⟩:=Cm e hv;replace hp:=D8 (congrArg some hf) hp;exact call_isinstance_yes (Tx:="str") (PySem.typeIs_str s _ t) (by rfl) (by rw[isSubtype_type];lk) (hp.here hr rfl)
 ·exact Cy hf
theorem D0l{α:List Addr}{a:MV}{vs:List Value}(h:VRels α [a] vs):∃v,vs=[v]∧VRel α a v:=by
 cases h with
 | cons h t=>cases t;exact⟨_,rfl,h⟩
theorem B40{α:List Addr}{a b:MV}{vs:List Value}(h:VRels α [a,b] vs):∃v u,vs=[v,u]∧VRel α a v∧VRel α b u:=by
 cases h with
 | cons h t=>obtain⟨_,rfl,h'⟩:=D0l t;exact⟨_,_,rfl,h,h'⟩
theorem D0m{α:List Addr}{a b c:MV}{vs:List Value}(h:VRels α [a,b,c] vs):∃v u w,vs=[v,u,w]∧VRel α a v∧VRel α b u∧VRel α c w:=by
 cases h with
 | cons h t=>obtain⟨_,_,rfl,h',h''⟩:=B40 t;exact⟨_,_,_,rfl,h,h',h''⟩
theorem D3i{α:List Addr}{a b c d:MV}{vs:List Value}(h:VRels α [a,b,c,d] vs):∃v u w x,vs=[v,u,w,x]∧VRel α a v∧VRel α b u∧VRel α c w∧VRel α d x:=by
 cases h with
 | cons h t=>obtain⟨_,_,_,rfl,h',h''⟩:=D0m t;exact⟨_,_,_,_,rfl,h,h',h''⟩
def Ck:List MV->P MV:=fun ms H=>match ms with
 | [a]=>(Pw a).bind fun n=>some (.ref H.length,H++[.rng 0 n 1])
 | [a,b]=>(Pw a).bind fun a=>(Pw b).bind fun b=>some (.ref H.length,H++[.rng a b 1])
 | [a,b,c]=>(Pw a).bind fun a=>(Pw b).bind fun b=>(Pw c).bind fun c=>if c=-1 then some (.ref H.length,H++[.rng a b c]) else none
 | _=>none
theorem Cu(G:Gd C):CallOk C k (.type "range") Ck:=by
 intro A α H s Q E ms vs r H' hR hr hv hf hp;rcases ms with _|⟨a,_|⟨b,_|⟨c,_|⟨d,l⟩⟩⟩⟩
 ·exact Cy hf
 ·obtain⟨v,rfl,h1⟩:=D0l hv;obtain⟨i,e,hf⟩:=Dw (show (Pw a).bind _=_ from hf);obtain⟨t,rfl⟩:=C1 e h1;cases hf;refine call_range_1 (hp _ _ _ (hr.alloc G _ (.rng _ _ _) _ fun α' h p ho=>?_) (.alloc _ _) (Fc hr _));exact⟨_,_,_,ho⟩
 ·obtain⟨v,u,rfl,h1,h2⟩:=B40 hv;obtain⟨i,e,hf⟩:=Dw (show (Pw a).bind _=_ from hf);obtain⟨j,e',hf⟩:=Dw hf;obtain⟨t,rfl⟩:=C1 e h1;obtain⟨t',rfl⟩:=C1 e' h2;cases hf;refine call_range_2 (hp _ _ _ (hr.alloc G _ (.rng _ _ _) _ fun α' h p ho=>?_) (.alloc _ _) (Fc hr _));exact⟨_,_,_,ho⟩
 ·obtain⟨v,u,w,rfl,h1,h2,h3⟩:=D0m hv;obtain⟨i,e,hf⟩:=Dw (show (Pw a).bind _=_ from hf);obtain⟨j,e',hf⟩:=Dw hf;obtain⟨q,e'',hf⟩:=Dw hf;obtain⟨t,rfl⟩:=C1 e h1;obtain⟨t',rfl⟩:=C1 e' h2;obtain⟨t'',rfl⟩:=C1 e'' h3;by_cases ec:q=-1
  ·rw[if_pos ec] at hf;cases hf;subst ec;refine call_range_3 (by decide) (hp _ _ _ (hr.alloc G _ (.rng _ _ _) _ fun α' h p ho=>?_) (.alloc _ _) (Fc hr _)) (.inl (PyProof.noPylong_of_log2 (by kd_p)));exact⟨_,_,_,ho⟩
  ·rw[if_neg ec] at hf;exact Cy hf
 ·exact Cy hf
def GetM(C:Cx)(ok:Hp->MV->Bool)(name:Str)(id:String):Prop:=
 ∀(A:Around) (α:List Addr) (H:Hp) (s:Shared) (m:MV) (v:Value) (pl:Sem Bool) (Q:Value × List Value->Shared->Prop) (E:Value->Shared->Prop),
  HR C α H s->VRel α m v->ok H m=true->Q (.builtin id,[v]) s->wpAny (model C.prog C.w) A (getMethod v name pl) Q E s
noncomputable def chk(ok:Hp->MV->Bool)(m:MV):P Unit:=fun H=>if ok H m=true then some ((),H) else none
theorem Bs{o:Expr}{name:Str}{apos pos:Pos}{es:List Expr}{id:String}{ok:Hp->MV->Bool}{fo:Aj->P MV}{fa:Aj->P (List MV)}{g:List MV->P MV}(ho:SE C sc k o fo)(hs:SEs C sc k es fa)(hpl:Gi es)
  (hg:GetM C ok name id) (hc:CallOk C k (.builtin id) g)
  (he:∀env,∃pl,eval (.Call (.Attribute o name apos) es [] pos) env=(do
   let ov <- eval o env
   standAt apos.atName
   let (f,first) <- holding [ov] (getMethod ov name pl)
   callWith pos f first (backTo pos (starEach es env)) []):=by exact fun zz=>⟨_,rfl⟩):
  SE C sc k (.Call (.Attribute o name apos) es [] pos) (fun ρ=>B9 (fo ρ) fun m=>B9 (chk ok m) fun zz=>B9 (fa ρ) fun ms=>g (m::ms)):=by
 intro A env α ρ H s Q E r H' hR hr hE hq hp;obtain⟨m,H₀,qZ,hq1⟩:=Aw hq;obtain⟨u,H₁,qA,hq2⟩:=Aw hq1;obtain⟨ms,HP,qB,hq3⟩:=Aw hq2;obtain⟨hok,qA'⟩:=Lm (show (if ok _ m=true then _ else _)=_ from qA);clear qA;cases qA';obtain⟨pl,he⟩:=he env;refine MethodCall_ (ho A env α ρ H s _ _ _ _ hR hr hE qZ fun α₀ s₀ vZ rZ xZ wZ=>?_) he;refine hg A α₀ _ s₀ m vZ pl _ _ rZ wZ hok ?_;refine Fy hpl (hs A env α₀ ρ _ s₀ pos _ _ _ _ hR rZ (hE.ext xZ) qB fun αA sA vs rH xO wA=>⟨.builtin,?_⟩);exact hc A αA HP sA Q E (m::ms) (vZ::vs) r H' hR rH (.cons (wZ.mono xO.pre) wA) hq3 (hp.chain (xZ.trans xO))
def A4g(H:Hp)(m:MV):Option (List MV):=(asR m).bind fun j=>H[j]?.bind Kn
theorem Sw{H:Hp}{m:MV}{es:List MV}(h:A4g H m=some es):∃j,m=.ref j∧H[j]?=some (.list es):=by
 obtain⟨j,e,h⟩:=Dw h;exact⟨j,Ii e,Fi h⟩
def O1:Hp->MV->Bool:=fun zz m=>(Lo m).isSome
def Kv:Hp->MV->Bool:=fun H m=>(A4g H m).isSome
def Si:Hp->MV->Bool:=fun H m=>(Mj H m).isSome
theorem Du{name:Str}{id:String}(slot:Slot "str" name id)(hty:typeOf (.builtin id)=pure (.type "method_descriptor")):GetM C O1 name id:=by
 intro A α H s m v pl Q E hr hv hok hQ;obtain⟨x,e⟩:=Option.isSome_iff_exists.mp hok;obtain⟨t,rfl⟩:=Cm e hv;exact getMethod_builtin (PySem.typeIs_str s _ t) F.plainAttrs_str slot hty (fun a e=>by cases e) hQ
theorem Di{name:Str}{id:String}(slot:Slot "list" name id)(hty:typeOf (.builtin id)=pure (.type "method_descriptor")):GetM C Kv name id:=by
 intro A α H s m v pl Q E hr hv hok hQ;obtain⟨x,e⟩:=Option.isSome_iff_exists.mp hok;obtain⟨j,rfl,e'⟩:=Sw e;obtain⟨a,rfl,vs,⟨n,hl⟩,_⟩:=hr.refAt e' hv;exact getMethod_builtin ⟨_,hl,rfl⟩ F.plainAttrs_list slot hty (fun a e=>by cases e;exact⟨_,hl,rfl⟩) hQ
def Bk:MV->MV->P MV:=fun l x H=>(asR l).bind fun i=>(H[i]?.bind Kn).bind fun xs=>if xs.length<16777216 then some (.none,H.set i (.list (xs++[x]))) else none
inductive D3k(l x:MV)(H:Hp)(r:MV)(H':Hp):Prop
 | mk (i:Nat) (xs:List MV) (el:l=.ref i) (e:H[i]?=some (.list xs)) (hl:xs.length<16777216) (er:r=.none) (eh:H'=H.set i (.list (xs++[x])))
theorem Qt{l x r:MV}{H H':Hp}(h:Bk l x H=some (r,H')):D3k l x H r H':=by
 obtain⟨i,e,h⟩:=Dw h;obtain⟨xs,e2,h⟩:=Dw h;obtain⟨hl,h⟩:=Lm h;exact⟨i,xs,Ii e,Fi e2,hl,(congrArg Prod.fst (Option.some.inj h)).symm,(congrArg Prod.snd (Option.some.inj h)).symm⟩
theorem C5:CallOk C k (.builtin "list.append") (two Bk):=by
 refine .two fun A α H s Q E a b v u r H' hR hr hv hu hf hp=>?_;obtain⟨i,xs,rfl,e,hl,rfl,rfl⟩:=Qt hf;obtain⟨a,hα,rfl⟩:=hv;obtain⟨a',hα',vs,hpl,hrel⟩:=hr.at e;cases hα.symm.trans hα';refine wpAny_list_append_plain hpl (fun h' h1 h2=>?_) (by show vs.size<=sizeLine;rw[<- Array.length_toList,<- hrel.length];exact Nat.le_of_lt hl);have ho:ORel C α h' a (.list (_++[b])):=⟨_,h1,by rw[Array.toList_push];exact hrel.append (.cons hu .nil)⟩;exact hp _ _ _ (hr.turn hα (B1 h2) ho) (.turn hr hα (B1 h2) ho) rfl
end
section
variable {prog:Program} {w:World} {A:Around} {E:Value->Shared->Prop} {s:Shared}
theorem P0{l:Addr}{items:Array Value}{k:Int}{t:Tok}{v:Value}{Q:Unit->Shared->Prop}(hl:s.heap.PlainList l items)
  (h0:0<=k) (hfit:k<2 ^ 63) (hn:k<items.size)
  (hQ:∀h',h'.PlainList l (items.setIfInBounds k.toNat v)->Heap.SameBut l s.heap h'->Q () {s with heap:=h'}):
  wpAny (model prog w) A (setItem (.ref l) (.int k t) v) Q E s:=by
 obtain⟨n,ho⟩:=hl;have hl:s.heap.IsList l items:=⟨_,ho,rfl,n,rfl⟩;unfold setItem
 try with_reducible refine wpAny_holding ?_
 first |refine wpAny_bind (wpAny_pure ?_)|skip
 refine wpAny_bind (wpAny_sequenceKey hl.typeIs (by decide) ?_);refine wpAny_bind (wpAny_callSpecial?_slot (name:=Str.ofString "__setitem__") hl.typeIs slot_list_setitem
  (wpAny_call_entry slot_list_setitem hl.typeIs entry_list_setitem ?_ (args_list_setitem _ _ _)))
 show wpAny _ _ (Builtin.List.listSubscript? (.int k t) >>=_) _ _ s;refine wpAny_bind (wpAny_listSubscript_int (fitsIndex_of h0 hfit) ?_);clear hfit;obtain⟨j,rfl⟩:=Int.eq_ofNat_of_zero_le h0;have hj:j<items.size:=by exact B8e hn
 have hx':items[j]?=some items[j]:=Array.getElem?_eq_getElem hj;show wpAny _ _ ((seqItemAt l j >>=fun r=>pure (r.map (j,·))) >>=_) _ _ s;refine wpAny_bind (wpAny_bind (wpAny_seqItemAt ho rfl (wpAny_pure ?_)));rw[hx'];show wpAny _ _ (setSeqItemAt l j v >>=_) _ _ s;have hfin:(s.heap.update l (Obj.mapSeq (·.setIfInBounds j v))).PlainList l (items.setIfInBounds j v):=
  ⟨_,IsL.update ho _⟩
 refine wpAny_bind (wpAny_setSeqItemAt ho rfl ?_)
 first
  | exact wpAny_bind (wpAny_pure (wpAny_pure ⟨.none,rfl,wpAny_pure (hQ _ hfin (Heap.SameBut.update ..))⟩))
  | exact wpAny_pure ⟨.none,rfl,wpAny_pure (hQ _ hfin (Heap.SameBut.update ..))⟩
theorem Vm{K:Type}[DecidableEq K]{knd:KeyKind prog w K}{d:Addr}{kvs:List (K × Value)}{k:K}{key v:Value}{Q:Unit->Shared->Prop}(hkey:knd.is k key=true)(hm:s.heap.DictAt knd d kvs kvs.length)
  (hQ:∀h',h'.DictAt knd d (stored kvs k v) (stored kvs k v).length->Heap.SameBut d s.heap h'->Q () {s with heap:=h',toks:=s.toks+1})
  (hsz:kvs.length<=sizeLine:=by size_fits):
  wpAny (model prog w) A (dictSet d key v) Q E s:=by
 obtain⟨o,es,ho,hc,hd,hk,hp,hn⟩:=hm;have hes:es.size<=sizeLine:=by
  have e1:=hp.length;have e2:es.toList.length=es.size:=by simp
  exact B8f hsz e1 e2
 unfold dictSet
 try with_reducible refine wpAny_holding ?_
 refine wpAny_bind (knd.pyHash hkey ?_);unfold dictSetHashed
 try with_reducible refine wpAny_holding ?_
 refine wpAny_bind (wpAny_dictFind_of (s:={s with toks:=s.toks+1}) hkey ho hd hk ?_);have hidx:(es.findIdx? fun e=>knd.is k e.key)=kvs.findIdx? fun kv=>decide (kv.1=k):=by
  rw[<- hp.findIdx k];obtain⟨l⟩:=es;simp
 cases hi:es.findIdx? fun e=>knd.is k e.key with
 | some i=>
  have hst:stored kvs k v=kvs.map (fun kv=>if kv.1=k then (kv.1,v) else kv):=by rw[stored,if_pos (any_of_findIdx_some (hidx▸hi))]
  refine wpAny_bind (wpAny_rule (wpAny_bind (wpAny_updateDict (s:={s with toks:=s.toks+1}) ho hd (wpAny_point (hQ _ ?_ (Heap.SameBut.update ..))))));rw[hst,List.length_map];refine⟨_,_,Heap.get?_update_self _ ho (Obj.isFreed_of_dict (Obj.data_mapDict hd _)),hc.mapDict _,Obj.data_mapDict hd _,hk.modify _ _,?_,?_⟩
  ·have hl:(es.toList.findIdx? fun e=>knd.is k e.key)=some i:=by rw[<- hi];obtain⟨l⟩:=es;simp
   have:=hp.modify hn hl v;obtain⟨l⟩:=es;simpa using this
  ·rw[keys_map_store];exact hn
 | none=>
  have hnot:k ∉ kvs.map (·.1):=not_mem_of_findIdx_none (hidx▸hi);have hany:¬(kvs.any fun kv=>decide (kv.1=k))=true:=by
   rw[List.any_eq_true];rintro ⟨kv,hkv,he⟩;exact hnot (List.mem_map.mpr ⟨kv,hkv,of_decide_eq_true he⟩)
  have hst:stored kvs k v=kvs++[(k,v)]:=by rw[stored,if_neg hany]
  refine wpAny_bind (wpAny_rule (wpAny_updateDictKeys (hz:=hes) (s:={s with toks:=s.toks+1}) ho hd (hQ _ ?_ (Heap.SameBut.update ..))));rw[hst,List.length_append];refine⟨_,_,Heap.get?_update_self _ ho (Obj.isFreed_of_dict (Obj.data_mapDictKeys hd _)),
   hc.mapDictKeys _,Obj.data_mapDictKeys hd _,hk.push hkey _,?_,?_⟩
  ·have:=hp.append hkey (knd.hash k) v;obtain⟨l⟩:=es;simpa using this
  ·rw[List.map_append,List.nodup_append];refine⟨hn,by simp,?_⟩;intro a ha b hb;simp only[List.map_cons,List.map_nil,List.mem_singleton] at hb;subst hb;exact fun e=>hnot (e▸ha)
theorem O2{K:Type}[DecidableEq K]{knd:KeyKind prog w K}{d:Addr}{k:K}{key:Value}{kvs:List (K × Value)}{v:Value}{Q:Unit->Shared->Prop}(hkey:knd.is k key=true)(hm:s.heap.DictAt knd d kvs kvs.length)
  (hQ:∀h',h'.DictAt knd d (stored kvs k v) (stored kvs k v).length->Heap.SameBut d s.heap h'->Q () {s with heap:=h',toks:=s.toks+1})
  (hsz:kvs.length<=sizeLine:=by size_fits):
  wpAny (model prog w) A (setItem (.ref d) key v) Q E s:=by
 have hT:=hm.dictOf.typeIs;unfold setItem
 try with_reducible refine wpAny_holding ?_
 refine wpAny_bind (wpAny_sequenceKey hT (by decide) ?_);refine wpAny_bind (wpAny_callSpecial?_slot (name:=Str.ofString "__setitem__") hT slot_dict_setitem
  (wpAny_call_entry slot_dict_setitem hT entry_dict_setitem ?_ (args_dict_setitem _ _ _)))
 show wpAny _ _ (Builtin.Dict.notOrdered "__setitem__" ⟨[.ref d,key,v],[]⟩ >>=_) _ _ s;refine wpAny_bind (wpAny_notOrdered_dict hT ?_);show wpAny _ _ (dictSet d key v >>=_) _ _ s;exact wpAny_bind (Vm (hsz:=hsz) hkey hm fun h' hm' hs'=>wpAny_pure ⟨.none,rfl,wpAny_pure (hQ h' hm' hs')⟩)
end
section
variable {C:Cx} {sc:Scope} {k:Nat}
noncomputable def Vn(es:List (Int × MV))(i:Int)(v:MV):List (Int × MV):=if es.any (fun e=>e.1=i) then es.map (fun e=>if e.1=i then (e.1,v) else e) else es++[(i,v)]
theorem A4h{kvs:List (Int × Value)}{es:List (Int × MV)}{α:List Addr}(h:All2 (fun (x:Int × MV) (y:Int × Value)=>x.1=y.1∧VRel α x.2 y.2) es kvs)(i:Int){v:MV}{u:Value}(hv:VRel α v u):
  All2 (fun (x:Int × MV) (y:Int × Value)=>x.1=y.1∧VRel α x.2 y.2) (Vn es i v) (stored kvs i u):=by
 have e:es.any (fun e=>decide (e.1=i))=kvs.any (fun kv=>decide (kv.1=i)):=by
  induction h with
  | nil=>rfl
  | cons a _ ih=>simp only[List.any_cons,ih,a.1]
 unfold Vn stored;rw[e];by_cases q:(kvs.any fun kv=>decide (kv.1=i))=true
 ·rw[if_pos q,if_pos q];clear q e
  induction h with
  | nil=>exact .nil
  | @cons x y _ _ a _ ih=>
   refine .cons ?_ ih;by_cases z:y.1=i
   ·simp only[a.1,z,if_pos];exact⟨trivial,hv⟩
   ·simp only[a.1,if_neg z];exact⟨trivial,a.2⟩
 ·rw[if_neg q,if_neg q];exact h.append (.cons ⟨rfl,hv⟩ .nil)
def Vo:MV->MV->MV->P Unit:=fun o i v H=>(asR o).bind fun j=>(Pw i).bind fun n=>
 ((H[j]?.bind Kn).bind fun xs=>if 0<=n∧n<xs.length∧n<9223372036854775808 then some ((),H.set j (.list (xs.set n.toNat v))) else none).or
 ((H[j]?.bind ofD).bind fun es=>if es.length<=16777216 then some ((),H.set j (.dict (Vn es n v))) else none)
theorem B41(G:Gd C)(A:Around){α:List Addr}{H H':Hp}{s:Shared}{Q:Unit->Shared->Prop}{E:Value->Shared->Prop}{o i v:MV}{vo vi vv:Value}(hr:HR C α H s)(ho:VRel α o vo)(hi:VRel α i vi)(hv:VRel α v vv)
  (hf:Vo o i v H=some ((),H')) (hq:∀α' s',HR C α' H' s'->Ext C [] α s α' s'->Q () s'):wpAny (model C.prog C.w) A (setItem vo vi vv) Q E s:=by
 obtain⟨j,e1,hf1⟩:=Dw hf;obtain⟨n,e2,hf2⟩:=Dw hf1;clear hf hf1;obtain rfl:=Ii e1;obtain⟨t,rfl⟩:=C1 e2 hi;obtain⟨a,hα,rfl⟩:=ho;rcases orS hf2 with hf3|⟨_,hf3⟩
 ·obtain⟨xs,e3,hf4⟩:=Dw hf3;obtain⟨hl,hf5⟩:=Lm hf4;have e:=Fi e3;clear hf2 hf3 hf4 e1 e2 e3;cases hf5;obtain⟨a',hα',vs,hpl,hrel⟩:=hr.at e;rw[hα] at hα';cases hα';refine P0 hpl hl.1 (by omega) (by rw[<- Array.length_toList,<- hrel.length];exact hl.2.1) fun h' h1 h2=>?_;have ho:ORel C α h' a (.list (xs.set _ v)):=⟨_,h1,by rw[Array.toList_setIfInBounds];exact hrel.set _ hv⟩;exact hq _ _ (hr.turn hα (B1 h2) ho) (.turn hr hα (B1 h2) ho)
 ·obtain⟨es,e3,hf4⟩:=Dw hf3;obtain⟨hl,hf5⟩:=Lm hf4;have e:=Rb e3;clear hf2 hf3 hf4 e1 e2 e3;cases hf5;obtain⟨a',hα',kvs,hd,hrel⟩:=hr.at e;rw[hα] at hα';cases hα';have hlen:=hrel.length;rw[hlen] at hd;have hk:(intKind C.prog C.w).is n (.int n t)=true:=by simp[intKind,Value.isInt]
  refine O2 (knd:=intKind C.prog C.w) hk hd (fun h' h1 h2=>?_) (by show kvs.length<=16777216;exact B8g hl hlen);have hp:=A4h hrel n hv;have ho:ORel C α h' a (.dict (Vn es n v)):=⟨_,by rw[hp.length];exact h1,hp⟩;exact hq _ _ (hr.turn hα (B1 h2) ho) (.turn hr hα (B1 h2) ho)
theorem O3(G:Gd C){o i value:Expr}{pos' pos:Pos}{fv fo fi:Aj->P MV}(hv:SE C sc k value fv)(ho:SE C sc k o fo)(hi:SE C sc k i fi)
  (hs:∀env,swapsWith value (some (.Subscript o i pos')) pos.line env=pure false:=by intro _;rfl):
  SS C sc k (.Assign [.Subscript o i pos'] value pos) (fun ρ=>B9 (fv ρ) fun v=>B9 (fo ρ) fun a=>B9 (fi ρ) fun b=>B9 (Vo a b v) fun zz=>Bg (.next,ρ)):=by
 intro A env α ρ H s Q E fl ρ' H' hR hr he hf hq;obtain⟨v,H₁,qA,h1⟩:=Aw hf;obtain⟨a,HP,qB,h2⟩:=Aw h1;obtain⟨b,HJ,qC,h3⟩:=Aw h2;obtain⟨u,HK,qD,h4⟩:=Aw h3;cases h4;refine wpAny_Assign_Subscript (hv A env α ρ H s _ _ _ _ hR hr he qA fun αA sA vA rH xO wA=>?_) (hs env);refine ho A env αA ρ H₁ sA _ _ _ _ hR rH (he.ext xO) qB fun αB sB vB rI xP wB=>?_;refine hi A env αB ρ HP sB _ _ _ _ hR rI (he.ext (xO.trans xP)) qC fun αC sC vC rC xJ wJ=>?_;refine B41 G A rC (wB.mono xJ.pre) wJ (wA.mono (xP.trans xJ).pre) qD fun αD sD rD xK=>?_;have x:=((xO.trans xP).trans xJ).trans xK;exact hq αD sD _ rD (he.ext x) x.weak rfl
def A7b:MV->MV->P Unit:=fun o i H=>(asR o).bind fun j=>(Pw i).bind fun n=>(H[j]?.bind Kn).bind fun xs=>if 0<=n∧n<xs.length∧xs.length<=16777216 then some ((),H.set j (.list (xs.eraseIdx n.toNat))) else none
theorem Vp{α β:Type}{R:α->β->Prop}{l:List α}{m:List β}(h:All2 R l m)(i:Nat):All2 R (l.eraseIdx i) (m.eraseIdx i):=by
 induction h generalizing i with
 | nil=>exact .nil
 | cons h t ih=>
  cases i with
  | zero=>exact t
  | succ i=>exact .cons h (ih i)
theorem B42(G:Gd C){o i:Expr}{pos' pos:Pos}{fo fi:Aj->P MV}(ho:SE C sc k o fo)(hi:SE C sc k i fi):
  SS C sc k (.Delete [.Subscript o i pos'] pos) (fun ρ=>B9 (fo ρ) fun a=>B9 (fi ρ) fun b=>B9 (A7b a b) fun zz=>Bg (.next,ρ)):=by
 intro A env α ρ H s Q E fl ρ' H' hR hr he hf hq;obtain⟨a,HP,qB,h2⟩:=Aw hf;obtain⟨b,HJ,qC,h3⟩:=Aw h2;obtain⟨u,HK,qD,h4⟩:=Aw h3;cases h4;refine wpAny_Delete (wpAny_deleteEach_cons (wpAny_delete_Subscript ?_));refine ho A env α ρ H s _ _ _ _ hR hr he qB fun αB sB vB rI xP wB=>?_;refine hi A env αB ρ HP sB _ _ _ _ hR rI (he.ext xP) qC fun αC sC vC rC xJ wJ=>?_;have wB':=wB.mono xJ.pre;obtain⟨j,e1,g1⟩:=Dw qD;obtain⟨n,e2,g2⟩:=Dw g1;obtain⟨xs,e3,g3⟩:=Dw g2;obtain⟨hl,g4⟩:=Lm g3;have e:=Fi e3;clear qD g1 g2 g3 e3;obtain rfl:=Ii e1;obtain⟨t,rfl⟩:=C1 e2 wJ;obtain⟨a,hα,rfl⟩:=wB';cases g4;obtain⟨a',hα',vs,hpl,hrel⟩:=rC.at e;rw[hα] at hα';cases hα';have hsz:vs.size=xs.length:=by rw[<- Array.length_toList,<- hrel.length]
 obtain⟨j,rfl⟩:=Int.eq_ofNat_of_zero_le hl.1;refine wpAny_delItem_plain hpl (k:=j) (by unfold Builtin.List.listFitsIndex;simp only[Bool.and_eq_true,decide_eq_true_eq];omega)
  (by
   unfold seqIndex?;have:¬((j:Int)<0):=by exact zl6
   simp only[this,if_false];rw[if_pos (by simp only[Bool.and_eq_true,decide_eq_true_eq];exact B8h hsz hl)];rfl) (fun h' h1 h2=>wpAny_deleteEach_nil ?_) (by show vs.size<=16777216;exact B8i hsz hl)
 have ho:ORel C αC h' a (.list (xs.eraseIdx j)):=⟨_,h1,by
  have:(vs.eraseIdxIfInBounds j).toList=vs.toList.eraseIdx j:=by simp
  rw[this];exact Vp hrel j⟩
 have x:=(xP.trans xJ).trans (Ext.turn (tk:=sC.toks) rC hα (B1 h2) ho);exact hq _ _ _ (rC.turn hα (B1 h2) ho) (he.ext x) x.weak rfl
noncomputable def A4i:MV->MV->Option Bool:=fun x y=>match x,y with
 | .bool a,.bool b=>some (a==b)
 | .ref i,.ref j=>if i=j then some true else none
 | .str _,.ref _=>some false
 | .ref _,.str _=>some false
 | _,_=>none
inductive IsA:MV->MV->Bool->Prop
 | b (a b:Bool):IsA (.bool a) (.bool b) (a==b)
 | r (i:Nat):IsA (.ref i) (.ref i) true
 | sr (x:Str) (i:Nat):IsA (.str x) (.ref i) false
 | rs (x:Str) (i:Nat):IsA (.ref i) (.str x) false
theorem Qu{x y:MV}{c:Bool}(h:A4i x y=some c):IsA x y c:=by
 cases x <;> cases y <;> try (exact Cy h)
 ·cases h;exact .b _ _
 ·cases h;exact .sr _ _
 ·cases h;exact .rs _ _
 ·rename_i i j;obtain⟨e,h'⟩:=Lm (show (if i=j then _ else _)=_ from h);clear h;cases e;cases h';exact .r _
theorem Sx(a b:Bool):(Value.bool a==Value.bool b)=(a==b):=by cases a <;> cases b <;> rfl
theorem D0o:Oo C k (compareOp .Is) (fun x y H=>(A4i x y).map fun b=>(.bool b,H)):=by
 intro A α H s Q E a b r va vb H' hR hr ha hb hf hp;obtain⟨c,h1,h2⟩:=Ju hf;replace hp:=D8 (congrArg some h2) hp;cases Qu h1 with
 | b=>cases ha;cases hb;exact wpAny_is_plain rfl (hp.here hr (by rw[Sx];rfl))
 | r=>
  obtain⟨x,h1,rfl⟩:=ha;obtain⟨y,h2,rfl⟩:=hb;cases h1.symm.trans h2;exact wpAny_is_ref_self (hp.here hr rfl)
 | sr=>
  obtain⟨t,rfl⟩:=ha;obtain⟨y,h2,rfl⟩:=hb;exact wpAny_is_other rfl (by intro h;cases h) (hp.here hr rfl)
 | rs=>
  obtain⟨t,rfl⟩:=hb;obtain⟨y,h2,rfl⟩:=ha;exact wpAny_is_other rfl (by intro h;cases h) (hp.here hr rfl)
theorem Gn:Oo C k (compareOp .IsNot) (fun x y H=>(A4i x y).map fun b=>(.bool (!b),H)):=by
 intro A α H s Q E a b r va vb H' hR hr ha hb hf hp;obtain⟨c,h1,h2⟩:=Ju hf;replace hp:=D8 (congrArg some h2) hp;cases Qu h1 with
 | b=>cases ha;cases hb;exact wpAny_isNot_plain rfl (hp.here hr (by rw[Sx];rfl))
 | r=>
  obtain⟨x,h1,rfl⟩:=ha;obtain⟨y,h2,rfl⟩:=hb;cases h1.symm.trans h2;exact wpAny_isNot_ref_self (hp.here hr rfl)
 | sr=>
  obtain⟨t,rfl⟩:=ha;obtain⟨y,h2,rfl⟩:=hb;exact wpAny_isNot_other rfl (by intro h;cases h) (hp.here hr rfl)
 | rs=>
  obtain⟨t,rfl⟩:=hb;obtain⟨y,h2,rfl⟩:=ha;exact wpAny_isNot_other rfl (by intro h;cases h) (hp.here hr rfl)
noncomputable def Bc:MV->MV->P MV:=fun x y H=>match x,y with
 | .int a,.int b=>some (.int (a+b),H)
 | .str a,.str b=>if a.length+b.length<=16777216 then some (.str (a++b),H) else none
 | _,_=>none
theorem Co:Oo C k (inplaceOp .Add) Bc:=by
 intro A α H s Q E a b r va vb H' hR hr ha hb hf hp;cases a <;> cases b <;> try (exact Cy hf)
 ·obtain⟨t,rfl⟩:=ha;obtain⟨u,rfl⟩:=hb;replace hp:=D8 hf hp;exact PyProof.Rows.iadd_int (hp.hereT hr _ ⟨_,rfl⟩)
 ·obtain⟨t,rfl⟩:=ha;obtain⟨u,rfl⟩:=hb;obtain⟨hl,h'⟩:=Lm (show (if _<=16777216 then _ else _)=_ from hf);replace hp:=D8 h' hp;exact PyProof.Rows.iadd_str (fun t' tk=>hp.hereT hr _ ⟨_,rfl⟩) hl
def Go(T:GT):MV->MV->P MV:=fun x l H=>(Lo x).bind fun sep=>((C7 T H l).bind Gu).bind fun ys=>
 if (ys.map (·.length)).sum+ys.length*sep.length<=16777216 then some (.str (Txt.join sep ys),H) else none
theorem Hb(G:Gd C):CallOk C k (.builtin "str.join") (two (Go C.T)):=by
 refine .two fun A α H s Q E a b v u r H' hR hr hv hu hf hp=>?_;obtain⟨x,ex,hf⟩:=Dw hf;obtain⟨ys,e,hf⟩:=Dw hf;obtain⟨hl,hf⟩:=Lm hf;obtain⟨t,rfl⟩:=Cm ex hv;replace hp:=D8 hf hp;obtain⟨xs,e1,e2⟩:=Dw e;obtain⟨x,us,rfl,lu,ru⟩:=Ij G hr e1 hu;exact join_list lu (F1 ru e2) hl fun t' k=>hp.hereT hr _ ⟨_,rfl⟩
noncomputable def Rh(x:Str)(y:Str)(i j:Int):Option Nat:=(Builtin.Str.occurrences x y (fromIndex x.length i) (min (fromIndex x.length j) x.length) 1).head?
theorem Sy(x y:Str)(i j:Int)(t u v z:Tok):Gives (Builtin.«str.find» ⟨[.str x t,.str y u,.int i v,.int j z],[]⟩) (.int (match Rh x y i j with|some k=>(k:Int)|none=>-1)):=by
 show Gives (match Builtin.Str.occurrences x y (fromIndex x.length i) (min (fromIndex x.length j) x.length) 1 with|k::_=>PySem.retInt k|[]=>(do rule "str.find.not-found";PySem.retInt (-1))) _;unfold Rh;cases Builtin.Str.occurrences x y (fromIndex x.length i) (min (fromIndex x.length j) x.length) 1 with
 | nil=>exact .rule (.of_eq rfl)
 | cons k _=>exact .of_eq rfl
def Sz:List MV->P MV:=fun ms H=>match ms with
 | [a,b,c,d]=>(Lo a).bind fun x=>(Lo b).bind fun y=>(Pw c).bind fun i=>(Pw d).bind fun j=>some (.int (match Rh x y i j with|some k=>(k:Int)|none=>-1),H)
 | _=>none
theorem A7c:CallOk C k (.builtin "str.find") Sz:=by
 intro A α H s Q E ms vs r H' hR hr hv hf hp;rcases ms with _|⟨a,_|⟨b,_|⟨c,_|⟨d,_|⟨e,l⟩⟩⟩⟩⟩
 ·exact Cy hf
 ·exact Cy hf
 ·exact Cy hf
 ·exact Cy hf
 ·obtain⟨_,_,_,_,rfl,h1,h2,h3,h4⟩:=D3i hv;obtain⟨x,e1,hf⟩:=Dw (show (Lo a).bind _=_ from hf);obtain⟨y,e2,hf⟩:=Dw hf;obtain⟨i,e3,hf⟩:=Dw hf;obtain⟨j,e4,hf⟩:=Dw hf;obtain⟨t,rfl⟩:=Cm e1 h1;obtain⟨u,rfl⟩:=Cm e2 h2;obtain⟨v,rfl⟩:=C1 e3 h3;obtain⟨z,rfl⟩:=C1 e4 h4;replace hp:=D8 hf hp;exact call_gives F.slot_str_find (PySem.typeIs_str s _ _) F.entry_str_find (F.args_str_find_4 _ _ _ _) (Sy _ _ _ _ t u v z) (hp.hereT hr _ ⟨_,rfl⟩)
 ·exact Cy hf
noncomputable def Zo(x:Str)(y:Str)(i:Int):Option Nat:=(Builtin.Str.occurrences x y (fromIndex x.length i) x.length 1).head?
theorem Ri(x y:Str)(i:Int)(t u v:Tok){n:Nat}(h:Zo x y i=some n):Gives (Builtin.«str.index» ⟨[.str x t,.str y u,.int i v],[]⟩) (.int n):=by
 show Gives (match Builtin.Str.occurrences x y (fromIndex x.length i) (min x.length x.length) 1 with|k::_=>PySem.retInt k|[]=>_) _;unfold Zo at h;rw[Nat.min_self];cases e:Builtin.Str.occurrences x y (fromIndex x.length i) x.length 1 with
 | nil=>rw[e] at h;cases h
 | cons k _=>rw[e] at h;cases h;exact .of_eq rfl
def Rj:MV->MV->MV->P MV:=fun a b c H=>(Lo a).bind fun x=>(Lo b).bind fun y=>(Pw c).bind fun i=>(Zo x y i).map fun (n:Nat)=>(MV.int (n:Int),H)
theorem A4j:CallOk C k (.builtin "str.index") (three Rj):=by
 refine .three fun A α H s Q E a b c v u w r H' hR hr hv hu hw hf hp=>?_;obtain⟨x,e1,hf⟩:=Dw hf;obtain⟨y,e2,hf⟩:=Dw hf;obtain⟨i,e3,hf⟩:=Dw hf;obtain⟨n,h1,h2⟩:=Ju hf;replace hp:=D8 (congrArg some h2) hp;obtain⟨t,rfl⟩:=Cm e1 hv;obtain⟨t',rfl⟩:=Cm e2 hu;obtain⟨t'',rfl⟩:=C1 e3 hw;exact call_gives F.slot_str_index (PySem.typeIs_str s _ _) F.entry_str_index (F.args_str_index_3 _ _ _) (Ri _ _ _ t t' t'' h1) (hp.hereT hr _ ⟨_,rfl⟩)
def Ge:MV->MV->MV->P MV:=fun d i v H=>(asR d).bind fun j=>(Pw i).bind fun n=>(H[j]?.bind ofD).map fun es=>((Lr es n).getD v,H)
theorem Nv(G:Gd C):CallOk C k (.builtin "dict.get") (three Ge):=by
 refine .three fun A α H s Q E a b c v u w r H' hR hr hv hu hw hf hp=>?_;obtain⟨j,e1,hf⟩:=Dw hf;obtain⟨n,e2,hf⟩:=Dw hf;obtain⟨es,e,hf⟩:=Ju hf;replace hp:=D8 (congrArg some hf) hp;have e:=Rb e;obtain rfl:=Ii e1;obtain⟨t,rfl⟩:=C1 e2 hu;have hx:=hr.refAt e hv;obtain⟨x,rfl,kvs,hd,hrel⟩:=hx;have hx:(x==sysModules)=false:=by
  obtain⟨y,h1,h2⟩:=hv
  first |exact Cy h2|replace hp:=D8 h2 hp|cases h2
  exact beq_eq_false_iff_ne.mpr (Nat.ne_of_gt (Nat.lt_of_lt_of_le G.low (hr.new _ (List.mem_of_getElem? h1)).1))
 have hk:(intKind C.prog C.w).is n (.int n t)=true:=by simp[intKind,Value.isInt]
 refine call_meetsIn (T:="dict") F.slot_dict_get hd.dictOf.typeIs F.entry_dict_get (F.args_dict_get_3 _ _ _) (meets_dict_get_default (prog:=C.prog) (w:=C.w) (knd:=intKind C.prog C.w) (hkey:=hk) (hd:=hx) (dflt:=w)) ⟨_,hd.dictOf.mapOf,?_⟩;refine hp.hereT hr _ ?_;obtain⟨f1,f2⟩:=Mi hrel n;cases q:Lr es n with
 | none=>rw[f2 q];exact hw
 | some m=>obtain⟨z,hz,hm⟩:=f1 m q;rw[hz];exact hm
end
section
variable {C:Cx} {sc:Scope} {k:Nat}
def CE(C:Cx)(sc:Scope)(k:Nat)(ns:List Str)(tail:Value->Env->Sem Unit)(f:Nat->Aj->P Aj):Prop:=
 ∀(A:Around) (env:Env) (α:List Addr) (ρ:Aj) (H:Hp) (s:Shared) (Q:Unit->Shared->Prop) (E:Value->Shared->Prop) (i:Nat) (a:Addr) (ρ':Aj) (H':Hp),
  Room k A->HR C α H s->ER C α ρ sc env s.heap->α[i]?=some a->f i ρ H=some (ρ',H')->
  (∀α' s',HR C α' H' s'->ER C α' ρ' sc env s'.heap->Ext C (slots env ns) α s α' s'->Q () s')->wpAny (model C.prog C.w) A (tail (.ref a) env) Q E s
def Bt(f:Aj->P MV)(i:Nat)(ρ:Aj):P Aj:=B9 (f ρ) fun v=>B9 (Bk (.ref i) v) fun zz=>Bg ρ
theorem A7d{elt:Expr}{f:Aj->P MV}(h:SE C sc k elt f):CE C sc k [] (fun acc env=>do let _ <- call (.builtin "list.append") [acc,<- eval elt env]) (Bt f):=by
 intro A env α ρ H s Q E i a ρ' H' hR hr he hi hf hq;kcf_m;obtain⟨v,H₁,qA,h1⟩:=Aw hf;refine hGx ?_;kcf_m;obtain⟨u,HP,qB,h2⟩:=Aw h1;refine hGx ?_
 first |exact Cy h2|replace hp:=D8 h2 hp|cases h2
 refine wpAny_bind (h A env α ρ H s _ _ _ _ hR hr he qA fun αA sA vA rH xO wA=>?_);refine wpAny_bind (C5 A αA H₁ sA _ _ [.ref i,v] [.ref a,vA] u _ hR rH (.cons ⟨a,Hz xO.pre hi,rfl⟩ (.cons wA .nil)) qB fun αB sB vB rI xP wB=>wpAny_pure ?_);exact hq αB sB rI (he.ext (xO.trans xP)) (xO.trans xP).weak
def CT(C:Cx)(sc:Scope)(k:Nat)(ifs:List Expr)(f:Aj->P Bool):Prop:=
 ∀(A:Around) (env:Env) (α:List Addr) (ρ:Aj) (H:Hp) (s:Shared) (Q:Bool->Shared->Prop) (E:Value->Shared->Prop) (r:Bool) (H':Hp),
  Room k A->HR C α H s->ER C α ρ sc env s.heap->f ρ H=some (r,H')->(∀α' s',HR C α' H' s'->Ext C [] α s α' s'->Q r s')->
  wpAny (model C.prog C.w) A (forIn ifs true fun c r=>if r=true then do let ok <- isTrue c env (eval c env);pure (ForInStep.yield ok) else pure (ForInStep.yield r)) Q E s
theorem Ft:CT C sc k [] (fun zz=>Bg true):=by
 intro A env α ρ H s Q E r H' hR hr he hf hq;kpf_c;exact wpAny_tests_nil (hq α s hr .refl)
theorem Fu{c:Expr}{f:Aj->P Bool}(h:ST C sc k c f):CT C sc k [c] f:=by
 intro A env α ρ H s Q E r H' hR hr he hf hq;exact wpAny_tests_one (h A env α ρ H s _ _ _ _ hR hr he hf hq)
def F5(src:Nat->P (Option MV))(tg:Aj->MV->P Aj)(ck:Aj->P Bool)(b:Aj->P Aj):Nat->Nat->Aj->P Aj
 | 0,_,_=>fl
 | n+1,i,ρ=>B9 (src i) fun m=>match m with
  | .none=>Bg ρ
  | .some v=>B9 (tg ρ v) fun ρA=>B9 (ck ρA) fun c=>if c then B9 (b ρA) fun ρB=>F5 src tg ck b n (i+1) ρB else F5 src tg ck b n (i+1) ρA
theorem Src.turnB{it:Value}{J:List Addr}{I:Nat->List Addr->Heap->Prop}{Cb:Expr}{src:Nat->P (Option MV)}(S:Src C it J I Cb src)
  {A:Around} {α:List Addr} {H:Hp} {s:Shared} {i:Nat} {r:Option MV} {H':Hp} {β:Type} {F:Option Value->Sem β} {K:Value->Unit->Sem β} {Q:β->Shared->Prop} {E:Value->Shared->Prop}
  (hF:∀v,F (some v)=letOwnedTupleGo Cb it v >>=K v)
  (hh:A.handled=.none) (hr:HR C α H s) (hI:I i α s.heap) (hJ:∀b∈J,b ∉ α∧C.B.objs.size<=b) (hs:src i H=some (r,H'))
  (hn:r=.none->∀α' s',HR C α' H' s'->StepJ C J α s α' s'->wpAny (model C.prog C.w) A (F none) Q E s')
  (hm:∀m,r=.some m->∀α' s' v,HR C α' H' s'->StepJ C J α s α' s'->VRel α' m v->I (i+1) α' s'.heap->wpAny (model C.prog C.w) A (K v ()) Q E s'):
  wpAny (model C.prog C.w) A (pyNext it >>=F) Q E s:=by
 refine wpAny_bind (wpAny_mono (S.turn (E:=E) (E':=E) (Qn:=fun s=>wpAny (model C.prog C.w) A (F none) Q E s) (Qs:=fun v s=>wpAny (model C.prog C.w) A (K v ()) Q E s) hh hr hI hJ hs hn hm fun zz zz h=>h) (fun r s h=>?_) fun zz zz h=>h);cases r with
 | none=>exact h
 | some v=>rw[hF];exact wpAny_bind h
inductive LoI(C:Cx)(sc:Scope)(env:Env)(X α₀:List Addr)(s₀:Shared)(α J:List Addr)(I:Nat->List Addr->Heap->Prop)(W:Nat->Nat->Aj->P Aj)(R:Aj × Hp)(m:Nat)(sC:Shared):Prop
 | mk (j:Nat) (αC:List Addr) (ρC:Aj) (HJ:Hp) (r:HR C αC HJ sC) (e:ER C αC ρC sc env sC.heap) (x:Ext C X α₀ s₀ αC sC) (p:α<+:αC) (hj:∀b∈J,b ∉ αC) (hI:I j αC sC.heap) (w:W m j ρC HJ=some R)
theorem Yd(G:Gd C){elt:Expr}{gens:List Comprehension}{scope:Scope}{pos:Pos}{d:Nat}{Cb iter:Expr}{ifs:List Expr}{tail:Value->Env->Sem Unit}{ns ms:List Str}
  {t:Aj->MV->P Aj} {ck:Aj->P Bool} {b:Nat->Aj->P Aj} (n:Nat)
  (hturn:∀it acc env,compTurn (.ListComp elt gens scope pos) d it acc env=(do
   standAt iter.pos
   match <- pyNext it with
   | none=>pure (.done .next)
   | some v=>
    letOwnedTupleGo Cb it v
    PySem.assign Cb env v
    let mut ok:=true
    for c in ifs do
     if ok then ok <- isTrue c env (eval c env)
    if ok then tail acc env
    again (.compLoop (.ListComp elt gens scope pos) d it acc env)))
  (ht:TG C sc ns Cb t) (hc:CT C sc k ifs ck) (hb:CE C sc k ms tail b)
  {A:Around} {env:Env} {α₀ α:List Addr} {ρ:Aj} {H:Hp} {s₀ s:Shared} {R:Result->Shared->Prop} {i:Nat} {a:Addr} {ρ':Aj} {H':Hp} {X:List Addr}
  {it:Value} {J:List Addr} {I:Nat->List Addr->Heap->Prop} {src:Nat->P (Option MV)} (S:Src C it J I Cb src)
  (hR:Room k A) (xZ:Ext C X α₀ s₀ α s) (hX:∀c∈slots env (ns++ms),c∈X) (hr:HR C α H s) (he:ER C α ρ sc env s.heap) (hi:α[i]?=some a) (hI:I 0 α s.heap)
  (hJ:∀b∈J,s₀.heap.get? b=.none∧C.B.objs.size<=b∧b ∉ α∧b ∉ Fb env)
  (hf:F5 src t ck (b i) n 0 ρ H=some (ρ',H'))
  (hq:∀α' s',HR C α' H' s'->ER C α' ρ' sc env s'.heap->Ext C X α₀ s₀ α' s'->α<+:α'->R (.ok .next) s'):
  codeAny (model C.prog C.w) A (.compLoop (.ListComp elt gens scope pos) d it (.ref a) env) R s:=by
 refine codeAny_loop rfl (LoI C sc env X α₀ s₀ α J I (F5 src t ck (b i)) (ρ',H')) ?_ n
  ⟨0,α,ρ,H,hr,he,xZ,List.prefix_refl _,fun b hb=>(hJ b hb).2.2.1,hI,hf⟩
 intro nn sC hpat;kcf_m;obtain⟨j,αC,ρC,HJ,rC,eJ,xJ,pJ,hjC,hIC,hw⟩:=hpat;refine hGx ?_;show wpAny _ A ((compTurn (.ListComp elt gens scope pos) d it (.ref a) env).onRaise (fun x=>do noteFrame x env;theTreesLotGoes x)) _ _ sC;refine wpAny_noted ?_;rw[hturn];cases nn with
 | zero=>first |exact Cy hw|replace hp:=D8 hw hp|cases hw
 | succ nn=>
  unfold F5 at hw;kcf_m;obtain⟨oK,HK,qD,hw⟩:=Aw hw;refine hGx ?_;have jo:∀j∈J,j ∉ Fb env:=fun j hj=>(hJ j hj).2.2.2;have key:∀αD sD,StepJ C J αC sC αD sD->Ext C X α₀ s₀ αD sD∧ER C αD ρC sc env sD.heap:=fun αD sD st=>⟨xJ.stepJ st fun j hj=>(hJ j hj).1,eJ.stepJ st jo⟩;refine wpAny_bind (wpAny_standAt ?_);refine S.turnB (fun zz=>rfl) hR.handled rC hIC (fun j hj=>⟨hjC j hj,(hJ j hj).2.1⟩) qD ?_ ?_
  ·intro hoD αD sD rD st;subst hoD
   first |exact Cy hw|replace hp:=D8 hw hp|cases hw
   obtain⟨xK,eK⟩:=key αD sD st;exact wpAny_pure (hq αD sD rD eK xK (pJ.trans st.pre))
  ·intro mv hmD αD sD v rD st wD hiD;subst hmD;obtain⟨xK,eK⟩:=key αD sD st;have ja:∀j∈J,j ∉ αD:=fun j hj q=>by
    rcases st.fresh j q with z|z
    ·exact hjC j hj z
    ·obtain⟨o,ho⟩:=S.alive _ αC _ hIC j hj;rw[ho] at z;cases z
   kcf_m;obtain⟨ρE,HL,qE,hw⟩:=Aw hw;refine hGx ?_;kcf_m;obtain⟨cF,HM,qF,hw⟩:=Aw hw;refine hGx ?_;refine wpAny_bind (ht A env αD ρC HK sD _ _ _ _ _ _ hR.handled rD eK wD qE fun sE rE eE xL=>?_);have kE:∀b∈J,∀o,sD.heap.get? b=some o->sE.heap.get? b=some o:=fun b hb o ho=>xL.keep b o ho (ja b hb) (fun q=>jo b hb (Ix b q)) (Fk G (hJ b hb).2.1);have hiE:=S.dep _ _ _ αD _ hiD (List.prefix_refl _) kE;refine wpAny_bind (hc A env αD ρE HL sE _ _ _ _ hR rE eE qF fun αF sF rF xT=>?_);have eM:=eE.ext xT;have kF:∀b∈J,∀o,sE.heap.get? b=some o->sF.heap.get? b=some o:=fun b hb o ho=>xT.keep b o ho (ja b hb) (fun q=>nomatch q) (Fk G (hJ b hb).2.1);have hiF:=S.dep _ _ _ αF _ hiE xT.pre kF;have jaF:∀j∈J,j ∉ αF:=fun j hj q=>by
    rcases xT.fresh j q with z|z
    ·exact ja j hj z
    ·obtain⟨o,ho⟩:=S.alive _ _ _ hiE j hj;rw[ho] at z;cases z
   have xx:Ext C X α₀ s₀ αF sF:=(xK.trans (xL.mono fun c hc=>hX c (Jb (fun zz h=>List.mem_append_left _ h) c hc))).trans xT.weak;have pp:α<+:αF:=(pJ.trans st.pre).trans xT.pre;cases cF with
   | false=>exact wpAny_pure ⟨rfl,nn,Nat.lt_succ_self _,j+1,αF,ρE,HM,rF,eM,xx,pp,jaF,hiF,hw⟩
   | true=>
    kcf_m;obtain⟨ρG,HN,qG,hw⟩:=Aw hw;refine hGx ?_;refine wpAny_bind (hb A env αF ρE HM sF _ _ i a _ _ hR rF eM (Hz pp hi) qG fun αG sG rG eG xN=>?_);have kG:∀b∈J,∀o,sF.heap.get? b=some o->sG.heap.get? b=some o:=fun b hb o ho=>xN.keep b o ho (jaF b hb) (fun q=>jo b hb (Ix b q)) (Fk G (hJ b hb).2.1);have hiG:=S.dep _ _ _ αG _ hiF xN.pre kG;have jaG:∀j∈J,j ∉ αG:=fun j hj q=>by
     rcases xN.fresh j q with z|z
     ·exact jaF j hj z
     ·obtain⟨o,ho⟩:=S.alive _ _ _ hiF j hj;rw[ho] at z;cases z
    exact wpAny_pure ⟨rfl,nn,Nat.lt_succ_self _,j+1,αG,ρG,HN,rG,eG,xx.trans (xN.mono fun c hc=>hX c (Jb (fun zz h=>List.mem_append_right _ h) c hc)),pp.trans xN.pre,jaG,hiG,hw⟩
end
theorem Mk:∀(names:List (Str × NameKind)) (n:Nat) (a b:List (Str × Addr)),cellsFrom n names (a++b)=cellsFrom n names a++b
 | [],_,_,_=>rfl
 | (x,kd)::r,n,a,b=>by
  unfold cellsFrom
  split
  ·exact Mk r (n+1) ((x,n)::a) b
  ·exact Mk r n a b
theorem O4:∀(names:List (Str × NameKind)) (n:Nat) (acc:List (Str × Addr)) (p:Str × Addr),p∈cellsFrom n names acc->p∈acc∨(p.1,NameKind.cell)∈names
 | [],_,_,_,h=>.inl h
 | (x,kd)::r,n,acc,p,h=>by
  unfold cellsFrom at h
  split at h
  ·rename_i hk;rcases O4 r (n+1) _ p h with q|q
   ·rcases List.mem_cons.mp q with rfl|q
    ·exact .inr (by rw[beq_iff_eq.mp hk];exact .head _)
    ·exact .inl q
   ·exact .inr (.tail _ q)
  ·rcases O4 r n _ p h with q|q
   ·exact .inl q
   ·exact .inr (.tail _ q)
theorem P1{M:Model}{A:Around}{E:Value->Shared->Prop}{s:Shared}{scope:Scope}{cl:List (Str × Addr)}{env:Env}{Q:Env->Shared->Prop}
  (h:Q (newEnv scope s.heap.objs.size env.globals (cellsFrom (s.heap.objs.size+1) scope.names cl) env.qual none .none (some env) builtinsNs)
   {s with heap:=pushCells (s.heap.push {cls:=.type "dict",data:=.dict #[]}) scope.names}):
  wpAny M A (newFunctionEnv scope env.globals cl [] env.qual none .none (some env)) Q E s:=by
 simp only[newFunctionEnv,Option.isSome_some,if_true];refine wpAny_bind (wpAny_alloc ?_);refine wpAny_bind (wpAny_layCells _ (fun name kind cells=>by cases hkc:kind==NameKind.cell <;> simp[hkc]) _ _ _ _ ?_);rw[show ({s with heap:=s.heap.push {cls:=.type "dict",data:=.dict #[]}}:Shared).heap.objs.size=s.heap.objs.size+1 from Heap.size_push ..];exact wpAny_bind (wpAny_pure (wpAny_pure h))
theorem K7{env:Env}(f:Str × NameKind->List (Str × Addr)->Sem (ForInStep (List (Str × Addr))))
  (hf:∀name kind cs,f (name,kind) cs=if kind==.free then (do let a <- cellOf env name;pure (.yield ((name,a)::cs))) else pure (.yield cs)):
  ∀(names:List (Str × NameKind)) (acc:List (Str × Addr)) (all:List (Str × NameKind)),(∀x∈names,x∈all)->(∀x,(x,NameKind.free)∈names->∃c,env.cells.lookup x=some c)->
   (∀p∈acc,env.cells.lookup p.1=some p.2∧(p.1,NameKind.free)∈all)->
   ∃cl,forIn names acc f=pure cl∧(∀p∈cl,env.cells.lookup p.1=some p.2∧(p.1,NameKind.free)∈all)∧(∀p∈acc,p∈cl)∧∀x,(x,NameKind.free)∈names->∃c,(x,c)∈cl
 | [],acc,all,_,_,h=>⟨acc,rfl,h,fun zz h=>h,fun zz h=>nomatch h⟩
 | (n,kd)::r,acc,all,ha,hc,h=>by
  rw[List.forIn_cons,hf];by_cases hk:(kd==NameKind.free)=true
  ·rw[if_pos hk];have hk':=beq_iff_eq.mp hk;subst hk';obtain⟨c,hc'⟩:=hc n (.head _);obtain⟨cl,e,h1,h2,h3⟩:=K7 f hf r ((n,c)::acc) all (fun x hx=>ha x (.tail _ hx)) (fun x hx=>hc x (.tail _ hx)) (fun p hp=>by
    rcases List.mem_cons.mp hp with rfl|hp
    ·exact⟨hc',ha _ (.head _)⟩
    ·exact h p hp)
   refine⟨cl,?_,h1,fun p hp=>h2 p (.tail _ hp),fun x hx=>?_⟩
   ·unfold cellOf;rw[hc'];exact e
   ·rcases List.mem_cons.mp hx with q|hx
    ·cases q;exact⟨c,h2 _ (.head _)⟩
    ·exact h3 x hx
  ·rw[if_neg hk];obtain⟨cl,e,h1,h2,h3⟩:=K7 f hf r acc all (fun x hx=>ha x (.tail _ hx)) (fun x hx=>hc x (.tail _ hx)) h;refine⟨cl,e,h1,h2,fun x hx=>?_⟩;rcases List.mem_cons.mp hx with q|hx
   ·cases q;exact absurd rfl hk
   ·exact h3 x hx
theorem Vq{env:Env}{scope:Scope}(hc:∀x,(x,NameKind.free)∈scope.names->∃c,env.cells.lookup x=some c):
  ∃cl,closureFor scope env=pure cl∧(∀p∈cl,env.cells.lookup p.1=some p.2∧(p.1,NameKind.free)∈scope.names)∧∀x,(x,NameKind.free)∈scope.names->∃c,(x,c)∈cl:=by
 obtain⟨cl,e,h1,_,h3⟩:=K7 (env:=env) (fun (x:Str × NameKind) (cs:List (Str × Addr))=>match x with
  | (name,kind)=>if (kind==NameKind.free)=true then do let a <- cellOf env name;pure (ForInStep.yield ((name,a)::cs)) else pure (ForInStep.yield cs)) (fun zz zz zz=>rfl) scope.names [] scope.names (fun zz h=>h) hc (fun zz h=>nomatch h)
 exact⟨cl,(congrArg (fun t:Sem (List (Str × Addr))=>t >>=fun cs=>pure cs) e).trans rfl,h1,h3⟩
noncomputable def B3(scope sc:Scope):Scope:=
 {scope with names:=scope.names.map fun (n,k)=>if (k==.free&&sc.names.lookup n==some .cell) then (n,.cell) else (n,k)}
theorem Vr{scope:Scope}{env:Env}(hk:env.scope.kind=.function):relabel scope env=B3 scope env.scope:=by
 unfold relabel B3 Env.kindOf;rw[hk]
 congr 1
 refine List.map_congr_left fun p zz=>?_;obtain⟨n,k⟩:=p;show (if (k==NameKind.free&&true&&_)=true then _ else _)=_;rw[Bool.and_true]
theorem Lv{scope sc:Scope}(x:Str):(B3 scope sc).names.lookup x=(scope.names.lookup x).map fun k=>if (k==.free&&sc.names.lookup x==some .cell) then .cell else k:=by
 unfold B3
 generalize scope.names=l
 induction l with
 | nil=>rfl
 | cons p l ih=>
  obtain⟨n,k⟩:=p;cases hx:x==n with
  | true=>
   have:=beq_iff_eq.mp hx;subst this;simp only[List.map_cons];by_cases h:(k==NameKind.free&&List.lookup x sc.names==some NameKind.cell)=true
   ·simp only[h,if_true,List.lookup_cons,beq_self_eq_true,Option.map_some]
   ·simp only[h,Bool.false_eq_true,if_false,List.lookup_cons,beq_self_eq_true,Option.map_some]
  | false=>
   simp only[List.map_cons,List.lookup_cons,hx];rw[<- ih]
   split <;> simp only[List.lookup_cons,hx]
theorem Lw{l:List (Str × NameKind)}{x:Str}{k:NameKind}(h:l.lookup x=some k):(x,k)∈l:=mem_of_lookup h
theorem Kh{l:List (Str × NameKind)}(hn:(l.map (·.1)).Nodup){x:Str}{k:NameKind}(h:(x,k)∈l):l.lookup x=some k:=by
 induction l with
 | nil=>cases h
 | cons p l ih=>
  obtain⟨n,k'⟩:=p;rw[List.map_cons,List.nodup_cons] at hn;rw[List.lookup_cons];rcases List.mem_cons.mp h with q|h2
  ·cases q;simp
  ·have:(x==n)=false:=by
    rw[beq_eq_false_iff_ne];intro e;subst e;exact hn.1 (List.mem_map.mpr ⟨_,h2,rfl⟩)
   rw[this];exact ih hn.2 h2
noncomputable def Rk(scope:Scope)(ρ:Aj):Aj:=fun x=>if scope.names.lookup x=some .free then ρ x else none
noncomputable def Em(scope sci:Scope)(n:Nat)(cl:List (Str × Addr))(env:Env):Env:=
 {newEnv scope n env.globals (cellsFrom (n+1) scope.names cl) env.qual none .none (some env) builtinsNs with scope:=sci}
section
variable {C:Cx} {sc:Scope} {k:Nat}
theorem Vs{α:Type}{l m:List (Str × α)}{x:Str}{c:α}(h:l.lookup x=some c):(l++m).lookup x=some c:=by
 induction l with
 | nil=>cases h
 | cons p l ih=>
  obtain⟨n,v⟩:=p;simp only[List.cons_append,List.lookup_cons] at h ⊢
  split at h
  ·exact h
  ·exact ih h
theorem S0{α:Type}{l m:List (Str × α)}{x:Str}(h:∀p∈l,p.1≠x):(l++m).lookup x=m.lookup x:=by
 induction l with
 | nil=>rfl
 | cons p l ih=>
  obtain⟨n,v⟩:=p;have:(x==n)=false:=by rw[beq_eq_false_iff_ne];exact(h (n,v) (.head _)).symm
  simp only[List.cons_append,List.lookup_cons,this];exact ih fun q hq=>h q (.tail _ hq)
theorem S7{α:Type}{l:List (Str × α)}{x:Str}{c:α}(h:(x,c)∈l):∃d,l.lookup x=some d:=by
 induction l with
 | nil=>cases h
 | cons p l ih=>
  obtain⟨n,v⟩:=p;rw[List.lookup_cons];rcases List.mem_cons.mp h with q|h
  ·cases q;simp
  ·split
   ·exact⟨_,rfl⟩
   ·exact ih h
structure InnerOk(C:Cx)(scope sc sci:Scope):Prop where
 nocd:∀c,¬C.cd sci c
 sci:B3 scope sc=sci
 kind:scope.kind=.function
 nodup:(scope.names.map (·.1)).Nodup
 free:∀p∈scope.names,p.2=.free->sc.names.lookup p.1=some .cell∨sc.names.lookup p.1=some .free
theorem A4k(G:Gd C){scope sci:Scope}{env:Env}{α ρ H s}{cl:List (Str × Addr)}(hO:InnerOk C scope sc sci)(hr:HR C α H s)(he:ER C α ρ sc env s.heap)
  (h1:∀p∈cl,env.cells.lookup p.1=some p.2∧(p.1,NameKind.free)∈scope.names) (h2:∀x,(x,NameKind.free)∈scope.names->∃c,(x,c)∈cl)
  {ns:List Str} (hns:∀n∈ns,(n,NameKind.free) ∉ scope.names):
  ER C α (Rk scope ρ) sci (Em scope sci s.heap.objs.size cl env) (pushCells (s.heap.push {cls:=.type "dict",data:=.dict #[]}) scope.names)∧
  (∀c∈slots (Em scope sci s.heap.objs.size cl env) ns,s.heap.get? c=none∧s.heap.objs.size<=c)∧∀c∈Fb (Em scope sci s.heap.objs.size cl env),s.heap.objs.size<=c∨c∈Fb env:=by
 have ek:env.scope.kind=.function:=by rw[he.scope];exact he.kind
 have hcells:(Em scope sci s.heap.objs.size cl env).cells=cellsFrom (s.heap.objs.size+1) scope.names []++cl:=Mk scope.names _ [] cl;have hloc:(Em scope sci s.heap.objs.size cl env).locals=s.heap.objs.size:=rfl;have ok:=cellsFrom_ok scope.names (s.heap.push {cls:=.type "dict",data:=.dict #[]}) (s.heap.objs.size+1) [] ⟨fun zz zz hm=>(nomatch hm),List.Pairwise.nil⟩ (by rw[Heap.size_push];exact Nat.le_refl _);rw[Heap.size_push] at ok;have keep:∀b o,s.heap.get? b=some o->(pushCells (s.heap.push {cls:=.type "dict",data:=.dict #[]}) scope.names).get? b=some o:=fun b o e=>pushCells_keeps _ _ b o (Heap.get?_push_of_some _ e);have ns0:(pushCells (s.heap.push {cls:=.type "dict",data:=.dict #[]}) scope.names).Ns s.heap.objs.size (fun zz=>none):=(Heap.Ns.new s.heap (.type "dict")).keeps (pushCells_keeps _ _);have dead:∀c,s.heap.objs.size<=c->s.heap.get? c=none:=fun c h=>Heap.get?_none_of_le h;have own1:∀p∈cellsFrom (s.heap.objs.size+1) scope.names [],s.heap.objs.size+1<=p.2∧(p.1,NameKind.cell)∈scope.names:=fun p hp=>by
  obtain⟨n,c⟩:=p;refine⟨(ok.empty n c hp).2,?_⟩;rcases O4 _ _ _ _ hp with q|q
  ·first |exact Cy q|replace hp:=D8 q hp|cases q
  ·exact q
 have notfree:∀x,(x,NameKind.free)∈scope.names->∀p∈cellsFrom (s.heap.objs.size+1) scope.names [],p.1≠x:=fun x hx p hp e=>by
  have:=(own1 p hp).2;rw[e] at this;have a:=Kh hO.nodup this;have b:=Kh hO.nodup hx;rw[a] at b;cases b
 have freeLook:∀x,(x,NameKind.free)∈scope.names->∃c,(Em scope sci s.heap.objs.size cl env).cells.lookup x=some c∧env.cells.lookup x=some c:=fun x hx=>by
  rw[hcells,S0 (notfree x hx)];obtain⟨c,hc⟩:=h2 x hx;obtain⟨d,hd⟩:=S7 hc;exact⟨d,hd,(h1 _ (Gh hd)).1⟩
 have all:∀x c,(Em scope sci s.heap.objs.size cl env).cells.lookup x=some c->(s.heap.objs.size+1<=c∧(x,c)∈cellsFrom (s.heap.objs.size+1) scope.names [])∨(env.cells.lookup x=some c∧(x,NameKind.free)∈scope.names):=fun x c h=>by
  rw[hcells] at h;rcases List.mem_append.mp (Gh h) with q|q
  ·exact .inl ⟨(own1 _ q).1,q⟩
  ·exact .inr (h1 _ q)
 have outLive:∀x c,env.cells.lookup x=some c->c<s.heap.objs.size:=fun x c h=>by
  obtain⟨_,_,_,o,ho⟩:=he.own c (Ke h);exact Heap.lt_size ho
 refine⟨⟨rfl,by rw[<- hO.sci];exact hO.kind,he.glob,he.blt,fun b hb=>?_,⟨_,ns0,fun x v hx hv=>?_⟩,fun x hx=>?_,fun x y c hx hy=>?_,fun x c hx=>?_,fun c h=>absurd h (hO.nocd c)⟩,fun c hc=>?_,fun c hc=>?_⟩
 ·have big:∀b,s.heap.objs.size<=b->(∃o,(pushCells (s.heap.push {cls:=.type "dict",data:=.dict #[]}) scope.names).get? b=some o)->b ∉ α∧b ∉ C.tabs∧C.B.objs.size<=b∧∃o,(pushCells (s.heap.push {cls:=.type "dict",data:=.dict #[]}) scope.names).get? b=some o:=fun b hb hl=>by
   have hB:=Nat.le_trans (Py G hr) hb;refine⟨fun q=>?_,Fk G hB,hB,hl⟩;obtain⟨o,ho⟩:=Iv hr q;rw[dead b hb] at ho;cases ho
  rcases List.mem_cons.mp hb with rfl|hb
  ·exact big _ (Nat.le_refl _) (by obtain⟨o,_,_,ho,_⟩:=ns0;exact⟨o,ho⟩)
  ·rw[hcells,List.map_append] at hb;rcases List.mem_append.mp hb with hb|hb
   ·obtain⟨⟨n,c⟩,hm,rfl⟩:=List.mem_map.mp hb;obtain⟨⟨o,ho,_⟩,hle⟩:=ok.empty n c hm;exact big c (Nat.le_of_succ_le hle) ⟨o,ho⟩
   ·obtain⟨⟨n,c⟩,hm,rfl⟩:=List.mem_map.mp hb;obtain⟨a1,a2,a3,o,a4⟩:=he.own c (Ke (h1 _ hm).1);exact⟨a1,a2,a3,o,keep _ _ a4⟩
 ·exfalso
  have:scope.names.lookup x=some .local:=by
   rw[<- hO.sci,Lv] at hx;cases q:scope.names.lookup x with
   | none=>rw[q] at hx;cases hx
   | some kd=>
    rw[q] at hx;simp only[Option.map_some,Option.some.injEq] at hx
    split at hx
    ·cases hx
    ·rw[hx]
  unfold Rk at hv;rw[if_neg (by rw[this];simp)] at hv
  first |exact Cy hv|replace hp:=D8 hv hp|cases hv
 ·have:scope.names.lookup x=some .cell∨scope.names.lookup x=some .free:=by
   rw[<- hO.sci,Lv] at hx;cases q:scope.names.lookup x with
   | none=>rw[q] at hx;simp at hx
   | some kd=>
    rw[q] at hx;cases kd with
    | free=>exact .inr rfl
    | cell=>exact .inl rfl
    | _=>simp at hx
  rcases this with q|q
  ·have hs:((cellsFrom (s.heap.objs.size+1) scope.names []).lookup x).isSome=true:=cellsFrom_some _ _ _ (.inl q);obtain⟨c,hc⟩:=Option.isSome_iff_exists.mp hs;refine⟨c,none,by rw[hcells];exact Vs hc,(ok.empty x c (Gh hc)).1,fun v hv=>?_⟩;unfold Rk at hv;rw[if_neg (by rw[q];simp)] at hv
   first |exact Cy hv|replace hp:=D8 hv hp|cases hv
  ·obtain⟨c,hc1,hc2⟩:=freeLook x (Lw q);have hk:sc.names.lookup x=some .cell∨sc.names.lookup x=some .free:=hO.free (x,.free) (Lw q) rfl;obtain⟨c',ov,e1,⟨o,e2,e3⟩,e4⟩:=he.cell x hk;rw[hc2] at e1;cases e1;refine⟨c,ov,hc1,⟨o,keep _ _ e2,e3⟩,fun v hv=>e4 v ?_⟩;unfold Rk at hv
   rwa [if_pos q] at hv
 ·rcases all x c hx with ⟨a1,a2⟩|⟨a1,a2⟩
  ·rcases all y c hy with ⟨b1,b2⟩|⟨b1,b2⟩
   ·exact congrArg Prod.fst (Oy ok.apart a2 b2 rfl)
   ·exact absurd (outLive y c b1) (Nat.not_lt.mpr (Nat.le_of_succ_le a1))
  ·rcases all y c hy with ⟨b1,b2⟩|⟨b1,b2⟩
   ·exact absurd (outLive x c a1) (Nat.not_lt.mpr (Nat.le_of_succ_le b1))
   ·exact he.apart x y c a1 b1
 ·rcases all x c hx with ⟨a1,a2⟩|⟨a1,a2⟩
  ·rw[hloc];exact Nat.ne_of_gt (Nat.lt_of_succ_le a1)
  ·have:=outLive x c a1;rw[hloc];exact Nat.ne_of_lt this
 ·have big:s.heap.objs.size<=c:=by
   rcases List.mem_cons.mp hc with rfl|hc
   ·exact Nat.le_refl _
   ·obtain⟨n,hn,e⟩:=List.mem_filterMap.mp hc;rcases all n c e with ⟨a1,a2⟩|⟨a1,a2⟩
    ·exact Nat.le_of_succ_le a1
    ·exact absurd a2 (hns n hn)
  exact⟨dead c big,big⟩
 ·rcases List.mem_cons.mp hc with rfl|hc
  ·exact .inl (Nat.le_refl _)
  ·rw[hcells,List.map_append] at hc;rcases List.mem_append.mp hc with hb|hb
   ·obtain⟨⟨n,c⟩,hm,rfl⟩:=List.mem_map.mp hb;exact .inl (Nat.le_of_succ_le (ok.empty n c hm).2)
   ·obtain⟨⟨n,c⟩,hm,rfl⟩:=List.mem_map.mp hb;exact .inr (Ke (h1 _ hm).1)
end
theorem P2{prog:Program}{w:World}{A:Around}{R:Result->Shared->Prop}{s:Shared}{elt target iter ifs c0 rest scope pos it acc env}
  (h0:codeAny (model prog w) A (.compLoop (.ListComp elt (c0::⟨target,iter,ifs,0⟩::rest) scope pos) 1 it acc env) R s)
  (h:wpAny (model prog w) A (pyIter it) (fun it' s'=>codeAny (model prog w) A (.compLoop (.ListComp elt (c0::⟨target,iter,ifs,0⟩::rest) scope pos) 1 it' acc env) R s')
   (notedBy (model prog w) A env fun x s'=>R (.error x) s') s):
  codeAny (model prog w) A (.compStart (.ListComp elt (c0::⟨target,iter,ifs,0⟩::rest) scope pos) 1 it acc env) R s:=by
 refine codeAny_of_tree ?_;show wpAny _ _ ((compStart (.ListComp elt (c0::⟨target,iter,ifs,0⟩::rest) scope pos) 1 it acc env).onRaise (fun x=>do noteFrame x env;standAt theWindowsPlace)) _ _ s;refine wpAny_notedAt ?_;unfold compStart;show wpAny _ _ (ask >>=_) _ _ s;refine wpAny_bind (wpAny_askSetting (wpAny_ite ?_))
 split
 ·first
   | exact wpAny_bind (wpAny_pure (wpAny_pure (And.intro rfl h0)))
   | exact wpAny_pure (And.intro rfl h0)
 ·first
   | exact wpAny_bind (wpAny_rule (wpAny_bind (wpAny_standAt (wpAny_bind (wpAny_mono h (fun it' s' h'=>wpAny_pure (And.intro rfl h')) fun zz zz x=>x)))))
   | (refine wpAny_bind (wpAny_rule ?_);show wpAny _ _ (standAt iter.pos >>=_) _ _ s;exact wpAny_bind (wpAny_standAt (wpAny_bind (wpAny_mono h (fun it' s' h'=>wpAny_pure (And.intro rfl h')) fun zz zz x=>x))))
section
variable {C:Cx} {sc:Scope} {k:Nat}
abbrev ItG:=MV->Hp->Option (Nat->P (Option MV))
def J2(fit:Aj->P MV)(g:ItG)(t:Aj->MV->P Aj)(ck:Aj->P Bool)(b:Nat->Aj->P Aj)(n:Nat)(i:Nat)(ρ:Aj):P Aj:=
 B9 (fit ρ) fun m=>fun H=>(g m H).bind fun src=>F5 src t ck (b i) n 0 ρ H
def Br(fit:Aj->P MV)(g:ItG)(t:Aj->MV->P Aj)(ck:Aj->P Bool)(b:Nat->Aj->P Aj)(n:Nat)(cap:Aj->Aj)(ρ:Aj):P MV:=
 B9 (fit ρ) fun m=>fun H=>(g m H).bind fun src=>B9 (F5 src t ck (b H.length) n 0 (cap ρ)) (fun zz=>Bg (.ref H.length)) (H++[.list []])
theorem A7e(G:Gd C){elt:Expr}{c0:Comprehension}{rest:List Comprehension}{scope:Scope}{pos:Pos}{Cb iter:Expr}{ifs:List Expr}{tail:Value->Env->Sem Unit}{ns ms:List Str}
  {fit:Aj->P MV} {g:ItG} {t:Aj->MV->P Aj} {ck:Aj->P Bool} {b:Nat->Aj->P Aj} (n:Nat)
  (hit:SE C sc k iter fit) (hg:Jn C Cb g) (ht:TG C sc ns Cb t) (hc:CT C sc k ifs ck) (hb:CE C sc k ms tail b)
  (hturn:∀it acc env,compTurn (.ListComp elt (c0::⟨Cb,iter,ifs,0⟩::rest) scope pos) 1 it acc env=(do
   standAt iter.pos
   match <- pyNext it with
   | none=>pure (.done .next)
   | some v=>
    letOwnedTupleGo Cb it v
    PySem.assign Cb env v
    let mut ok:=true
    for c in ifs do
     if ok then ok <- isTrue c env (eval c env)
    if ok then tail acc env
    again (.compLoop (.ListComp elt (c0::⟨Cb,iter,ifs,0⟩::rest) scope pos) 1 it acc env)))
  (hs:∀env x,foldedSetIterable iter env x=pure x:=by intro _ _;rfl):
  CE C sc k (ns++ms) (fun acc env=>do
   let x <- eval iter env
   standAt iter.pos
   let x <- foldedSetIterable iter env x
   let _ <- runOwn (.compStart (.ListComp elt (c0::⟨Cb,iter,ifs,0⟩::rest) scope pos) 1 (<- holding [x] (pyIter x)) acc env) env) (J2 fit g t ck b n):=by
 intro A env α ρ H s Q E i a ρ' H' hR hr he hi hf hq;obtain⟨m,H₁,qA,hf⟩:=Aw hf;simp only[Option.bind_eq_some_iff] at hf;obtain⟨src,gA,hf⟩:=hf;refine wpAny_bind (hit A env α ρ H s _ _ _ _ hR hr he qA fun αA sA vA rH xO wA=>wpAny_bind (wpAny_standAt (wpAny_bind (wpAny_of_eq (hs env vA) (wpAny_bind (wpAny_holding ?_))))));refine hg m H₁ src gA A αA sA vA _ _ rH wA fun it J I sB S hI hJ rI xP=>?_;have eP:=he.ext (xO.trans xP);refine wpAny_bind (wpAny_runOwn ?_);have jo:∀b∈J,b ∉ Fb env:=fun b hb q=>by
  obtain⟨_,_,_,o,ho⟩:=(he.ext xO).own b q;rw[(hJ b hb).1] at ho;cases ho
 have main:codeAny (model C.prog C.w) A (.compLoop (.ListComp elt (c0::⟨Cb,iter,ifs,0⟩::rest) scope pos) 1 it (.ref a) env)
   (fun r s'=>match r with | .ok f=>wpAny (model C.prog C.w) A (pure ()) Q E s' | .error e=>cameBackBy (model C.prog C.w) A env E e s') sB:=
  Yd G (α₀:=αA) (s₀:=sA) (X:=slots env (ns++ms)) n hturn ht hc hb S hR xP.weak (fun zz h=>h) rI eP (Hz xO.pre hi) hI
   (fun b hb=>⟨(hJ b hb).1,(hJ b hb).2.1,(hJ b hb).2.2,jo b hb⟩) hf fun α' s' r' e' x' zz=>wpAny_pure (hq α' s' r' e' (xO.weak.trans x'))
 exact P2 main (S.again A αA sB 0 _ _ hI main)
theorem Qv(G:Gd C){elt:Expr}{rest:List Comprehension}{scope sci:Scope}{pos pos':Pos}{Cb iter:Expr}{ifs:List Expr}{tail:Value->Env->Sem Unit}{ns ms:List Str}
  {fit:Aj->P MV} {g:ItG} {t:Aj->MV->P Aj} {ck:Aj->P Bool} {b:Nat->Aj->P Aj} (n:Nat)
  (hO:InnerOk C scope sc sci) (hns:∀x∈ns++ms,(x,NameKind.free) ∉ scope.names) (hloc:∀x∈scope.names,x.2=.local->scope.names.lookup x.1=some .local)
  (hit:SE C sc k iter fit) (hg:Jn C Cb g) (ht:TG C sci ns Cb t) (hc:CT C sci k ifs ck) (hb:CE C sci k ms tail b)
  (hturn:∀it acc env,compTurn (.ListComp elt (⟨Cb,iter,ifs,0⟩::rest) scope pos) 0 it acc env=(do
   standAt iter.pos
   match <- pyNext it with
   | none=>pure (.done .next)
   | some v=>
    letOwnedTupleGo Cb it v
    PySem.assign Cb env v
    let mut ok:=true
    for c in ifs do
     if ok then ok <- isTrue c env (eval c env)
    if ok then tail acc env
    again (.compLoop (.ListComp elt (⟨Cb,iter,ifs,0⟩::rest) scope pos) 0 it acc env)))
  (hs:∀env x,foldedSetIterable iter env x=pure x)
  {A:Around} {env:Env} {α:List Addr} {ρ:Aj} {H:Hp} {s:Shared} {use:Option (Value->Sem Unit)} {Q:Value->Shared->Prop} {E:Value->Shared->Prop} {r:MV} {H':Hp}
  (hR:Room k A) (hr:HR C α H s) (he:ER C α ρ sc env s.heap) (hf:Br fit g t ck b n (Rk scope) ρ H=some (r,H'))
  (hq:∀α' s' L acc,HR C α' H' s'->Ext C [] α s α' s'->VRel α' r acc->s.heap.get? L=none->C.B.objs.size<=L->L ∉ α'->(∃m,s'.heap.Ns L m)->compPost (model C.prog C.w) A E use Q acc L (.ok .next) s'):
  wpAny (model C.prog C.w) A (comprehension (.ListComp elt (⟨Cb,iter,ifs,0⟩::rest) scope pos) scope env pos' (newList []) false (eval iter env) use) Q E s:=by
 obtain⟨m,H₁,qA,hf⟩:=Aw hf;simp only[Option.bind_eq_some_iff] at hf;obtain⟨src,gA,hf⟩:=hf;obtain⟨ρ',HP,qB,hf⟩:=Aw hf;kpf_c;obtain⟨cl,hclos,h1,h2⟩:=Vq (env:=env) (scope:=scope) (fun x hx=>by obtain⟨c,_,e,_⟩:=he.cell x (hO.free _ hx rfl);exact⟨c,e⟩);refine wpAny_comprehension_free rfl (hs env) hclos hO.kind hloc ?_;refine hit A env α ρ H s _ _ _ _ hR hr he qA fun αA sA vA rH xO wA=>?_;refine hg m H₁ src gA A αA sA vA _ _ rH wA fun it J I sB S hI hJ rI xP=>?_;have heB:=he.ext (xO.trans xP);refine Op G (xs:=[]) (r:=.ref H₁.length) (H':=H₁++[.list []]) rI .nil (by simp[Bd]) fun αC sC acc rC xJ wJ=>?_;refine P1 ?_;have eJ:=heB.ext xJ;obtain⟨eK,deadD,ownD⟩:=A4k G hO rC eJ h1 h2 (ns:=ns++ms) hns;have keep:∀b o,sC.heap.get? b=some o->(pushCells (sC.heap.push {cls:=.type "dict",data:=.dict #[]}) scope.names).get? b=some o:=fun b o e=>pushCells_keeps _ _ b o (Heap.get?_push_of_some _ e);have rD:HR C αC (H₁++[.list []]) {sC with heap:=pushCells (sC.heap.push {cls:=.type "dict",data:=.dict #[]}) scope.names}:=rC.step (fun b o h zz=>keep b o h) (fun b o h=>⟨o,keep b o h⟩) rC.gens rfl;have xK:Ext C [] αC sC αC {sC with heap:=pushCells (sC.heap.push {cls:=.type "dict",data:=.dict #[]}) scope.names}:=⟨List.prefix_refl _,fun zz h=>.inl h,fun b o h zz zz zz=>keep b o h,fun b o h=>⟨o,keep b o h⟩⟩;have jl:∀b∈J,∃o,sB.heap.get? b=some o:=S.alive 0 αA _ hI;have jl3:∀b∈J,∃o,sC.heap.get? b=some o:=fun b hb=>by obtain⟨o,ho⟩:=jl b hb;exact xJ.live b o ho
 have jn:∀b∈J,b ∉ αC:=fun b hb q=>by
  rcases xJ.fresh b q with z|z
  ·exact(hJ b hb).2.2 z
  ·obtain⟨o,ho⟩:=jl b hb;rw[ho] at z;cases z
 have hIC:I 0 αC sC.heap:=S.dep _ _ _ _ _ hI xJ.pre fun b hb o ho=>xJ.keep b o ho (hJ b hb).2.2 (fun h=>nomatch h) (Fk G (hJ b hb).2.1);have hID:=S.dep _ _ _ αC (pushCells (sC.heap.push {cls:=.type "dict",data:=.dict #[]}) scope.names) hIC (List.prefix_refl _) fun b hb o ho=>keep b o ho;have eenv:({newEnv scope sC.heap.objs.size env.globals (cellsFrom (sC.heap.objs.size+1) scope.names cl) env.qual none .none (some env) builtinsNs with scope:=relabel scope env}:Env)=Em scope sci sC.heap.objs.size cl env:=by
  unfold Em;rw[Vr (by rw[he.scope];exact he.kind),he.scope,hO.sci]
 rw[eenv];obtain⟨a,hα,rfl⟩:=wJ;have xBC:=xP.trans xJ;have deadL:s.heap.get? sC.heap.objs.size=none:=(xO.trans xBC).dead Jx;have main:codeAny (model C.prog C.w) A (.compLoop (.ListComp elt (⟨Cb,iter,ifs,0⟩::rest) scope pos) 0 it (.ref a) (Em scope sci sC.heap.objs.size cl env))
   (compPost (model C.prog C.w) A E use Q (.ref a) sC.heap.objs.size) {sC with heap:=pushCells (sC.heap.push {cls:=.type "dict",data:=.dict #[]}) scope.names}:=by
  refine Yd G (α₀:=αA) (s₀:=sA) (X:=[]++slots (Em scope sci sC.heap.objs.size cl env) (ns++ms)) n hturn ht hc hb S hR (xBC.trans xK).weak (fun zz h=>h) rD eK hα hID
   (fun b hb=>⟨(hJ b hb).1,(hJ b hb).2.1,jn b hb,fun q=>?_⟩) qB fun α' s' r' e' x' p'=>?_
  ·rcases ownD b q with z|z
   ·obtain⟨o,ho⟩:=jl3 b hb;exact absurd (Heap.lt_size ho) (Nat.not_lt.mpr z)
   ·obtain⟨_,_,_,o,ho⟩:=(he.ext xO).own b z;rw[(hJ b hb).1] at ho;cases ho
  ·have xx:Ext C [] αA sA α' s':=x'.drop fun c hc=>xBC.dead (deadD c hc).1;refine hq α' s' _ _ r' (xO.trans xx) ⟨a,Hz p' hα,rfl⟩ deadL (Py G rC) (e'.own _ (.head _)).1 ?_;obtain⟨m,hm,_⟩:=e'.loc;exact⟨m,hm⟩
 exact codeAny_compStart_list main (S.again A αC _ 0 _ _ hID main)
theorem Ye(G:Gd C){elt:Expr}{rest:List Comprehension}{scope sci:Scope}{pos:Pos}{Cb iter:Expr}{ifs:List Expr}{tail:Value->Env->Sem Unit}{ns ms:List Str}
  {fit:Aj->P MV} {g:ItG} {t:Aj->MV->P Aj} {ck:Aj->P Bool} {b:Nat->Aj->P Aj} (n:Nat)
  (hO:InnerOk C scope sc sci) (hns:∀x∈ns++ms,(x,NameKind.free) ∉ scope.names)
  (hit:SE C sc k iter fit) (hg:Jn C Cb g) (ht:TG C sci ns Cb t) (hc:CT C sci k ifs ck) (hb:CE C sci k ms tail b)
  (hturn:∀it acc env,compTurn (.ListComp elt (⟨Cb,iter,ifs,0⟩::rest) scope pos) 0 it acc env=(do
   standAt iter.pos
   match <- pyNext it with
   | .none=>pure (.done .next)
   | some v=>
    letOwnedTupleGo Cb it v
    PySem.assign Cb env v
    let mut ok:=true
    for c in ifs do
     if ok then ok <- isTrue c env (eval c env)
    if ok then tail acc env
    again (.compLoop (.ListComp elt (⟨Cb,iter,ifs,0⟩::rest) scope pos) 0 it acc env)):=by intro _ _ _;rfl)
  (hs:∀env x,foldedSetIterable iter env x=pure x:=by intro _ _;rfl):
  SE C sc k (.ListComp elt (⟨Cb,iter,ifs,0⟩::rest) scope pos) (Br fit g t ck b n (Rk scope)):=by
 intro A env α ρ H s Q E r H' hR hr he hf hp;rw[eval_ListComp];refine Qv G n hO hns (fun x hx hl=>?_) hit hg ht hc hb hturn hs hR hr he hf fun α' s' L acc r' x' w' dL bL nL hns'=>?_
 ·obtain⟨y,kd⟩:=x;cases hl;exact Kh hO.nodup hx
 ·obtain⟨m,hm⟩:=hns';refine⟨m,hm,fun h' hs'=>?_⟩;have rI:HR C α' H' {s' with heap:=h'}:=r'.off (tk:=s'.toks) nL bL (B1 hs');have xP:Ext C [] α s α' {s' with heap:=h'}:=x'.stepJ (J:=[L]) (.off (tk:=s'.toks) (B1 hs')) fun j hj=>by cases List.mem_singleton.mp hj;exact dL
  exact hp α' _ acc rI xP w'
theorem O5(G:Gd C){x:Str}{p' spos:Pos}{elt:Expr}{rest:List Comprehension}{scope sci:Scope}{pos:Pos}{Cb iter:Expr}{ifs:List Expr}{tail:Value->Env->Sem Unit}{ns ms:List Str}
  {fit:Aj->P MV} {g:ItG} {t:Aj->MV->P Aj} {ck:Aj->P Bool} {b:Nat->Aj->P Aj} (n:Nat)
  (hsw:∀env:Env,env.scope=sc->swapsWith (.ListComp elt (⟨Cb,iter,ifs,0⟩::rest) scope pos) (some (.Name x p')) spos.line env=pure true)
  (hx:Ss sc x=true)
  (hO:InnerOk C scope sc sci) (hns:∀x∈ns++ms,(x,NameKind.free) ∉ scope.names)
  (hit:SE C sc k iter fit) (hg:Jn C Cb g) (ht:TG C sci ns Cb t) (hc:CT C sci k ifs ck) (hb:CE C sci k ms tail b)
  (hturn:∀it acc env,compTurn (.ListComp elt (⟨Cb,iter,ifs,0⟩::rest) scope pos) 0 it acc env=(do
   standAt iter.pos
   match <- pyNext it with
   | .none=>pure (.done .next)
   | some v=>
    letOwnedTupleGo Cb it v
    PySem.assign Cb env v
    let mut ok:=true
    for c in ifs do
     if ok then ok <- isTrue c env (eval c env)
    if ok then tail acc env
    again (.compLoop (.ListComp elt (⟨Cb,iter,ifs,0⟩::rest) scope pos) 0 it acc env)):=by intro _ _ _;rfl)
  (hs:∀env x,foldedSetIterable iter env x=pure x:=by intro _ _;rfl):
  SS C sc k (.Assign [.Name x p'] (.ListComp elt (⟨Cb,iter,ifs,0⟩::rest) scope pos) spos) (fun ρ=>B9 (Br fit g t ck b n (Rk scope) ρ) fun v=>Bg (.next,upd ρ x v)):=by
 intro A env α ρ H s Q E fl ρ' H' hR hr he hf hq;obtain⟨v,H₁,qA,hf⟩:=Aw hf;kpf_c;rw[exec_Assign_Name_used _ _ _ _ (hsw env he.scope)];refine wpAny_bind (wpAny_standAt (wpAny_bind ?_));show wpAny _ A (do let _ <- comprehension (.ListComp elt (⟨Cb,iter,ifs,0⟩::rest) scope pos) scope env _ (newList []) false (eval iter env) (some (PySem.assign (.Name x p') env))) _ _ s;refine wpAny_bind (wpAny_mono (Qv (use:=some (PySem.assign (.Name x p') env)) (Q:=fun zz s'=>Q .next s') G n hO hns (fun x hx hl=>?_) hit hg ht hc hb hturn hs hR hr he qA fun α' s' L acc r' x' w' dL bL nL hns'=>?_)
  (fun zz s' hq=>wpAny_pure (wpAny_pure hq)) fun zz zz e=>e)
 ·obtain⟨y,kd⟩:=x;cases hl;exact Kh hO.nodup hx
 ·obtain⟨m,hm⟩:=hns';have nO:L ∉ Fb env:=fun q=>by
   obtain⟨_,_,_,o,ho⟩:=he.own L q;rw[dL] at ho;cases ho
  show wpAny _ A (PySem.assign (.Name x p') env acc) _ _ s';refine wpAny_assign_Name (J0 G r' (he.ext x') w' (D9 hx) fun sB rI eP xP=>?_);refine⟨m,hm.at fun o ho=>xP.keep L o ho nL nO (Fk G bL),fun h' hs'=>?_⟩;have rC:HR C α' H' {sB with heap:=h'}:=rI.off (tk:=sB.toks) nL bL (B1 hs');have st:StepJ C [L] α' sB α' {sB with heap:=h'}:=.off (tk:=sB.toks) (B1 hs');have eJ:=eP.stepJ st fun j hj=>by cases List.mem_singleton.mp hj;exact nO
  exact hq α' _ _ rC eJ ((x'.weak.trans xP).stepJ st fun j hj=>by cases List.mem_singleton.mp hj;exact dL) rfl
end
noncomputable def Iz(id:String)(a:Addr):Obj:={cls:=.type "builtin_function_or_method",data:=.fields #[.builtin id,.ref a]}
theorem Zp:typeLookup (.type "list") "append"=pure (some (.builtin "list.append")):=by rw[typeLookup_type,builtinLookup_eq_fast];lk
theorem Qw:typeOf (.builtin "list.append")=pure (.type "method_descriptor"):=by show builtinType _=_;rw[builtinType_eq_fast];lk
theorem A7f:typeLookup (.type "method_descriptor") "__get__"=pure (some (.builtin "method_descriptor.__get__")):=by rw[typeLookup_type,builtinLookup_eq_fast];lk
theorem A7g:typeLookup (.type "method_descriptor") "__set__"=pure none:=by rw[typeLookup_type,builtinLookup_eq_fast];lk
theorem A7h:typeLookup (.type "method_descriptor") "__delete__"=pure none:=by rw[typeLookup_type,builtinLookup_eq_fast];lk
theorem Zq:Slot "method_descriptor" "__get__" "method_descriptor.__get__":=
 .of (owner:="method_descriptor") (n:="__get__") (by rw[typeLookup_type,builtinLookup_eq_fast];lk) (by kd_p) (by kd_p) (by kd_p)
  (by first |exact .inl (by kd_p)|exact .inr (by kd_p)) (by rw[isSubtype_type];lk)
theorem Vt:entryFor table "method_descriptor.__get__"=some Builtin.«method_descriptor.__get__»:=entryFor_of_tree (by lk)
theorem Zr(a b c:Value):argsOk "method_descriptor.__get__" ⟨[a,b,c],[]⟩:=by unfold argsOk;lk
theorem A4m{prog:Program}{w:World}{A:Around}{E:Value->Shared->Prop}{s:Shared}{a:Addr}{xs:Array Value}{n:Nat}{P:Fin->Shared->Prop}
  (ho:s.heap.get? a=some {cls:=.type "list",data:=.seq xs n}) (h:P (.done (.ret (.ref s.heap.objs.size))) {s with heap:=s.heap.push (Iz "list.append" a)}):
  wpAny (model prog w) A (Builtin.«method_descriptor.__get__» ⟨[.builtin "list.append",.ref a,.type "list"],[]⟩) P E s:=by
 unfold Builtin.«method_descriptor.__get__»;refine wpAny_bind (wpAny_of_eq (a:=(.builtin "list.append",some (.ref a),some (.type "list"))) (by first |rfl|lk) ?_);dsimp only;rw[show Manifest.toldItsClass.contains "list.append"=false by kd_p,if_neg Bool.false_ne_true];have hT:s.TypeIs (.ref a) "list":=⟨_,ho,rfl⟩;have f:isSubtype (.type "list") (.type "list")=pure true:=by rw[isSubtype_type];lk
 repeat (any_goals (first |assumption|wp_step))
 rw[show (".".intercalate ("list.append".cutAt '.').dropLast)="list" by kd_p];refine wpAny_of_eq f ?_;rw[if_neg (by decide)];refine wpAny_pure ?_;exact wpAny_bind (wpAny_newObj_type (wpAny_pure h))
theorem Vu{prog:Program}{w:World}{A:Around}{E:Value->Shared->Prop}{s:Shared}{a:Addr}{xs:Array Value}{n:Nat}{u:Tok}{P:Fin->Shared->Prop}
  (ho:s.heap.get? a=some {cls:=.type "list",data:=.seq xs n}) (h:P (.done (.ret (.ref s.heap.objs.size))) {s with heap:=s.heap.push (Iz "list.append" a)}):
  wpAny (model prog w) A (Builtin.«object.__getattribute__» ⟨[.ref a,.str "append" u],[]⟩) P E s:=by
 obtain⟨hp,g,d,tk,os⟩:=s;have hT:(⟨hp,g,d,tk,os⟩:Shared).TypeIs (.ref a) "list":=⟨_,ho,rfl⟩;have f1:=Zp;have f2:=Qw;have f3:=A7f;have f4:=A7g;have f5:=A7h;unfold Builtin.«object.__getattribute__»
 repeat (any_goals (first |assumption|((with_reducible show wpAny _ _ (call (Value.builtin "method_descriptor.__get__") _ _) _ _ _);refine wpAny_call_entry Zq Qw Vt (A4m ho ?_) (Zr _ _ _))|wp_step))
 exact⟨_,rfl,wpAny_pure h⟩
theorem O6{prog:Program}{w:World}{A:Around}{E:Value->Shared->Prop}{s:Shared}{a:Addr}{xs:Array Value}{n:Nat}{Q:Value->Shared->Prop}
  (ho:s.heap.get? a=some {cls:=.type "list",data:=.seq xs n}) (h:∀tk,Q (.ref s.heap.objs.size) {s with heap:=s.heap.push (Iz "list.append" a),toks:=tk}):
  wpAny (model prog w) A (getAttr (.ref a) "append" true) Q E s:=by
 obtain⟨hp,g,d,tk,os⟩:=s;have hT:∀tk',(⟨hp,g,d,tk',os⟩:Shared).TypeIs (.ref a) "list":=fun zz=>⟨_,ho,rfl⟩;have f3:=F.slot_list_getattribute.lookup;have f4:=F.slot_list_getattribute.bind (.ref a);have f5:=am_list_getattr_none;unfold getAttr getAttrBy
 repeat (any_goals (first |assumption|exact hT _|((with_reducible show wpAny _ _ (call (Value.builtin "list.__getattribute__") _ _) _ _ _);refine wpAny_call_entry F.slot_list_getattribute (hT _) am_entry_list_getattribute (Vu ho ⟨_,rfl,?_⟩) (F.args_list_getattribute_2 _ _))|wp_step))
 exact h _
theorem Rl{prog:Program}{w:World}{A:Around}{E:Value->Shared->Prop}{s:Shared}{l:Addr}{x:Value}{xs:Array Value}{n:Nat}{Q:Unit->Shared->Prop}(ho:s.heap.get? l=some {cls:=.type "list",data:=.seq xs n})(h:Q () s):
  wpAny (model prog w) A (checkBoundCall "list.append" ⟨[.ref l,x],[]⟩) Q E s:=by
 have hT:s.TypeIs (.ref l) "list":=⟨_,ho,rfl⟩;have f1:isSubtype (.type "list") (.type "module")=pure false:=by rw[isSubtype_type];lk
 have f2:isSubtype (.type "list") (.type "type")=pure false:=by rw[isSubtype_type];lk
 unfold checkBoundCall;rw[signature?_of (id:="list.append") (n:=['d','n','e','p','p','a']) (o:=['t','s','i','l']) (by lk) F.owner_list];have f3:builtinKind "list.append"=some .method:=by kd_p
 simp only[f3]
 repeat (any_goals (first |assumption|wp_step))
theorem Rm{as:Args}:(Code.builtin "list.append" as).quiet=true:=Code.quiet_builtin _ (by kd_p)
theorem Ml{prog:Program}{w:World}{A:Around}{E:Value->Shared->Prop}{s:Shared}{b l:Addr}{x:Value}{items:Array Value}{Q:Value->Shared->Prop}
  (hb:s.heap.get? b=some (Iz "list.append" l)) (hl:s.heap.PlainList l items)
  (hQ:∀h',h'.PlainList l (items.push x)->Heap.SameBut l s.heap h'->Q .none {s with heap:=h'}) (hsz:items.size<=sizeLine):
  wpAny (model prog w) A (call (.ref b) [x]) Q E s:=by
 obtain⟨n,ho⟩:=hl;refine wpAny_call (codeAny_of_tree ?_);show wpAny _ A.in1 (callAny (.ref b) ⟨[x],[]⟩) _ _ s;simp only[callAny];refine wpAny_bind (wpAny_load hb ?_);simp only[Iz,show (Value.type "builtin_function_or_method"==Value.type "method"||Value.type "builtin_function_or_method"==Value.type "builtin_function_or_method"||Value.type "builtin_function_or_method"==Value.type "method-wrapper")=true by decide,if_true];refine PySem.W.KFB.if_so (by decide) ?_;refine wpAny_bind (Rl ho ?_);refine wpAny_bind (wpAny_pure (wpAny_pure ?_));refine⟨Rm,codeAny_builtin entry_list_append ?_⟩;show wpAny _ _ (updateSeq l (·.push x) >>=fun zz=>ret .none) _ _ s;refine wpAny_bind ?_;refine wpAny_updateSeq ho rfl (wpAny_pure (hQ _ ⟨n+1,?_⟩ (Heap.SameBut.update ..)));rw[Heap.get?_update_self _ ho (by rw[Obj.mapSeq_push_plain];rfl),Obj.mapSeq_push_plain]
section
variable {C:Cx} {sc:Scope} {k:Nat}
def Yg(m:MV):P MV:=fun H=>(asR m).bind fun j=>(H[j]?.bind Kn).map fun zz=>(.ref H.length,H++[.meth "list.append" j])
theorem Qx(G:Gd C){o:Expr}{pos:Pos}{f:Aj->P MV}(h:SE C sc k o f)
  (he:∀env,eval (.Attribute o "append" pos) env=(do
   let o' <- eval o env
   standAt pos.atName
   let r <- holding [o'] (getAttr o' "append" true)
   letTemporaryGo o o' r
   pure r):=by intro _;rfl):SE C sc k (.Attribute o "append" pos) (fun ρ=>B9 (f ρ) Yg):=by
 intro A env α ρ H s Q E r H' hR hr hE hf hp;obtain⟨m,H₁,qA,h1⟩:=Aw hf;refine Attribute_any_ (h A env α ρ H s _ _ _ _ hR hr hE qA fun αA sA vA rH xO wA=>?_) (he env);obtain⟨j,e1,h1⟩:=Dw h1;obtain⟨xs,e,h1⟩:=Ju h1;replace hp:=D8 (congrArg some h1) hp;obtain rfl:=Ii e1;have e:=Fi e;obtain⟨a,hα,rfl⟩:=wA;obtain⟨a',hα',vs,⟨n,ho⟩,_⟩:=rH.at e;rw[hα] at hα';cases hα';exact O6 ho fun tk=>(hp.chain xO) _ _ _ (rH.alloc G (Iz "list.append" a) (.meth "list.append" _) tk fun α' h p ho=>⟨a,Hz p hα,ho⟩) (.alloc _ _) (Fc rH _)
def It(tab:Value->Option (List MV->P MV)):MV->List MV->P MV:=fun m ms H=>match m with
 | .ref j=>(match H[j]? with
  | some (.meth id i)=>if id="list.append" then (match ms with
   | [x]=>Bk (.ref i) x H
   | _=>.none) else .none
  | _=>.none)
 | .val v=>(match tab v with
  | some g=>g ms H
  | .none=>.none)
 | _=>.none
theorem Kp.meth{a:Addr}{o:Obj}{vs:Array Value}{h:Heap}(ho:h.get? a=some o)(hc:o.cls=.type "builtin_function_or_method")(hd:o.data=.fields vs):Kp C (.ref a) h:=by
 refine⟨.machine,.inr (.inl rfl),?_⟩;refine(Looks.ld (part:=.none) ho).andThen ?_;rw[hd];dsimp only;rw[hc];exact .now
theorem Vv{tab:Value->Option (List MV->P MV)}(ht:∀v g,tab v=some g->CallOk C k v g∧KpA C v):Oz C k (It tab):=by
 intro A α H s Q E m f ms vs r H' hR hr hv hvs hf hp;unfold It at hf
 split at hf
 ·split at hf
  ·rename_i e
   split at hf
   ·rename_i ei;subst ei
    split at hf
    ·cases hvs with
     | cons hx t=>cases t with
      | nil=>
       obtain⟨b,hb,rfl⟩:=hv;obtain⟨b',hb',l,hl,ho⟩:=hr.at e;rw[hb] at hb';cases hb';refine⟨.meth ho rfl rfl,?_⟩
       ·obtain⟨i',xs,el,e2,hlen,rfl,rfl⟩:=Qt hf;cases el
        ·obtain⟨l',hl',ws,hpl,hrel⟩:=hr.at e2;rw[hl] at hl';cases hl';refine Ml ho hpl (fun h' h1 h2=>?_) (by show ws.size<=sizeLine;rw[<- Array.length_toList,<- hrel.length];exact Nat.le_of_lt hlen);have hoo:ORel C α h' l (.list (_++[_])):=⟨_,h1,by rw[Array.toList_push];exact hrel.append (.cons hx .nil)⟩;exact hp _ _ _ (hr.turn hl (B1 h2) hoo) (.turn hr hl (B1 h2) hoo) rfl
    ·kpf_c
   ·kpf_c
  ·kpf_c
 ·first |exact Cy hv|replace hp:=D8 hv hp|cases hv
  split at hf
  ·rename_i g e;obtain⟨c,kp⟩:=ht _ _ e;exact⟨kp _ _ _ hr,c A α H s Q E ms vs r H' hR hr hvs hf hp⟩
  ·kpf_c
 ·kpf_c
end
end Mine.Internal
end
noncomputable section
open PySem PySem.W PySem.NumText PyProof.Rows
namespace Mine.Internal
local macro_rules | `(tactic|lk)=>`(tactic|first |kernel_rfl|decide+kernel)
local macro_rules | `(tactic|kd_p)=>`(tactic|decide+kernel)
set_option hygiene false in
local macro_rules | `(tactic|kpf_c)=>`(tactic|first |exact Cy hf|replace hp:=D8 hf hp|cases hf)
set_option hygiene false in
local macro_rules | `(tactic|kcf_m)=>`(tactic|refine On fun Gx hGx=>?_)
local macro_rules | `(tactic|w_up)=>`(tactic|repeat z_go)
theorem O7:mroOf (.type "object")=pure [.type "object"]:=by rw[mroOf_type];lk
theorem P3:typeLookup (.type "object") "__new__"=pure (some (.builtin "object.__new__")):=by rw[typeLookup_type,builtinLookup_eq_fast];lk
theorem Vw:isSubtype (.type "object") (.type "object")=pure true:=by rw[isSubtype_type];lk
theorem P4:Slot "object" "__init__" "object.__init__":=
 .of (owner:="object") (n:="__init__") (by rw[typeLookup_type,builtinLookup_eq_fast];lk) (by kd_p) (by kd_p) (by kd_p)
  (by first |exact .inl (by kd_p)|exact .inr (by kd_p)) (by rw[isSubtype_type];lk)
theorem P5:TypeCalled "object" "object.__new__" "object.__init__":=
 ⟨by kd_p,by kd_p,⟨_,_,O7⟩,madeBy_type O7 P3 (by kd_p),by kd_p,Vw,P4⟩
theorem Nk:Bind.madeHere "object.__new__" (.type "object")=pure ():=by lk
theorem P6:isType (.type "object")=pure true:=by first |rfl|lk|(unfold isType;rw[isSubtype_type];lk)
noncomputable def K8:Obj:={cls:=.type "object",data:=.plain}
theorem Mm:Meets (Builtin.«object.__new__» ⟨[.type "object"],[]⟩) (fun zz R s=>R (.ok (.ret (.ref s.heap.objs.size))) {s with heap:=s.heap.push K8}):=
 .of_wp fun prog w A R s h=>by
  unfold Builtin.«object.__new__»;refine wpAny_bind (wpAny_of_eq (a:=true) P6 ?_);dsimp only;rw[if_neg (by decide)];refine wpAny_ite ?_;rw[if_neg (by kd_p)];refine wpAny_bind (wpAny_of_eq Nk ?_);refine wpAny_ite ?_;rw[if_neg (by decide)];rw[if_neg (by kd_p:¬typeHasDict (.type "object")=true)];refine wpAny_bind (wpAny_pure ?_);refine wpAny_bind (wpAny_newObj_type ?_);rw[if_neg (by kd_p)];exact wpAny_pure ⟨_,rfl,h⟩
theorem Ta{prog:Program}{w:World}{A:Around}{E:Value->Shared->Prop}{s:Shared}{Q:Value->Shared->Prop}
  (h:Q (.ref s.heap.objs.size) {s with heap:=s.heap.push K8}):wpAny (model prog w) A (call (.type "object") []) Q E s:=by
 refine callType_meets (Q₁:=fun obj sA=>obj=.ref s.heap.objs.size∧sA={s with heap:=s.heap.push K8}) P5 (by lk) (by lk) (entryFor_of_tree (by lk)) F.entry_object_init Mm ⟨rfl,rfl⟩ fun obj sA hq=>?_;obtain⟨rfl,rfl⟩:=hq;refine⟨⟨_,Heap.get?_push_size _ rfl,rfl⟩,?_,(fun zz R s=>R (.ok (.ret .none)) s),.of_wp fun prog w A R s hs=>wpAny_pure ⟨_,rfl,hs⟩,rfl,h⟩;unfold argsOk
 lk
theorem Vx{M:Model}{A:Around}{E:Value->Shared->Prop}{s:Shared}{Q:Value->Shared->Prop}{v:Value}{text:List Nat}{n:Int}
  (hs:(text.takeWhile (· != 0)).length<=640) (hr:(int_private% "readNumeral") 0 16 (text.takeWhile (· != 0))=(int_private% "Numeral.value") n)
  (ha:((text.takeWhile (· != 0)).length==text.length)=true) (h:Q (.int n s.toks) {s with toks:=s.toks+1}):
  wpAny M A ((int_private% "intFromText") v text 16) Q E s:=by
 obtain⟨hp,g,d,tk,os⟩:=s
 repeat (any_goals (first
  | assumption
  | (with_reducible refine wpAny_ite_true (decide_eq_true hs) ?_)
  | (with_reducible refine wpAny_ite_true (decide_eq_true ha) ?_)
  | wp_step))
 all_goals (try rw[hr])
 all_goals (try dsimp only)
 repeat (any_goals (first
  | assumption
  | (with_reducible refine wpAny_ite_true (decide_eq_true hs) ?_)
  | (with_reducible refine wpAny_ite_true (decide_eq_true ha) ?_)
  | wp_step))
theorem Tb{x:PySem.Str}{u t:Tok}{n:Int}(hs:((numTextOf x).takeWhile (· != 0)).length<=640)(hr:(int_private% "readNumeral") 0 16 ((numTextOf x).takeWhile (· != 0))=(int_private% "Numeral.value") n)
  (ha:(((numTextOf x).takeWhile (· != 0)).length==(numTextOf x).length)=true):
  Gives (Builtin.«int.__new__» ⟨[.type "int",.str x u,.int 16 t],[]⟩) (.int n):=
 .of_wp fun M A E s Q h=>by
  obtain⟨hp,g,d,tk,os⟩:=s;have f1:=F.conv_sub_int;have f2:=F.madeHere_int;have hk:=PySem.W.KIN.Hid.mk (And.intro hs (And.intro hr ha));clear hs hr ha
  repeat (any_goals (first
   | assumption
   | ((with_reducible show wpAny _ _ ((int_private% "intFromText") _ _ _) _ _ _);refine Vx hk.out.1 hk.out.2.1 hk.out.2.2 ?_)
   | wp_step))
  exact⟨_,rfl,h⟩
noncomputable def hexs:List Nat:=[48,49,50,51,52,53,54,55,56,57,65,66,67,68,69,70]
noncomputable def Gv(c:Nat):Nat:=if c<=57 then c-48 else c-55
theorem A7i:(hexs.map fun a=>hexs.map fun b=>(decide (((numTextOf ⟨#[a,b]⟩).takeWhile (· != 0)).length<=640),(int_private% "readNumeral") 0 16 ((numTextOf ⟨#[a,b]⟩).takeWhile (· != 0)),((numTextOf ⟨#[a,b]⟩).takeWhile (· != 0)).length==(numTextOf ⟨#[a,b]⟩).length))=
  hexs.map fun a=>hexs.map fun b=>(true,(int_private% "Numeral.value") ((16*Gv a+Gv b:Nat):Int),true):=by lk
theorem A4n(a:Nat)(ha:a∈hexs)(b:Nat)(hb:b∈hexs):((numTextOf ⟨#[a,b]⟩).takeWhile (· != 0)).length<=640∧(int_private% "readNumeral") 0 16 ((numTextOf ⟨#[a,b]⟩).takeWhile (· != 0))=(int_private% "Numeral.value") ((16*Gv a+Gv b:Nat):Int)∧
  (((numTextOf ⟨#[a,b]⟩).takeWhile (· != 0)).length==(numTextOf ⟨#[a,b]⟩).length)=true:=by
 have h:=List.map_inj_left.mp (List.map_inj_left.mp A7i a ha) b hb;exact⟨of_decide_eq_true (congrArg Prod.fst h),congrArg (fun p=>p.2.1) h,congrArg (fun p=>p.2.2) h⟩
section
variable {C:Cx} {sc:Scope} {k:Nat}
def D0p:List Nat->Option Int
 | [a,b]=>if a∈hexs∧b∈hexs then some ((16*Gv a+Gv b:Nat):Int) else none
 | _=>none
theorem Zs{l:List Nat}{i:Int}(h:D0p l=some i):∃a b,l=[a,b]∧a∈hexs∧b∈hexs∧i=((16*Gv a+Gv b:Nat):Int):=by
 rcases l with _|⟨a,_|⟨b,_|⟨c,l⟩⟩⟩ <;> try (exact Cy h)
 obtain⟨hc,e⟩:=Lm (show (if a∈hexs∧b∈hexs then _ else _)=_ from h);exact⟨a,b,rfl,hc.1,hc.2,(Option.some.inj e).symm⟩
def Vy:MV->MV->P MV:=fun x b H=>(Lo x).bind fun s=>(Pw b).bind fun n=>if n=16 then (D0p s.cps.toList).map fun i=>(.int i,H) else none
theorem A4o:CallOk C k (.type "int") (two Vy):=by
 refine .two fun A α H s Q E a b v u r H' hR hr hv hu hf hp=>?_;obtain⟨⟨x⟩,e1,hf⟩:=Dw (show (Lo a).bind _=_ from hf);obtain⟨n,e2,hf⟩:=Dw hf;obtain⟨en,hf⟩:=Lm hf;obtain⟨i,e3,hf⟩:=Ju hf;obtain⟨t,rfl⟩:=Cm e1 hv;obtain⟨t',rfl⟩:=C1 e2 hu;obtain⟨c,d,e,m1,m2,ei⟩:=Zs e3;obtain⟨x⟩:=x;cases e;subst en;subst ei;cases hf;obtain⟨h1,h2,h3⟩:=A4n c m1 d m2;exact callType_new F.called_int F.newNe_int (by lk) (by lk) (fun obj=>F.args_object_init_3 obj _ _) F.entry_int_new (Tb h1 h2 h3).meets ⟨rfl,hp.hereT hr _ ⟨_,rfl⟩⟩
def B43:List MV->P MV:=fun ms H=>match ms with
 | []=>some (.ref H.length,H++[.obj K8])
 | _=>none
theorem B44(G:Gd C):CallOk C k (.type "object") B43:=by
 intro A α H s Q E ms vs r H' hR hr hv hf hp;unfold B43 at hf
 split at hf
 ·first |exact Cy hv|replace hp:=D8 hv hp|cases hv
  kpf_c;exact Ta (hp _ _ _ (hr.alloc G K8 (.obj K8) s.toks fun α' h p ho=>ho) (.alloc _ _) (Fc hr _))
 ·kpf_c
end
end Mine.Internal
end
noncomputable section
open PySem PySem.W PyProof.Rows
namespace Mine.Internal
local macro_rules | `(tactic|lk)=>`(tactic|first |kernel_rfl|decide+kernel)
local macro_rules | `(tactic|kd_p)=>`(tactic|decide+kernel)
set_option hygiene false in
local macro_rules | `(tactic|kpf_c)=>`(tactic|first |exact Cy hf|replace hp:=D8 hf hp|cases hf)
set_option hygiene false in
local macro_rules | `(tactic|kcf_m)=>`(tactic|refine On fun Gx hGx=>?_)
local macro_rules | `(tactic|w_up)=>`(tactic|repeat z_go)
section
variable {C:Cx} {sc:Scope} {k:Nat}
noncomputable def J3(x y:Str):Bool:=(Builtin.Str.occurrences x y 0 x.length (x.length+1)).isEmpty
def Qy:MV->MV->MV->P MV:=fun x y z H=>(Lo x).bind fun x=>(Lo y).bind fun y=>(Lo z).bind fun zz=>if J3 x y=true then some (.str x,H) else none
theorem Lx{prog:Program}{w:World}{A:Around}{E:Value->Shared->Prop}{s:Shared}{x y z:Str}{t u v:Tok}{Q:Value->Shared->Prop}(h0:J3 x y=true)(h:Q (.str x t) s):
  wpAny (model prog w) A (call (.builtin "str.replace") [.str x t,.str y u,.str z v]) Q E s:=by
 have hc:((Builtin.Str.occurrences x y 0 x.length (x.length+1)).isEmpty||(y.length==0&&z.length==0))=true:=by
  unfold J3 at h0;rw[h0];rfl
 refine call_gives F.slot_str_replace (PySem.typeIs_str s _ _) F.entry_str_replace (F.args_str_replace_3 _ _ _) (gives_str_replace x y z t u v fun hf=>by rw[hc] at hf;cases hf) ?_;rw[if_pos hc];exact h
theorem O8:CallOk C k (.builtin "str.replace") (three Qy):=by
 refine .three fun A α H s Q E a b c v u w r H' hR hr hv hu hw hf hp=>?_;obtain⟨x,e1,hf⟩:=Dw (show (Lo a).bind _=_ from hf);obtain⟨y,e2,hf⟩:=Dw hf;obtain⟨z,e3,hf⟩:=Dw hf;obtain⟨h0,hf⟩:=Lm hf;obtain⟨t,rfl⟩:=Cm e1 hv;obtain⟨t',rfl⟩:=Cm e2 hu;obtain⟨t'',rfl⟩:=Cm e3 hw;replace hp:=D8 hf hp;exact Lx h0 (hp.here hr ⟨_,rfl⟩)
def Fm(x y z:Str):Str:=if J3 x y=true then x else Builtin.Str.glued z (Builtin.Str.partsBetween x (Builtin.Str.occurrences x y 0 x.length (x.length+1)) y.length)
end
end Mine.Internal
end
noncomputable section
open PySem PySem.W PyProof.Rows
open AutoSeq1 (wpAny_loadPart')
namespace Mine.Internal
local macro_rules | `(tactic|lk)=>`(tactic|first |kernel_rfl|decide+kernel)
local macro_rules | `(tactic|kd_p)=>`(tactic|decide+kernel)
set_option hygiene false in
local macro_rules | `(tactic|kpf_c)=>`(tactic|first |exact Cy hf|replace hp:=D8 hf hp|cases hf)
set_option hygiene false in
local macro_rules | `(tactic|kcf_m)=>`(tactic|refine On fun Gx hGx=>?_)
local macro_rules | `(tactic|w_up)=>`(tactic|repeat z_go)
section
variable {prog:Program} {w:World} {A:Around} {E:Value->Shared->Prop} {s:Shared}
theorem Ly{it t:Addr}{i:Nat}{items}{x:Value}{Q:Value->Shared->Prop}(hit:s.heap.IsTupleIter it t i)
  (ht:s.heap.IsTuple t items) (hx:items[i]?=some x)
  (hQ:∀h',h'.IsTupleIter it t (i+1)->Heap.SameBut it s.heap h'->Q x {s with heap:=h'}):
  wpAny (model prog w) A (Builtin.SmallTypes.nextOf (.ref it)) Q E s:=by
 obtain⟨o,ho,hc,hd⟩:=id hit;obtain⟨ol,hol,_,nl,hdl⟩:=ht;unfold Builtin.SmallTypes.nextOf;refine wpAny_bind (wpAny_callSpecial?_slot (name:=Str.ofString "__next__") hit.typeIs F.slot_tuple_iterator_next
  (wpAny_call_entry F.slot_tuple_iterator_next hit.typeIs F.entry_tuple_iterator_next ?_ (F.args_tuple_iterator_next_1 _)))
 show wpAny _ _ (field (.ref it) 0 >>=_) _ _ s;refine wpAny_bind (wpAny_field ho hd (x:=.ref t) rfl ?_);show wpAny _ _ (if (Value.ref t==Value.none)=true then _ else _) _ _ s;rw[if_neg (show ¬((Value.ref t==Value.none)=true) from Bool.false_ne_true)];show wpAny _ _ (field (.ref it) 1 >>=_) _ _ s;refine wpAny_bind (wpAny_field ho hd (x:=.int i 0) rfl ?_);show wpAny _ _ (seqItems? (.ref t) >>=_) _ _ s;refine wpAny_bind (wpAny_seqItems hol hdl ?_);simp only[Int.toNat_natCast,hx];refine wpAny_bind (wpAny_setField ho hd (by simp) (wpAny_pure ⟨x,rfl,wpAny_pure (hQ _ ?_ (Heap.SameBut.update ..))⟩));exact⟨_,Heap.get?_update_self _ ho (Obj.isFreed_of_fields (Obj.data_mapFields hd _)),(Obj.cls_mapFields ..).trans hc,by
  rw[Obj.data_mapFields hd];simp[rawInt]⟩
theorem Mn{it t:Addr}{i:Nat}{items}{Q:Value->Shared->Prop}(hh:A.handled=none)
  (hit:s.heap.IsTupleIter it t i) (ht:s.heap.IsTuple t items) (hx:items[i]?=none)
  (hE:∀h' e,Heap.ExtBut it s.heap h'->(∃o,h'.get? e=some o∧o.cls=.type "StopIteration")->E (.ref e) {s with heap:=h'}):
  wpAny (model prog w) A (Builtin.SmallTypes.nextOf (.ref it)) Q E s:=by
 obtain⟨o,ho,hc,hd⟩:=id hit;obtain⟨ol,hol,_,nl,hdl⟩:=ht;unfold Builtin.SmallTypes.nextOf;refine wpAny_bind (wpAny_callSpecial?_slot (name:=Str.ofString "__next__") hit.typeIs F.slot_tuple_iterator_next
  (wpAny_call_entry F.slot_tuple_iterator_next hit.typeIs F.entry_tuple_iterator_next ?_ (F.args_tuple_iterator_next_1 _)))
 show wpAny _ _ (field (.ref it) 0 >>=_) _ _ s;refine wpAny_bind (wpAny_field ho hd (x:=.ref t) rfl ?_);show wpAny _ _ (if (Value.ref t==Value.none)=true then _ else _) _ _ s;rw[if_neg (show ¬((Value.ref t==Value.none)=true) from Bool.false_ne_true)];show wpAny _ _ (field (.ref it) 1 >>=_) _ _ s;refine wpAny_bind (wpAny_field ho hd (x:=.int i 0) rfl ?_);show wpAny _ _ (seqItems? (.ref t) >>=_) _ _ s;refine wpAny_bind (wpAny_seqItems hol hdl ?_);simp only[Int.toNat_natCast,hx];refine wpAny_bind (wpAny_rule (wpAny_bind (wpAny_setField ho hd (by simp) ?_)));show wpAny _ _ (newExc (.type "StopIteration") [] >>=_) _ _ _;refine wpAny_bind ?_;simp only[newExc,newTuple];refine wpAny_bind (wpAny_newObj_type ?_ (by size_fits));refine wpAny_bind (m:=firstArgMember _ _) (wpAny_of_eq (a:=Value.none) (by first |rfl|(simp only[firstArgMember];rfl)) ?_);refine wpAny_newObj_type ?_ (by size_fits);simp only[raiseNew];refine wpAny_bind (wpAny_handled ?_)
 first |rw[show A.in1.handled=none from hh]|rw[hh]
 refine wpAny_bind (wpAny_pure (wpAny_throw ?_));exact hE _ _ (((Heap.SameBut.update ..).extBut.push _).push _) ⟨_,Heap.get?_push_size _ rfl,rfl⟩
theorem Tc{prog:Program}{w:World}{A:Around}(hh:A.handled=none)(it l:Addr)(hne:l≠it)(items:Array Value):
  Draws prog w A it [it,l] items.size (fun i v=>items[i]?=some v) (fun i h=>h.IsTupleIter it l i∧h.IsTuple l items) where
 live:=fun zz zz st=>let ⟨o,ho,_⟩:=st.1;⟨o,ho⟩
 frame:=fun zz zz h' st hk=>⟨let ⟨o,ho,r⟩:=st.1;⟨o,hk it (by simp) o ho,r⟩,let ⟨o,ho,r⟩:=st.2;⟨o,hk l (by simp) o ho,r⟩⟩
 item:=fun i s Q E hi st hQ=>by
  refine Ly st.1 st.2 (x:=items[i]) (by simp[hi]) fun h' hit' hs'=>?_;exact hQ _ h' s.toks (by simp[hi]) ⟨hit',st.2.extBut hs'.extBut hne⟩ hs'
 done:=fun s Q E st hE=>Mn hh st.1 st.2 (by simp) hE
theorem Zt{A B E E' s}{g:List (Code × Pos)->Bool}{K:Bool->Shared->Prop}(h:∀b,K b s):
  wpAny (model prog w) A stack (fun a s'=>wpAny (model prog w) B (pure (g a)) K E s') E' s:=wpAny_stack_any fun zz=>wpAny_pure (h _)
theorem J4(l:Addr)(items:Array Value)(n:Nat)(dct:Option Addr)(sl:Array (Option Value)):
  Meets (Builtin.«enumerate.__new__» ⟨[.type "enumerate",.ref l],[]⟩) (fun zz R s=>s.heap.get? l=some {cls:=.type "tuple",dict:=dct,data:=.seq items n,slots:=sl}∧
   R (.ok (.ret (.ref (s.heap.push {cls:=.type "tuple_iterator",data:=.fields #[.ref l,.int 0 0]}).objs.size)))
    {s with heap:=(s.heap.push {cls:=.type "tuple_iterator",data:=.fields #[.ref l,.int 0 0]}).push {cls:=.type "enumerate",data:=.fields #[.none,.bool false,.ref s.heap.objs.size,rawInt 0,.none,.none]}}):=
 .of_wp fun prog w A R s h=>by
  obtain⟨hp,g,d,tk,os⟩:=s;obtain⟨hl,h⟩:=h;have hsub:=sub_enumerate;have hL:Heap.IsTuple (Shared.heap ⟨hp,g,d,tk,os⟩) l items:=⟨_,hl,rfl,n,rfl⟩
  wp_walk using wpAny_loadPart' hl
  refine Zt fun c=>?_;cases c
  ·wp_walk using wpAny_loadPart' hl,wpAny_pyIter_tuple hL
   exact⟨_,rfl,h⟩
  ·wp_walk using wpAny_loadPart' hl,wpAny_pyIter_tuple hL
   exact⟨_,rfl,h⟩
theorem J5{l:Addr}{items:Array Value}{Q:Value->Shared->Prop}(hL:s.heap.IsTuple l items)
  (h:∀h',IsEnum h' (s.heap.objs.size+1) s.heap.objs.size 0 .none->h'.IsTupleIter s.heap.objs.size l 0->h'.objs.size=s.heap.objs.size+2->
   (∀b o,s.heap.get? b=some o->h'.get? b=some o)->Q (.ref (s.heap.objs.size+1)) {s with heap:=h'}):
  wpAny (model prog w) A (call (.type "enumerate") [.ref l]) Q E s:=by
 obtain⟨⟨c,dct,dt,sl⟩,hl,hc,n,hd⟩:=hL;replace hc:c=.type "tuple":=hc;replace hd:dt=.seq items n:=hd;subst hc hd;refine callType_new F.called_enumerate (by decide) (F.typeCall_enumerate_1 _) (F.newCall_enumerate_1 _) (fun obj=>F.args_object_init_2 obj _) F.entry_enumerate_new
  (J4 l items n dct sl) ⟨hl,?_⟩
 have hz:(s.heap.push {cls:=.type "tuple_iterator",data:=.fields #[.ref l,.int 0 0]}).objs.size=s.heap.objs.size+1:=Heap.size_push ..;show _∧_;rw[hz];have he:IsEnum ((s.heap.push {cls:=.type "tuple_iterator",data:=.fields #[.ref l,.int 0 0]}).push
   {cls:=.type "enumerate",data:=.fields #[.none,.bool false,.ref s.heap.objs.size,rawInt 0,.none,.none]}) (s.heap.objs.size+1) s.heap.objs.size 0 .none:=by
  have:=Heap.get?_push_size (s.heap.push {cls:=.type "tuple_iterator",data:=.fields #[.ref l,.int 0 0]})
   (o:={cls:=.type "enumerate",data:=.fields #[.none,.bool false,.ref s.heap.objs.size,rawInt 0,.none,.none]}) rfl
  rw[hz] at this;exact this
 refine⟨⟨_,he,rfl⟩,h _ he ⟨_,Heap.get?_push_of_some _ (Heap.get?_push_size _ rfl),rfl,rfl⟩ (by rw[Heap.size_push,hz]) fun b o x=>Heap.get?_push_of_some _ (Heap.get?_push_of_some _ x)⟩
end
end Mine.Internal
end
noncomputable section
open PySem PySem.W PyProof.Rows
namespace Mine.Internal
local macro_rules | `(tactic|lk)=>`(tactic|first |kernel_rfl|decide+kernel)
local macro_rules | `(tactic|kd_p)=>`(tactic|decide+kernel)
set_option hygiene false in
local macro_rules | `(tactic|kpf_c)=>`(tactic|first |exact Cy hf|replace hp:=D8 hf hp|cases hf)
set_option hygiene false in
local macro_rules | `(tactic|kcf_m)=>`(tactic|refine On fun Gx hGx=>?_)
local macro_rules | `(tactic|w_up)=>`(tactic|repeat z_go)
section
variable {C:Cx} {sc:Scope} {k:Nat}
def Td(T:GT)(m:MV)(n:Nat)(i:Nat):P (Option MV):=fun H=>(D0 T H m).bind fun xs=>if xs.length=n∧i<=n then (match xs[i]? with
 | some x=>some (some (.ref H.length),H++[.tup [.int i,x]])
 | none=>some (none,H)) else none
def Te(T:GT)(m:MV):P (Nat->P (Option MV)):=fun H=>(D0 T H m).map fun xs=>(Td T m xs.length,H)
theorem A4p(G:Gd C){elts:List Expr}{kd:Nat}{tp:Pos}{func e:Expr}{pos:Pos}{f:Aj->P MV}(hf:SE C sc k func (fun zz=>Bg (.val (.type "enumerate"))))(h:SE C sc k e f)
  (he:∀env,eval (.Call func [e] [] pos) env=(do callWith pos (<- eval func env) [] (backTo pos (starEach [e] env)) (backToKw pos (keywordEach [] env))):=by intro _;rfl)
  (hst:∀env,starEach [e] env=[(false,eval e env)]:=by intro _;rfl):
  ItE C sc k (.Tuple elts kd tp) (.Call func [e] [] pos) (fun ρ=>B9 (f ρ) (Te C.T)):=by
 intro A env α ρ H s Q E src H' hR hr hE hq hQ;kcf_m;obtain⟨m,H₁,qA,h1⟩:=Aw hq;refine hGx ?_;simp only[Te,Option.map_eq_some_iff] at h1;obtain⟨xs,hxs,h1⟩:=h1
 first |exact Cy h1|replace hp:=D8 h1 hp|cases h1
 ·skip
  refine Call_ (hf A env α ρ H s _ _ _ H hR hr hE rfl fun α₀ s₀ vZ rZ xZ wZ=>?_) (he env);cases wZ;refine Fy (fun zz zz=>.inr ⟨_,_,by rw[hst];rfl,rfl⟩) ?_;refine spliced_more ?_ (hst env);refine h A env α₀ ρ H s₀ _ _ _ _ hR rZ (hE.ext xZ) qA fun αA sA vA rH xO wA=>spliced_none ⟨.type,?_⟩;kcf_m;obtain⟨a,us,rfl,lu,ru⟩:=Jy G rH hxs wA;refine hGx ?_;refine J5 lu fun h' he0 hit hsz hk=>?_;refine wpAny_pyIter_enum he0 ?_;have x01:=xZ.trans xO;have dead:∀b,sA.heap.objs.size<=b->s.heap.get? b=.none:=fun b hb=>x01.dead (Heap.get?_none_of_le hb);have big:∀b,sA.heap.objs.size<=b->C.B.objs.size<=b∧b ∉ αA:=fun b hb=>⟨Nat.le_trans (Py G rH) hb,fun q=>by
   obtain⟨o,ho⟩:=Iv rH q;rw[Heap.get?_none_of_le hb] at ho;cases ho⟩
  have rI:HR C αA H' {sA with heap:=h'}:=rH.step (fun b o h zz=>hk b o h) (fun b o h=>⟨o,hk b o h⟩) rH.gens rfl;have xP:Ext C [] αA sA αA {sA with heap:=h'}:=⟨List.prefix_refl _,fun zz h=>.inl h,fun b o h zz zz zz=>hk b o h,fun b o h=>⟨o,hk b o h⟩⟩;have ne:sA.heap.objs.size+1≠sA.heap.objs.size:=Nat.succ_ne_self _;refine hQ αA _ [sA.heap.objs.size+1,sA.heap.objs.size] (fun i α h=>(∃old,IsEnum h (sA.heap.objs.size+1) sA.heap.objs.size i old)∧h.IsTupleIter sA.heap.objs.size a i∧VRel α m (.ref a)) _ rI (x01.trans xP) ?_ ⟨⟨_,he0⟩,hit,wA⟩ (fun b hb=>?_)
  ·refine⟨fun i α h α' h' hI hp hk=>?_,fun i α h hI b hb=>?_,fun A α s i Q E hI hQ=>?_,fun A α H s i r H' Q E hh hr hI hJ hs hq=>?_⟩
   ·kcf_m;obtain⟨⟨old,h1⟩,⟨o,h2,h2'⟩,h3⟩:=hI;refine hGx ?_;exact⟨⟨old,hk _ (.head _) _ h1⟩,⟨o,hk _ (.tail _ (.head _)) _ h2,h2'⟩,h3.mono hp⟩
   ·kcf_m;obtain⟨⟨old,h1⟩,⟨o,h2,h2'⟩,h3⟩:=hI;refine hGx ?_;rcases List.mem_cons.mp hb with rfl|hb
    ·exact⟨_,h1⟩
    ·cases List.mem_singleton.mp hb;exact⟨_,h2⟩
   ·obtain⟨⟨old,h1⟩,_⟩:=hI;exact wpAny_pyIter_enum h1 hQ
   ·kcf_m;obtain⟨⟨old,h1⟩,h2,h3⟩:=hI;refine hGx ?_;simp only[Td,Option.bind_eq_some_iff] at hs;obtain⟨ys,hy,hs⟩:=hs
    split at hs
    case isFalse=>cases hs
    rename_i hlen;kcf_m;obtain⟨a',us,ea,lu,ru⟩:=Jy G hr hy h3;refine hGx ?_;cases ea;have hne:a≠sA.heap.objs.size:=fun e=>by
     kcf_m;obtain⟨o,ho,hc,_⟩:=lu;refine hGx ?_;kcf_m;obtain⟨o',ho',hc',_⟩:=h2;refine hGx ?_;rw[e] at ho;rw[ho] at ho';cases ho';rw[hc] at hc';exact absurd hc' (by decide)
    have hne2:a≠sA.heap.objs.size+1:=fun e=>by
     kcf_m;obtain⟨o,ho,hc,_⟩:=lu;refine hGx ?_;rw[e,h1] at ho;cases ho;exact absurd hc (show ¬Value.type "enumerate"=Value.type "tuple" by decide)
    have D:=Tc (prog:=C.prog) (w:=C.w) (A:=A.in1) hh sA.heap.objs.size a hne us;have len:=ru.length;cases e:ys[i]? with
    | none=>
     rw[e] at hs;cases hs;have hi:i=us.size:=by
      have h1:ys.length<=i:=List.getElem?_eq_none_iff.mp e;have h2:ys.length=us.size:=by rw[len];simp
      exact B8j hlen h1 h2
     subst hi;refine wpAny_pyNext_enum_endD D h1 ⟨h2,lu⟩ fun h' hx=>?_;obtain⟨j1,j2⟩:=hJ sA.heap.objs.size (.tail _ (.head _));refine hq α _ .none (hr.off (tk:=s.toks) j1 j2 hx) ?_ trivial fun q=>absurd rfl q;exact⟨List.prefix_refl _,fun zz h=>.inl h,fun b o h zz q zz=>hx b o (fun e=>q (e▸.tail _ (.head _))) h,fun b o h q=>⟨o,hx b o (fun e=>q (e▸.tail _ (.head _))) h⟩⟩
    | some x=>
     rw[e] at hs;cases hs;have hlt:i<us.size:=by
      have:=(List.getElem?_eq_some_iff.mp e).1;rw[<- Array.length_toList,<- len];exact this
     refine wpAny_pyNext_enum_itemD D h1 ⟨h2,lu⟩ hlt ne (by simp only[List.mem_cons,List.not_mem_nil,or_false,not_or];exact⟨ne,fun q=>hne2 q.symm⟩) fun v hp tk hv heo hst htup hsz hkk=>?_;refine wpAny_letOwnedTupleGo_enum heo fun h₂ heB hsB=>?_;obtain⟨j1,j2⟩:=hJ sA.heap.objs.size (.tail _ (.head _));obtain⟨j3,j4⟩:=hJ (sA.heap.objs.size+1) (.head _);have kp:∀b o,b≠sA.heap.objs.size+1->b≠sA.heap.objs.size->s.heap.get? b=some o->h₂.get? b=some o:=fun b o q1 q2 ho=>(hsB.2 b q1).trans (hkk b o q1 q2 ho);have lv:∀b o,s.heap.get? b=some o->∃o',h₂.get? b=some o':=fun b o ho=>by
      by_cases q1:b=sA.heap.objs.size+1
      ·subst q1;exact⟨_,heB⟩
      ·by_cases q2:b=sA.heap.objs.size
       ·subst q2;kcf_m;obtain⟨⟨o',ho',_⟩,_⟩:=hst;refine hGx ?_;exact⟨o',(hsB.2 _ q1).trans ho'⟩
       ·exact⟨o,kp b o q1 q2 ho⟩
     have nB:∀b,C.B.objs.size<=b->¬(C.B.get? b).isSome=true:=fun b hb q=>by
      obtain⟨o',ho'⟩:=Option.isSome_iff_exists.mp q;exact absurd (Heap.lt_size ho') (Nat.not_lt.mpr hb)
     have r':HR C α H {s with heap:=h₂,toks:=tk+1}:=hr.step (fun b o ho q=>kp b o (fun e=>by subst e;rcases q with q|q;exact j3 q;exact nB _ j4 q) (fun e=>by subst e;rcases q with q|q;exact j1 q;exact nB _ j2 q) ho) lv hr.gens rfl;have sne:s.heap.objs.size≠sA.heap.objs.size+1:=fun q=>by
      have:=Heap.lt_size h1;rw[q] at this;exact Nat.lt_irrefl _ this
     have htup':h₂.get? s.heap.objs.size=some {cls:=.type "tuple",data:=.seq #[.int i tk,v]}:=(hsB.2 _ sne).trans htup;obtain⟨v',g1,g2⟩:=ru.get e;have ev:v'=v:=by
      rw[Array.getElem?_toList] at g1;rw[hv] at g1;cases g1;rfl
     subst ev;have r'':HR C (α++[s.heap.objs.size]) (H++[.tup [.int i,x]]) {s with heap:=h₂,toks:=tk+1}:=r'.follow G (Py G hr) (Lq hr)
      ⟨#[.int i tk,v'],⟨_,htup',rfl,0,rfl⟩,.cons ⟨tk,rfl⟩ (.cons (g2.mono (List.prefix_append ..)) .nil)⟩
     refine hq _ _ (.some _) r'' ⟨List.prefix_append ..,fun b hb=>?_,fun b o ho zz q zz=>kp b o (fun e=>q (e▸.head _)) (fun e=>q (e▸.tail _ (.head _))) ho,fun b o ho zz=>lv b o ho⟩ (Fc hr _) fun zz=>⟨⟨_,heB⟩,?_,h3.mono (List.prefix_append ..)⟩
     ·rcases List.mem_append.mp hb with h|h
      ·exact .inl h
      ·cases List.mem_singleton.mp h;exact .inr Jx
     ·kcf_m;obtain⟨⟨o,ho,hr'⟩,_⟩:=hst;refine hGx ?_;exact⟨o,(hsB.2 _ (Nat.ne_of_lt (Nat.lt_succ_self _))).trans ho,hr'⟩
  ·rcases List.mem_cons.mp hb with rfl|hb
   ·exact⟨dead _ (Nat.le_succ _),big _ (Nat.le_succ _)⟩
   ·cases List.mem_singleton.mp hb;exact⟨dead _ (Nat.le_refl _),big _ (Nat.le_refl _)⟩
end
theorem Tf{prog:Program}{w:World}{A:Around}{E:Value->Shared->Prop}{s:Shared}{a:Addr}{f:Int->Option Value}{Q:Builtin.Str.Mapped->Shared->Prop}(hh:A.handled=none)(hd:(a==sysModules)=false)
  (hm:s.heap.MapOf (intKind prog w) a f) (hf:f 61=none) (h:∀h' tk,(∀b o,s.heap.get? b=some o->h'.get? b=some o)->Q .keep {s with heap:=h',toks:=tk}):
  wpAny (model prog w) A (Builtin.Str.tableLookup (.ref a) 61) Q E s:=by
 unfold Builtin.Str.tableLookup;refine wpAny_bind (wpAny_attempt (wpAny_bind (wpAny_mkInt ?_)));have hk:(intKind prog w).is 61 (.int ((61:Nat):Int) s.toks)=true:=by simp[intKind,Value.isInt]
 refine wpAny_getItem_missing_of (knd:=intKind prog w) (s:={s with toks:=s.toks+1}) hk hd hh hm hf fun h' e hx=>?_;kcf_m;obtain⟨ob,t,h1,h2,_⟩:=hx.there;refine hGx ?_;dsimp only;refine wpAny_bind (wpAny_isInstance (T:="KeyError") (b:=true) ⟨ob,h1,h2⟩ (by rw[isSubtype_type];lk) ?_);rw[if_pos rfl];exact wpAny_bind (wpAny_rule (wpAny_pure (h _ _ hx.keeps)))
theorem Rn{prog:Program}{w:World}{A:Around}{E:Value->Shared->Prop}{s:Shared}{a:Addr}{f:Int->Option Value}{t:Tok}{Q:Value->Shared->Prop}(hh:A.handled=none)(hd:(a==sysModules)=false)
  (hm:s.heap.MapOf (intKind prog w) a f) (hf:f 61=none) (h:∀h' tk t',(∀b o,s.heap.get? b=some o->h'.get? b=some o)->Q (.str ⟨#[61]⟩ t') {s with heap:=h',toks:=tk}):
  wpAny (model prog w) A (call (.builtin "str.translate") [.str ⟨#[61]⟩ t,.ref a]) Q E s:=by
 refine wpAny_call_entry F.slot_str_translate (PySem.typeIs_str s _ t) F.entry_str_translate ?_ (F.args_str_translate_2 _ _);unfold Builtin.«str.translate»;refine wpAny_bind (wpAny_of_eq (a:=(.str ⟨#[61]⟩ t,⟨#[61]⟩,.ref a)) (by first |rfl|lk) ?_);dsimp only;rw[if_neg (by decide)];rw[show ((#[61]:Array Nat).all fun x=>decide (x<128))=true by kd_p];simp only[<- Array.forIn_toList,List.forIn_cons,List.forIn_nil];refine wpAny_bind (wpAny_bind ?_);rw[if_neg (by decide)];simp only[if_true,List.lookup];refine wpAny_bind (Tf hh hd hm hf fun h' tk hk=>?_);dsimp only;refine wpAny_bind (wpAny_pure ?_);dsimp only;refine wpAny_pure ?_;dsimp only;refine wpAny_pure ?_;dsimp only;rw[if_neg (by decide)];show wpAny _ _ (retStr ⟨#[61]⟩) _ _ _;exact wpAny_bind (wpAny_mkStr (wpAny_pure ⟨_,rfl,h _ _ _ hk⟩) (by decide))
section
variable {C:Cx} {sc:Scope} {k:Nat}
noncomputable def B45(C:Cx)(a:Addr):Prop:=a ∉ C.tabs∧(a==sysModules)=false∧∃f,C.B.MapOf (intKind C.prog C.w) a f∧f 61=none
noncomputable def Ro(a:Addr):MV->MV->P MV:=fun x d H=>match x,d with
 | .str x,.val (.ref b)=>if x=⟨#[61]⟩∧b=a then some (.str ⟨#[61]⟩,H) else none
 | _,_=>none
theorem A4q{a:Addr}(ht:B45 C a):CallOk C k (.builtin "str.translate") (two (Ro a)):=by
 refine .two fun A α H s Q E x d v u r H' hR hr hv hu hf hp=>?_;unfold Ro at hf
 split at hf
 ·split at hf
  ·rename_i h;obtain⟨h1,h2⟩:=h;subst h1 h2;kpf_c;obtain⟨t,rfl⟩:=hv;cases hu;kcf_m;obtain⟨t1,t2,f,⟨o,es,ep,ho,hrest⟩,t4⟩:=ht;refine hGx ?_;refine Rn hR.handled t2 ⟨o,es,ep,hr.keepB _ _ ho t1,hrest⟩ t4 fun h' tk t' hk=>?_;refine hp _ _ _ (hr.step (fun b o h zz=>hk b o h) (fun b o h=>⟨o,hk b o h⟩) hr.gens rfl) ⟨List.prefix_refl _,fun zz h=>.inl h,fun b o h zz zz zz=>hk b o h,fun b o h=>⟨o,hk b o h⟩⟩ ⟨_,rfl⟩
  ·kpf_c
 ·kpf_c
noncomputable def Lz(a b:Str):MV->P MV:=fun m H=>match m with
 | .str x=>if x.length<=16777216∧((Str.empty++a)++x).length<=16777216∧(((Str.empty++a)++x)++b).length<=16777216∧(Str.empty++a).length<=16777216 then some (.str (((Str.empty++a)++x)++b),H) else none
 | _=>none
theorem Rp{a b:Str}{n1 n2:Nat}{q1 q2 q3 pos:Pos}{e:Expr}{f:Aj->P MV}(h:SE C sc k e f):
  SE C sc k (.JoinedStr [.Constant (.str a) n1 q1,.FormattedValue e (-1) .none q2,.Constant (.str b) n2 q3] pos) (fun ρ=>B9 (f ρ) (Lz a b)):=by
 intro A env α ρ H s Q E r H' hR hr hE hq hp;kcf_m;obtain⟨m,H₁,qA,hq1⟩:=Aw hq;refine hGx ?_;unfold Lz at hq1
 split at hq1
 ·split at hq1
  ·rename_i x hz;kcf_m;obtain⟨z1,z2,z3,z4⟩:=hz;refine hGx ?_
   first |exact Cy hq1|replace hp:=D8 hq1 hp|cases hq1
   refine JoinedStr_many (joinParts_cons (wpAny_Constant_str ⟨z4,joinParts_cons (FormattedValue_plain ?_)⟩));refine h A env α ρ H {s with toks:=s.toks+1} _ _ _ _ hR (hr.toks _) hE qA fun αA sA vA rH xO wA=>?_;obtain⟨t,rfl⟩:=wA;refine formatField_str (fun t' tk=>⟨z2,?_⟩) z1;refine joinParts_cons (wpAny_Constant_str ⟨z3,joinParts_nil ?_ z3⟩);exact(hp.chain ((Ext.toks _).trans xO)).hereT rH _ ⟨_,rfl⟩
  ·first |exact Cy hq1|replace hp:=D8 hq1 hp|cases hq1
 ·first |exact Cy hq1|replace hp:=D8 hq1 hp|cases hq1
theorem B46{body:List Stmt}{hZ:ExceptHandler}{hs:List ExceptHandler}{pos:Pos}{f:Aj->P (Fl × Aj)}(h:SB C sc k body f):SS C sc k (.Try body (hZ::hs) [] [] pos) f:=by
 intro A env α ρ H s Q E fl ρ' H' hR hr he hf hq;refine wpAny_Try_except (h A env α ρ H s _ _ _ _ _ hR hr he hf fun αA sA g rH eO xO wA=>?_);have key:=hq αA sA g rH eO xO wA;cases g with
 | next=>exact wpAny_execs_nil key
 | _=>exact key
theorem B47{st:List Stmt}:SB C sc k st (fun zz=>fl):=by
 intro A env α ρ H s Q E f ρ' H' hR hr he hf hq;kpf_c
theorem O9{st:Stmt}:SS C sc k st (fun zz=>fl):=by
 intro A env α ρ H s Q E f ρ' H' hR hr he hf hq;kpf_c
end
section
variable {prog:Program} {w:World} {A:Around} {E:Value->Shared->Prop} {s:Shared}
theorem Zu{env:Env}{x:Str}{xp:Pos}{a b c d:Str}{n1 n2 n3 n4:Nat}{q1 q2 q3 q4 ap1 p1 ap2 p2:Pos}{m:Str->Option Value}{y:Str}{t:Tok}{Q:Value->Shared->Prop}
  (hk:env.scope.kind=.function) (hl:env.kindOf x=some .local) (hn:s.heap.Ns env.locals m) (hv:m x=some (.str y t)) (hd:(x==("__debug__":Str))=false)
  (hcd:(c==d)=false) (hc0:(c.length==0)=false) (h1:J3 y a=true) (h2:Builtin.Str.tooLong (y.length+(Builtin.Str.occurrences y c 0 y.length (y.length+1)).length*d.length)=false) (h3:(Fm y c d).length<=sizeLine)
  (h:∀t' tk,Q (.str (Fm y c d) t') {s with toks:=tk})
  (he1:∃pl,eval (.Call (.Attribute (.Name x xp) "replace" ap1) [.Constant (.str a) n1 q1,.Constant (.str b) n2 q2] [] p1) env=(do
   let ov <- eval (.Name x xp) env
   standAt ap1.atName
   let (f,first) <- holding [ov] (getMethod ov "replace" pl)
   callWith p1 f first (backTo p1 (starEach [.Constant (.str a) n1 q1,.Constant (.str b) n2 q2] env)) []))
  (he2:∃pl,eval (.Call (.Attribute (.Call (.Attribute (.Name x xp) "replace" ap1) [.Constant (.str a) n1 q1,.Constant (.str b) n2 q2] [] p1) "replace" ap2) [.Constant (.str c) n3 q3,.Constant (.str d) n4 q4] [] p2) env=(do
   let ov <- eval (.Call (.Attribute (.Name x xp) "replace" ap1) [.Constant (.str a) n1 q1,.Constant (.str b) n2 q2] [] p1) env
   standAt ap2.atName
   let (f,first) <- holding [ov] (getMethod ov "replace" pl)
   callWith p2 f first (backTo p2 (starEach [.Constant (.str c) n3 q3,.Constant (.str d) n4 q4] env)) [])):
  wpAny (model prog w) A (eval (.Call (.Attribute (.Call (.Attribute (.Name x xp) "replace" ap1) [.Constant (.str a) n1 q1,.Constant (.str b) n2 q2] [] p1) "replace" ap2) [.Constant (.str c) n3 q3,.Constant (.str d) n4 q4] [] p2) env) Q E s:=by
 obtain⟨pl1,he1⟩:=he1;obtain⟨pl2,he2⟩:=he2;refine MethodCall_ (MethodCall_ (wpAny_Name (wpAny_loadName_local hk hl hn hv ?_) hd) he1) he2;refine getMethod_builtin (PySem.typeIs_str s _ t) F.plainAttrs_str F.slot_str_replace F.type_str_replace (fun a e=>by cases e) ?_;refine callWith_method1 (spliced_more (wpAny_Constant_str (spliced_more (wpAny_Constant_str (spliced_none ?_)) rfl)) rfl) rfl;refine wpAny_with_toks (n:=1) (Nat.succ_le_succ (Nat.zero_le _)) ?_;refine Lx h1 fun htk=>?_;refine getMethod_builtin (PySem.typeIs_str _ _ t) F.plainAttrs_str F.slot_str_replace F.type_str_replace (fun a e=>by cases e) ?_;refine callWith_method1 (spliced_more (wpAny_Constant_str (spliced_more (wpAny_Constant_str (spliced_none ?_)) rfl)) rfl) rfl;refine call_gives F.slot_str_replace (PySem.typeIs_str _ _ _) F.entry_str_replace (F.args_str_replace_3 _ _ _) (gives_str_replace y c d t _ _ fun hf=>⟨?_,?_,hcd,h2⟩) ?_
 ·simp
 ·simp
 ·split
  ·rename_i hz;rw[hc0,Bool.false_and,Bool.or_false] at hz;have e:Fm y c d=y:=by unfold Fm J3;rw[if_pos hz]
   rw[e] at h;exact h _ _
  ·rename_i hz;rw[hc0,Bool.false_and,Bool.or_false] at hz;have e:Fm y c d=Builtin.Str.glued d (Builtin.Str.partsBetween y (Builtin.Str.occurrences y c 0 y.length (y.length+1)) c.length):=by unfold Fm J3;rw[if_neg hz]
   rw[e] at h h3;exact⟨h3,h _ _⟩
end
section
variable {C:Cx} {sc:Scope} {k:Nat}
theorem Vz{h:Heap}{c P:Addr}{ps:Array Value}(x:h.IsCode c P ps):TriplesOk ps.toList:=by
 kcf_m;obtain⟨o,vs,file,tf,flags,tg,inF,text,tt,op,a,r1,r2,r3,r4,r5,r6,b,r7,r8,r9⟩:=x;refine hGx ?_;exact r8
theorem V0{M:Model}{A:Around}{E:Value->Shared->Prop}{s:Shared}{env:Env}{c P:Addr}{ps:Array Value}{pos:Pos}{qualname:Str}{scope:Scope}{Q:Value->Shared->Prop}(hcode:env.code=.ref c)
  (hd:CodeHd s.heap c P) (hP:s.heap.get? P=some (tabObj ps)) (ht:TriplesOk ps.toList)
  (hQ:∀code h' tk ps',Heap.ExtBut P s.heap h'->CodeHd h' c P->h'.get? P=some (tabObj ps')->TriplesOk ps'.toList->Q code {s with heap:=h',toks:=tk}):
  wpAny M A (genexprCode env pos qualname scope) Q E s:=by
 cases hf:codeAmong pos ps.toList with
 | some cv=>exact wpAny_genexprCode_hit hcode (hd.code hP ht) hf (hQ cv s.heap s.toks ps (Heap.ExtBut.refl _ _) hd hP ht)
 | none=>
  refine wpAny_genexprCodeX hcode (hd.code hP ht) (hd.tab hP) hf fun c' h' tk hx hge hlt hc' hrec htb zz=>?_;exact hQ _ _ _ _ hx (CodeHd.of hc' htb) htb.2 (Vz hc')
structure Rq(C:Cx)(sc:Scope)(c P:Addr):Prop where
 cd:C.cd sc c
 inv:∀h,C.inv h->∃ps,CodeHd h c P∧h.get? P=some (tabObj ps)∧TriplesOk ps.toList
 back:∀h ps,CodeHd h c P->h.get? P=some (tabObj ps)->TriplesOk ps.toList->C.inv h
 tab:P∈C.tabs
theorem HR.tab{α H s h'}{P:Addr}{tk:Nat}(r:HR C α H s)(hP:P∈C.tabs)(hs:Heap.ExtBut P s.heap h')(hl:∃o,h'.get? P=some o)(hi:C.inv h'):HR C α H {s with heap:=h',toks:=tk}:=by
 refine⟨fun b o h n=>hs b o (fun e=>n (e▸hP)) (r.keepB b o h n),fun b o h=>?_,r.new,r.nodup,?_,r.gens,r.os,hi⟩
 ·by_cases e:b=P
  ·subst e;exact hl
  ·obtain⟨o',h'⟩:=r.liveB b o h;exact⟨o',hs b o' e h'⟩
 ·have:∀(β:List Addr) (J:Hp),(∀a∈β,a∈α)->All2 (ORel C α s.heap) β J->All2 (ORel C α h') β J:=by
   intro β J hb f
   induction f with
   | nil=>exact .nil
   | @cons a m β J h _ ih=>
    exact .cons (h.mono (List.prefix_refl _) fun o ho=>hs a o (fun e=>(r.new a (hb a (.head _))).2 (e▸hP)) ho) (ih fun x hx=>hb x (.tail _ hx))
  exact this α H (fun zz h=>h) r.objs
theorem Ext.tab{α s h'}{X:List Addr}{P:Addr}{tk:Nat}(hP:P∈C.tabs)(hs:Heap.ExtBut P s.heap h')(hl:∃o,h'.get? P=some o):Ext C X α s α {s with heap:=h',toks:=tk}:=by
 refine⟨List.prefix_refl _,fun zz h=>.inl h,fun b o h zz zz n=>hs b o (fun e=>n (e▸hP)) h,fun b o h=>?_⟩;by_cases e:b=P
 ·subst e;exact hl
 ·exact⟨o,hs b o e h⟩
def Nc(C:Cx):Prop:=∀(A:Around) (α:List Addr) (H:Hp) (s:Shared) (Q:Addr->Shared->Prop) (E:Value->Shared->Prop),HR C α H s->Q builtinsNs s->wpAny (model C.prog C.w) A (builtinsFor mainGlobals builtinsNs) Q E s
def Rr(a c d y:Str):Bool:=J3 y a&&!Builtin.Str.tooLong (y.length+(Builtin.Str.occurrences y c 0 y.length (y.length+1)).length*d.length)&&decide ((Fm y c d).length<=sizeLine)
def Hm(T:GT)(sep:Str)(ok:Str->Bool)(F:Str->Str)(m:MV):P MV:=fun H=>match (C7 T H m).bind Gu with
 | some ys=>if ys.all ok=true∧ys.length<=16777216∧((ys.map F).map (·.length)).sum+(ys.map F).length*sep.length<=16777216 then some (.str (Txt.join sep (ys.map F)),H) else none
 | none=>none
theorem Nd(n:Nat):passing (fun zz=>true) n 0=List.range n:=by
 unfold passing;rw[List.drop_zero,List.filter_eq_self.mpr fun zz zz=>rfl]
def EltOk(C:Cx)(scope:Scope)(x:Str)(elt:Expr)(ok:Str->Bool)(F:Str->Str):Prop:=
 ∀(A:Around) (cenv:Env) (s:Shared) (m:Str->Option Value) (y:Str) (t:Tok) (Q:Value->Shared->Prop) (E:Value->Shared->Prop),cenv.scope=scope->s.heap.Ns cenv.locals m->m x=some (.str y t)->ok y=true->
  (∀t' tk,Q (.str (F y) t') {s with toks:=tk})->wpAny (model C.prog C.w) A (eval elt cenv) Q E s
theorem V1(G:Gd C){cc Pt:Addr}(hC:Rq C sc cc Pt)(hbf:Nc C){scope:Scope}{sep:Str}{ns:Nat}{sp:Pos}{x:Str}{px pos ap pos':Pos}{iter elt:Expr}{ok:Str->Bool}{Fx:Str->Str}
  {f:Aj->P MV} (hit:SE C sc k iter f) (hel:EltOk C scope x elt ok Fx) (hx:scope.names.lookup x=some .local) (hkind:scope.kind=.function) (hco:scope.isCoroutine=false) (hcell:∀y∈scope.names,y.2≠.cell) (hfree:∀y∈scope.names,y.2≠.free)
  (h0:scope.names.lookup (".0":Str)=some NameKind.local)
  (hs:∀env x,genFold iter env x=pure x:=by intro _ _;rfl)
  (he:∀env,∃pl,eval (.Call (.Attribute (.Constant (.str sep) ns sp) "join" ap) [.GeneratorExp elt [⟨.Name x px,iter,[],0⟩] scope pos] [] pos') env=(do
   let ov <- eval (.Constant (.str sep) ns sp) env
   standAt ap.atName
   let (f,first) <- holding [ov] (getMethod ov "join" pl)
   callWith pos' f first (backTo pos' (starEach [.GeneratorExp elt [⟨.Name x px,iter,[],0⟩] scope pos] env)) []):=by exact fun zz=>⟨_,rfl⟩)
  (hst:∀env,starEach [.GeneratorExp elt [⟨.Name x px,iter,[],0⟩] scope pos] env=[(false,eval (.GeneratorExp elt [⟨.Name x px,iter,[],0⟩] scope pos) env)]:=by intro _;rfl):
  SE C sc k (.Call (.Attribute (.Constant (.str sep) ns sp) "join" ap) [.GeneratorExp elt [⟨.Name x px,iter,[],0⟩] scope pos] [] pos') (fun ρ=>B9 (f ρ) (Hm C.T sep ok Fx)):=by
 intro A env α ρ H s Q E r H' hR hr hE hq hp;kcf_m;obtain⟨m,H₁,qA,hq1⟩:=Aw hq;refine hGx ?_;unfold Hm at hq1
 split at hq1
 case h_2=>cases hq1
 rename_i ys hys
 split at hq1
 case isFalse=>cases hq1
 rename_i hcond;cases hq1;obtain⟨xs,e1,e2⟩:=Dw hys;obtain⟨c1,c2,c3⟩:=hcond;obtain⟨pl,he⟩:=he env;refine MethodCall_ (wpAny_Constant_str ?_) he;refine getMethod_builtin (PySem.typeIs_str _ _ _) F.plainAttrs_str F.slot_str_join F.type_str_join (fun a e=>by cases e) ?_;refine callWith_method1 (spliced_more ?_ (hst env)) (hst env);refine wpAny_GeneratorExp_walksQ hR.handled hco (closureFor_none hfree) hcell h0 hx hkind (by have:=hR.depth;exact B8k this) ?_ (hs env);refine hit A env α ρ H {s with toks:=s.toks+1} _ _ _ _ hR (hr.toks _) hE qA fun αA sA vA rH xO wA=>?_;kcf_m;obtain⟨l,us,rfl,lu,ru⟩:=Ij G rH e1 wA;refine hGx ?_;refine wpAny_pyIter_list lu ?_;have rI:HR C αA H' {sA with heap:=sA.heap.push {cls:=.type "list_iterator",data:=.fields #[.ref l,.int 0 0]}}:=rH.push _ sA.toks;kcf_m;obtain⟨ps,i1,i2,i3⟩:=hC.inv _ rI.inv;refine hGx ?_;refine⟨K6 G rI,V0 (hE.code _ hC.cd) i1 i2 i3 fun code h' tk ps' hx' j1 j2 j3=>?_⟩;have rC:HR C αA H' {sA with heap:=h',toks:=tk}:=rI.tab (tk:=tk) hC.tab hx' ⟨_,j2⟩ (hC.back _ _ j1 j2 j3);rw[hE.glob,hE.blt];refine hbf A αA H' _ _ _ rC ?_;kcf_m;obtain⟨l',usC,el,luC,ruC⟩:=Ij G rC e1 wA;refine hGx ?_;cases el;have sa:=F1 ruC e2;have hn:usC.size=ys.length:=by rw[<- Array.length_toList];exact sa.len_eq
 have ltB:∀b o,C.B.get? b=some o->b<sA.heap.objs.size:=fun b o ho=>by
  obtain⟨o',ho'⟩:=rH.liveB b o ho;exact Heap.lt_size ho'
 have hPt:Pt<sA.heap.objs.size:=by obtain⟨o,ho⟩:=G.tabs Pt hC.tab;exact ltB _ _ ho
 have hl1:l<sA.heap.objs.size:=by obtain⟨o,ho,_⟩:=lu;exact Heap.lt_size ho
 have k13:∀b o,b≠Pt->sA.heap.get? b=some o->h'.get? b=some o:=fun b o hb ho=>hx' b o hb (Heap.get?_push_of_some _ ho);have hIt:h'.IsListIter sA.heap.objs.size l 0:=⟨_,hx' _ _ (Nat.ne_of_gt hPt) (Heap.get?_push_size _ rfl),rfl,rfl⟩;have h1lt:sA.heap.objs.size<h'.objs.size:=by obtain⟨o,ho,_⟩:=hIt;exact Heap.lt_size ho
 have hcs:cStatics<sA.heap.objs.size:=by obtain⟨mc,hmc,_⟩:=G.nodigits;obtain⟨o,_,_,ho,_⟩:=hmc;exact ltB _ _ ho
 refine⟨sA.heap.objs.size,[sA.heap.objs.size,l],[sA.heap.objs.size],usC.size,_,_,fun zz=>true,fun i r=>∃y u,ys[i]?=some y∧r=.str (Fx y) u,rfl,fun A' hA=>Walks.list hA _ l (Nat.ne_of_lt hl1) usC,⟨hIt,luC⟩,?_,K6 G rC,?_,?_,?_⟩
 ·intro b hb;rcases List.mem_cons.mp hb with rfl|hb
  ·exact h1lt
  ·cases List.mem_singleton.mp hb;exact Nat.lt_trans hl1 h1lt
 ·intro q;exact absurd (List.mem_singleton.mp q) (Nat.ne_of_lt hcs)
 ·intro href hk;refine⟨fun A' E' i v sB mB hA hP hns hm hkk=>wpAny_tests_nil ⟨rfl,sB.heap,sB.toks,rfl,fun zz zz e=>e⟩,fun A' E' i v sB mB hA hP hpz hns hm hkk=>?_⟩;obtain⟨y,t,rfl,hy⟩:=sa.item i v (by rw[Array.getElem?_toList];exact hP);exact hel A' _ sB mB y t _ _ rfl hns hm (List.all_eq_true.mp c1 y (List.mem_of_getElem? hy)) fun t' tk=>⟨⟨y,t',hy,rfl⟩,sB.heap,tk,rfl,fun zz zz e=>e⟩
 ·intro a h₅ tkE gs hbare ha hsz hk5 W hst0;refine spliced_none ?_;have hpl:(passing (fun zz=>true) usC.size 0).length=usC.size:=by rw[Nd];simp
  refine SC.joinGen W.in4_2 (fun i s st=>st.1.typeIs) hst0 (fun b hb=>?_) (.head _) (fun i v hv=>?_) (fun s' lP hm hit2=>?_) (by rw[hpl,hn];exact c2)
  ·show b<h₅.objs.size;rw[hsz];rcases List.mem_cons.mp hb with rfl|hb
   ·exact Nat.lt_succ_self _
   ·rcases List.mem_cons.mp hb with rfl|hb
    ·exact Nat.lt_succ_of_lt ha
    ·exact Nat.lt_succ_of_lt (Nat.lt_trans (List.mem_range.mp hb) ha)
  ·kcf_m;obtain⟨i',_,y,u,_,e⟩:=hv;refine hGx ?_;exact⟨_,_,e⟩
  ·have hl2:lP.length=ys.length:=by
    have:=hit2.1;simp only[strValues,List.size_toArray,List.length_map] at this;rw[this,hpl,hn]
   have hmap:lP.map (·.1)=ys.map Fx:=by
    refine List.ext_getElem? fun j=>?_;by_cases hj:j<ys.length
    ·have hj2:j<lP.length:=by rw[hl2];exact hj
     kcf_m;obtain⟨i',hi',y,u,hy,e⟩:=hit2.2 j (.str lP[j].1 lP[j].2) (by simp[strValues,hj2]);refine hGx ?_;rw[Nd,List.getElem?_range (by rw[hn];exact hj)] at hi';cases hi';simp only[List.getElem?_map,hy,List.getElem?_eq_getElem hj2,Option.map_some];rw[(Value.str.inj e).1]
    ·rw[List.getElem?_eq_none (by simp;exact B8l hl2 hj),List.getElem?_eq_none (by simp;exact A1a hj)]
   rw[hmap];refine⟨joinOk_of c3,fun t' k'=>?_⟩;have kf:∀b o,b<sA.heap.objs.size->h'.get? b=some o->s'.heap.get? b=some o:=fun b o hb ho=>by
    refine hm.heap b o (fun q=>?_) (hk5 b o ho);rcases List.mem_cons.mp q with rfl|q
    ·exact Nat.lt_irrefl _ (Nat.lt_trans hb h1lt)
    ·cases List.mem_singleton.mp q;exact Nat.lt_irrefl _ hb
   have ltα:∀b,b∈αA->b<sA.heap.objs.size:=fun b hb=>by obtain⟨o,ho⟩:=Iv rH hb;exact Heap.lt_size ho
   have kk:∀b o,h'.get? b=some o->b∈αA∨(C.B.get? b).isSome=true->s'.heap.get? b=some o:=fun b o ho q=>kf b o (by
    rcases q with q|q
    ·exact ltα b q
    ·obtain⟨o',ho'⟩:=Option.isSome_iff_exists.mp q;exact ltB _ _ ho') ho
   have gb:AllBare s'.gens:=by
    refine hm.gens.bare fun y hy=>?_;rcases Array.mem_push.mp hy with h|rfl
    ·exact rH.gens y h
    ·exact hbare
   have rF:HR C αA H' {s' with toks:=k'}:=by
    refine⟨fun b o h n=>kk b o (rC.keepB b o h n) (.inr (by rw[h];rfl)),fun b o h=>?_,rC.new,rC.nodup,?_,gb,hm.os.trans rC.os,C.invk _ _ rC.inv fun b o h q=>kk b o h (.inr q)⟩
    ·obtain⟨o',ho'⟩:=rC.liveB b o h;exact⟨o',kk b o' ho' (.inr (by rw[h];rfl))⟩
    ·have:∀(β:List Addr) (J:Hp),(∀a∈β,a∈αA)->All2 (ORel C αA h') β J->All2 (ORel C αA s'.heap) β J:=by
      intro β J hb f
      induction f with
      | nil=>exact .nil
      | @cons a m β J h _ ih=>
       exact .cons (h.mono (List.prefix_refl _) fun o ho=>kk a o ho (.inl (hb a (.head _)))) (ih fun x hx=>hb x (.tail _ hx))
     exact this αA H' (fun zz h=>h) rC.objs
   have xT:Ext C [] αA sA αA {s' with toks:=k'}:=by
    refine⟨List.prefix_refl _,fun zz h=>.inl h,fun b o ho zz zz n=>kf b o (Heap.lt_size ho) (k13 b o (fun e=>n (e▸hC.tab)) ho),fun b o ho=>?_⟩;by_cases e:b=Pt
    ·subst e;exact⟨_,kf _ _ hPt j2⟩
    ·exact⟨o,kf b o (Heap.lt_size ho) (k13 b o e ho)⟩
   exact hp αA _ _ rF (((Ext.toks _).trans xO).trans xT) ⟨_,rfl⟩
end
end Mine.Internal
end
noncomputable section
open PySem PySem.W PyProof.Rows PySem.Builtin.Re
namespace Mine.Internal
local macro_rules | `(tactic|lk)=>`(tactic|first |kernel_rfl|decide+kernel)
local macro_rules | `(tactic|kd_p)=>`(tactic|decide+kernel)
set_option hygiene false in
local macro_rules | `(tactic|kpf_c)=>`(tactic|first |exact Cy hf|replace hp:=D8 hf hp|cases hf)
set_option hygiene false in
local macro_rules | `(tactic|kcf_m)=>`(tactic|refine On fun Gx hGx=>?_)
local macro_rules | `(tactic|w_up)=>`(tactic|repeat z_go)
noncomputable def P7:Nat->Sre.M->Option Sre.M
 | 0,_=>none
 | k+1,m=>if (m.runFor 4).outcome.isSome then some (m.runFor 4) else P7 k (m.runFor 4)
def G7(code text:Array Nat)(groups start:Nat)(must:Bool):Option (Option Sre.M):=
 match P7 64 (Sre.forSearch code text groups start text.size must) with
 | some m=>(match m.outcome with
  | some .matched=>some (some m)
  | some .failed=>some none
  | _=>none)
 | none=>none
section
variable {M:Model} {A:Around} {E:Value->Shared->Prop} {s:Shared}
theorem Pa:∀(k n:Nat) (m m':Sre.M) (Q:Sre.M->Shared->Prop),P7 k m=some m'->k<=n->Q m' s->wpAny M A (reDrive n m) Q E s
 | 0,_,_,_,_,h,_,_=>by cases h
 | k+1,0,_,_,_,_,h,_=>by exact(B8m h).elim
 | k+1,n+1,m,m',Q,h,hk,hq=>by
  unfold P7 at h;unfold reDrive
  split at h
  ·rename_i h1
   first |exact Cy h|replace hp:=D8 h hp|cases h
   show wpAny M A (if (m.runFor 4).outcome.isSome=true then pure (m.runFor 4) else _) Q E s;rw[if_pos h1];exact wpAny_pure hq
  ·rename_i h1;show wpAny M A (if (m.runFor 4).outcome.isSome=true then pure (m.runFor 4) else do rule "sre.turn";reDrive n (m.runFor 4)) Q E s;rw[if_neg h1];exact wpAny_bind (wpAny_rule (Pa k n _ m' Q h (by exact Nat.le_of_lt_succ ‹_›) hq))
theorem A4r{α:Type}(f:α->PUnit->Sem (ForInStep PUnit))(hf:∀i u,(f i u=pure (.yield ⟨⟩))∨∃t,f i u=(rule t >>=fun zz=>pure (.yield ⟨⟩))):
  ∀(l:List α) (u:PUnit) (Q:PUnit->Shared->Prop),Q ⟨⟩ s->wpAny M A (forIn l u f) Q E s:=by
 intro rest__
 induction rest__ with
 | nil=>
  intro _ Q h;exact by rw[List.forIn_nil];exact wpAny_pure h
 | cons a l ih=>
  intro u Q h;rw[List.forIn_cons];rcases hf a u with e|⟨t,e⟩
  ·rw[e];exact wpAny_bind (wpAny_pure (ih _ Q h))
  ·rw[e];exact wpAny_bind (wpAny_bind (wpAny_rule (wpAny_pure (ih _ Q h))))
theorem Tg{m m':Sre.M}{Q:Option Sre.M->Shared->Prop}(h:P7 64 m=some m')(hq:(m'.outcome=some .matched->Q (some m') s)∧(m'.outcome=some .failed->Q none s))(ho:m'.outcome=some .matched∨m'.outcome=some .failed):
  wpAny M A (reRunToEnd m) Q E s:=by
 unfold reRunToEnd;refine wpAny_bind (Pa 64 _ m m' _ h (Nat.le_of_ble_eq_true rfl) ?_);refine wpAny_bind (A4r _ (fun i u=>?_) _ _ _ ?_)
 ·by_cases hc:m'.seen.has i=true
  ·exact .inr ⟨Sre.names.getD i "",by simp only[hc,if_true]⟩
  ·exact .inl (by simp only[hc];rfl)
 ·rcases ho with e|e
  ·rw[e];exact wpAny_pure (hq.1 e)
  ·rw[e];exact wpAny_pure (hq.2 e)
theorem Mo{t:ReTarget}{start:Nat}{must:Bool}{r:Option Sre.M}{Q:Option Sre.M->Shared->Prop}(h:G7 t.code t.text t.groups start must=some r)(hl:t.lim=t.text.size)(hq:Q r s):
  wpAny M A (reNextFound t start must) Q E s:=by
 unfold G7 at h;unfold reNextFound;rw[hl]
 split at h
 ·rename_i m' e
  split at h
  ·rename_i eo
   first |exact Cy h|replace hp:=D8 h hp|cases h
   exact Tg e ⟨fun zz=>hq,fun q=>(by rw[eo] at q;cases q)⟩ (.inl eo)
  ·rename_i eo
   first |exact Cy h|replace hp:=D8 h hp|cases h
   exact Tg e ⟨fun q=>(by rw[eo] at q;cases q),fun zz=>hq⟩ (.inr eo)
  ·first |exact Cy h|replace hp:=D8 h hp|cases h
 ·first |exact Cy h|replace hp:=D8 h hp|cases h
inductive PatAt(h:Heap)(pa:Addr)(groups:Nat)(code:Array Nat):Prop
 | mk (o:Obj) (fs:Array Value) (ca:Addr) (oc:Obj) (items:Array Value) (n:Nat) (h1:h.get? pa=some o) (h2:o.cls=.type "re.Pattern") (h3:o.dict=none) (h4:o.data=.fields fs) (h5:fs.getD 5 .none=.ref ca) (h6:reRawNat (fs.getD 6 .none)=0)
  (h7:reRawNat (fs.getD 2 .none)=groups) (h8:h.get? ca=some oc) (h9:oc.data=.seq items n) (h10:(items.map reRawOf).map (·.toNat)=code)
theorem PatAt.keeps{h h':Heap}{pa:Addr}{groups:Nat}{code:Array Nat}(x:PatAt h pa groups code)(k:∀b o,h.get? b=some o->h'.get? b=some o):PatAt h' pa groups code:=by
 kcf_m;obtain⟨o,fs,ca,oc,items,n,a,b,c,d,e,f,g,i,r1,r2⟩:=x;refine hGx ?_;exact⟨o,fs,ca,oc,items,n,k _ _ a,b,c,d,e,f,g,k _ _ i,r1,r2⟩
def Cb(pa:Addr)(x:Str)(t:Tok)(groups:Nat)(code:Array Nat):ReTarget:=
 {pattern:=.ref pa,string:=.str x t,code,text:=x.cps,kind:=0,groups,pos:=0,lim:=x.cps.size}
theorem K9{pa:Addr}{x:Str}{t:Tok}{groups:Nat}{code:Array Nat}{Q:ReTarget->Shared->Prop}(hp:PatAt s.heap pa groups code)(hq:Q (Cb pa x t groups code) s):
  wpAny M A (reWholeTarget (.ref pa) (.str x t)) Q E s:=by
 kcf_m;obtain⟨o,fs,ca,oc,items,n,ho,hc,hdi,hd,h5,h6,h2,hca,hci,hcode⟩:=hp;refine hGx ?_;unfold reWholeTarget;refine wpAny_bind (wpAny_fieldsOf ho hd ?_);refine wpAny_bind (wpAny_of_eq (a:=(x.cps,0)) (by rfl) ?_);dsimp only;rw[h6,h2,h5];rw[if_neg (by decide),if_neg (by decide)];refine wpAny_bind (wpAny_of_eq (a:=()) (by rfl) ?_);unfold reRawItems;refine wpAny_bind (wpAny_bind (wpAny_seqItems hca hci (wpAny_pure ?_)));have e:Cb pa x t groups code={pattern:=.ref pa,string:=.str x t,code:=(items.map reRawOf).map (·.toNat),text:=x.cps,kind:=0,groups,pos:=0,lim:=x.cps.size}:=by unfold Cb;rw[hcode]
 rw[e] at hq;exact wpAny_pure hq
end
section
variable {prog:Program} {w:World} {A:Around} {E:Value->Shared->Prop} {s:Shared}
theorem slot_sub:Slot "re.Pattern" "sub" "re.Pattern.sub":=
 .of (owner:="re.Pattern") (n:="sub") (by rw[typeLookup_type,builtinLookup_eq_fast];lk) (by kd_p) (by kd_p) (by kd_p)
  (by first |exact .inl (by kd_p)|exact .inr (by kd_p)) (by rw[isSubtype_type];lk)
theorem Hn:PlainAttrs "re.Pattern":=
 ⟨⟨"object.__getattribute__",by rw[typeLookup_type,builtinLookup_eq_fast];lk,by kd_p⟩,by rw[typeLookup_type,builtinLookup_eq_fast];lk⟩
theorem Th:typeOf (.builtin "re.Pattern.sub")=pure (.type "method_descriptor"):=by show builtinType _=_;rw[builtinType_eq_fast];lk
theorem Zv:entryFor table "re.Pattern.sub"=some Builtin.«re.Pattern.sub»:=entryFor_of_tree (by lk)
theorem Pb:entryFor table "re.Pattern.sub.loop"=some Builtin.«re.Pattern.sub.loop»:=entryFor_of_tree (by lk)
theorem Jc:plainId "re.Pattern.sub.loop"=true:=by kd_p
theorem A4s(a b c:Value):argsOk "re.Pattern.sub" ⟨[a,b,c],[]⟩:=by unfold argsOk;lk
theorem A7j:typeLookup (.type "function") "__call__"=pure (some (.builtin "function.__call__")):=by rw[typeLookup_type,builtinLookup_eq_fast];lk
theorem Qz{pa fa:Addr}{of:Obj}{x:Str}{t:Tok}{groups:Nat}{code:Array Nat}{Q:Value->Shared->Prop}(hp:PatAt s.heap pa groups code)(hf:s.heap.get? fa=some of)(hfc:of.cls=.type "function")
  (h:codeAny (model prog w) A (.builtin "re.Pattern.sub.loop" ⟨[.ref pa,.str x t,.ref fa,rawInt 1,rawInt 0,rawInt 0,rawInt 0,rawInt 0,.bool false,.ref s.heap.objs.size,.bool false],[]⟩)
   (fun r s'=>match r with | .ok (.ret v)=>Q v s' | .ok _=>False | .error e=>E e s') {s with heap:=s.heap.push {cls:=.type "list",data:=.seq #[]}}):
  wpAny (model prog w) A (call (.builtin "re.Pattern.sub") [.ref pa,.ref fa,.str x t]) Q E s:=by
 have hT:s.TypeIs (.ref pa) "re.Pattern":=by obtain⟨o,fs,ca,oc,items,n,ho,hc,r⟩:=hp;exact⟨o,ho,hc⟩
 refine wpAny_call (codeAny_call_builtin slot_sub.plain Zv (slot_sub.check _ _ _ _ _ _ _ _ hT (A4s _ _ _) ?_));unfold Builtin.«re.Pattern.sub» reSubstitute;dsimp only;refine wpAny_bind (wpAny_of_eq (a:=[some (.ref fa),some (.str x t),none]) (by first |rfl|lk) ?_);dsimp only;refine wpAny_bind (wpAny_pure ?_);refine wpAny_bind (wpAny_specialOf (T:="function") ⟨of,hf,hfc⟩ A7j ?_);dsimp only[Option.isSome];rw[if_pos rfl];refine wpAny_bind (wpAny_pure ?_);rw[if_pos rfl];refine wpAny_bind (wpAny_pure ?_);refine wpAny_bind (wpAny_holding (K9 hp ?_));refine PySem.W.KFB.if_so rfl ?_;have e1:isInstance (.str x t) (.type "bytearray")=pure false:=by
  show isSubtype (.type "str") (.type "bytearray")=_;rw[isSubtype_type];lk
 unfold reNotHeld;rw[e1];refine wpAny_bind (wpAny_bind (wpAny_pure ?_));rw[if_neg Bool.false_ne_true];refine wpAny_pure ?_;refine wpAny_bind (wpAny_newObj_type ?_);exact wpAny_pure ⟨plainId_quiet Jc _,h⟩
theorem V2{α:Type}{M:Model}{A:Around}{E:Value->Shared->Prop}{s:Shared}{c:Prop}[Decidable c]{a b:Sem α}{Q:α->Shared->Prop}(hc:c)(h:wpAny M A a Q E s):wpAny M A (if c then a else b) Q E s:=by
 rw[if_pos hc];exact h
theorem J6{α:Type}{M:Model}{A:Around}{E:Value->Shared->Prop}{s:Shared}{c:Prop}[Decidable c]{a b:Sem α}{Q:α->Shared->Prop}(hc:¬c)(h:wpAny M A b Q E s):wpAny M A (if c then a else b) Q E s:=by
 rw[if_neg hc];exact h
theorem Ti{M:Model}{A:Around}{E:Value->Shared->Prop}{s:Shared}{x:Str}{Q:Value->Shared->Prop}(h:Q (.str ⟨x.cps.extract 0 0⟩ s.toks) {s with toks:=s.toks+1}):
  wpAny M A (reSlice x.cps 0 0 0) Q E s:=by
 show wpAny M A (mkStr ⟨x.cps.extract 0 0⟩) Q E s;exact wpAny_mkStr h (by show (x.cps.extract 0 0).size<=sizeLine;simp)
theorem A4t{M:Model}{A:Around}{E:Value->Shared->Prop}{s:Shared}{x:Str}{Q:Value->Shared->Prop}(hsz:x.length<=sizeLine)(h:Q (.str x s.toks) {s with toks:=s.toks+1}):
  wpAny M A (reSlice x.cps 0 0 x.cps.size) Q E s:=by
 have e:(⟨x.cps.extract 0 x.cps.size⟩:Str)=x:=by rw[Array.extract_size]
 show wpAny M A (mkStr ⟨x.cps.extract 0 x.cps.size⟩) Q E s;rw[e];exact wpAny_mkStr h hsz
theorem Zw{pa fa p:Addr}{x:Str}{t:Tok}{groups:Nat}{code:Array Nat}{ztok:Value}{R:Result->Shared->Prop}(hp:PatAt s.heap pa groups code)(hl:s.heap.PlainList p #[])(hx:0<x.cps.size)(hsz:x.length<=sizeLine)
  (hf:G7 code x.cps groups 0 false=some none)
  (h:∀h' tk t',(∀b o,b≠p->s.heap.get? b=some o->h'.get? b=some o)->R (.ok (.ret (.str x t'))) {s with heap:=h',toks:=tk}):
  codeAny (model prog w) A (.builtin "re.Pattern.sub.loop" ⟨[.ref pa,.str x t,.ref fa,rawInt 1,rawInt 0,rawInt 0,rawInt 0,rawInt 0,.bool false,.ref p,.bool false],[]⟩) R s:=by
 refine codeAny_builtin Pb ?_;rw[Around.under_plainId Jc];unfold Builtin.«re.Pattern.sub.loop»;dsimp only[rawInt];refine wpAny_bind (K9 hp ?_);rw[if_neg (by decide)]
 try dsimp only
 rw[if_neg (by decide)];refine wpAny_bind (Mo (r:=none) hf rfl ?_);dsimp only;refine V2 (show Int.toNat 0<x.cps.size from hx) ?_;refine wpAny_bind (A4t hsz ?_);obtain⟨n,ho⟩:=hl;refine wpAny_bind (wpAny_updateSeq ho rfl ?_);have hg:(s.heap.update p (Obj.mapSeq (·.push (.str x s.toks)))).get? p=some {cls:=.type "list",data:=.seq #[.str x s.toks] (n+1)}:=by
  rw[Heap.get?_update_self _ ho (by rw[Obj.mapSeq_push_plain];rfl),Obj.mapSeq_push_plain];rfl
 refine wpAny_bind (Ti ?_);refine wpAny_bind (wpAny_seqItems hg rfl ?_);dsimp only[Option.getD];refine J6 (by simp) ?_;refine wpAny_bind ?_;show wpAny _ _ (call (.builtin "str.join") [.str ⟨x.cps.extract 0 0⟩ _,.ref p]) _ _ _;refine join_list (ys:=[x]) ⟨_,hg,rfl,_,rfl⟩ (.cons x _ .nil) ?_ fun t' k=>?_
 ·have:(⟨x.cps.extract 0 0⟩:Str).length=0:=by show (x.cps.extract 0 0).size=0;simp
  rw[this];show (([x]:List Str).map (·.length)).sum+1*0<=16777216;have hz:x.length<=16777216:=hsz;simpa using hz
 ·refine J6 Bool.false_ne_true ?_;refine wpAny_pure ?_;have e:Txt.join ⟨x.cps.extract 0 0⟩ [x]=x:=rfl;rw[e];exact h _ _ _ fun b o hb ho=>(Heap.SameBut.update ..).extBut b o hb ho
end
section
variable {C:Cx} {sc:Scope} {k:Nat}
theorem V3{h h':Heap}{c P:Addr}(x:CodeHd h c P)(k:Heap.ExtBut P h h'):CodeHd h' c P:=by
 kcf_m;obtain⟨o,vs,file,tf,flags,tg,inF,text,tt,e,r1,r2,r3,r4,r5,r6,r7,r8,ne⟩:=x;refine hGx ?_;exact⟨o,vs,file,tf,flags,tg,inF,text,tt,k _ _ ne e,r1,r2,r3,r4,r5,r6,r7,r8,ne⟩
theorem B48(G:Gd C){cc Pt:Addr}(hC:Rq C sc cc Pt)(hB:∀α H s,HR C α H s->s.heap.BuiltinsAt C.mg Pt){params:Arguments}{body:Expr}{scope:Scope}{pos:Pos}{A:Around}{env:Env}{α:List Addr}{ρ:Aj}{H:Hp}{s:Shared}{Q:Value->Shared->Prop}{E:Value->Shared->Prop}
  (hdef:defaultsOf params env=([],[])) (hfree:∀x∈scope.names,x.2≠.free) (hr:HR C α H s) (he:ER C α ρ sc env s.heap)
  (hq:∀s' fn of,HR C α H s'->Ext C [] α s α s'->s'.heap.get? fn=some of->of.cls=.type "function"->fn ∉ α->C.B.objs.size<=fn->Q (.ref fn) s'):
  wpAny (model C.prog C.w) A (eval (.Lambda params body scope pos) env) Q E s:=by
 rw[arm_eval_Lambda,hdef];refine wpAny_bind (wpAny_of_eq (a:=[]) (by rfl) ?_);refine wpAny_bind (wpAny_holding (wpAny_of_eq (a:=[]) (by rfl) ?_));kcf_m;obtain⟨ps,i1,i2,i3⟩:=hC.inv _ hr.inv;refine hGx ?_;have hg:s.heap.Ns mainGlobals C.mg:=G.g.at fun o ho=>hr.keepB _ _ ho G.gt;have hgP:mainGlobals≠Pt:=fun e=>G.gt (e▸hC.tab);have new:∀h':Heap,s.heap.objs.size<=h'.objs.size->h'.objs.size ∉ α∧C.B.objs.size<=h'.objs.size:=fun h' hz=>⟨fun q=>by
  obtain⟨o,ho⟩:=Iv hr q;exact absurd (Heap.lt_size ho) (Nat.not_lt.mpr hz),Nat.le_trans (Py G hr) hz⟩
 cases hf:codeAmong pos ps.toList with
 | some cv=>
  refine kla_makeFunctionHit (closureFor_none hfree) he.glob hg (he.code _ hC.cd) i1 i2 i3 hf (hB _ _ _ hr) fun ctv h' tk hk hz=>?_;have k2:∀b o,s.heap.get? b=some o->(h'.push {cls:=.type "function",data:=.func (kla_fn "<lambda>" (env.qual++"<lambda>") params body scope [] ((C.mg "__name__").getD .none) cv ctv)}).get? b=some o:=fun b o h=>Heap.get?_push_of_some _ (hk b o h);exact hq _ _ _ (hr.step (fun b o h zz=>k2 b o h) (fun b o h=>⟨o,k2 b o h⟩) hr.gens rfl) ⟨List.prefix_refl _,fun zz h=>.inl h,fun b o h zz zz zz=>k2 b o h,fun b o h=>⟨o,k2 b o h⟩⟩ (Heap.get?_push_size _ rfl) rfl (new h' hz).1 (new h' hz).2
 | none=>
  refine kla_makeFunction (closureFor_none hfree) he.glob hg (he.code _ hC.cd) i1 i2 i3 hf hgP (hB _ _ _ hr) fun c' ctv h' tk hx hge hlt hrec htb=>?_;have hz:s.heap.objs.size<=h'.objs.size:=Nat.le_trans hge (Nat.le_of_lt hlt);have hx2:Heap.ExtBut Pt s.heap (h'.push (kla_obj "<lambda>" (env.qual++"<lambda>") params body scope [] ((C.mg "__name__").getD .none) c' ctv)):=fun b o hb ho=>Heap.get?_push_of_some _ (hx b o hb ho);have htr:TriplesOk (ps++#[rawInt pos.line,rawInt pos.col,.ref c']).toList:=by
   have hl:(ps++#[rawInt pos.line,rawInt pos.col,Value.ref c']).toList=ps.toList++[rawInt pos.line,rawInt pos.col,.ref c']:=by simp
   rw[hl];exact TriplesOk_snoc _ _ _ _ i3
  have htb2:=Heap.get?_push_of_some (kla_obj "<lambda>" (env.qual++"<lambda>") params body scope [] ((C.mg "__name__").getD .none) c' ctv) htb;exact hq _ _ _ (hr.tab (tk:=tk) hC.tab hx2 ⟨_,htb2⟩ (hC.back _ _ (V3 i1 hx2) htb2 htr)) (.tab (tk:=tk) hC.tab hx2 ⟨_,htb2⟩) (Heap.get?_push_size _ rfl) rfl (new h' hz).1 (new h' hz).2
def I0(code:Array Nat)(groups:Nat):MV->P MV:=fun m H=>match m with
 | .str x=>if 0<x.cps.size∧x.length<=16777216∧(G7 code x.cps groups 0 false).any (·.isNone)=true then some (.str x,H) else none
 | _=>none
theorem V4(G:Gd C){cc Pt:Addr}(hC:Rq C sc cc Pt)(hB:∀α H s,HR C α H s->s.heap.BuiltinsAt C.mg Pt){pat e:Expr}{pa:Addr}{groups:Nat}{code:Array Nat}{params:Arguments}{body:Expr}{scope:Scope}{lpos ap pos:Pos}{f:Aj->P MV}
  (hpat:SE C sc k pat (fun zz=>Bg (.val (.ref pa)))) (hP:∀α H s,HR C α H s->PatAt s.heap pa groups code) (h:SE C sc k e f)
  (hdef:∀env,defaultsOf params env=([],[]):=by intro _;rfl) (hfree:∀x∈scope.names,x.2≠.free)
  (he:∀env,∃pl,eval (.Call (.Attribute pat "sub" ap) [.Lambda params body scope lpos,e] [] pos) env=(do
   let ov <- eval pat env
   standAt ap.atName
   let (f,first) <- holding [ov] (getMethod ov "sub" pl)
   callWith pos f first (backTo pos (starEach [.Lambda params body scope lpos,e] env)) []):=by exact fun zz=>⟨_,rfl⟩)
  (hst:∀env,starEach [.Lambda params body scope lpos,e] env=[(false,eval (.Lambda params body scope lpos) env),(false,eval e env)]:=by intro _;rfl)
  (hst2:∀env,starEach [e] env=[(false,eval e env)]:=by intro _;rfl):
  SE C sc k (.Call (.Attribute pat "sub" ap) [.Lambda params body scope lpos,e] [] pos) (fun ρ=>B9 (f ρ) (I0 code groups)):=by
 intro A env α ρ H s Q E r H' hR hr hE hq hp;kcf_m;obtain⟨m,H₁,qA,hq1⟩:=Aw hq;refine hGx ?_;obtain⟨pl,he⟩:=he env;refine MethodCall_ (hpat A env α ρ H s _ _ _ H hR hr hE rfl fun α₀ s₀ vZ rZ xZ wZ=>?_) he;cases wZ;kcf_m;obtain⟨o,fs,ca,oc,items,n,ho,hc,hdi,hrest⟩:=hP _ _ _ rZ;refine hGx ?_;refine getMethod_builtin (T:="re.Pattern") ⟨o,ho,hc⟩ Hn slot_sub Th (fun a e=>by cases e;exact⟨o,ho,hdi⟩) ?_;have hEZ:=hE.ext xZ;refine Fy (fun zz zz=>.inr ⟨_,_,by rw[hst];rfl,rfl⟩) ?_;refine spliced_more ?_ (by rw[hst,hst2]);refine B48 G hC hB (hdef env) hfree rZ hEZ fun sA fn of rH xO hoA hocA nα nB=>?_;have hEA:=hEZ.ext xO;refine spliced_more ?_ (hst2 env);refine h A env α₀ ρ H sA _ _ _ _ hR rH hEA qA fun αB sB vB rI xP wB=>spliced_none ⟨.builtin,?_⟩;unfold I0 at hq1
 split at hq1
 ·rename_i x;obtain⟨t,rfl⟩:=wB
  split at hq1
  ·rename_i hcond;obtain⟨c1,c2,c3⟩:=hcond
   first |exact Cy hq1|replace hp:=D8 hq1 hp|cases hq1
   have hfo:G7 code x.cps groups 0 false=some .none:=by
    cases q:G7 code x.cps groups 0 false with
    | none=>rw[q] at c3;cases c3
    | some y=>cases y with
     | none=>rfl
     | some z=>rw[q] at c3;cases c3
   have hoB:sB.heap.get? fn=some of:=xP.keep fn of hoA nα (fun q=>nomatch q) (Fk G nB);refine Qz (hP _ _ _ rI) hoB hocA ?_;have hk:∀b o,sB.heap.get? b=some o->(sB.heap.push {cls:=.type "list",data:=.seq #[]}).get? b=some o:=fun b o h=>Heap.get?_push_of_some _ h;refine Zw (ztok:=.none) ((hP _ _ _ rI).keeps hk) ⟨0,Heap.get?_push_size _ rfl⟩ c1 c2 hfo fun h' tk t' hkk=>?_;have k3:∀b o,sB.heap.get? b=some o->h'.get? b=some o:=fun b o h=>hkk b o (Nat.ne_of_lt (Heap.lt_size h)) (hk b o h);exact(hp.chain ((xZ.trans xO).trans xP)) _ _ _ (rI.step (s':={sB with heap:=h',toks:=tk}) (fun b o h zz=>k3 b o h) (fun b o h=>⟨o,k3 b o h⟩) rI.gens rfl) ⟨List.prefix_refl _,fun zz h=>.inl h,fun b o h zz zz zz=>k3 b o h,fun b o h=>⟨o,k3 b o h⟩⟩ ⟨t',rfl⟩
  ·first |exact Cy hq1|replace hp:=D8 hq1 hp|cases hq1
 ·first |exact Cy hq1|replace hp:=D8 hq1 hp|cases hq1
end
theorem Pc:Slot "re.Match" "group" "re.Match.group":=
 .of (owner:="re.Match") (n:="group") (by rw[typeLookup_type,builtinLookup_eq_fast];lk) (by kd_p) (by kd_p) (by kd_p)
  (by first |exact .inl (by kd_p)|exact .inr (by kd_p)) (by rw[isSubtype_type];lk)
theorem Mp:PlainAttrs "re.Match":=
 ⟨⟨"object.__getattribute__",by rw[typeLookup_type,builtinLookup_eq_fast];lk,by kd_p⟩,by rw[typeLookup_type,builtinLookup_eq_fast];lk⟩
theorem V5:typeOf (.builtin "re.Match.group")=pure (.type "method_descriptor"):=by show builtinType _=_;rw[builtinType_eq_fast];lk
theorem Tj:entryFor table "re.Match.group"=some Builtin.«re.Match.group»:=entryFor_of_tree (by lk)
theorem V6(a b:Value):argsOk "re.Match.group" ⟨[a,b],[]⟩:=by unfold argsOk;lk
section
variable {C:Cx} {sc:Scope} {k:Nat}
noncomputable def ofM:MO->Option (Str × Nat)
 | .mtch x j=>some (x,j)
 | _=>none
theorem Yh{H:Hp}{i:Nat}{p:Str × Nat}(h:H[i]?.bind ofM=some p):H[i]?=some (.mtch p.1 p.2):=by
 obtain⟨o,e,h⟩:=Dw h;cases o <;> first |exact Cy h|(cases h;exact e)
noncomputable def A9m:Int->Option Nat
 | .ofNat n=>some n
 | .negSucc _=>none
theorem A4u{i:Int}{n:Nat}(h:A9m i=some n):i=.ofNat n:=by
 cases i <;> first |exact Cy h|(cases h;rfl)
def asN(m:MV):Option Nat:=(Pw m).bind A9m
theorem A4v{m:MV}{n:Nat}(h:asN m=some n):m=.int (.ofNat n):=by
 obtain⟨i,e,h⟩:=Dw h;cases A4u h;cases m <;> first |exact Cy e|(cases e;rfl)
def A4w:List MV->Option (Nat × Nat)
 | [a,b]=>(asN a).bind fun i=>(asN b).map fun j=>(i,j)
 | _=>none
theorem A4x{l:List MV}{p:Nat × Nat}(h:A4w l=some p):l=[.int (.ofNat p.1),.int (.ofNat p.2)]:=by
 rcases l with _|⟨a,_|⟨b,_|⟨c,l⟩⟩⟩ <;> try (exact Cy h)
 obtain⟨i,e1,h2⟩:=Dw (show (asN a).bind _=_ from h);obtain⟨j,e2,h3⟩:=Ju h2;cases h3;rw[A4v e1,A4v e2]
def isM:Hp->MV->Bool:=fun H m=>((asR m).bind fun i=>H[i]?.bind ofM).isSome
theorem V7:GetM C isM "group" "re.Match.group":=by
 intro A α H s m v pl Q E hr hv hok hQ;obtain⟨p,e⟩:=Option.isSome_iff_exists.mp hok;obtain⟨i,e1,e2⟩:=Dw e;cases Ii e1;obtain⟨a,rfl,b,t,v1,v2,v3,v4,hb,ho⟩:=hr.refAt (Yh e2) hv;exact getMethod_builtin ⟨_,ho,rfl⟩ Mp Pc V5 (fun a e=>by cases e;exact⟨_,ho,rfl⟩) hQ
def A4y:MV->MV->P MV:=fun m g H=>(asR m).bind fun i=>(Pw g).bind fun n=>(H[i]?.bind ofM).bind fun p=>((H[p.2]?.bind ofT).bind A4w).bind fun q=>
 if n=0∧p.1.length<=16777216 then some (.str ⟨p.1.cps.extract q.1 q.2⟩,H) else none
theorem A4z:CallOk C k (.builtin "re.Match.group") (two A4y):=by
 refine .two fun A α H s Q E m g v u r H' hR hr hv hu hf hp=>?_;obtain⟨i,e1,hf⟩:=Dw hf;obtain⟨n,e2,hf⟩:=Dw hf;obtain⟨⟨x,j⟩,e3,hf⟩:=Dw hf;obtain⟨⟨b,e⟩,e4,hf⟩:=Dw hf;obtain⟨⟨en,hsz⟩,hf'⟩:=Lm hf;clear hf;replace hp:=D8 hf' hp;clear hf';subst en;obtain⟨l,e5,e6⟩:=Dw e4;cases Ii e1;cases A4x e6;obtain⟨ta,rfl⟩:=C1 e2 hu;clear e1 e2 e4 e6;kcf_m;obtain⟨a,rfl,T,t,v1,v2,v3,v4,hT,ho⟩:=hr.refAt (Yh e3) hv;refine hGx ?_;kcf_m;obtain⟨T',hT',vs,⟨oT,hoT,hcT,n,hdT⟩,hrel⟩:=hr.at (Ra e5);refine hGx ?_;cases hT.symm.trans hT';obtain⟨vl⟩:=vs;obtain⟨_,_,rfl,⟨t1,rfl⟩,⟨t2,rfl⟩⟩:=B40 (show VRels α [.int (.ofNat b),.int (.ofNat e)] vl from hrel);refine wpAny_call_entry Pc ⟨_,ho,rfl⟩ Tj ?_ (V6 _ _);unfold Builtin.«re.Match.group»;refine wpAny_bind (wpAny_of_eq (a:=()) (by rfl) ?_);dsimp only;unfold reFound;refine wpAny_bind (wpAny_bind (wpAny_fieldsOf ho rfl ?_));unfold reRawItems;refine wpAny_bind (wpAny_bind (wpAny_seqItems hoT hdT (wpAny_pure (wpAny_pure ?_))));have hm:Array.map reRawOf ((some ({toList:=[Value.int (Int.ofNat b) t1,Value.int (Int.ofNat e) t2]}:Array Value)).getD #[])=#[Int.ofNat b,Int.ofNat e]:=by simp[reRawOf]
 rw[hm];refine wpAny_bind (wpAny_of_eq (a:=0) (by first |rfl|lk) ?_);refine wpAny_bind ?_;show wpAny _ _ (if (decide (Int.ofNat b<0)||decide (Int.ofNat e<0))=true then pure Value.none else do
  let (text,kind) <- reTextOf (.str x t)
  reSlice text kind (Int.toNat (Int.ofNat b)) (Int.toNat (Int.ofNat e))) _ _ _
 rw[if_neg (by simp only[Bool.or_eq_true,decide_eq_true_eq,not_or];exact⟨Int.not_lt.mpr (Int.natCast_nonneg b),Int.not_lt.mpr (Int.natCast_nonneg e)⟩)];refine wpAny_bind (wpAny_of_eq (a:=(x.cps,0)) (by rfl) ?_);show wpAny _ _ (mkStr ⟨x.cps.extract b e⟩) _ _ _;refine wpAny_mkStr (wpAny_pure ⟨_,rfl,hp.hereT hr _ ⟨_,rfl⟩⟩) ?_;show (x.cps.extract b e).size<=16777216;have:(x.cps.extract b e).size<=x.cps.size:=by simp;exact B8n
 exact Nat.le_trans this hsz
end
section
variable {C:Cx} {sc:Scope} {k:Nat}
theorem Room.in1{A:Around}(r:Room (k+1) A):Room k A.in1:=
 ⟨r.handled,by have:=r.depth;show A.depth+k<_;exact B8o this,by have:=r.units;show A.units+1+8*k+200<_;exact B8p this⟩
def J7(code:Array Nat)(x:Str)(g:List MV->P MV):Nat->Nat->List Str->P MV
 | 0,_,_=>fl
 | n+1,d,acc=>fun H=>(G7 code x.cps 0 d false).bind fun o=>match o with
  | some m=>if m.start=d∧(m.handed==m.start)=false∧acc.length<=16777216 then B9 (g [.ref (H.length+1)]) (fun r H=>(Lo r).bind fun y=>J7 code x g n m.handed (acc++[y]) H) ((H++[.tup [.int (Int.ofNat m.start),.int (Int.ofNat m.handed)]])++[.mtch x H.length]) else none
  | none=>if d=x.cps.size∧acc≠[]∧(acc.map (·.length)).sum<=16777216∧acc.length<=16777216 then some (.str (Txt.join ⟨x.cps.extract 0 0⟩ acc),H) else none
theorem Tk{M:Model}{A:Around}{E:Value->Shared->Prop}{s:Shared}{pa:Addr}{x:Str}{t:Tok}{lim:Nat}{m:Sre.M}{Q:Value->Shared->Prop}
  (h:Q (.ref (s.heap.objs.size+1)) {s with heap:=(s.heap.push {cls:=.type "tuple",data:=.seq #[rawInt m.start,rawInt m.handed]}).push {cls:=.type "re.Match",data:=.fields #[.str x t,.ref pa,rawInt (0:Nat),rawInt lim,rawInt m.lastindex,.ref s.heap.objs.size]}}):
  wpAny M A (reNewMatch (.ref pa) (.str x t) 0 0 lim m) Q E s:=by
 unfold reNewMatch;dsimp only;rw[show List.range 0=[] from rfl];refine J6 (by simp) ?_;have e:(s.heap.push {cls:=.type "tuple",data:=.seq #[rawInt m.start,rawInt m.handed]}).objs.size=s.heap.objs.size+1:=Heap.size_push ..;refine wpAny_bind (wpAny_newObj_type ?_ (by show (2:Nat)<=sizeLine;decide));refine wpAny_newObj_type ?_;rw[<- e] at h;exact h
theorem Zx{y:Str}{t:Tok}{vs:List Value}{ys:List Str}(h:StrsAre vs ys):StrsAre (vs++[.str y t]) (ys++[y]):=by
 induction h with
 | nil=>exact .cons y t .nil
 | cons a b h ih=>exact .cons a b ih
theorem V8(G:Gd C){pa fa:Addr}{code:Array Nat}{g:List MV->P MV}(hP:∀α H s,HR C α H s->PatAt s.heap pa 0 code)(hg:CallOk C k (.ref fa) g){x:Str}{t:Tok}{p:Addr}(hx:x.length<=16777216)(hpB:C.B.objs.size<=p):
  ∀(n d c:Nat) (acc:List Str) (A:Around) (α:List Addr) (H:Hp) (s:Shared) (items:Array Value) (R:Result->Shared->Prop) (r:MV) (H':Hp),Room (k+1) A->HR C α H s->p ∉ α->s.heap.PlainList p items->StrsAre items.toList acc->
   J7 code x g n d acc H=some (r,H')->(∀α' s' v,HR C α' H' s'->VRel α' r v->α<+:α'->(∀a∈α',a∈α∨s.heap.get? a=none)->(∀b o,s.heap.get? b=some o->b ∉ α->b≠p->b ∉ C.tabs->s'.heap.get? b=some o)->(∀b o,s.heap.get? b=some o->∃o',s'.heap.get? b=some o')->R (.ok (.ret v)) s')->
   codeAny (model C.prog C.w) A (.builtin "re.Pattern.sub.loop" ⟨[.ref pa,.str x t,.ref fa,rawInt 1,rawInt 0,rawInt c,rawInt d,rawInt d,.bool false,.ref p,.bool false],[]⟩) R s:=by
 intro n
 induction n with
 | zero=>intro d c acc A α H s items R r H' hR hr hpα hl hsa hf hq;exact Cy hf
 | succ n ih=>
  intro d c acc A α H s items R r H' hR hr hpα hl hsa hf hq;obtain⟨o,hfound,hf⟩:=Dw (show (G7 code x.cps 0 d false).bind _=_ from hf);refine codeAny_builtin Pb ?_;rw[Around.under_plainId Jc];unfold Builtin.«re.Pattern.sub.loop»;dsimp only[rawInt];refine wpAny_bind (K9 (hP _ _ _ hr) ?_);rw[if_neg (by decide)]
  try dsimp only
  rw[if_neg (show ¬((0:Int) != 0&&decide ((c:Int)≥0))=true by simp)];kcf_m;rcases o with _|m
  rotate_left
  ·obtain⟨hm,hf⟩:=Lm (show (if _ then _ else none)=_ from hf)
   ·obtain⟨hs,hh,hal⟩:=hm;have hisz:items.size<=sizeLine:=by
     have e1:items.size=acc.length:=by rw[<- Array.length_toList];exact hsa.len_eq
     rw[e1];exact hal
    obtain⟨y,H₁,qA,hf⟩:=Aw hf;obtain⟨y',ey,hf⟩:=Dw (show (Lo y).bind _=_ from hf);refine hGx ?_;refine wpAny_bind (Mo (r:=some m) hfound rfl ?_);dsimp only;refine J6 (show ¬Int.toNat (d:Int)<m.start by rw[hs];simp) ?_;refine J6 (by decide) ?_;refine wpAny_bind (Tk ?_);refine wpAny_bind (wpAny_holding ?_);refine V2 (by decide) ?_;have rH:=hr.alloc G {cls:=.type "tuple",data:=.seq #[rawInt m.start,rawInt m.handed]} (.tup [.int (Int.ofNat m.start),.int (Int.ofNat m.handed)]) s.toks (fun α' h p ho=>⟨#[rawInt m.start,rawInt m.handed],⟨_,ho,rfl,0,rfl⟩,.cons ⟨0,rfl⟩ (.cons ⟨0,rfl⟩ .nil)⟩);have eO:Ext C [] α s (α++[s.heap.objs.size]) {s with heap:=s.heap.push {cls:=.type "tuple",data:=.seq #[rawInt m.start,rawInt m.handed]}}:=.alloc _ s.toks;have hsz:(s.heap.push {cls:=.type "tuple",data:=.seq #[rawInt m.start,rawInt m.handed]}).objs.size=s.heap.objs.size+1:=Heap.size_push ..;have rI:=rH.alloc G {cls:=.type "re.Match",data:=.fields #[.str x t,.ref pa,rawInt (0:Nat),rawInt (Cb pa x t 0 code).lim,rawInt m.lastindex,.ref s.heap.objs.size]} (.mtch x H.length) s.toks (fun α' h p ho=>⟨s.heap.objs.size,t,_,_,_,_,Hz p (by rw[<- hr.objs.length];simp),ho⟩);have eP:=eO.trans (Ext.alloc (C:=C) (X:=[]) (α:=α++[s.heap.objs.size]) (s:={s with heap:=s.heap.push {cls:=.type "tuple",data:=.seq #[rawInt m.start,rawInt m.handed]}}) {cls:=.type "re.Match",data:=.fields #[.str x t,.ref pa,rawInt (0:Nat),rawInt (Cb pa x t 0 code).lim,rawInt m.lastindex,.ref s.heap.objs.size]} s.toks);refine hg A.in1 _ _ _ _ _ [.ref (H.length+1)] [.ref (s.heap.objs.size+1)] _ H₁ hR.in1 rI (.cons ⟨s.heap.objs.size+1,?_,rfl⟩ .nil) qA fun αC sC vC rC xJ wJ=>?_
    ·show (α++[s.heap.objs.size]++[_])[H.length+1]?=some _;rw[<- hr.objs.length];simp[hsz]
    ·obtain⟨t',rfl⟩:=Cm ey wJ;have xx:=eP.trans xJ;obtain⟨n',ho⟩:=hl;have hoC:=xx.keep p _ ho hpα (fun q=>nomatch q) (Fk G hpB);have pJ:p ∉ αC:=fun q=>by
      rcases xx.fresh p q with z|z
      ·exact hpα z
      ·rw[ho] at z;cases z
     refine V2 (by rfl) ?_;refine wpAny_bind (wpAny_updateSeq hoC rfl ?_ hisz (by rw[Array.size_push];exact Nat.succ_le_succ hisz));have hgp:(sC.heap.update p (Obj.mapSeq (·.push (.str y' t')))).get? p=some {cls:=.type "list",data:=.seq (items.push (.str y' t')) (n'+1)}:=by
      rw[Heap.get?_update_self _ hoC (by rw[Obj.mapSeq_push_plain];rfl),Obj.mapSeq_push_plain]
     have hsb:Heap.SameBut p sC.heap (sC.heap.update p (Obj.mapSeq (·.push (.str y' t')))):=Heap.SameBut.update ..;refine wpAny_pure ⟨plainId_quiet Jc _,?_⟩;rw[hh];have rD:HR C αC H₁ {sC with heap:=sC.heap.update p (Obj.mapSeq (·.push (.str y' t')))}:=rC.off (tk:=sC.toks) pJ hpB (B1 hsb);refine ih m.handed (c+1) (acc++[y']) A αC H₁ _ _ R r H' hR rD pJ ⟨_,hgp⟩ ?_ hf fun α' s' v rr vv pp ff kk ll=>?_
     ·rw[Array.toList_push];exact Zx hsa
     ·have lv:∀b o,s.heap.get? b=some o->∃o',(sC.heap.update p (Obj.mapSeq (·.push (.str y' t')))).get? b=some o':=fun b o hb=>by
       by_cases e:b=p
       ·subst e;exact⟨_,hgp⟩
       ·obtain⟨o',ho'⟩:=xx.live b o hb;exact⟨o',(hsb.2 b e).trans ho'⟩
      refine hq α' s' v rr vv ((List.prefix_append α [s.heap.objs.size]).trans ((List.prefix_append _ _).trans (xJ.pre.trans pp))) (fun a ha=>?_) (fun b o hb h1 h2 h3=>?_) (fun b o hb=>?_)
      ·rcases ff a ha with z|z
       ·exact xx.fresh a z
       ·refine .inr ?_;cases q:s.heap.get? a with
        | none=>rfl
        | some o=>obtain⟨o',ho'⟩:=lv a o q;rw[z] at ho';cases ho'
      ·refine kk b o ((hsb.2 b h2).trans (xx.keep b o hb h1 (fun q=>nomatch q) h3)) (fun q=>?_) h2 h3;rcases xx.fresh b q with z|z
       ·exact h1 z
       ·rw[hb] at z;cases z
      ·obtain⟨o',ho'⟩:=lv b o hb;exact ll b o' ho'
  ·obtain⟨hc,hf⟩:=Lm (show (if _ then _ else none)=_ from hf)
   ·obtain⟨c1,c2,c3,c4⟩:=hc;cases hf;obtain⟨n',ho⟩:=hl;refine hGx ?_;refine wpAny_bind (Mo (r:=none) hfound rfl ?_);dsimp only;refine J6 (show ¬Int.toNat (d:Int)<x.cps.size by rw[c1];simp) ?_;refine wpAny_bind (Ti ?_);refine wpAny_bind (wpAny_seqItems ho rfl ?_);dsimp only[Option.getD];have hne:¬items.isEmpty=true:=fun q=>c2 (by
     have:items.toList=[]:=by simpa using q
     rw[this] at hsa;cases hsa;rfl)
    refine J6 hne ?_;refine wpAny_bind ?_;show wpAny _ _ (call (.builtin "str.join") [.str ⟨x.cps.extract 0 0⟩ _,.ref p]) _ _ _;refine join_list (ys:=acc) ⟨_,ho,rfl,_,rfl⟩ hsa ?_ fun t' k=>?_
    ·have:(⟨x.cps.extract 0 0⟩:Str).length=0:=by show (x.cps.extract 0 0).size=0;simp
     rw[this];simpa using c3
    ·refine J6 Bool.false_ne_true ?_;exact wpAny_pure (hq α _ _ (hr.toks k) ⟨t',rfl⟩ (List.prefix_refl _) (fun zz h=>.inl h) (fun b o h zz zz zz=>h) fun b o h=>⟨o,h⟩)
end
section
variable {C:Cx} {sc:Scope} {k:Nat}
def Yi(code:Array Nat)(g:List MV->P MV)(n:Nat):MV->P MV:=fun m H=>(Lo m).bind fun x=>if x.length<=16777216 then J7 code x g n 0 [] H else none
theorem Zy(G:Gd C){pat fn e:Expr}{pa fa:Addr}{code:Array Nat}{ap pos:Pos}{f:Aj->P MV}{g:List MV->P MV}(n:Nat)
  (hpat:SE C sc (k+1) pat (fun zz=>Bg (.val (.ref pa)))) (hP:∀α H s,HR C α H s->PatAt s.heap pa 0 code) (hfn:SE C sc (k+1) fn (fun zz=>Bg (.val (.ref fa))))
  (hfo:∀α H s,HR C α H s->∃of,s.heap.get? fa=some of∧of.cls=.type "function") (hg:CallOk C k (.ref fa) g) (h:SE C sc (k+1) e f)
  (he:∀env,∃pl,eval (.Call (.Attribute pat "sub" ap) [fn,e] [] pos) env=(do
   let ov <- eval pat env
   standAt ap.atName
   let (f,first) <- holding [ov] (getMethod ov "sub" pl)
   callWith pos f first (backTo pos (starEach [fn,e] env)) []):=by exact fun zz=>⟨_,rfl⟩)
  (hst:∀env,starEach [fn,e] env=[(false,eval fn env),(false,eval e env)]:=by intro _;rfl)
  (hst2:∀env,starEach [e] env=[(false,eval e env)]:=by intro _;rfl):
  SE C sc (k+1) (.Call (.Attribute pat "sub" ap) [fn,e] [] pos) (fun ρ=>B9 (f ρ) (Yi code g n)):=by
 intro A env α ρ H s Q E r H' hR hr hE hq hp;kcf_m;obtain⟨m,H₁,qA,hq1⟩:=Aw hq;refine hGx ?_;obtain⟨pl,he⟩:=he env;refine MethodCall_ (hpat A env α ρ H s _ _ _ H hR hr hE rfl fun α₀ s₀ vZ rZ xZ wZ=>?_) he;cases wZ;kcf_m;obtain⟨o,fs,ca,oc,items,n',ho,hc,hdi,hrest⟩:=hP _ _ _ rZ;refine hGx ?_;refine getMethod_builtin (T:="re.Pattern") ⟨o,ho,hc⟩ Hn slot_sub Th (fun a e=>by cases e;exact⟨o,ho,hdi⟩) ?_;have hEZ:=hE.ext xZ;refine Fy (fun zz zz=>.inr ⟨_,_,by rw[hst];rfl,rfl⟩) ?_;refine spliced_more ?_ (by rw[hst,hst2]);refine hfn A env α₀ ρ H s₀ _ _ _ H hR rZ hEZ rfl fun αA sA vA rH xO wA=>?_;cases wA;refine spliced_more ?_ (hst2 env);refine h A env αA ρ H sA _ _ _ _ hR rH (hEZ.ext xO) qA fun αB sB vB rI xP wB=>spliced_none ⟨.builtin,?_⟩;obtain⟨x,ex,hq1⟩:=Dw (show (Lo m).bind _=_ from hq1)
 ·obtain⟨hx,hq1⟩:=Lm hq1;obtain⟨t,rfl⟩:=Cm ex wB
  ·obtain⟨of,hof,hofc⟩:=hfo _ _ _ rI;refine Qz (hP _ _ _ rI) hof hofc ?_;have hk:∀b o,sB.heap.get? b=some o->(sB.heap.push {cls:=.type "list",data:=.seq #[]}).get? b=some o:=fun b o h=>Heap.get?_push_of_some _ h;have rC:HR C αB H₁ {sB with heap:=sB.heap.push {cls:=.type "list",data:=.seq #[]}}:=rI.push _ sB.toks;refine V8 G hP hg hx (Py G rI) n 0 0 [] A αB H₁ _ #[] _ r H' hR rC (Lq rI) ⟨0,Heap.get?_push_size _ rfl⟩ .nil hq1 fun α' s' v rr vv pp ff kk ll=>?_;have dead:∀b,(sB.heap.push {cls:=.type "list",data:=.seq #[]}).get? b=.none->sB.heap.get? b=.none:=fun b hb=>by
    cases q:sB.heap.get? b with
    | none=>rfl
    | some o=>rw[hk b o q] at hb;cases hb
   refine(hp.chain ((xZ.trans xO).trans xP)) α' s' v rr ⟨pp,fun a ha=>(ff a ha).imp id (dead a),fun b o hb h1 zz h3=>kk b o (hk b o hb) h1 (Nat.ne_of_lt (Heap.lt_size hb)) h3,fun b o hb=>ll b o (hk b o hb)⟩ vv
end
end Mine.Internal
end
noncomputable section
open PySem PySem.W PyProof.Rows
namespace Mine.Internal
local macro_rules | `(tactic|lk)=>`(tactic|first |kernel_rfl|decide+kernel)
local macro_rules | `(tactic|kd_p)=>`(tactic|decide+kernel)
set_option hygiene false in
local macro_rules | `(tactic|kpf_c)=>`(tactic|first |exact Cy hf|replace hp:=D8 hf hp|cases hf)
set_option hygiene false in
local macro_rules | `(tactic|kcf_m)=>`(tactic|refine On fun Gx hGx=>?_)
local macro_rules | `(tactic|w_up)=>`(tactic|repeat z_go)
def B49(j:Nat):MO->Option (Nat->P (Option MV))
 | .rng a b c=>if Builtin.Range.small a b c=true then some (Jq a b c) else none
 | .dict es=>some (Zj j es.length)
 | _=>none
def Ej(T:GT)(m:MV)(H:Hp):Option (Nat->P (Option MV)):=
 if (C7 T H m).isSome=true then some (Ox T m)
 else if (D0 T H m).isSome=true then some (Sv T m)
 else ((Lo m).bind fun x=>if x.cps.all (·<128)=true then some (A4c x) else none).or ((asR m).bind fun j=>H[j]?.bind (B49 j))
section
variable {C:Cx} {sc:Scope} {k:Nat}
theorem B5a{m:MV}{x:Str}(h:Lo m=some x):m=.str x:=by
 cases m <;> first |exact Cy h|(cases h;rfl)
theorem A7(G:Gd C){Cb:Expr}:Jn C Cb (Ej C.T):=by
 intro m H src h;unfold Ej at h
 split at h
 ·rename_i hl;cases h;exact Zi G hl
 ·split at h
  ·rename_i hl;cases h;exact A4b G hl
  ·rcases orS h with h|⟨_,h⟩
   ·obtain⟨x,e,h⟩:=Dw h;obtain⟨hm,h2⟩:=Lm h;obtain rfl:=B5a e;cases h2;exact A4d G hm
   ·obtain⟨j,e,h⟩:=Dw h;obtain⟨o,eo,h2⟩:=Dw h;obtain rfl:=Ii e;cases o <;> try (exact Cy h2)
    ·cases h2;exact Zk G eo
    ·obtain⟨hs,h3⟩:=Lm (show (if _=true then _ else none)=_ from h2);cases h3;exact Vk G eo hs
theorem CallOk.up{f:Value}{g:List MV->P MV}{j k:Nat}(h:j<=k)(hc:CallOk C j f g):CallOk C k f g:=
 fun A α H s Q E ms vs r H' hR hr hv hf hp=>hc A α H s Q E ms vs r H' (hR.mono h) hr hv hf hp
noncomputable def Mq(scope sc:Scope):Bool:=(scope.kind==.function)&&decide ((scope.names.map (·.1)).Nodup)&&scope.names.all fun p=>p.2 != .free||(sc.names.lookup p.1==some .cell||sc.names.lookup p.1==some .free)
theorem InnerOk.of{scope sc:Scope}(hcd:∀c,¬C.cd (B3 scope sc) c)(h:Mq scope sc=true):InnerOk C scope sc (B3 scope sc):=by
 unfold Mq at h;simp only[Bool.and_eq_true,List.all_eq_true,decide_eq_true_eq] at h;obtain⟨⟨h1,h2⟩,h3⟩:=h;refine⟨hcd,rfl,by simpa using h1,h2,fun p hp hf=>?_⟩;have:=h3 p hp;rw[hf] at this;simpa using this
theorem A7k{ns:List Str}{scope:Scope}(h:(ns.all fun x=>!(scope.names.any fun p=>p.1==x&&p.2==.free))=true):∀x∈ns,(x,NameKind.free) ∉ scope.names:=by
 intro x hx hm;have:=List.all_eq_true.mp h x hx;rw[Bool.not_eq_true',List.any_eq_false] at this;exact this _ hm (by simp)
inductive FnAt(C:Cx)(a:Addr)(sc:Scope)(body:List Stmt)(ps:List Str):Prop
 | mk (c:Addr) (o oc:Obj) (fd:FuncData) (vc:Array Value) (t:Tok) (h1:C.B.get? a=some o) (h2:o.data=.func fd) (h3:o.cls=.type "function") (h4:a ∉ C.tabs) (h5:fd.body=.stmts body) (h6:fd.closure=[]) (h7:fd.globals=mainGlobals) (h8:fd.builtins=builtinsNs)
  (h9:fd.code=.ref c) (h10:C.B.get? c=some oc) (h11:c ∉ C.tabs) (h12:oc.data=.fields vc) (h13:vc[1]?=some (.str fd.qualname t)) (h14:fd.scope=sc) (h15:∀vs:List Value,vs.length=ps.length->bindArgs fd ⟨vs,[]⟩=pure (ps.zip vs)) (h16:∀c',C.cd sc c'->c'=c)
noncomputable def fnB(sc:Scope)(ps:List Str):Bool:=(ps.all fun x=>sc.names.lookup x==some .local||sc.names.lookup x==some .cell)&&(sc.names.all fun p=>p.2 != .free)&&decide (((cellsFrom 0 sc.names []).map (·.1)).Nodup)&&!sc.isCoroutine&&!sc.isGenerator&&(sc.kind==.function)
theorem CallOk.at(G:Gd C){a:Addr}{body:List Stmt}{ps:List Str}{f:Aj->P (Fl × Aj)}(h:FnAt C a sc body ps)(hb:fnB sc ps=true)(hbody:SB C sc k body f):CallOk C (k+1) (.ref a) (Ct ps f):=by
 kcf_m;obtain⟨c,o,oc,fd,vc,t,h1,h2,h3,h4,h5,h6,h7,h8,h9,h10,h11,h12,h13,rfl,h15,h16⟩:=h;refine hGx ?_;unfold fnB at hb;simp only[Bool.and_eq_true,decide_eq_true_eq,Bool.not_eq_true'] at hb;kcf_m;obtain⟨⟨⟨⟨⟨b1,b2⟩,b3⟩,b4⟩,b5⟩,b6⟩:=hb;refine hGx ?_;refine CallOk.fn G h1 h2 h4 h5 h6 h7 h8 h9 h10 h11 h12 h13 h15 b1 (fun x hx=>?_) b3 b4 b5 (by simpa using b6) h16 hbody;have:=List.all_eq_true.mp b2 _ (Lw hx);simp at this
theorem FnAt.kp{a:Addr}{body:List Stmt}{ps:List Str}(h:FnAt C a sc body ps):KpA C (.ref a):=by
 kcf_m;obtain⟨c,o,oc,fd,vc,t,h1,h2,h3,h4,_⟩:=h;refine hGx ?_;exact .fn h1 h4 h2
end
def pC(v:MV):Aj->P MV:=fun zz=>Bg v
def Am(fA fB:Aj->P MV)(g:MV->MV->P MV):Aj->P MV:=fun ρ=>B9 (fA ρ) fun a=>B9 (fB ρ) fun b=>g a b
def At(T:GT)(fA fB:Aj->P MV)(g:MV->MV->P MV):Aj->P Bool:=fun ρ=>B9 (fA ρ) fun a=>B9 (fB ρ) fun b=>B9 (g a b) (Fs T)
def Da(T:GT)(f:Aj->P MV):Aj->P Bool:=fun ρ=>B9 (f ρ) (Fs T)
def P8(f:Aj->P Bool):Aj->P Bool:=fun ρ=>B9 (f ρ) fun b=>Bg (!b)
def Eg:Aj->P Bool:=fun zz=>Bg true
def Mr:Aj->P Bool:=fun zz=>Bg false
def Dk(f g:Aj->P Bool):Aj->P Bool:=fun ρ=>B9 (f ρ) fun b=>if b then g ρ else Bg false
def Nl(f g:Aj->P Bool):Aj->P Bool:=fun ρ=>B9 (f ρ) fun b=>if b then Bg true else g ρ
def Cv{β:Type}(f:Aj->P Bool)(g j:Aj->P β):Aj->P β:=fun ρ=>B9 (f ρ) fun c=>if c then g ρ else j ρ
def Tl(T:GT)(f g:Aj->P MV):Aj->P MV:=fun ρ=>B9 (f ρ) fun a=>B9 (Fs T a) fun b=>if b then g ρ else Bg a
def D0r(T:GT)(f g:Aj->P MV):Aj->P MV:=fun ρ=>B9 (f ρ) fun a=>B9 (Fs T a) fun b=>if b then Bg a else g ρ
def Jd(f:Aj->P MV):Aj->P MV:=fun ρ=>B9 (f ρ) fun a=>match a with | .int i=>Bg (.int (-i))|_=>fl
def Af:Aj->P (List MV):=fun zz=>Bg []
def Ab(f:Aj->P MV)(g:Aj->P (List MV)):Aj->P (List MV):=fun ρ=>B9 (f ρ) fun a=>B9 (g ρ) fun r=>Bg (a::r)
def Ak{β γ:Type}(f:Aj->P β)(g:β->P γ):Aj->P γ:=fun ρ=>B9 (f ρ) g
def Cp(ff:Aj->P MV)(fa:Aj->P (List MV))(d:MV->List MV->P MV):Aj->P MV:=fun ρ=>B9 (ff ρ) fun m=>B9 (fa ρ) fun ms=>d m ms
def Be(ok:Hp->MV->Bool)(fo:Aj->P MV)(fa:Aj->P (List MV))(g:List MV->P MV):Aj->P MV:=fun ρ=>B9 (fo ρ) fun m=>B9 (chk ok m) fun zz=>B9 (fa ρ) fun ms=>g (m::ms)
def Ms:Aj->P (Option Int):=fun zz=>Bg none
def Cq(f:Aj->P MV):Aj->P (Option Int):=fun ρ=>B9 (f ρ) fun a=>match a with | .int i=>Bg (Option.some i)|_=>fl
def Bz(T:GT)(f:Aj->P MV)(g j:Aj->P (Option Int)):Aj->P MV:=fun ρ=>B9 (f ρ) fun a=>B9 (g ρ) fun l=>B9 (j ρ) fun u=>Kf T a l u
def Bi(x:Str)(f:Aj->P MV):Aj->P (Fl × Aj):=fun ρ=>B9 (f ρ) fun v=>Bg (.next,upd ρ x v)
def C3(x:Str)(f:Aj->P MV)(g:MV->MV->P MV):Aj->P (Fl × Aj):=fun ρ=>B9 (Ac x ρ) fun a=>B9 (f ρ) fun b=>B9 (g a b) fun c=>Bg (.next,upd ρ x c)
def Cw(f:Aj->P MV):Aj->P (Fl × Aj):=fun ρ=>B9 (f ρ) fun zz=>Bg (.next,ρ)
def C6(f:Aj->P MV):Aj->P (Fl × Aj):=fun ρ=>B9 (f ρ) fun a=>Bg (.ret a,ρ)
def Rs:Aj->P (Fl × Aj):=fun ρ=>Bg (.brk,ρ)
def V9(f:Aj->P Bool):Aj->P (Fl × Aj):=fun ρ=>B9 (f ρ) fun b=>if b then Bg (.next,ρ) else fl
def Ap:Aj->P (Fl × Aj):=fun ρ=>Bg (.next,ρ)
def Wa(f:Aj->P MV)(g:Aj->MV->P Aj):Aj->P (Fl × Aj):=fun ρ=>B9 (f ρ) fun a=>B9 (g ρ a) fun ρ'=>Bg (.next,ρ')
def G8(T:GT)(ns:List Str)(f:Aj->P MV):Aj->P (Fl × Aj):=fun ρ=>B9 (f ρ) fun a=>B9 (Gl T ns.length a) fun xs=>Bg (.next,Ci ns.reverse xs.reverse ρ)
def Ko(T:GT)(n:Nat)(f:Aj->P MV)(t:Aj->MV->P Aj)(b o:Aj->P (Fl × Aj)):Aj->P (Fl × Aj):=fun ρ=>B9 (f ρ) fun m=>fun H=>(Ej T m H).bind fun src=>Gg src t b o n 0 ρ H
def A9n(n:Nat)(f:Aj->P (Nat->P (Option MV)))(t:Aj->MV->P Aj)(b o:Aj->P (Fl × Aj)):Aj->P (Fl × Aj):=fun ρ=>B9 (f ρ) fun src=>Gg src t b o n 0 ρ
def A7l(fv fo fi:Aj->P MV):Aj->P (Fl × Aj):=fun ρ=>B9 (fv ρ) fun v=>B9 (fo ρ) fun a=>B9 (fi ρ) fun b=>B9 (Vo a b v) fun zz=>Bg (.next,ρ)
def B5b(fo fi:Aj->P MV):Aj->P (Fl × Aj):=fun ρ=>B9 (fo ρ) fun a=>B9 (fi ρ) fun b=>B9 (A7b a b) fun zz=>Bg (.next,ρ)
def A2(x:Str):Aj->MV->P Aj:=fun ρ m=>Bg (upd ρ x m)
def Jr:Aj->List MV->P Aj:=fun ρ zz=>Bg ρ
def Cj(f:Aj->MV->P Aj)(g:Aj->List MV->P Aj):Aj->List MV->P Aj:=fun ρ ms=>match ms with|m::ms=>B9 (f ρ m) fun ρ'=>g ρ' ms|[]=>fl
def Js(T:GT)(n:Nat)(f:Aj->List MV->P Aj):Aj->MV->P Aj:=fun ρ m=>B9 (Gl T n m) fun xs=>f ρ xs
def pIs:MV->MV->P MV:=fun x y H=>(A4i x y).map fun b=>(.bool b,H)
def En:MV->MV->P MV:=fun x y H=>(A4i x y).map fun b=>(.bool (!b),H)
def cT:Aj->P Bool:=fun zz=>Bg true
noncomputable def C8(fs:List Str)(ρ:Aj):Aj:=fun x=>if fs.contains x then ρ x else none
noncomputable def Zz(scope:Scope)(fs:List Str):Bool:=(fs.all fun x=>scope.names.lookup x==some .free)&&scope.names.all fun p=>p.2 != .free||fs.contains p.1
theorem Nw{scope:Scope}{fs:List Str}(h:Zz scope fs=true):Rk scope=C8 fs:=by
 unfold Zz at h;simp only[Bool.and_eq_true,List.all_eq_true] at h;obtain⟨h1,h2⟩:=h
 funext ρ x
 unfold Rk C8;by_cases hx:fs.contains x=true
 ·rw[if_pos hx,if_pos];exact beq_iff_eq.mp (h1 x (List.contains_iff_mem.mp hx))
 ·rw[if_neg hx,if_neg];intro q;have:=h2 (x,.free) (Lw q);simp only[bne_self_eq_false,Bool.false_or] at this;exact hx this
section
variable {C:Cx} {sc:Scope} {k:Nat}
theorem Ho(G:Gd C){x:Str}{pos:Pos}{i:Int}(hx:Zd sc x=true)(hv:∃t,C.mg x=some (.int i t))
  (hd:(x==("__debug__":Str))=false:=by decide):SE C sc k (.Name x pos) (fun zz=>Bg (.int i)):=by
 obtain⟨t,hv⟩:=hv;intro A env α ρ H s Q E r H' hR hr hE hf hp;kpf_c;exact Ea G hx hv hd A env α ρ H s Q E _ H hR hr hE rfl fun α' s' v h1 h2 h3=>hp α' s' v h1 h2 (by cases h3;exact⟨t,rfl⟩)
noncomputable def Yj(elt:Expr):Value->Env->Sem Unit:=fun acc env=>do let _ <- call (.builtin "list.append") [acc,<- eval elt env]
def Tm(elt:Expr)(c0:Comprehension)(Cb iter:Expr)(ifs:List Expr)(scope:Scope)(pos:Pos):Value->Env->Sem Unit:=fun acc env=>do
   let x <- eval iter env
   standAt iter.pos
   let x <- foldedSetIterable iter env x
   let _ <- runOwn (.compStart (.ListComp elt (c0::⟨Cb,iter,ifs,0⟩::[]) scope pos) 1 (<- holding [x] (pyIter x)) acc env) env
theorem A9o{elt:Expr}{scope:Scope}{pos:Pos}{Cb iter tgt1 G6:Expr}{ifs ifs1:List Expr}:∀it acc env,compTurn (.ListComp elt (⟨Cb,iter,ifs,0⟩::⟨tgt1,G6,ifs1,0⟩::[]) scope pos) 0 it acc env=(do
   standAt iter.pos
   match <- pyNext it with
   | .none=>pure (.done .next)
   | some v=>
    letOwnedTupleGo Cb it v
    PySem.assign Cb env v
    let mut ok:=true
    for c in ifs do
     if ok then ok <- isTrue c env (eval c env)
    if ok then Tm elt ⟨Cb,iter,ifs,0⟩ tgt1 G6 ifs1 scope pos acc env
    again (.compLoop (.ListComp elt (⟨Cb,iter,ifs,0⟩::⟨tgt1,G6,ifs1,0⟩::[]) scope pos) 0 it acc env)):=by
 intro it acc env;unfold Tm;simp only[bind_assoc];rfl
theorem Bp{elt:Expr}{f:Aj->P MV}(h:SE C sc k elt f):CE C sc k [] (Yj elt) (Bt f):=A7d h
theorem Tn(G:Gd C){elt:Expr}{c0:Comprehension}{scope:Scope}{pos:Pos}{Cb iter:Expr}{ifs:List Expr}{ns ms:List Str}
  {fit:Aj->P MV} {g:ItG} {t:Aj->MV->P Aj} {ck:Aj->P Bool} {b:Nat->Aj->P Aj} (n:Nat)
  (hit:SE C sc k iter fit) (hg:Jn C Cb g) (ht:TG C sc ns Cb t) (hc:CT C sc k ifs ck) (hb:CE C sc k ms (Yj elt) b)
  (hs:∀env x,foldedSetIterable iter env x=pure x:=by intro _ _;rfl):
  CE C sc k (ns++ms) (Tm elt c0 Cb iter ifs scope pos) (J2 fit g t ck b n):=
 A7e G n hit hg ht hc hb (by intro _ _ _;rfl) hs
theorem C9(G:Gd C){elt:Expr}{scope:Scope}{pos:Pos}{Cb iter:Expr}{ifs:List Expr}{ns ms:List Str}{fs:List Str}
  {fit:Aj->P MV} {g:ItG} {t:Aj->MV->P Aj} {ck:Aj->P Bool} {b:Nat->Aj->P Aj} (n:Nat)
  (hcd:∀c,¬C.cd (B3 scope sc) c) (hO:Mq scope sc=true) (hns:((ns++ms).all fun x=>!(scope.names.any fun p=>p.1==x&&p.2==.free))=true) (hcap:Zz scope fs=true)
  (hit:SE C sc k iter fit) (hg:Jn C Cb g) (ht:TG C (B3 scope sc) ns Cb t) (hc:CT C (B3 scope sc) k ifs ck) (hb:CE C (B3 scope sc) k ms (Yj elt) b)
  (hs:∀env x,foldedSetIterable iter env x=pure x:=by intro _ _;rfl):
  SE C sc k (.ListComp elt (⟨Cb,iter,ifs,0⟩::[]) scope pos) (Br fit g t ck b n (C8 fs)):=by
 rw[<- Nw hcap];exact Ye G n (.of hcd hO) (A7k hns) hit hg ht hc hb (by intro _ _ _;rfl) hs
theorem A40(G:Gd C){elt:Expr}{scope:Scope}{pos:Pos}{Cb iter tgt1 G6:Expr}{ifs ifs1:List Expr}{ns ms:List Str}{fs:List Str}
  {fit:Aj->P MV} {g:ItG} {t:Aj->MV->P Aj} {ck:Aj->P Bool} {b:Nat->Aj->P Aj} (n:Nat)
  (hcd:∀c,¬C.cd (B3 scope sc) c) (hO:Mq scope sc=true) (hns:((ns++ms).all fun x=>!(scope.names.any fun p=>p.1==x&&p.2==.free))=true) (hcap:Zz scope fs=true)
  (hit:SE C sc k iter fit) (hg:Jn C Cb g) (ht:TG C (B3 scope sc) ns Cb t) (hc:CT C (B3 scope sc) k ifs ck) (hb:CE C (B3 scope sc) k ms (Tm elt ⟨Cb,iter,ifs,0⟩ tgt1 G6 ifs1 scope pos) b)
  (hs:∀env x,foldedSetIterable iter env x=pure x:=by intro _ _;rfl):
  SE C sc k (.ListComp elt (⟨Cb,iter,ifs,0⟩::⟨tgt1,G6,ifs1,0⟩::[]) scope pos) (Br fit g t ck b n (C8 fs)):=by
 rw[<- Nw hcap];exact Ye G n (.of hcd hO) (A7k hns) hit hg ht hc hb A9o hs
theorem Df(G:Gd C){x:Str}{p' spos:Pos}{elt:Expr}{scope:Scope}{pos:Pos}{Cb iter:Expr}{ifs:List Expr}{ns ms:List Str}{fs:List Str}
  {fit:Aj->P MV} {g:ItG} {t:Aj->MV->P Aj} {ck:Aj->P Bool} {b:Nat->Aj->P Aj}
  (hsw:∀env:Env,env.scope=sc->swapsWith (.ListComp elt (⟨Cb,iter,ifs,0⟩::[]) scope pos) (some (.Name x p')) spos.line env=pure true)
  (hx:Ss sc x=true) (n:Nat)
  (hcd:∀c,¬C.cd (B3 scope sc) c) (hO:Mq scope sc=true) (hns:((ns++ms).all fun x=>!(scope.names.any fun p=>p.1==x&&p.2==.free))=true) (hcap:Zz scope fs=true)
  (hit:SE C sc k iter fit) (hg:Jn C Cb g) (ht:TG C (B3 scope sc) ns Cb t) (hc:CT C (B3 scope sc) k ifs ck) (hb:CE C (B3 scope sc) k ms (Yj elt) b)
  (hs:∀env x,foldedSetIterable iter env x=pure x:=by intro _ _;rfl):
  SS C sc k (.Assign [.Name x p'] (.ListComp elt (⟨Cb,iter,ifs,0⟩::[]) scope pos) spos) (Bi x (Br fit g t ck b n (C8 fs))):=by
 rw[<- Nw hcap];exact O5 G n hsw hx (.of hcd hO) (A7k hns) hit hg ht hc hb (by intro _ _ _;rfl) hs
theorem To(G:Gd C){x:Str}{p' spos:Pos}{elt:Expr}{scope:Scope}{pos:Pos}{Cb iter tgt1 G6:Expr}{ifs ifs1:List Expr}{ns ms:List Str}{fs:List Str}
  {fit:Aj->P MV} {g:ItG} {t:Aj->MV->P Aj} {ck:Aj->P Bool} {b:Nat->Aj->P Aj}
  (hsw:∀env:Env,env.scope=sc->swapsWith (.ListComp elt (⟨Cb,iter,ifs,0⟩::⟨tgt1,G6,ifs1,0⟩::[]) scope pos) (some (.Name x p')) spos.line env=pure true)
  (hx:Ss sc x=true) (n:Nat)
  (hcd:∀c,¬C.cd (B3 scope sc) c) (hO:Mq scope sc=true) (hns:((ns++ms).all fun x=>!(scope.names.any fun p=>p.1==x&&p.2==.free))=true) (hcap:Zz scope fs=true)
  (hit:SE C sc k iter fit) (hg:Jn C Cb g) (ht:TG C (B3 scope sc) ns Cb t) (hc:CT C (B3 scope sc) k ifs ck) (hb:CE C (B3 scope sc) k ms (Tm elt ⟨Cb,iter,ifs,0⟩ tgt1 G6 ifs1 scope pos) b)
  (hs:∀env x,foldedSetIterable iter env x=pure x:=by intro _ _;rfl):
  SS C sc k (.Assign [.Name x p'] (.ListComp elt (⟨Cb,iter,ifs,0⟩::⟨tgt1,G6,ifs1,0⟩::[]) scope pos) spos) (Bi x (Br fit g t ck b n (C8 fs))):=by
 rw[<- Nw hcap];exact O5 G n hsw hx (.of hcd hO) (A7k hns) hit hg ht hc hb A9o hs
theorem Ki:GetM C Si "get" "dict.get":=by
 intro A α H s m v pl Q E hr hv hok hQ;obtain⟨x,e⟩:=Option.isSome_iff_exists.mp hok;obtain⟨j,rfl,e'⟩:=Jz e;obtain⟨a,rfl,kvs,⟨o,es,ho,⟨hc,hdn,hsl⟩,hd⟩,_⟩:=hr.refAt e' hv;exact getMethod_builtin ⟨o,ho,hc⟩ F.plainAttrs_dict F.slot_dict_get F.type_dict_get (fun a e=>by cases e;exact⟨o,ho,hdn⟩) hQ
def A7m:List MV->P MV:=two fun x c=>match c with
  | .val (.type "str")=>A4f x c
  | _=>fl
end
theorem A7n{C:Cx}{a:Addr}{sc:Scope}{body:List Stmt}{ps:List Str}(h:FnAt C a sc body ps):∀α H s,HR C α H s->∃of,s.heap.get? a=some of∧of.cls=.type "function":=by
 kcf_m;obtain⟨c,o,oc,fd,vc,t,h1,h2,h3,h4,_⟩:=h;refine hGx ?_;exact fun α H s hr=>⟨o,hr.keepB _ _ h1 h4,h3⟩
theorem Wb{C:Cx}{scope:Scope}{x:Str}{xp:Pos}{a b c d:Str}{n1 n2 n3 n4:Nat}{q1 q2 q3 q4 ap1 p1 ap2 p2:Pos}(hk:scope.kind=.function)(hl:scope.names.lookup x=some .local)(hd:(x==("__debug__":Str))=false)
  (hcd:(c==d)=false) (hc0:(c.length==0)=false)
  (he1:∀env,∃pl,eval (.Call (.Attribute (.Name x xp) "replace" ap1) [.Constant (.str a) n1 q1,.Constant (.str b) n2 q2] [] p1) env=(do
   let ov <- eval (.Name x xp) env
   standAt ap1.atName
   let (f,first) <- holding [ov] (getMethod ov "replace" pl)
   callWith p1 f first (backTo p1 (starEach [.Constant (.str a) n1 q1,.Constant (.str b) n2 q2] env)) []):=by exact fun zz=>⟨_,rfl⟩)
  (he2:∀env,∃pl,eval (.Call (.Attribute (.Call (.Attribute (.Name x xp) "replace" ap1) [.Constant (.str a) n1 q1,.Constant (.str b) n2 q2] [] p1) "replace" ap2) [.Constant (.str c) n3 q3,.Constant (.str d) n4 q4] [] p2) env=(do
   let ov <- eval (.Call (.Attribute (.Name x xp) "replace" ap1) [.Constant (.str a) n1 q1,.Constant (.str b) n2 q2] [] p1) env
   standAt ap2.atName
   let (f,first) <- holding [ov] (getMethod ov "replace" pl)
   callWith p2 f first (backTo p2 (starEach [.Constant (.str c) n3 q3,.Constant (.str d) n4 q4] env)) []):=by exact fun zz=>⟨_,rfl⟩):
  EltOk C scope x (.Call (.Attribute (.Call (.Attribute (.Name x xp) "replace" ap1) [.Constant (.str a) n1 q1,.Constant (.str b) n2 q2] [] p1) "replace" ap2) [.Constant (.str c) n3 q3,.Constant (.str d) n4 q4] [] p2) (Rr a c d) (fun y=>Fm y c d):=by
 intro A cenv s m y t Q E hs hns hm hok h;unfold Rr at hok;simp only[Bool.and_eq_true,Bool.not_eq_true',decide_eq_true_eq] at hok;obtain⟨⟨h1,h2⟩,h3⟩:=hok;exact Zu (by rw[hs];exact hk) (by unfold Env.kindOf;rw[hs];exact hl) hns hm hd hcd hc0 h1 h2 h3 h (he1 _) (he2 _)
theorem Rt{C:Cx}{sc:Scope}{k:Nat}(G:Gd C){x:Str}{e:Expr}{f:Aj->P MV}{p pos:Pos}(h:SE C sc k e f)(hx:Ss sc x=true)
  (hs:∀env:Env,env.scope=sc->swapsWith e (some (.Name x p)) pos.line env=pure false:=by rintro ⟨⟩ rfl;rfl):SS C sc k (.Assign [.Name x p] e pos) (fun ρ=>B9 (f ρ) fun a=>Bg (.next,upd ρ x a)):=by
 intro A env α ρ H s Q E fl ρ' H' hR hr he hf hq;kcf_m;obtain⟨a,H₁,qA,hf⟩:=Aw hf;refine hGx ?_;kpf_c;refine wpAny_Assign_Name (h A env α ρ H s _ _ _ _ hR hr he qA fun αA sA vA rH xO wA=>?_) (hs _ he.scope);exact J0 G rH (he.ext xO) wA (D9 hx) fun sB rI eP xP=>hq αA sB _ rI eP (xO.weak.trans xP) rfl
theorem A6{C:Cx}{sc:Scope}{k:Nat}(G:Gd C){x:Str}{px pos:Pos}{es:List Expr}{a:Addr}{sc':Scope}{body:List Stmt}{ps:List Str}{fa:Aj->P (List MV)}{g:List MV->P MV}{j:Nat}(hx:Zd sc x=true)(hv:C.mg x=some (.ref a))(hs:SEs C sc k es fa)(hpl:Gi es)
  (hf:FnAt C a sc' body ps) (hc:CallOk C j (.ref a) g) (hj:j<=k:=by decide) (hd:(x==("__debug__":Str))=false:=by decide)
  (he:∀env,eval (.Call (.Name x px) es [] pos) env=(do callWith pos (<- eval (.Name x px) env) [] (backTo pos (starEach es env)) (backToKw pos (keywordEach [] env))):=by intro _;rfl):SE C sc k (.Call (.Name x px) es [] pos) (fun ρ=>B9 (fa ρ) g):=
 Yc (Ea G hx hv hd) hs hpl hf.kp (hc.up hj) he
theorem Bj{C:Cx}{sc:Scope}{k:Nat}(G:Gd C){x:Str}{px pos:Pos}{es:List Expr}{f:Value}{fa:Aj->P (List MV)}{g:List MV->P MV}(hx:Zd sc x=true)(hn:C.mg x=.none)(hv:C.mb x=some f)(hs:SEs C sc k es fa)(hpl:Gi es)
  (hk:KpA C f) (hc:CallOk C k f g) (hd:(x==("__debug__":Str))=false:=by decide)
  (he:∀env,eval (.Call (.Name x px) es [] pos) env=(do callWith pos (<- eval (.Name x px) env) [] (backTo pos (starEach es env)) (backToKw pos (keywordEach [] env))):=by intro _;rfl):SE C sc k (.Call (.Name x px) es [] pos) (fun ρ=>B9 (fa ρ) g):=
 Yc (Ve G hx hn hv hd) hs hpl hk hc he
noncomputable def Dr:Array Nat:=#[14,8,1,3,3,1,1,61,0,16,61,24,16,2,2,13,11,9,0,67043328,126,126,0,0,0,0,0,1,1]
noncomputable def Db:Array Nat:=#[14,14,4,1,1,9,0,64,0,1342177280,0,0,0,0,0,17,0,13,11,9,0,64,0,1342177280,0,0,0,0,0,17,1,1]
structure Wd(C:Cx):Prop where
 pat_twin_re_1_quoprimime:∀α H s,HR C α H s->PatAt s.heap 36 0 Dr
 pat_twin_re_1_fnmatch:∀α H s,HR C α H s->PatAt s.heap 90 1 Db
 tr:B45 C 99
 code:Rq C (As (Ax 27)) 115 111
 bat:∀α H s,HR C α H s->s.heap.BuiltinsAt C.mg 111
 bfor:Nc C
 g_S_IFBLK:∃t,C.mg "S_IFBLK"=some (.int 24576 t)
 g_S_IFCHR:∃t,C.mg "S_IFCHR"=some (.int 8192 t)
 g_S_IFDIR:∃t,C.mg "S_IFDIR"=some (.int 16384 t)
 g_S_IFIFO:∃t,C.mg "S_IFIFO"=some (.int 4096 t)
 g_S_IFLNK:∃t,C.mg "S_IFLNK"=some (.int 40960 t)
 g_S_IFMT:C.mg "S_IFMT"=some (.ref 137)
 g_S_IFREG:∃t,C.mg "S_IFREG"=some (.int 32768 t)
 g_S_IFSOCK:∃t,C.mg "S_IFSOCK"=some (.int 49152 t)
 g_S_IMODE:C.mg "S_IMODE"=some (.ref 130)
 g_S_ISBLK:C.mg "S_ISBLK"=some (.ref 158)
 g_S_ISCHR:C.mg "S_ISCHR"=some (.ref 151)
 g_S_ISDIR:C.mg "S_ISDIR"=some (.ref 144)
 g_S_ISFIFO:C.mg "S_ISFIFO"=some (.ref 172)
 g_S_ISLNK:C.mg "S_ISLNK"=some (.ref 179)
 g_S_ISREG:C.mg "S_ISREG"=some (.ref 165)
 g_S_ISSOCK:C.mg "S_ISSOCK"=some (.ref 186)
 g__QUOPRI_MAP:C.mg "_QUOPRI_MAP"=some (.ref 39)
 g__filemode_table:C.mg "_filemode_table"=some (.ref 219)
 g__join_translated_parts:C.mg "_join_translated_parts"=some (.ref 123)
 g__law_bracket:C.mg "_law_bracket"=some (.ref 272)
 g__law_columns:C.mg "_law_columns"=some (.ref 282)
 g__law_figures:C.mg "_law_figures"=some (.ref 277)
 g__law_fits:C.mg "_law_fits"=some (.ref 250)
 g__law_holds:C.mg "_law_holds"=some (.ref 267)
 g__law_kinds:C.mg "_law_kinds"=some (.ref 287)
 g__law_listed:C.mg "_law_listed"=some (.ref 233)
 g__law_question:C.mg "_law_question"=some (.ref 262)
 g__law_read:C.mg "_law_read"=some (.ref 243)
 g__law_row:C.mg "_law_row"=some (.ref 292)
 g__law_run:C.mg "_law_run"=some (.ref 297)
 g__law_set:C.mg "_law_set"=some (.ref 238)
 g__law_takes:C.mg "_law_takes"=some (.ref 257)
 g__special_chars_map:C.mg "_special_chars_map"=some (.ref 99)
 g__translate:C.mg "_translate"=some (.ref 116)
 g__unquote_match:C.mg "_unquote_match"=some (.ref 78)
 g_escape:C.mg "escape"=some (.ref 109)
 g_filemode:C.mg "filemode"=some (.ref 226)
 g_header_decode:C.mg "header_decode"=some (.ref 85)
 g_law:C.mg "law"=some (.ref 302)
 g_quote:C.mg "quote"=some (.ref 66)
 g_translate:C.mg "translate"=some (.ref 97)
 g_twin_re_1_fnmatch:C.mg "twin_re_1_fnmatch"=some (.ref 90)
 g_twin_re_1_quoprimime:C.mg "twin_re_1_quoprimime"=some (.ref 36)
 g_unquote:C.mg "unquote"=some (.ref 59)
 n_chr:C.mg "chr"=none
 b_chr:C.mb "chr"=some (.builtin "chr")
 n_enumerate:C.mg "enumerate"=none
 b_enumerate:C.mb "enumerate"=some (.type "enumerate")
 n_int:C.mg "int"=none
 b_int:C.mb "int"=some (.type "int")
 n_isinstance:C.mg "isinstance"=none
 b_isinstance:C.mb "isinstance"=some (.builtin "isinstance")
 n_len:C.mg "len"=none
 b_len:C.mb "len"=some (.builtin "len")
 n_object:C.mg "object"=none
 b_object:C.mb "object"=some (.type "object")
 n_ord:C.mg "ord"=none
 b_ord:C.mb "ord"=some (.builtin "ord")
 n_range:C.mg "range"=none
 b_range:C.mb "range"=some (.type "range")
 n_str:C.mg "str"=none
 b_str:C.mb "str"=some (.type "str")
 f__law_question:FnAt C 262 (As (Ax 66)) (Az (Ax 66)) ["q"]
 f__law_bracket:FnAt C 272 (As (Ax 68)) (Az (Ax 68)) ["signs","every","dress"]
 f__law_columns:FnAt C 282 (As (Ax 70)) (Az (Ax 70)) ["question"]
 f__law_figures:FnAt C 277 (As (Ax 69)) (Az (Ax 69)) ["question"]
 f__law_holds:FnAt C 267 (As (Ax 67)) (Az (Ax 67)) ["question","mode"]
 f_S_IFMT:FnAt C 137 (As (Ax 31)) (Az (Ax 31)) ["mode"]
 f_S_IMODE:FnAt C 130 (As (Ax 30)) (Az (Ax 30)) ["mode"]
 f_S_ISBLK:FnAt C 158 (As (Ax 41)) (Az (Ax 41)) ["mode"]
 f_S_ISCHR:FnAt C 151 (As (Ax 40)) (Az (Ax 40)) ["mode"]
 f_S_ISDIR:FnAt C 144 (As (Ax 39)) (Az (Ax 39)) ["mode"]
 f_S_ISFIFO:FnAt C 172 (As (Ax 43)) (Az (Ax 43)) ["mode"]
 f_S_ISLNK:FnAt C 179 (As (Ax 44)) (Az (Ax 44)) ["mode"]
 f_S_ISREG:FnAt C 165 (As (Ax 42)) (Az (Ax 42)) ["mode"]
 f_S_ISSOCK:FnAt C 186 (As (Ax 45)) (Az (Ax 45)) ["mode"]
 f__law_kinds:FnAt C 287 (As (Ax 71)) (Az (Ax 71)) ["mode","listed"]
 f__law_listed:FnAt C 233 (As (Ax 61)) (Az (Ax 61)) ["mode"]
 f__law_set:FnAt C 238 (As (Ax 62)) (Az (Ax 62)) ["inside"]
 f__law_read:FnAt C 243 (As (Ax 63)) (Az (Ax 63)) ["told"]
 f__law_row:FnAt C 292 (As (Ax 72)) (Az (Ax 72)) ["form","ahead","behind"]
 f__law_fits:FnAt C 250 (As (Ax 64)) (Az (Ax 64)) ["atoms","name","at"]
 f__law_takes:FnAt C 257 (As (Ax 65)) (Az (Ax 65)) ["parts","name"]
 f_filemode:FnAt C 226 (As (Ax 59)) (Az (Ax 59)) ["mode"]
 f_unquote:FnAt C 59 (As (Ax 13)) (Az (Ax 13)) ["s"]
 f__unquote_match:FnAt C 78 (As (Ax 18)) (Az (Ax 18)) ["match"]
 f_header_decode:FnAt C 85 (As (Ax 19)) (Az (Ax 19)) ["s"]
 f_quote:FnAt C 66 (As (Ax 14)) (Az (Ax 14)) ["c"]
 f__join_translated_parts:FnAt C 123 (As (Ax 28)) (Az (Ax 28)) ["inp","STAR"]
 f_escape:FnAt C 109 (As (Ax 25)) (Az (Ax 25)) ["pattern"]
 f__translate:FnAt C 116 (As (Ax 27)) (Az (Ax 27)) ["pat","STAR","QUESTION_MARK"]
 f_translate:FnAt C 97 (As (Ax 22)) (Az (Ax 22)) ["pat"]
 f__law_run:FnAt C 297 (As (Ax 73)) (Az (Ax 73)) ["modes","questions"]
 f_law:FnAt C 302 (As (Ax 74)) (Az (Ax 74)) ["script"]
 cd:∀sc c,C.cd sc c->sc=As (Ax 27)
theorem Wd.nocd{C:Cx}(W:Wd C){sc:Scope}(h:(sc.names.length==(As (Ax 27)).names.length)=false):∀c,¬C.cd sc c:=fun c q=>by
 rw[W.cd _ _ q] at h;simp at h
theorem Fe{C:Cx}{sc:Scope}{k:Nat}(G:Gd C)(W:Wd C){x:Str}{px py pos:Pos}(h:nmB sc x=true:=by lk)(hx:Zd sc "len"=true:=by lk):SE C sc k (.Call (.Name ("len":Str) px) [.Name x py] [] pos) (Ak (Ab (Ac x) Af) (one (D4 C.T))):=
 Bj G hx W.n_len W.b_len (Ad (Aa h) Ai) Ar KpA.builtin (B4z G)
section
variable {C:Cx}
def Ed(T:GT):List MV->P MV:=Ct ["mode"] (
 (Ag (C6 (Am (Ac "mode") (pC (.int 61440)) Qp))
 Ap))
theorem F6(G:Gd C)(W:Wd C):CallOk C 1 (.ref 137) (Ed C.T):=
 CallOk.at G W.f_S_IFMT (by lk) (show SB C (As (Ax 31)) 0 (Az (Ax 31)) _ from
 (Ae (Bm (Av Aa Al Vf))
 An))
def Mt(T:GT):List MV->P MV:=Ct ["mode"] (
 (Ag (C6 (Am (Ac "mode") (pC (.int 4095)) Qp))
 Ap))
theorem Z0(G:Gd C)(W:Wd C):CallOk C 1 (.ref 130) (Mt C.T):=
 CallOk.at G W.f_S_IMODE (by lk) (show SB C (As (Ax 30)) 0 (Az (Ax 30)) _ from
 (Ae (Bm (Av Aa Al Vf))
 An))
def Mu(T:GT):List MV->P MV:=Ct ["mode"] (
 (Ag (C6 (Am (Ak (Ab (Ac "mode") Af) (Ed T)) (pC (.int 24576)) Bb))
 Ap))
theorem Z1(G:Gd C)(W:Wd C):CallOk C 2 (.ref 158) (Mu C.T):=
 CallOk.at G W.f_S_ISBLK (by lk) (show SB C (As (Ax 41)) 1 (Az (Ax 41)) _ from
 (Ae (Bm (Dq (A6 G (by lk) W.g_S_IFMT (Ad Aa Ai) Ar W.f_S_IFMT (F6 G W)) (Ho G (by lk) W.g_S_IFBLK) Bn))
 An))
def Kj(T:GT):List MV->P MV:=Ct ["s"] (
 (Ag (C6 (Ak (Ab (Ak (Ab (Bz T (Ac "s") (Cq (pC (.int 1))) (Cq (pC (.int 3)))) (Ab (pC (.int 16)) Af)) (two Vy)) Af) (one Pz)))
 Ap))
theorem Z2(G:Gd C)(W:Wd C):CallOk C 1 (.ref 59) (Kj C.T):=
 CallOk.at G W.f_unquote (by lk) (show SB C (As (Ax 13)) 0 (Az (Ax 13)) _ from
 (Ae (Bm (Bj G (by lk) W.n_chr W.b_chr (Ad (Bj G (by lk) W.n_int W.b_int (Ad (Ce G Aa (SP.some Al) (SP.some Al)) (Ad Al Ai)) Ar KpA.type A4o) Ai) Ar KpA.builtin O0))
 An))
end
section
variable {C:Cx}
def Fn(T:GT):List MV->P MV:=Ct ["q"] (
 (Ag (Bi "rights" (fun zz=>Vi))
 (Ag (Ko T 4000 (Ak (Ab (pC (.int 3)) Af) Ck) (A2 "j")
 (Ag (Bi "x" (Am (Am (Am (Ac "q") (pC (.int 255)) E4) (Am (pC (.int 24)) (Ac "j") Kt) E4) (pC (.int 24)) Ec))
 (Ag (A7l (Am (Ac "x") (pC (.int 2)) Ec) (Ac "rights") (Am (Ac "x") (pC (.int 2)) E4))
 Ap))
 Ap)
 (Ag (Bi "kinds" (Br (Ak (Ab (pC (.int 8)) Af) Ck) (Ej T) (A2 "j") (At T (Am (Am (Am (pC (.int 1)) (Am (Ac "q") (pC (.int 255)) Ec) A1) (Am (pC (.int 2)) (Ac "j") Kt) E4) (pC (.int 2)) Ec) (pC (.int 1)) Bb) (Bt (Am (pC (.str "-?bcdlps")) (Ac "j") (Ao T))) 4000 (C8 ["q"])))
 (Ag (C6 (Ak (Ab (Ac "kinds") (Ab (Ac "rights") (Ab (Am (Am (Ac "q") (pC (.int 3525120)) E4) (pC (.int 4)) Ec) (Ab (Am (Am (Ac "q") (pC (.int 14100480)) E4) (pC (.int 4)) Ec) Af)))) Bq))
 Ap)))))
theorem Nm(G:Gd C)(W:Wd C):CallOk C 1 (.ref 262) (Fn C.T):=
 CallOk.at G W.f__law_question (by lk) (show SB C (As (Ax 66)) 0 (Az (Ax 66)) _ from
 (Ae (Bh G (A39 G) (by lk))
 (Ae (Hl G 4000 (Bj G (by lk) W.n_range W.b_range (Ad Al Ai) Ar KpA.type (Cu G)) (A7 G) (A4 G (by lk))
 (Ae (Bh G (Av (Av (Av Aa Al El) (Av Al Aa Mg) El) Al D1) (by lk))
 (Ae (O3 G (Av Aa Al D1) Aa (Av Aa Al El))
 An))
 An)
 (Ae (Df G (by rintro ⟨_,_,_,_,_,_,_,_,_⟩ rfl;rfl) (by lk) 4000 (W.nocd (by lk)) (by lk) (by lk) (by lk) (Bj G (by lk) W.n_range W.b_range (Ad Al Ai) Ar KpA.type (Cu G)) (A7 G) (A4 G (by lk)) (Fu (A0 G (Av (Av (Av Al (Av Aa Al D1) A8) (Av Al Aa Mg) El) Al D1) Al Bn)) (Bp (A3 G Ay Aa)))
 (Ae (Bm (Cn G (Ad Aa (Ad Aa (Ad (Av (Av Aa Al El) Al D1) (Ad (Av (Av Aa Al El) Al D1) Ai))))))
 An)))))
def Hc(T:GT):List MV->P MV:=Ct ["question","mode"] (
 (Ag (Wa (Ac "question") (Js T 4 (Cj (A2 "kinds") (Cj (A2 "rights") (Cj (A2 "dress") (Cj (A2 "form") Jr))))))
 (Ag (Bi "unlike" (Br (Ac "rights") (Ej T) (A2 "i") (At T (Am (Am (Ac "mode") (Am (pC (.int 2)) (Ac "i") Kt) E4) (pC (.int 2)) Ec) (Am (Ac "rights") (Ac "i") (Ao T)) I9) (Bt (Ac "i")) 4000 (C8 ["mode","rights"])))
 (Ag (C6 (Tl T (Am (Am (pC (.str "?pc?d?b?-?l?s???")) (Am (Ac "mode") (pC (.int 4096)) E4) (Ao T)) (Ac "kinds") (Fa T)) (Am (Ac "unlike") (Ak Af Bd) Bb)))
 Ap))))
theorem Ru(G:Gd C)(W:Wd C):CallOk C 1 (.ref 267) (Hc C.T):=
 CallOk.at G W.f__law_holds (by lk) (show SB C (As (Ax 67)) 0 (Az (Ax 67)) _ from
 (Ae (Iy G Aa (Il G (Bu (A4 G (by lk)) (Bu (A4 G (by lk)) (Bu (A4 G (by lk)) (Bu (A4 G (by lk)) Gk))))))
 (Ae (Df G (by rintro ⟨_,_,_,_,_,_,_,_,_⟩ rfl;rfl) (by lk) 4000 (W.nocd (by lk)) (by lk) (by lk) (by lk) Aa (A7 G) (A4 G (by lk)) (Fu (A0 G (Av (Av Aa (Av Al Aa Mg) El) Al D1) (A3 G Aa Aa) Jw)) (Bp Aa))
 (Ae (Bm (Rd G (Dq (A3 G Ay (Av Aa Al El)) Aa (Iw G)) (Ou (Dq Aa (Ca G Ai) Bn))))
 An))))
def Mv(T:GT):List MV->P MV:=Ct ["mode"] (
 (Ag (C6 (Am (Ak (Ab (Ac "mode") Af) (Ed T)) (pC (.int 8192)) Bb))
 Ap))
theorem Z3(G:Gd C)(W:Wd C):CallOk C 2 (.ref 151) (Mv C.T):=
 CallOk.at G W.f_S_ISCHR (by lk) (show SB C (As (Ax 40)) 1 (Az (Ax 40)) _ from
 (Ae (Bm (Dq (A6 G (by lk) W.g_S_IFMT (Ad Aa Ai) Ar W.f_S_IFMT (F6 G W)) (Ho G (by lk) W.g_S_IFCHR) Bn))
 An))
def Mw(T:GT):List MV->P MV:=Ct ["mode"] (
 (Ag (C6 (Am (Ak (Ab (Ac "mode") Af) (Ed T)) (pC (.int 16384)) Bb))
 Ap))
theorem Z4(G:Gd C)(W:Wd C):CallOk C 2 (.ref 144) (Mw C.T):=
 CallOk.at G W.f_S_ISDIR (by lk) (show SB C (As (Ax 39)) 1 (Az (Ax 39)) _ from
 (Ae (Bm (Dq (A6 G (by lk) W.g_S_IFMT (Ad Aa Ai) Ar W.f_S_IFMT (F6 G W)) (Ho G (by lk) W.g_S_IFDIR) Bn))
 An))
def La(T:GT):List MV->P MV:=Ct ["mode"] (
 (Ag (C6 (Am (Ak (Ab (Ac "mode") Af) (Ed T)) (pC (.int 4096)) Bb))
 Ap))
theorem Wc(G:Gd C)(W:Wd C):CallOk C 2 (.ref 172) (La C.T):=
 CallOk.at G W.f_S_ISFIFO (by lk) (show SB C (As (Ax 43)) 1 (Az (Ax 43)) _ from
 (Ae (Bm (Dq (A6 G (by lk) W.g_S_IFMT (Ad Aa Ai) Ar W.f_S_IFMT (F6 G W)) (Ho G (by lk) W.g_S_IFIFO) Bn))
 An))
def Mx(T:GT):List MV->P MV:=Ct ["mode"] (
 (Ag (C6 (Am (Ak (Ab (Ac "mode") Af) (Ed T)) (pC (.int 40960)) Bb))
 Ap))
theorem Z5(G:Gd C)(W:Wd C):CallOk C 2 (.ref 179) (Mx C.T):=
 CallOk.at G W.f_S_ISLNK (by lk) (show SB C (As (Ax 44)) 1 (Az (Ax 44)) _ from
 (Ae (Bm (Dq (A6 G (by lk) W.g_S_IFMT (Ad Aa Ai) Ar W.f_S_IFMT (F6 G W)) (Ho G (by lk) W.g_S_IFLNK) Bn))
 An))
def My(T:GT):List MV->P MV:=Ct ["mode"] (
 (Ag (C6 (Am (Ak (Ab (Ac "mode") Af) (Ed T)) (pC (.int 32768)) Bb))
 Ap))
theorem Z6(G:Gd C)(W:Wd C):CallOk C 2 (.ref 165) (My C.T):=
 CallOk.at G W.f_S_ISREG (by lk) (show SB C (As (Ax 42)) 1 (Az (Ax 42)) _ from
 (Ae (Bm (Dq (A6 G (by lk) W.g_S_IFMT (Ad Aa Ai) Ar W.f_S_IFMT (F6 G W)) (Ho G (by lk) W.g_S_IFREG) Bn))
 An))
def Lb(T:GT):List MV->P MV:=Ct ["mode"] (
 (Ag (C6 (Am (Ak (Ab (Ac "mode") Af) (Ed T)) (pC (.int 49152)) Bb))
 Ap))
theorem We(G:Gd C)(W:Wd C):CallOk C 2 (.ref 186) (Lb C.T):=
 CallOk.at G W.f_S_ISSOCK (by lk) (show SB C (As (Ax 45)) 1 (Az (Ax 45)) _ from
 (Ae (Bm (Dq (A6 G (by lk) W.g_S_IFMT (Ad Aa Ai) Ar W.f_S_IFMT (F6 G W)) (Ho G (by lk) W.g_S_IFSOCK) Bn))
 An))
def Hq(T:GT):List MV->P MV:=Ct ["inside"] (
 (Ag (Bi "barred" (Am (Bz T (Ac "inside") Ms (Cq (pC (.int 1)))) (pC (.str "^")) Bb))
 (Ag (G8 T ["rest","signs","at"] (Ak (Ab (Cv (Da T (Ac "barred")) (Bz T (Ac "inside") (Cq (pC (.int 1))) Ms) (Ac "inside")) (Ab (pC (.str "")) (Ab (pC (.int 0)) Af))) Bq))
 (Ag (By (At T (Ac "at") (Ak (Ab (Ac "rest") Af) (one (D4 T))) Fz)
 (Ag (Cv (At T (Am (Ac "rest") (Ac "at") (Ao T)) (pC (.str "\\")) Bb)
 (Ag (C3 "at" (pC (.int 1)) Bc)
 Ap)
 Ap)
 (Ag (G8 T ["low","high"] (Ak (Ab (Bz T (Ac "rest") (Cq (Ac "at")) (Cq (Am (Ac "at") (pC (.int 1)) A1))) (Ab (Bz T (Ac "rest") (Cq (Am (Ac "at") (pC (.int 2)) A1)) (Cq (Am (Ac "at") (pC (.int 3)) A1))) Af)) Bq))
 (Ag (Cv (Dk (At T (Bz T (Ac "rest") (Cq (Am (Ac "at") (pC (.int 1)) A1)) (Cq (Am (Ac "at") (pC (.int 2)) A1))) (pC (.str "-")) Bb) (Dk (Da T (Ac "high")) Eg))
 (Ag (Cv (At T (Ac "high") (Ac "low") Fz)
 (Ag (fun zz=>fl)
 Ap)
 Ap)
 (Ag (C3 "signs" (Be O1 (pC (.str "")) (Ab (Br (Ak (Ab (Ak (Ab (Ac "low") Af) (one Rg)) (Ab (Am (Ak (Ab (Ac "high") Af) (one Rg)) (pC (.int 1)) A1) Af)) Ck) (Ej T) (A2 "code") cT (Bt (Ak (Ab (Ac "code") Af) (one Pz))) 4000 (C8 [])) Af) (two (Go T))) Bc)
 (Ag (C3 "at" (pC (.int 3)) Bc)
 Ap)))
 (Ag (C3 "signs" (Ac "low") Bc)
 (Ag (C3 "at" (pC (.int 1)) Bc)
 Ap)))
 Ap))) 4000)
 (Ag (C6 (Ak (Ab (Ac "barred") (Ab (Ac "signs") Af)) Bq))
 Ap)))))
theorem Wf(G:Gd C)(W:Wd C):CallOk C 1 (.ref 238) (Hq C.T):=
 CallOk.at G W.f__law_set (by lk) (show SB C (As (Ax 62)) 0 (Az (Ax 62)) _ from
 (Ae (Bh G (Dq (Ce G Aa SP.none (SP.some Al)) Ay Bn) (by lk))
 (Ae (Ha G ["rest","signs","at"] (Cn G (Ad (F3 (D2 G Aa) (Ce G Aa (SP.some Al) SP.none) Aa) (Ad Ay (Ad Al Ai)))) (by lk))
 (Ae (F4 4000 (A0 G Aa (Fe G W) Jv)
 (Ae (Bf (A0 G (A3 G Aa Aa) Ay Bn)
 (Ae (Dj G Al Co (by lk))
 An)
 An)
 (Ae (Ha G ["low","high"] (Cn G (Ad (Ce G Aa (SP.some Aa) (SP.some (Av Aa Al A8))) (Ad (Ce G Aa (SP.some (Av Aa Al A8)) (SP.some (Av Aa Al A8))) Ai))) (by lk))
 (Ae (Bf (Dt (C4 (A0 G (Ce G Aa (SP.some (Av Aa Al A8)) (SP.some (Av Aa Al A8))) Ay Bn) (C4 (D2 G Aa) Fd)))
 (Ae (Bf (A0 G Aa Aa Jv)
 (Ae O9
 An)
 An)
 (Ae (Dj G (Bs Ay (Ad (C9 G 4000 (W.nocd (by lk)) (by lk) (by lk) (by lk) (Bj G (by lk) W.n_range W.b_range (Ad (Bj G (by lk) W.n_ord W.b_ord (Ad Aa Ai) Ar KpA.builtin Vl) (Ad (Av (Bj G (by lk) W.n_ord W.b_ord (Ad Aa Ai) Ar KpA.builtin Vl) Al A8) Ai)) Ar KpA.type (Cu G)) (A7 G) (A4 G (by lk)) Ft (Bp (Bj G (by lk) W.n_chr W.b_chr (Ad Aa Ai) Ar KpA.builtin O0))) Ai) Ar (Du F.slot_str_join F.type_str_join) (Hb G)) Co (by lk))
 (Ae (Dj G Al Co (by lk))
 An)))
 (Ae (Dj G Aa Co (by lk))
 (Ae (Dj G Al Co (by lk))
 An)))
 An))))
 (Ae (Bm (Cn G (Ad Aa (Ad Aa Ai))))
 An)))))
def Hr(T:GT):List MV->P MV:=Ct ["form","ahead","behind"] (
 (Ag (Cv (At T (Ac "form") (pC (.int 1)) Bb)
 (Ag (C6 (Tl T (Am (pC (.int 0)) (Ac "ahead") (Fa T)) (Am (pC (.int 4)) (Ac "behind") (Fa T))))
 Ap)
 Ap)
 (Ag (Cv (At T (Ac "form") (pC (.int 2)) Bb)
 (Ag (C6 (Tl T (Am (Ac "ahead") (Ak Af Bd) I9) (Am (Br (Ac "behind") (Ej T) (A2 "place") (At T (Ac "place") (Am (Am (Ac "ahead") (pC (.int 0)) (Ao T)) (pC (.int 2)) A1) Vh) (Bt (Ac "place")) 4000 (C8 ["ahead"])) (Ak Af Bd) I9)))
 Ap)
 Ap)
 (Ag (C6 (Cv (At T (Ac "form") (pC (.int 3)) Bb) (Am (pC (.int 4)) (Ac "ahead") (Fa T)) (Am (Ac "ahead") (Ak Af Bd) I9)))
 Ap))))
theorem Wg(G:Gd C)(W:Wd C):CallOk C 1 (.ref 292) (Hr C.T):=
 CallOk.at G W.f__law_row (by lk) (show SB C (As (Ax 72)) 0 (Az (Ax 72)) _ from
 (Ae (Bf (A0 G Aa Al Bn)
 (Ae (Bm (Rd G (Dq Al Aa (Iw G)) (Ou (Dq Al Aa (Iw G)))))
 An)
 An)
 (Ae (Bf (A0 G Aa Al Bn)
 (Ae (Bm (Rd G (Dq Aa (Ca G Ai) Jw) (Ou (Dq (C9 G 4000 (W.nocd (by lk)) (by lk) (by lk) (by lk) Aa (A7 G) (A4 G (by lk)) (Fu (A0 G Aa (Av (A3 G Aa Al) Al A8) A9k)) (Bp Aa)) (Ca G Ai) Jw))))
 An)
 An)
 (Ae (Bm (F3 (A0 G Aa Al Bn) (Dq Al Aa (Iw G)) (Dq Aa (Ca G Ai) Jw)))
 An))))
def Eo(T:GT):List MV->P MV:=Ct ["atoms","name","at"] (
 (Ag (Cv (At T (Am (Ac "at") (Ak (Ab (Ac "atoms") Af) (one (D4 T))) A1) (Ak (Ab (Ac "name") Af) (one (D4 T))) Vg)
 (Ag (C6 (pC (.bool false)))
 Ap)
 Ap)
 (Ag (Ko T 4000 (Ak (Ab (Ak (Ab (Ac "atoms") Af) (one (D4 T))) Af) Ck) (A2 "k")
 (Ag (Cv (At T (Am (Am (Ac "name") (Am (Ac "at") (Ac "k") A1) (Ao T)) (Am (Am (Ac "atoms") (Ac "k") (Ao T)) (pC (.int 1)) (Ao T)) (Fa T)) (Am (Am (Ac "atoms") (Ac "k") (Ao T)) (pC (.int 0)) (Ao T)) Bb)
 (Ag (C6 (pC (.bool false)))
 Ap)
 Ap)
 Ap)
 Ap)
 (Ag (C6 (pC (.bool true)))
 Ap))))
theorem Nf(G:Gd C)(W:Wd C):CallOk C 1 (.ref 250) (Eo C.T):=
 CallOk.at G W.f__law_fits (by lk) (show SB C (As (Ax 64)) 0 (Az (Ax 64)) _ from
 (Ae (Bf (A0 G (Av Aa (Fe G W) A8) (Fe G W) A35)
 (Ae (Bm Ew)
 An)
 An)
 (Ae (Hl G 4000 (Bj G (by lk) W.n_range W.b_range (Ad (Fe G W) Ai) Ar KpA.type (Cu G)) (A7 G) (A4 G (by lk))
 (Ae (Bf (A0 G (Dq (A3 G Aa (Av Aa Aa A8)) (A3 G (A3 G Aa Aa) Al) (Iw G)) (A3 G (A3 G Aa Aa) Al) Bn)
 (Ae (Bm Ew)
 An)
 An)
 An)
 An)
 (Ae (Bm Ew)
 An))))
end
section
variable {C:Cx}
def B4(T:GT):List MV->P MV:=Ct ["signs","every","dress"] (
 (Ag (Cv (At T (Ak (Ab (Ac "signs") Af) (one (D4 T))) (Ak (Ab (Ac "every") Af) (one (D4 T))) Bb)
 (Ag (C6 (pC (.str "?")))
 Ap)
 Ap)
 (Ag (Cv (At T (Ac "dress") (pC (.int 2)) Bb)
 (Ag (C6 (Am (Am (pC (.str "[!")) (Be O1 (pC (.str "")) (Ab (Br (Ac "every") (Ej T) (A2 "sign") (At T (Ac "sign") (Ac "signs") Fj) (Bt (Ac "sign")) 4000 (C8 ["signs"])) Af) (two (Go T))) A1) (pC (.str "]")) A1))
 Ap)
 Ap)
 (Ag (Cv (At T (Ac "dress") (pC (.int 1)) I9)
 (Ag (C6 (Am (Am (Cv (At T (Ac "dress") (pC (.int 3)) Bb) (pC (.str "[z-a")) (pC (.str "["))) (Be O1 (pC (.str "")) (Ab (Br (Ac "every") (Ej T) (A2 "sign") (At T (Ac "sign") (Ac "signs") (Fa T)) (Bt (Ac "sign")) 4000 (C8 ["signs"])) Af) (two (Go T))) A1) (pC (.str "]")) A1))
 Ap)
 Ap)
 (Ag (Bi "told" (pC (.str "[")))
 (Ag (Ko T 4000 (Ak (Ab (Ak (Ab (Ac "every") Af) (one (D4 T))) Af) Ck) (A2 "k")
 (Ag (Cv (At T (Am (Ac "every") (Ac "k") (Ao T)) (Ac "signs") (Fa T))
 (Ag (Cv (Nl (At T (Ac "k") (pC (.int 0)) Bb) (Nl (At T (Am (Ac "every") (Am (Ac "k") (pC (.int 1)) De) (Ao T)) (Ac "signs") Fj) Mr))
 (Ag (C3 "told" (Am (Ac "every") (Ac "k") (Ao T)) Bc)
 Ap)
 (Ag (Cv (Nl (At T (Am (Ac "k") (pC (.int 1)) A1) (Ak (Ab (Ac "every") Af) (one (D4 T))) Bb) (Nl (At T (Am (Ac "every") (Am (Ac "k") (pC (.int 1)) A1) (Ao T)) (Ac "signs") Fj) Mr))
 (Ag (C3 "told" (Am (pC (.str "-")) (Am (Ac "every") (Ac "k") (Ao T)) A1) Bc)
 Ap)
 Ap)
 Ap))
 Ap)
 Ap)
 Ap)
 Ap)
 (Ag (C6 (Am (Ac "told") (pC (.str "]")) A1))
 Ap)))))))
theorem Ep(G:Gd C)(W:Wd C):CallOk C 1 (.ref 272) (B4 C.T):=
 CallOk.at G W.f__law_bracket (by lk) (show SB C (As (Ax 68)) 0 (Az (Ax 68)) _ from
 (Ae (Bf (A0 G (Fe G W) (Fe G W) Bn)
 (Ae (Bm Ay)
 An)
 An)
 (Ae (Bf (A0 G Aa Al Bn)
 (Ae (Bm (Av (Av Ay (Bs Ay (Ad (C9 G 4000 (W.nocd (by lk)) (by lk) (by lk) (by lk) Aa (A7 G) (A4 G (by lk)) (Fu (A0 G Aa Aa Lp)) (Bp Aa)) Ai) Ar (Du F.slot_str_join F.type_str_join) (Hb G)) A8) Ay A8))
 An)
 An)
 (Ae (Bf (A0 G Aa Al Jw)
 (Ae (Bm (Av (Av (F3 (A0 G Aa Al Bn) Ay Ay) (Bs Ay (Ad (C9 G 4000 (W.nocd (by lk)) (by lk) (by lk) (by lk) Aa (A7 G) (A4 G (by lk)) (Fu (A0 G Aa Aa (Iw G))) (Bp Aa)) Ai) Ar (Du F.slot_str_join F.type_str_join) (Hb G)) A8) Ay A8))
 An)
 An)
 (Ae (Bh G Ay (by lk))
 (Ae (Hl G 4000 (Bj G (by lk) W.n_range W.b_range (Ad (Fe G W) Ai) Ar KpA.type (Cu G)) (A7 G) (A4 G (by lk))
 (Ae (Bf (A0 G (A3 G Aa Aa) Aa (Iw G))
 (Ae (Bf (Dt (F2 (A0 G Aa Al Bn) (F2 (A0 G (A3 G Aa (Av Aa Al F0)) Aa Lp) Ja)))
 (Ae (Dj G (A3 G Aa Aa) Co (by lk))
 An)
 (Ae (Bf (Dt (F2 (A0 G (Av Aa Al A8) (Fe G W) Bn) (F2 (A0 G (A3 G Aa (Av Aa Al A8)) Aa Lp) Ja)))
 (Ae (Dj G (Av Ay (A3 G Aa Aa) A8) Co (by lk))
 An)
 An)
 An))
 An)
 An)
 An)
 An)
 (Ae (Bm (Av Aa Ay A8))
 An)))))))
def Er(T:GT):List MV->P MV:=Ct ["question"] (
 (Ag (Wa (Ac "question") (Js T 4 (Cj (A2 "kinds") (Cj (A2 "rights") (Cj (A2 "dress") (Cj (A2 "form") Jr))))))
 (Ag (Bi "told" (Ak (Ab (Ac "kinds") (Ab (pC (.str "-?bcdlps")) (Ab (Ac "dress") Af))) (B4 T)))
 (Ag (Ko T 4000 (Ak (Ab (pC (.int 3)) Af) Ck) (A2 "k")
 (Ag (Wa (Ak (Ab (Ak (Ab (pC (.str "-x")) (Ab (Cv (At T (Ac "k") (pC (.int 2)) Bb) (pC (.str "Tt")) (pC (.str "Ss"))) Af)) Bd) (Ab (Am (pC (.int 6)) (Am (pC (.int 3)) (Ac "k") Iu) De) Af)) Bq) (Js T 2 (Cj (A2 "ends") (Cj (A2 "low") Jr))))
 (Ag (C3 "told" (Ak (Ab (Br (Ak (Ab (pC (.int 0)) (Ab (pC (.int 1)) Af)) Bd) (Ej T) (A2 "a") (At T (Be Si (Ac "rights") (Ab (Am (Ac "low") (pC (.int 2)) A1) (Ab (Ac "a") Af)) (three Ge)) (Ac "a") Bb) (Bt (Am (pC (.str "-r")) (Ac "a") (Ao T))) 4000 (C8 ["low","rights"])) (Ab (pC (.str "-r")) (Ab (Ac "dress") Af))) (B4 T)) Bc)
 (Ag (C3 "told" (Ak (Ab (Br (Ak (Ab (pC (.int 0)) (Ab (pC (.int 1)) Af)) Bd) (Ej T) (A2 "a") (At T (Be Si (Ac "rights") (Ab (Am (Ac "low") (pC (.int 1)) A1) (Ab (Ac "a") Af)) (three Ge)) (Ac "a") Bb) (Bt (Am (pC (.str "-w")) (Ac "a") (Ao T))) 4000 (C8 ["low","rights"])) (Ab (pC (.str "-w")) (Ab (Ac "dress") Af))) (B4 T)) Bc)
 (Ag (Bi "pairs" (Br (Ak (Ab (pC (.int 0)) (Ab (pC (.int 1)) Af)) Bd) (Ej T) (A2 "a") cT (J2 (Ak (Ab (pC (.int 0)) (Ab (pC (.int 1)) Af)) Bd) (Ej T) (A2 "b") (Dk (At T (Be Si (Ac "rights") (Ab (Ac "low") (Ab (Ac "a") Af)) (three Ge)) (Ac "a") Bb) (Dk (At T (Be Si (Ac "rights") (Ab (Am (pC (.int 11)) (Ac "k") De) (Ab (Ac "b") Af)) (three Ge)) (Ac "b") Bb) Eg)) (Bt (Ak (Ab (Ac "a") (Ab (Ac "b") Af)) Bq)) 4000) 4000 (C8 ["k","low","rights"])))
 (Ag (C3 "told" (Ak (Ab (Br (Ac "pairs") (Ej T) (Js T 2 (Cj (A2 "a") (Cj (A2 "b") Jr))) cT (Bt (Am (Am (Ac "ends") (Ac "b") (Ao T)) (Ac "a") (Ao T))) 4000 (C8 ["ends"])) (Ab (Cv (At T (Ac "k") (pC (.int 2)) Bb) (pC (.str "-Ttx")) (pC (.str "-Ssx"))) (Ab (Ac "dress") Af))) (B4 T)) Bc)
 Ap)))))
 Ap)
 (Ag (C6 (Ac "told"))
 Ap)))))
theorem Pd(G:Gd C)(W:Wd C):CallOk C 2 (.ref 282) (Er C.T):=
 CallOk.at G W.f__law_columns (by lk) (show SB C (As (Ax 70)) 1 (Az (Ax 70)) _ from
 (Ae (Iy G Aa (Il G (Bu (A4 G (by lk)) (Bu (A4 G (by lk)) (Bu (A4 G (by lk)) (Bu (A4 G (by lk)) Gk))))))
 (Ae (Bh G (A6 G (by lk) W.g__law_bracket (Ad Aa (Ad Ay (Ad Aa Ai))) Ar W.f__law_bracket (Ep G W)) (by lk))
 (Ae (Hl G 4000 (Bj G (by lk) W.n_range W.b_range (Ad Al Ai) Ar KpA.type (Cu G)) (A7 G) (A4 G (by lk))
 (Ae (Iy G (Cn G (Ad (Ca G (Ad Ay (Ad (F3 (A0 G Aa Al Bn) Ay Ay) Ai))) (Ad (Av Al (Av Al Aa Mf) F0) Ai))) (Il G (Bu (A4 G (by lk)) (Bu (A4 G (by lk)) Gk))))
 (Ae (Dj G (A6 G (by lk) W.g__law_bracket (Ad (C9 G 4000 (W.nocd (by lk)) (by lk) (by lk) (by lk) (Ca G (Ad Al (Ad Al Ai))) (A7 G) (A4 G (by lk)) (Fu (A0 G (Bs Aa (Ad (Av Aa Al A8) (Ad Aa Ai)) Ar Ki (Nv G)) Aa Bn)) (Bp (A3 G Ay Aa))) (Ad Ay (Ad Aa Ai))) Ar W.f__law_bracket (Ep G W)) Co (by lk))
 (Ae (Dj G (A6 G (by lk) W.g__law_bracket (Ad (C9 G 4000 (W.nocd (by lk)) (by lk) (by lk) (by lk) (Ca G (Ad Al (Ad Al Ai))) (A7 G) (A4 G (by lk)) (Fu (A0 G (Bs Aa (Ad (Av Aa Al A8) (Ad Aa Ai)) Ar Ki (Nv G)) Aa Bn)) (Bp (A3 G Ay Aa))) (Ad Ay (Ad Aa Ai))) Ar W.f__law_bracket (Ep G W)) Co (by lk))
 (Ae (To G (by rintro ⟨_,_,_,_,_,_,_,_,_⟩ rfl;rfl) (by lk) 4000 (W.nocd (by lk)) (by lk) (by lk) (by lk) (Ca G (Ad Al (Ad Al Ai))) (A7 G) (A4 G (by lk)) Ft (Tn G 4000 (Ca G (Ad Al (Ad Al Ai))) (A7 G) (A4 G (by lk)) (Fu (Dt (C4 (A0 G (Bs Aa (Ad Aa (Ad Aa Ai)) Ar Ki (Nv G)) Aa Bn) (C4 (A0 G (Bs Aa (Ad (Av Al Aa F0) (Ad Aa Ai)) Ar Ki (Nv G)) Aa Bn) Fd)))) (Bp (Cn G (Ad Aa (Ad Aa Ai))))))
 (Ae (Dj G (A6 G (by lk) W.g__law_bracket (Ad (C9 G 4000 (W.nocd (by lk)) (by lk) (by lk) (by lk) Aa (A7 G) (Il G (Bu (A4 G (by lk)) (Bu (A4 G (by lk)) Gk))) Ft (Bp (A3 G (A3 G Aa Aa) Aa))) (Ad (F3 (A0 G Aa Al Bn) Ay Ay) (Ad Aa Ai))) Ar W.f__law_bracket (Ep G W)) Co (by lk))
 An)))))
 An)
 (Ae (Bm Aa)
 An)))))
def F7(T:GT):List MV->P MV:=Ct ["question"] (
 (Ag (Wa (Ac "question") (Js T 4 (Cj (A2 "kinds") (Cj (A2 "rights") (Cj (A2 "dress") (Cj (A2 "form") Jr))))))
 (Ag (Wa (Ak (Ab (pC (.str "0123456789ABCDEF")) (Ab (pC (.str "")) Af)) Bq) (Js T 2 (Cj (A2 "every") (Cj (A2 "told") Jr))))
 (Ag (Bi "fit" (Br (Ak (Ab (pC (.int 16)) Af) Ck) (Ej T) (A2 "d") (At T (Am (pC (.str "?pc?d?b?-?l?s???")) (Ac "d") (Ao T)) (Ac "kinds") (Fa T)) (Bt (Am (Ac "every") (Ac "d") (Ao T))) 4000 (C8 ["every","kinds"])))
 (Ag (Ko T 4000 (Ak (Ab (pC (.int 4)) Af) Ck) (A2 "k")
 (Ag (Cv (At T (Ac "k") (pC (.int 0)) Vg)
 (Ag (Bi "wished" (Br (Ak (Ab (pC (.int 4)) Af) Ck) (Ej T) (A2 "b") (At T (Am (Am (pC (.int 12)) (Am (pC (.int 4)) (Ac "k") Iu) De) (Ac "b") A1) (Ac "rights") (Fa T)) (Bt (Ak (Ab (Am (pC (.int 2)) (Ac "b") Kt) (Ab (Am (Ac "rights") (Am (Am (pC (.int 12)) (Am (pC (.int 4)) (Ac "k") Iu) De) (Ac "b") A1) (Ao T)) Af)) Bq)) 4000 (C8 ["k","rights"])))
 (Ag (Bi "fit" (Br (Ak (Ab (pC (.int 16)) Af) Ck) (Ej T) (A2 "d") (At T (Br (Ac "wished") (Ej T) (A2 "pair") (At T (Am (Am (Ac "d") (Am (Ac "pair") (pC (.int 0)) (Ao T)) E4) (pC (.int 2)) Ec) (Am (Ac "pair") (pC (.int 1)) (Ao T)) I9) (Bt (Ac "pair")) 4000 (C8 ["d"])) (Ak Af Bd) Bb) (Bt (Am (Ac "every") (Ac "d") (Ao T))) 4000 (C8 ["every","wished"])))
 Ap))
 Ap)
 (Ag (C3 "told" (Am (Cv (At T (Am (Ac "k") (pC (.int 2)) Ec) (pC (.int 0)) Bb) (pC (.str "=")) (pC (.str ""))) (Ak (Ab (Ac "fit") (Ab (Ac "every") (Ab (Ac "dress") Af))) (B4 T)) A1) Bc)
 Ap))
 Ap)
 (Ag (C6 (Ac "told"))
 Ap))))))
theorem Pe(G:Gd C)(W:Wd C):CallOk C 2 (.ref 277) (F7 C.T):=
 CallOk.at G W.f__law_figures (by lk) (show SB C (As (Ax 69)) 1 (Az (Ax 69)) _ from
 (Ae (Iy G Aa (Il G (Bu (A4 G (by lk)) (Bu (A4 G (by lk)) (Bu (A4 G (by lk)) (Bu (A4 G (by lk)) Gk))))))
 (Ae (Iy G (Cn G (Ad Ay (Ad Ay Ai))) (Il G (Bu (A4 G (by lk)) (Bu (A4 G (by lk)) Gk))))
 (Ae (Df G (by rintro ⟨_,_,_,_,_,_,_,_,_⟩ rfl;rfl) (by lk) 4000 (W.nocd (by lk)) (by lk) (by lk) (by lk) (Bj G (by lk) W.n_range W.b_range (Ad Al Ai) Ar KpA.type (Cu G)) (A7 G) (A4 G (by lk)) (Fu (A0 G (A3 G Ay Aa) Aa (Iw G))) (Bp (A3 G Aa Aa)))
 (Ae (Hl G 4000 (Bj G (by lk) W.n_range W.b_range (Ad Al Ai) Ar KpA.type (Cu G)) (A7 G) (A4 G (by lk))
 (Ae (Bf (A0 G Aa Al A35)
 (Ae (Rt G (C9 G 4000 (W.nocd (by lk)) (by lk) (by lk) (by lk) (Bj G (by lk) W.n_range W.b_range (Ad Al Ai) Ar KpA.type (Cu G)) (A7 G) (A4 G (by lk)) (Fu (A0 G (Av (Av Al (Av Al Aa Mf) F0) Aa A8) Aa (Iw G))) (Bp (Cn G (Ad (Av Al Aa Mg) (Ad (A3 G Aa (Av (Av Al (Av Al Aa Mf) F0) Aa A8)) Ai))))) (by lk))
 (Ae (Df G (by rintro ⟨_,_,_,_,_,_,_,_,_⟩ rfl;rfl) (by lk) 4000 (W.nocd (by lk)) (by lk) (by lk) (by lk) (Bj G (by lk) W.n_range W.b_range (Ad Al Ai) Ar KpA.type (Cu G)) (A7 G) (A4 G (by lk)) (Fu (A0 G (C9 G 4000 (W.nocd (by lk)) (by lk) (by lk) (by lk) Aa (A7 G) (A4 G (by lk)) (Fu (A0 G (Av (Av Aa (A3 G Aa Al) El) Al D1) (A3 G Aa Al) Jw)) (Bp Aa)) (Ca G Ai) Bn)) (Bp (A3 G Aa Aa)))
 An))
 An)
 (Ae (Dj G (Av (F3 (A0 G (Av Aa Al D1) Al Bn) Ay Ay) (A6 G (by lk) W.g__law_bracket (Ad Aa (Ad Aa (Ad Aa Ai))) Ar W.f__law_bracket (Ep G W)) A8) Co (by lk))
 An))
 An)
 (Ae (Bm Aa)
 An))))))
def Gm(T:GT):List MV->P MV:=Ct ["mode"] (
 (Ag (Bi "told" (Am (pC (.str "?pc?d?b?-?l?s???")) (Am (Ac "mode") (pC (.int 4096)) E4) (Ao T)))
 (Ag (Ko T 4000 (Ak (Ab (pC (.int 3)) Af) Ck) (A2 "k")
 (Ag (G8 T ["figure","above"] (Ak (Ab (Am (Am (Ac "mode") (Am (pC (.int 8)) (Am (pC (.int 2)) (Ac "k") De) Kt) E4) (pC (.int 8)) Ec) (Ab (Am (Am (Ac "mode") (Am (pC (.int 2)) (Am (pC (.int 11)) (Ac "k") De) Kt) E4) (pC (.int 2)) Ec) Af)) Bq))
 (Ag (Bi "ends" (Ak (Ab (pC (.str "-x")) (Ab (Cv (At T (Ac "k") (pC (.int 2)) Bb) (pC (.str "Tt")) (pC (.str "Ss"))) Af)) Bd))
 (Ag (C3 "told" (Am (Am (Am (pC (.str "-r")) (Am (Ac "figure") (pC (.int 4)) E4) (Ao T)) (Am (pC (.str "-w")) (Am (Am (Ac "figure") (pC (.int 2)) E4) (pC (.int 2)) Ec) (Ao T)) A1) (Am (Am (Ac "ends") (Ac "above") (Ao T)) (Am (Ac "figure") (pC (.int 2)) Ec) (Ao T)) A1) Bc)
 Ap)))
 Ap)
 (Ag (C6 (Ac "told"))
 Ap))))
theorem P9(G:Gd C)(W:Wd C):CallOk C 1 (.ref 233) (Gm C.T):=
 CallOk.at G W.f__law_listed (by lk) (show SB C (As (Ax 61)) 0 (Az (Ax 61)) _ from
 (Ae (Bh G (A3 G Ay (Av Aa Al El)) (by lk))
 (Ae (Hl G 4000 (Bj G (by lk) W.n_range W.b_range (Ad Al Ai) Ar KpA.type (Cu G)) (A7 G) (A4 G (by lk))
 (Ae (Ha G ["figure","above"] (Cn G (Ad (Av (Av Aa (Av Al (Av Al Aa F0) Mg) El) Al D1) (Ad (Av (Av Aa (Av Al (Av Al Aa F0) Mg) El) Al D1) Ai))) (by lk))
 (Ae (Bh G (Ca G (Ad Ay (Ad (F3 (A0 G Aa Al Bn) Ay Ay) Ai))) (by lk))
 (Ae (Dj G (Av (Av (A3 G Ay (Av Aa Al El)) (A3 G Ay (Av (Av Aa Al El) Al D1)) A8) (A3 G (A3 G Aa Aa) (Av Aa Al D1)) A8) Co (by lk))
 An)))
 An)
 (Ae (Bm Aa)
 An))))
def B5(T:GT):List MV->P MV:=Ct ["told"] (
 (Ag (Cv (Nl (At T (Bz T (Ac "told") Ms (Cq (pC (.int 4)))) (pC (.str "(?s:")) I9) (Nl (At T (Bz T (Ac "told") (Cq (Jd (pC (.int 3)))) Ms) (pC (.str ")\\Z")) I9) Mr))
 (Ag (fun zz=>fl)
 Ap)
 Ap)
 (Ag (G8 T ["body","at","parts"] (Ak (Ab (Bz T (Ac "told") (Cq (pC (.int 4))) (Cq (Jd (pC (.int 3))))) (Ab (pC (.int 0)) (Ab (Ak (Ab (Ak (Ab (pC (.str "run")) (Ab (Ak Af Bd) Af)) Bq) Af) Bd) Af))) Bq))
 (Ag (By (At T (Ac "at") (Ak (Ab (Ac "body") Af) (one (D4 T))) Fz)
 (Ag (G8 T ["sign","atoms"] (Ak (Ab (Am (Ac "body") (Ac "at") (Ao T)) (Ab (Am (Am (Ac "parts") (Jd (pC (.int 1))) (Ao T)) (pC (.int 1)) (Ao T)) Af)) Bq))
 (Ag (Cv (At T (Bz T (Ac "body") (Cq (Ac "at")) (Cq (Am (Ac "at") (pC (.int 6)) A1))) (pC (.str "(?>.*?")) Bb)
 (Ag (Cw (Be Kv (Ac "parts") (Ab (Ak (Ab (pC (.str "held")) (Ab (Ak Af Bd) Af)) Bq) Af) (two Bk)))
 (Ag (C3 "at" (pC (.int 6)) Bc)
 Ap))
 (Ag (Cv (At T (Bz T (Ac "body") (Cq (Ac "at")) (Cq (Am (Ac "at") (pC (.int 2)) A1))) (pC (.str ".*")) Bb)
 (Ag (Cw (Be Kv (Ac "parts") (Ab (Ak (Ab (pC (.str "free")) (Ab (Ak Af Bd) Af)) Bq) Af) (two Bk)))
 (Ag (C3 "at" (pC (.int 2)) Bc)
 Ap))
 (Ag (Cv (Dk (At T (Ac "sign") (pC (.str ")")) Bb) (Dk (At T (Am (Am (Ac "parts") (Jd (pC (.int 1))) (Ao T)) (pC (.int 0)) (Ao T)) (pC (.str "held")) Bb) Eg))
 (Ag (Cw (Be Kv (Ac "parts") (Ab (Ak (Ab (pC (.str "run")) (Ab (Ak Af Bd) Af)) Bq) Af) (two Bk)))
 (Ag (C3 "at" (pC (.int 1)) Bc)
 Ap))
 (Ag (Cv (At T (Ac "sign") (pC (.str "[")) Bb)
 (Ag (Bi "to" (Be O1 (Ac "body") (Ab (pC (.str "]")) (Ab (Ac "at") Af)) (three Rj)))
 (Ag (Cw (Be Kv (Ac "atoms") (Ab (Ak (Ab (Bz T (Ac "body") (Cq (Am (Ac "at") (pC (.int 1)) A1)) (Cq (Ac "to"))) Af) (Hq T)) Af) (two Bk)))
 (Ag (Bi "at" (Am (Ac "to") (pC (.int 1)) A1))
 Ap)))
 (Ag (Cv (At T (Ac "sign") (pC (.str ".")) Bb)
 (Ag (Cw (Be Kv (Ac "atoms") (Ab (Ak (Ab (pC (.bool true)) (Ab (pC (.str "")) Af)) Bq) Af) (two Bk)))
 (Ag (C3 "at" (pC (.int 1)) Bc)
 Ap))
 (Ag (Cv (At T (Ac "sign") (pC (.str "()*+?{}|^$")) (Fa T))
 (Ag (fun zz=>fl)
 Ap)
 (Ag (C3 "at" (Cv (At T (Ac "sign") (pC (.str "\\")) Bb) (pC (.int 1)) (pC (.int 0))) Bc)
 (Ag (Cw (Be Kv (Ac "atoms") (Ab (Ak (Ab (pC (.bool false)) (Ab (Bz T (Ac "body") (Cq (Ac "at")) (Cq (Am (Ac "at") (pC (.int 1)) A1))) Af)) Bq) Af) (two Bk)))
 (Ag (C3 "at" (pC (.int 1)) Bc)
 Ap))))
 Ap))
 Ap))
 Ap))
 Ap))
 Ap))
 Ap)) 4000)
 (Ag (Bi "kinds" (Br (Ac "parts") (Ej T) (A2 "part") cT (Bt (Am (Ac "part") (pC (.int 0)) (Ao T))) 4000 (C8 [])))
 (Ag (Cv (Nl (At T (pC (.str "free")) (Bz T (Ac "kinds") Ms (Cq (Jd (pC (.int 1))))) (Fa T)) (Nl (At T (Am (Ac "kinds") (Jd (pC (.int 1))) (Ao T)) (pC (.str "held")) Bb) Mr))
 (Ag (fun zz=>fl)
 Ap)
 Ap)
 (Ag (C6 (Ac "parts"))
 Ap)))))))
theorem J8(G:Gd C)(W:Wd C):CallOk C 2 (.ref 243) (B5 C.T):=
 CallOk.at G W.f__law_read (by lk) (show SB C (As (Ax 63)) 1 (Az (Ax 63)) _ from
 (Ae (Bf (Dt (F2 (A0 G (Ce G Aa SP.none (SP.some Al)) Ay Jw) (F2 (A0 G (Ce G Aa (SP.some (Ik Al)) SP.none) Ay Jw) Ja)))
 (Ae O9
 An)
 An)
 (Ae (Ha G ["body","at","parts"] (Cn G (Ad (Ce G Aa (SP.some Al) (SP.some (Ik Al))) (Ad Al (Ad (Ca G (Ad (Cn G (Ad Ay (Ad (Ca G Ai) Ai))) Ai)) Ai)))) (by lk))
 (Ae (F4 4000 (A0 G Aa (Fe G W) Jv)
 (Ae (Ha G ["sign","atoms"] (Cn G (Ad (A3 G Aa Aa) (Ad (A3 G (A3 G Aa (Ik Al)) Al) Ai))) (by lk))
 (Ae (Bf (A0 G (Ce G Aa (SP.some Aa) (SP.some (Av Aa Al A8))) Ay Bn)
 (Ae (Cg (Bs Aa (Ad (Cn G (Ad Ay (Ad (Ca G Ai) Ai))) Ai) Ar (Di F.slot_list_append F.type_list_append) C5))
 (Ae (Dj G Al Co (by lk))
 An))
 (Ae (Bf (A0 G (Ce G Aa (SP.some Aa) (SP.some (Av Aa Al A8))) Ay Bn)
 (Ae (Cg (Bs Aa (Ad (Cn G (Ad Ay (Ad (Ca G Ai) Ai))) Ai) Ar (Di F.slot_list_append F.type_list_append) C5))
 (Ae (Dj G Al Co (by lk))
 An))
 (Ae (Bf (Dt (C4 (A0 G Aa Ay Bn) (C4 (A0 G (A3 G (A3 G Aa (Ik Al)) Al) Ay Bn) Fd)))
 (Ae (Cg (Bs Aa (Ad (Cn G (Ad Ay (Ad (Ca G Ai) Ai))) Ai) Ar (Di F.slot_list_append F.type_list_append) C5))
 (Ae (Dj G Al Co (by lk))
 An))
 (Ae (Bf (A0 G Aa Ay Bn)
 (Ae (Bh G (Bs Aa (Ad Ay (Ad Aa Ai)) Ar (Du F.slot_str_index F.type_str_index) A4j) (by lk))
 (Ae (Cg (Bs Aa (Ad (A6 G (by lk) W.g__law_set (Ad (Ce G Aa (SP.some (Av Aa Al A8)) (SP.some Aa)) Ai) Ar W.f__law_set (Wf G W)) Ai) Ar (Di F.slot_list_append F.type_list_append) C5))
 (Ae (Bh G (Av Aa Al A8) (by lk))
 An)))
 (Ae (Bf (A0 G Aa Ay Bn)
 (Ae (Cg (Bs Aa (Ad (Cn G (Ad Ew (Ad Ay Ai))) Ai) Ar (Di F.slot_list_append F.type_list_append) C5))
 (Ae (Dj G Al Co (by lk))
 An))
 (Ae (Bf (A0 G Aa Ay (Iw G))
 (Ae O9
 An)
 (Ae (Dj G (F3 (A0 G Aa Ay Bn) Al Al) Co (by lk))
 (Ae (Cg (Bs Aa (Ad (Cn G (Ad Ew (Ad (Ce G Aa (SP.some Aa) (SP.some (Av Aa Al A8))) Ai))) Ai) Ar (Di F.slot_list_append F.type_list_append) C5))
 (Ae (Dj G Al Co (by lk))
 An))))
 An))
 An))
 An))
 An))
 An))
 An)))
 (Ae (Df G (by rintro ⟨_,_,_,_,_,_,_,_,_⟩ rfl;rfl) (by lk) 4000 (W.nocd (by lk)) (by lk) (by lk) (by lk) Aa (A7 G) (A4 G (by lk)) Ft (Bp (A3 G Aa Al)))
 (Ae (Bf (Dt (F2 (A0 G Ay (Ce G Aa SP.none (SP.some (Ik Al))) (Iw G)) (F2 (A0 G (A3 G Aa (Ik Al)) Ay Bn) Ja)))
 (Ae O9
 An)
 An)
 (Ae (Bm Aa)
 An)))))))
def Dc(T:GT):List MV->P MV:=Ct ["parts","name"] (
 (Ag (Bi "at" (pC (.int 0)))
 (Ag (Ko T 4000 (Ac "parts") (Js T 2 (Cj (A2 "kind") (Cj (A2 "atoms") Jr)))
 (Ag (Cv (At T (Ac "kind") (pC (.str "held")) Bb)
 (Ag (By (Dk (At T (Am (Ac "at") (Ak (Ab (Ac "atoms") Af) (one (D4 T))) A1) (Ak (Ab (Ac "name") Af) (one (D4 T))) Ze) (Dk (P8 (Da T (Ak (Ab (Ac "atoms") (Ab (Ac "name") (Ab (Ac "at") Af))) (Eo T)))) Eg))
 (Ag (C3 "at" (pC (.int 1)) Bc)
 Ap) 4000)
 Ap)
 (Ag (Cv (Dk (At T (Ac "kind") (pC (.str "free")) Bb) (Dk (At T (Am (Ac "at") (Ak (Ab (Ac "atoms") Af) (one (D4 T))) A1) (Ak (Ab (Ac "name") Af) (one (D4 T))) Ze) Eg))
 (Ag (Bi "at" (Am (Ak (Ab (Ac "name") Af) (one (D4 T))) (Ak (Ab (Ac "atoms") Af) (one (D4 T))) De))
 Ap)
 Ap)
 Ap))
 (Ag (Cv (P8 (Da T (Ak (Ab (Ac "atoms") (Ab (Ac "name") (Ab (Ac "at") Af))) (Eo T))))
 (Ag (C6 (pC (.bool false)))
 Ap)
 Ap)
 (Ag (C3 "at" (Ak (Ab (Ac "atoms") Af) (one (D4 T))) Bc)
 Ap)))
 Ap)
 (Ag (C6 (Am (Ac "at") (Ak (Ab (Ac "name") Af) (one (D4 T))) Bb))
 Ap))))
theorem Je(G:Gd C)(W:Wd C):CallOk C 2 (.ref 257) (Dc C.T):=
 CallOk.at G W.f__law_takes (by lk) (show SB C (As (Ax 65)) 1 (Az (Ax 65)) _ from
 (Ae (Bh G Al (by lk))
 (Ae (Hl G 4000 Aa (A7 G) (Il G (Bu (A4 G (by lk)) (Bu (A4 G (by lk)) Gk)))
 (Ae (Bf (A0 G Aa Ay Bn)
 (Ae (F4 4000 (Dt (C4 (A0 G (Av Aa (Fe G W) A8) (Fe G W) A9j) (C4 (Ot (D2 G (A6 G (by lk) W.g__law_fits (Ad Aa (Ad Aa (Ad Aa Ai))) Ar W.f__law_fits (Nf G W)))) Fd)))
 (Ae (Dj G Al Co (by lk))
 An))
 An)
 (Ae (Bf (Dt (C4 (A0 G Aa Ay Bn) (C4 (A0 G (Av Aa (Fe G W) A8) (Fe G W) A9j) Fd)))
 (Ae (Bh G (Av (Fe G W) (Fe G W) F0) (by lk))
 An)
 An)
 An))
 (Ae (Bf (Ot (D2 G (A6 G (by lk) W.g__law_fits (Ad Aa (Ad Aa (Ad Aa Ai))) Ar W.f__law_fits (Nf G W))))
 (Ae (Bm Ew)
 An)
 An)
 (Ae (Dj G (Fe G W) Co (by lk))
 An)))
 An)
 (Ae (Bm (Dq Aa (Fe G W) Bn))
 An))))
end
section
variable {C:Cx}
noncomputable def A5(T:GT):Value->Option (List MV->P MV):=fun v=>match v with
 | .ref a=>none
 | _=>none
theorem B6(G:Gd C)(_W:Wd C):Oz C 0 (It (A5 C.T)):=by
 refine Vv fun v g h=>?_;unfold A5 at h
 split at h
 ·cases h
 ·cases h
def C0(T:GT):List MV->P MV:=Ct ["inp","STAR"] (
 (Ag (Bi "res" (Ak Af Bd))
 (Ag (Bi "add" (Ak (Ac "res") Yg))
 (Ag (G8 T ["i","n"] (Ak (Ab (pC (.int 0)) (Ab (Ak (Ab (Ac "inp") Af) (one (D4 T))) Af)) Bq))
 (Ag (By (Dk (At T (Ac "i") (Ac "n") Fz) (Dk (At T (Am (Ac "inp") (Ac "i") (Ao T)) (Ac "STAR") En) Eg))
 (Ag (Cw (Cp (Ac "add") (Ab (Am (Ac "inp") (Ac "i") (Ao T)) Af) (It (A5 T))))
 (Ag (C3 "i" (pC (.int 1)) Bc)
 Ap)) 4000)
 (Ag (By (At T (Ac "i") (Ac "n") Fz)
 (Ag (V9 (At T (Am (Ac "inp") (Ac "i") (Ao T)) (Ac "STAR") pIs))
 (Ag (C3 "i" (pC (.int 1)) Bc)
 (Ag (Cv (At T (Ac "i") (Ac "n") Bb)
 (Ag (Cw (Cp (Ac "add") (Ab (pC (.str ".*")) Af) (It (A5 T))))
 (Ag Rs
 Ap))
 Ap)
 (Ag (V9 (At T (Am (Ac "inp") (Ac "i") (Ao T)) (Ac "STAR") En))
 (Ag (Bi "fixed" (Ak Af Bd))
 (Ag (By (Dk (At T (Ac "i") (Ac "n") Fz) (Dk (At T (Am (Ac "inp") (Ac "i") (Ao T)) (Ac "STAR") En) Eg))
 (Ag (Cw (Be Kv (Ac "fixed") (Ab (Am (Ac "inp") (Ac "i") (Ao T)) Af) (two Bk)))
 (Ag (C3 "i" (pC (.int 1)) Bc)
 Ap)) 4000)
 (Ag (Bi "fixed" (Be O1 (pC (.str "")) (Ab (Ac "fixed") Af) (two (Go T))))
 (Ag (Cv (At T (Ac "i") (Ac "n") Bb)
 (Ag (Cw (Cp (Ac "add") (Ab (pC (.str ".*")) Af) (It (A5 T))))
 (Ag (Cw (Cp (Ac "add") (Ab (Ac "fixed") Af) (It (A5 T))))
 Ap))
 (Ag (Cw (Cp (Ac "add") (Ab (Ak (Ac "fixed") (Lz "(?>.*?" ")")) Af) (It (A5 T))))
 Ap))
 Ap)))))))) 4000)
 (Ag (V9 (At T (Ac "i") (Ac "n") Bb))
 (Ag (Bi "res" (Be O1 (pC (.str "")) (Ab (Ac "res") Af) (two (Go T))))
 (Ag (C6 (Ak (Ac "res") (Lz "(?s:" ")\\Z")))
 Ap)))))))))
theorem Im(G:Gd C)(W:Wd C):CallOk C 1 (.ref 123) (C0 C.T):=
 CallOk.at G W.f__join_translated_parts (by lk) (show SB C (As (Ax 28)) 0 (Az (Ax 28)) _ from
 (Ae (Bh G (Ca G Ai) (by lk))
 (Ae (Bh G (Qx G Aa) (by lk))
 (Ae (Ha G ["i","n"] (Cn G (Ad Al (Ad (Fe G W) Ai))) (by lk))
 (Ae (F4 4000 (Dt (C4 (A0 G Aa Aa Jv) (C4 (A0 G (A3 G Aa Aa) Aa Gn) Fd)))
 (Ae (Cg (D3 Aa (Ad (A3 G Aa Aa) Ai) Ar (B6 G W)))
 (Ae (Dj G Al Co (by lk))
 An)))
 (Ae (F4 4000 (A0 G Aa Aa Jv)
 (Ae (Kg (A0 G (A3 G Aa Aa) Aa D0o))
 (Ae (Dj G Al Co (by lk))
 (Ae (Bf (A0 G Aa Aa Bn)
 (Ae (Cg (D3 Aa (Ad Ay Ai) Ar (B6 G W)))
 (Ae Rf
 An))
 An)
 (Ae (Kg (A0 G (A3 G Aa Aa) Aa Gn))
 (Ae (Bh G (Ca G Ai) (by lk))
 (Ae (F4 4000 (Dt (C4 (A0 G Aa Aa Jv) (C4 (A0 G (A3 G Aa Aa) Aa Gn) Fd)))
 (Ae (Cg (Bs Aa (Ad (A3 G Aa Aa) Ai) Ar (Di F.slot_list_append F.type_list_append) C5))
 (Ae (Dj G Al Co (by lk))
 An)))
 (Ae (Bh G (Bs Ay (Ad Aa Ai) Ar (Du F.slot_str_join F.type_str_join) (Hb G)) (by lk))
 (Ae (Bf (A0 G Aa Aa Bn)
 (Ae (Cg (D3 Aa (Ad Ay Ai) Ar (B6 G W)))
 (Ae (Cg (D3 Aa (Ad Aa Ai) Ar (B6 G W)))
 An))
 (Ae (Cg (D3 Aa (Ad (Rp Aa) Ai) Ar (B6 G W)))
 An))
 An)))))))))
 (Ae (Kg (A0 G Aa Aa Bn))
 (Ae (Bh G (Bs Ay (Ad Aa Ai) Ar (Du F.slot_str_join F.type_str_join) (Hb G)) (by lk))
 (Ae (Bm (Rp Aa))
 An)))))))))
def L0(T:GT):List MV->P MV:=Ct ["c"] (
 (Ag (C6 (Am (pC (.val (.ref 39))) (Ak (Ab (Ac "c") Af) (one Rg)) (Ao T)))
 Ap))
theorem Yk(G:Gd C)(W:Wd C):CallOk C 1 (.ref 66) (L0 C.T):=
 CallOk.at G W.f_quote (by lk) (show SB C (As (Ax 14)) 0 (Az (Ax 14)) _ from
 (Ae (Bm (A3 G (Ea G (by lk) W.g__QUOPRI_MAP) (Bj G (by lk) W.n_ord W.b_ord (Ad Aa Ai) Ar KpA.builtin Vl)))
 An))
def Hs(T:GT):List MV->P MV:=Ct ["mode"] (
 (Ag (Bi "perm" (Ak Af Bd))
 (Ag (A9n 4000 (Ak (pC (.val (.ref 219))) (Te T)) (Js T 2 (Cj (A2 "index") (Cj (A2 "table") Jr)))
 (Ag (Ko T 4000 (Ac "table") (Js T 2 (Cj (A2 "bit") (Cj (A2 "char") Jr)))
 (Ag (Cv (At T (Ac "index") (pC (.int 0)) Bb)
 (Ag (Cv (At T (Ak (Ab (Ac "mode") Af) (Ed T)) (Ac "bit") Bb)
 (Ag (Cw (Be Kv (Ac "perm") (Ab (Ac "char") Af) (two Bk)))
 (Ag Rs
 Ap))
 Ap)
 Ap)
 (Ag (Cv (At T (Am (Ac "mode") (Ac "bit") Qp) (Ac "bit") Bb)
 (Ag (Cw (Be Kv (Ac "perm") (Ab (Ac "char") Af) (two Bk)))
 (Ag Rs
 Ap))
 Ap)
 Ap))
 Ap)
 (Ag (Cv (At T (Ac "index") (pC (.int 0)) Bb)
 (Ag (Cw (Be Kv (Ac "perm") (Ab (pC (.str "?")) Af) (two Bk)))
 Ap)
 (Ag (Cw (Be Kv (Ac "perm") (Ab (pC (.str "-")) Af) (two Bk)))
 Ap))
 Ap))
 Ap)
 Ap)
 (Ag (C6 (Be O1 (pC (.str "")) (Ab (Ac "perm") Af) (two (Go T))))
 Ap))))
theorem Wh(G:Gd C)(W:Wd C):CallOk C 2 (.ref 226) (Hs C.T):=
 CallOk.at G W.f_filemode (by lk) (show SB C (As (Ax 59)) 1 (Az (Ax 59)) _ from
 (Ae (Bh G (Ca G Ai) (by lk))
 (Ae (Yb G 4000 (A4p G (Ve G (by lk) W.n_enumerate W.b_enumerate) (Ea G (by lk) W.g__filemode_table)) (Il G (Bu (A4 G (by lk)) (Bu (A4 G (by lk)) Gk)))
 (Ae (Hl G 4000 Aa (A7 G) (Il G (Bu (A4 G (by lk)) (Bu (A4 G (by lk)) Gk)))
 (Ae (Bf (A0 G Aa Al Bn)
 (Ae (Bf (A0 G (A6 G (by lk) W.g_S_IFMT (Ad Aa Ai) Ar W.f_S_IFMT (F6 G W)) Aa Bn)
 (Ae (Cg (Bs Aa (Ad Aa Ai) Ar (Di F.slot_list_append F.type_list_append) C5))
 (Ae Rf
 An))
 An)
 An)
 (Ae (Bf (A0 G (Av Aa Aa Vf) Aa Bn)
 (Ae (Cg (Bs Aa (Ad Aa Ai) Ar (Di F.slot_list_append F.type_list_append) C5))
 (Ae Rf
 An))
 An)
 An))
 An)
 (Ae (Bf (A0 G Aa Al Bn)
 (Ae (Cg (Bs Aa (Ad Ay Ai) Ar (Di F.slot_list_append F.type_list_append) C5))
 An)
 (Ae (Cg (Bs Aa (Ad Ay Ai) Ar (Di F.slot_list_append F.type_list_append) C5))
 An))
 An))
 An)
 An)
 (Ae (Bm (Bs Ay (Ad Aa Ai) Ar (Du F.slot_str_join F.type_str_join) (Hb G)))
 An))))
def J9(T:GT):List MV->P MV:=Ct ["pattern"] (
 (Ag (Cv (Da T (Ak (Ab (Ac "pattern") (Ab (pC (.val (.type "str"))) Af)) A7m))
 (Ag (C6 (Be O1 (Ac "pattern") (Ab (pC (.val (.ref 99))) Af) (two (Ro 99))))
 Ap)
 (fun zz=>fl))
 Ap))
theorem A41(G:Gd C)(W:Wd C):CallOk C 1 (.ref 109) (J9 C.T):=
 CallOk.at G W.f_escape (by lk) (show SB C (As (Ax 25)) 0 (Az (Ax 25)) _ from
 (Ae (Bf (D2 G (Bj G (by lk) W.n_isinstance W.b_isinstance (Ad Aa (Ad (Ve G (by lk) W.n_str W.b_str) Ai)) Ar KpA.builtin Lu))
 (Ae (Bm (Bs Aa (Ad (Ea G (by lk) W.g__special_chars_map) Ai) Ar (Du F.slot_str_translate F.type_str_translate) (A4q W.tr)))
 An)
 B47)
 An))
def D5(T:GT):List MV->P MV:=Ct ["match"] (
 (Ag (Bi "s" (Be isM (Ac "match") (Ab (pC (.int 0)) Af) (two A4y)))
 (Ag (C6 (Ak (Ab (Ac "s") Af) (Kj T)))
 Ap)))
theorem Mz(G:Gd C)(W:Wd C):CallOk C 2 (.ref 78) (D5 C.T):=
 CallOk.at G W.f__unquote_match (by lk) (show SB C (As (Ax 18)) 1 (Az (Ax 18)) _ from
 (Ae (Bh G (Bs Aa (Ad Al Ai) Ar V7 A4z) (by lk))
 (Ae (Bm (A6 G (by lk) W.g_unquote (Ad Aa Ai) Ar W.f_unquote (Z2 G W)))
 An)))
def F8(T:GT):Value->Option (List MV->P MV):=fun v=>match v with
 | .ref a=>if a=172 then some (La T) else if a=151 then some (Mv T) else if a=144 then some (Mw T) else if a=158 then some (Mu T) else if a=165 then some (My T) else if a=179 then some (Mx T) else if a=186 then some (Lb T) else none
 | _=>none
theorem Pf(G:Gd C)(_W:Wd C):Oz C 2 (It (F8 C.T)):=by
 refine Vv fun v g h=>?_;unfold F8 at h
 split at h
 ·split at h
  ·rename_i e;subst e;cases h;exact⟨CallOk.up (by decide) (Wc G _W),FnAt.kp _W.f_S_ISFIFO⟩
  ·split at h
   ·rename_i e;subst e;cases h;exact⟨CallOk.up (by decide) (Z3 G _W),FnAt.kp _W.f_S_ISCHR⟩
   ·split at h
    ·rename_i e;subst e;cases h;exact⟨CallOk.up (by decide) (Z4 G _W),FnAt.kp _W.f_S_ISDIR⟩
    ·split at h
     ·rename_i e;subst e;cases h;exact⟨CallOk.up (by decide) (Z1 G _W),FnAt.kp _W.f_S_ISBLK⟩
     ·split at h
      ·rename_i e;subst e;cases h;exact⟨CallOk.up (by decide) (Z6 G _W),FnAt.kp _W.f_S_ISREG⟩
      ·split at h
       ·rename_i e;subst e;cases h;exact⟨CallOk.up (by decide) (Z5 G _W),FnAt.kp _W.f_S_ISLNK⟩
       ·split at h
        ·rename_i e;subst e;cases h;exact⟨CallOk.up (by decide) (We G _W),FnAt.kp _W.f_S_ISSOCK⟩
        ·cases h
 ·cases h
def Hd(T:GT):List MV->P MV:=Ct ["mode","listed"] (
 (Ag (Bi "asks" (Ak (Ab (Ak (Ab (pC (.str "p")) (Ab (pC (.val (.ref 172))) Af)) Bq) (Ab (Ak (Ab (pC (.str "c")) (Ab (pC (.val (.ref 151))) Af)) Bq) (Ab (Ak (Ab (pC (.str "d")) (Ab (pC (.val (.ref 144))) Af)) Bq) (Ab (Ak (Ab (pC (.str "b")) (Ab (pC (.val (.ref 158))) Af)) Bq) (Ab (Ak (Ab (pC (.str "-")) (Ab (pC (.val (.ref 165))) Af)) Bq) (Ab (Ak (Ab (pC (.str "l")) (Ab (pC (.val (.ref 179))) Af)) Bq) (Ab (Ak (Ab (pC (.str "s")) (Ab (pC (.val (.ref 186))) Af)) Bq) Af))))))) Bd))
 (Ag (Cv (Da T (Br (Ac "asks") (Ej T) (Js T 2 (Cj (A2 "sign") (Cj (A2 "ask") Jr))) (At T (Cp (Ac "ask") (Ab (Ac "mode") Af) (It (F8 T))) (Am (Am (Ac "listed") (pC (.int 0)) (Ao T)) (Ac "sign") Bb) En) (Bt (Ac "sign")) 4000 (C8 ["listed","mode"])))
 (Ag (C6 (pC (.bool false)))
 Ap)
 Ap)
 (Ag (C6 (Tl T (Am (Ak (Ab (Ac "mode") Af) (Ed T)) (Am (Am (Ac "mode") (pC (.int 4096)) E4) (pC (.int 4096)) Iu) Bb) (Am (Ak (Ab (Ac "mode") Af) (Mt T)) (Am (Ac "mode") (pC (.int 4096)) Ec) Bb)))
 Ap))))
theorem Rv(G:Gd C)(W:Wd C):CallOk C 3 (.ref 287) (Hd C.T):=
 CallOk.at G W.f__law_kinds (by lk) (show SB C (As (Ax 71)) 2 (Az (Ax 71)) _ from
 (Ae (Bh G (Ca G (Ad (Cn G (Ad Ay (Ad (Ea G (by lk) W.g_S_ISFIFO) Ai))) (Ad (Cn G (Ad Ay (Ad (Ea G (by lk) W.g_S_ISCHR) Ai))) (Ad (Cn G (Ad Ay (Ad (Ea G (by lk) W.g_S_ISDIR) Ai))) (Ad (Cn G (Ad Ay (Ad (Ea G (by lk) W.g_S_ISBLK) Ai))) (Ad (Cn G (Ad Ay (Ad (Ea G (by lk) W.g_S_ISREG) Ai))) (Ad (Cn G (Ad Ay (Ad (Ea G (by lk) W.g_S_ISLNK) Ai))) (Ad (Cn G (Ad Ay (Ad (Ea G (by lk) W.g_S_ISSOCK) Ai))) Ai)))))))) (by lk))
 (Ae (Bf (D2 G (C9 G 4000 (W.nocd (by lk)) (by lk) (by lk) (by lk) Aa (A7 G) (Il G (Bu (A4 G (by lk)) (Bu (A4 G (by lk)) Gk))) (Fu (A0 G (D3 Aa (Ad Aa Ai) Ar (Pf G W)) (Dq (A3 G Aa Al) Aa Bn) Gn)) (Bp Aa)))
 (Ae (Bm Ew)
 An)
 An)
 (Ae (Bm (Rd G (Dq (A6 G (by lk) W.g_S_IFMT (Ad Aa Ai) Ar W.f_S_IFMT (F6 G W)) (Av (Av Aa Al El) Al Mf) Bn) (Ou (Dq (A6 G (by lk) W.g_S_IMODE (Ad Aa Ai) Ar W.f_S_IMODE (Z0 G W)) (Av Aa Al D1) Bn))))
 An))))
def Fo(T:GT):List MV->P MV:=Ct ["s"] (
 (Ag (Bi "s" (Be O1 (Ac "s") (Ab (pC (.str "_")) (Ab (pC (.str " ")) Af)) (three Qy)))
 (Ag (C6 (Ak (Ac "s") (Yi Dr (D5 T) 100)))
 Ap)))
theorem Nn(G:Gd C)(W:Wd C):CallOk C 4 (.ref 85) (Fo C.T):=
 CallOk.at G W.f_header_decode (by lk) (show SB C (As (Ax 19)) 3 (Az (Ax 19)) _ from
 (Ae (Bh G (Bs Aa (Ad Ay (Ad Ay Ai)) Ar (Du F.slot_str_replace F.type_str_replace) O8) (by lk))
 (Ae (Bm (Zy G 100 (Ea G (by lk) W.g_twin_re_1_quoprimime) W.pat_twin_re_1_quoprimime (Ea G (by lk) W.g__unquote_match) (A7n W.f__unquote_match) (CallOk.up (by decide) (Mz G W)) Aa))
 An)))
end
section
variable {C:Cx}
noncomputable def A9(T:GT):Value->Option (List MV->P MV):=fun v=>match v with
 | .ref a=>none
 | _=>none
theorem Dl(G:Gd C)(_W:Wd C):Oz C 1 (It (A9 C.T)):=by
 refine Vv fun v g h=>?_;unfold A9 at h
 split at h
 ·cases h
 ·cases h
def Ee:Str->Bool:=Rr "\\" "-" "\\-"
def Dx:Str->Str:=fun y=>Fm y "-" "\\-"
def He(T:GT):List MV->P MV:=Ct ["pat","STAR","QUESTION_MARK"] (
 (Ag (Bi "res" (Ak Af Bd))
 (Ag (Bi "add" (Ak (Ac "res") Yg))
 (Ag (G8 T ["i","n"] (Ak (Ab (pC (.int 0)) (Ab (Ak (Ab (Ac "pat") Af) (one (D4 T))) Af)) Bq))
 (Ag (By (At T (Ac "i") (Ac "n") Fz)
 (Ag (Bi "c" (Am (Ac "pat") (Ac "i") (Ao T)))
 (Ag (Bi "i" (Am (Ac "i") (pC (.int 1)) A1))
 (Ag (Cv (At T (Ac "c") (pC (.str "*")) Bb)
 (Ag (Cv (Nl (P8 (Da T (Ac "res"))) (Nl (At T (Am (Ac "res") (Jd (pC (.int 1))) (Ao T)) (Ac "STAR") En) Mr))
 (Ag (Cw (Cp (Ac "add") (Ab (Ac "STAR") Af) (It (A9 T))))
 Ap)
 Ap)
 Ap)
 (Ag (Cv (At T (Ac "c") (pC (.str "?")) Bb)
 (Ag (Cw (Cp (Ac "add") (Ab (Ac "QUESTION_MARK") Af) (It (A9 T))))
 Ap)
 (Ag (Cv (At T (Ac "c") (pC (.str "[")) Bb)
 (Ag (Bi "j" (Ac "i"))
 (Ag (Cv (Dk (At T (Ac "j") (Ac "n") Fz) (Dk (At T (Am (Ac "pat") (Ac "j") (Ao T)) (pC (.str "!")) Bb) Eg))
 (Ag (Bi "j" (Am (Ac "j") (pC (.int 1)) A1))
 Ap)
 Ap)
 (Ag (Cv (Dk (At T (Ac "j") (Ac "n") Fz) (Dk (At T (Am (Ac "pat") (Ac "j") (Ao T)) (pC (.str "]")) Bb) Eg))
 (Ag (Bi "j" (Am (Ac "j") (pC (.int 1)) A1))
 Ap)
 Ap)
 (Ag (By (Dk (At T (Ac "j") (Ac "n") Fz) (Dk (At T (Am (Ac "pat") (Ac "j") (Ao T)) (pC (.str "]")) I9) Eg))
 (Ag (Bi "j" (Am (Ac "j") (pC (.int 1)) A1))
 Ap) 4000)
 (Ag (Cv (At T (Ac "j") (Ac "n") Vh)
 (Ag (Cw (Cp (Ac "add") (Ab (pC (.str "\\[")) Af) (It (A9 T))))
 Ap)
 (Ag (Bi "stuff" (Bz T (Ac "pat") (Cq (Ac "i")) (Cq (Ac "j"))))
 (Ag (Cv (At T (pC (.str "-")) (Ac "stuff") Fj)
 (Ag (Bi "stuff" (Be O1 (Ac "stuff") (Ab (pC (.str "\\")) (Ab (pC (.str "\\\\")) Af)) (three Qy)))
 Ap)
 (Ag (Bi "chunks" (Ak Af Bd))
 (Ag (Bi "k" (Cv (At T (Am (Ac "pat") (Ac "i") (Ao T)) (pC (.str "!")) Bb) (Am (Ac "i") (pC (.int 2)) A1) (Am (Ac "i") (pC (.int 1)) A1)))
 (Ag (By (Da T (pC (.bool true)))
 (Ag (Bi "k" (Be O1 (Ac "pat") (Ab (pC (.str "-")) (Ab (Ac "k") (Ab (Ac "j") Af))) Sz))
 (Ag (Cv (At T (Ac "k") (pC (.int 0)) Fz)
 (Ag Rs
 Ap)
 Ap)
 (Ag (Cw (Be Kv (Ac "chunks") (Ab (Bz T (Ac "pat") (Cq (Ac "i")) (Cq (Ac "k"))) Af) (two Bk)))
 (Ag (Bi "i" (Am (Ac "k") (pC (.int 1)) A1))
 (Ag (Bi "k" (Am (Ac "k") (pC (.int 3)) A1))
 Ap))))) 4000)
 (Ag (Bi "chunk" (Bz T (Ac "pat") (Cq (Ac "i")) (Cq (Ac "j"))))
 (Ag (Cv (Da T (Ac "chunk"))
 (Ag (Cw (Be Kv (Ac "chunks") (Ab (Ac "chunk") Af) (two Bk)))
 Ap)
 (Ag (fun zz=>fl)
 Ap))
 (Ag (Ko T 4000 (Ak (Ab (Am (Ak (Ab (Ac "chunks") Af) (one (D4 T))) (pC (.int 1)) De) (Ab (pC (.int 0)) (Ab (Jd (pC (.int 1))) Af))) Ck) (A2 "k")
 (Ag (Cv (At T (Am (Am (Ac "chunks") (Am (Ac "k") (pC (.int 1)) De) (Ao T)) (Jd (pC (.int 1))) (Ao T)) (Am (Am (Ac "chunks") (Ac "k") (Ao T)) (pC (.int 0)) (Ao T)) Vg)
 (Ag (A7l (Am (Bz T (Am (Ac "chunks") (Am (Ac "k") (pC (.int 1)) De) (Ao T)) Ms (Cq (Jd (pC (.int 1))))) (Bz T (Am (Ac "chunks") (Ac "k") (Ao T)) (Cq (pC (.int 1))) Ms) A1) (Ac "chunks") (Am (Ac "k") (pC (.int 1)) De))
 (Ag (B5b (Ac "chunks") (Ac "k"))
 Ap))
 Ap)
 Ap)
 Ap)
 (Ag (Bi "stuff" (Ak (Ac "chunks") (Hm T "-" Ee Dx)))
 Ap))))))))
 (Ag (Bi "stuff" (Ak (Ac "stuff") (I0 Db 1)))
 (Ag (Bi "i" (Am (Ac "j") (pC (.int 1)) A1))
 (Ag (Cv (P8 (Da T (Ac "stuff")))
 (Ag (Cw (Cp (Ac "add") (Ab (pC (.str "(?!)")) Af) (It (A9 T))))
 Ap)
 (Ag (Cv (At T (Ac "stuff") (pC (.str "!")) Bb)
 (Ag (Cw (Cp (Ac "add") (Ab (pC (.str ".")) Af) (It (A9 T))))
 Ap)
 (Ag (Cv (At T (Am (Ac "stuff") (pC (.int 0)) (Ao T)) (pC (.str "!")) Bb)
 (Ag (Bi "stuff" (Am (pC (.str "^")) (Bz T (Ac "stuff") (Cq (pC (.int 1))) Ms) A1))
 Ap)
 (Ag (Cv (At T (Am (Ac "stuff") (pC (.int 0)) (Ao T)) (Ak (Ab (pC (.str "^")) (Ab (pC (.str "[")) Af)) Bq) (Fa T))
 (Ag (Bi "stuff" (Am (pC (.str "\\")) (Ac "stuff") A1))
 Ap)
 Ap)
 Ap))
 (Ag (Cw (Cp (Ac "add") (Ab (Ak (Ac "stuff") (Lz "[" "]")) Af) (It (A9 T))))
 Ap)))
 Ap))
 Ap))))))
 Ap)))))
 (Ag (Cw (Cp (Ac "add") (Ab (Ak (Ab (Ac "c") Af) (J9 T)) Af) (It (A9 T))))
 Ap))
 Ap))
 Ap))
 Ap))) 4000)
 (Ag (V9 (At T (Ac "i") (Ac "n") Bb))
 (Ag (C6 (Ac "res"))
 Ap)))))))
theorem Rw(G:Gd C)(W:Wd C):CallOk C 2 (.ref 116) (He C.T):=
 CallOk.at G W.f__translate (by lk) (show SB C (As (Ax 27)) 1 (Az (Ax 27)) _ from
 (Ae (Bh G (Ca G Ai) (by lk))
 (Ae (Bh G (Qx G Aa) (by lk))
 (Ae (Ha G ["i","n"] (Cn G (Ad Al (Ad (Fe G W) Ai))) (by lk))
 (Ae (F4 4000 (A0 G Aa Aa Jv)
 (Ae (Bh G (A3 G Aa Aa) (by lk))
 (Ae (Bh G (Av Aa Al A8) (by lk))
 (Ae (Bf (A0 G Aa Ay Bn)
 (Ae (Bf (Dt (F2 (Ot (D2 G Aa)) (F2 (A0 G (A3 G Aa (Ik Al)) Aa Gn) Ja)))
 (Ae (Cg (D3 Aa (Ad Aa Ai) Ar (Dl G W)))
 An)
 An)
 An)
 (Ae (Bf (A0 G Aa Ay Bn)
 (Ae (Cg (D3 Aa (Ad Aa Ai) Ar (Dl G W)))
 An)
 (Ae (Bf (A0 G Aa Ay Bn)
 (Ae (Bh G Aa (by lk))
 (Ae (Bf (Dt (C4 (A0 G Aa Aa Jv) (C4 (A0 G (A3 G Aa Aa) Ay Bn) Fd)))
 (Ae (Bh G (Av Aa Al A8) (by lk))
 An)
 An)
 (Ae (Bf (Dt (C4 (A0 G Aa Aa Jv) (C4 (A0 G (A3 G Aa Aa) Ay Bn) Fd)))
 (Ae (Bh G (Av Aa Al A8) (by lk))
 An)
 An)
 (Ae (F4 4000 (Dt (C4 (A0 G Aa Aa Jv) (C4 (A0 G (A3 G Aa Aa) Ay Jw) Fd)))
 (Ae (Bh G (Av Aa Al A8) (by lk))
 An))
 (Ae (Bf (A0 G Aa Aa A9k)
 (Ae (Cg (D3 Aa (Ad Ay Ai) Ar (Dl G W)))
 An)
 (Ae (Bh G (Ce G Aa (SP.some Aa) (SP.some Aa)) (by lk))
 (Ae (Bf (A0 G Ay Aa Lp)
 (Ae (Bh G (Bs Aa (Ad Ay (Ad Ay Ai)) Ar (Du F.slot_str_replace F.type_str_replace) O8) (by lk))
 An)
 (Ae (Bh G (Ca G Ai) (by lk))
 (Ae (Bh G (F3 (A0 G (A3 G Aa Aa) Ay Bn) (Av Aa Al A8) (Av Aa Al A8)) (by lk))
 (Ae (F4 4000 (D2 G Ew)
 (Ae (Bh G (Bs Aa (Ad Ay (Ad Aa (Ad Aa Ai))) Ar (Du F.slot_str_find F.type_str_find) A7c) (by lk))
 (Ae (Bf (A0 G Aa Al Jv)
 (Ae Rf
 An)
 An)
 (Ae (Cg (Bs Aa (Ad (Ce G Aa (SP.some Aa) (SP.some Aa)) Ai) Ar (Di F.slot_list_append F.type_list_append) C5))
 (Ae (Bh G (Av Aa Al A8) (by lk))
 (Ae (Bh G (Av Aa Al A8) (by lk))
 An))))))
 (Ae (Bh G (Ce G Aa (SP.some Aa) (SP.some Aa)) (by lk))
 (Ae (Bf (D2 G Aa)
 (Ae (Cg (Bs Aa (Ad Aa Ai) Ar (Di F.slot_list_append F.type_list_append) C5))
 An)
 (Ae O9
 An))
 (Ae (Hl G 4000 (Bj G (by lk) W.n_range W.b_range (Ad (Av (Fe G W) Al F0) (Ad Al (Ad (Ik Al) Ai))) Ar KpA.type (Cu G)) (A7 G) (A4 G (by lk))
 (Ae (Bf (A0 G (A3 G (A3 G Aa (Av Aa Al F0)) (Ik Al)) (A3 G (A3 G Aa Aa) Al) A35)
 (Ae (O3 G (Av (Ce G (A3 G Aa (Av Aa Al F0)) SP.none (SP.some (Ik Al))) (Ce G (A3 G Aa Aa) (SP.some Al) SP.none) A8) Aa (Av Aa Al F0))
 (Ae (B42 G Aa Aa)
 An))
 An)
 An)
 An)
 (Ae (Bh G (V1 G W.code W.bfor Aa (Wb rfl (by lk) (by lk) (by lk) (by lk)) (by lk) rfl rfl (by lk) (by lk) (by lk)) (by lk))
 An))))))))
 (Ae (Bh G (V4 G W.code W.bat (Ea G (by lk) W.g_twin_re_1_fnmatch) W.pat_twin_re_1_fnmatch Aa (hfree:=(by lk))) (by lk))
 (Ae (Bh G (Av Aa Al A8) (by lk))
 (Ae (Bf (Ot (D2 G Aa))
 (Ae (Cg (D3 Aa (Ad Ay Ai) Ar (Dl G W)))
 An)
 (Ae (Bf (A0 G Aa Ay Bn)
 (Ae (Cg (D3 Aa (Ad Ay Ai) Ar (Dl G W)))
 An)
 (Ae (Bf (A0 G (A3 G Aa Al) Ay Bn)
 (Ae (Bh G (Av Ay (Ce G Aa (SP.some Al) SP.none) A8) (by lk))
 An)
 (Ae (Bf (A0 G (A3 G Aa Al) (Cn G (Ad Ay (Ad Ay Ai))) (Iw G))
 (Ae (Bh G (Av Ay Aa A8) (by lk))
 An)
 An)
 An))
 (Ae (Cg (D3 Aa (Ad (Rp Aa) Ai) Ar (Dl G W)))
 An)))
 An))
 An))))))
 An)))))
 (Ae (Cg (D3 Aa (Ad (A6 G (by lk) W.g_escape (Ad Aa Ai) Ar W.f_escape (A41 G W)) Ai) Ar (Dl G W)))
 An))
 An))
 An))
 An))))
 (Ae (Kg (A0 G Aa Aa Bn))
 (Ae (Bm Aa)
 An)))))))
def B7(T:GT):List MV->P MV:=Ct ["pat"] (
 (Ag (Bi "STAR" (Ak Af B43))
 (Ag (Bi "parts" (Ak (Ab (Ac "pat") (Ab (Ac "STAR") (Ab (pC (.str ".")) Af))) (He T)))
 (Ag (C6 (Ak (Ab (Ac "parts") (Ab (Ac "STAR") Af)) (C0 T)))
 Ap))))
theorem Ka(G:Gd C)(W:Wd C):CallOk C 3 (.ref 97) (B7 C.T):=
 CallOk.at G W.f_translate (by lk) (show SB C (As (Ax 22)) 2 (Az (Ax 22)) _ from
 (Ae (Bh G (Bj G (by lk) W.n_object W.b_object Ai (fun zz zz=>.inl rfl) KpA.type (B44 G)) (by lk))
 (Ae (Bh G (A6 G (by lk) W.g__translate (Ad Aa (Ad Aa (Ad Ay Ai))) Ar W.f__translate (Rw G W)) (by lk))
 (Ae (Bm (A6 G (by lk) W.g__join_translated_parts (Ad Aa (Ad Aa Ai)) Ar W.f__join_translated_parts (Im G W)))
 An))))
end
section
variable {C:Cx}
def Jf(T:GT):List MV->P MV:=Ct ["modes","questions"] (
 (Ag (Bi "listings" (Br (Ac "modes") (Ej T) (A2 "mode") cT (Bt (Ak (Ab (Ac "mode") Af) (Gm T))) 4000 (C8 [])))
 (Ag (Bi "writings" (Br (Ac "modes") (Ej T) (A2 "mode") cT (Bt (Am (Ak (Ab (Ak (Ab (Am (Ac "mode") (pC (.int 256)) E4) Af) (one Pz)) Af) (L0 T)) (Ak (Ab (Ak (Ab (Am (Ac "mode") (pC (.int 256)) Ec) Af) (one Pz)) Af) (L0 T)) A1)) 4000 (C8 [])))
 (Ag (Bi "octets" (Br (Ac "modes") (Ej T) (A2 "mode") cT (J2 (Ak (Ab (Am (Ac "mode") (pC (.int 256)) E4) (Ab (Am (Ac "mode") (pC (.int 256)) Ec) Af)) Bd) (Ej T) (A2 "octet") cT (Bt (Ac "octet")) 4000) 4000 (C8 [])))
 (Ag (Cv (Nl (At T (Br (Ac "modes") (Ej T) (A2 "mode") cT (Bt (Ak (Ab (Ac "mode") Af) (Hs T))) 4000 (C8 [])) (Ac "listings") I9) (Nl (At T (Ak (Ab (Be O1 (pC (.str "")) (Ab (Ac "writings") Af) (two (Go T))) Af) (Fo T)) (Be O1 (pC (.str "")) (Ab (Br (Ac "octets") (Ej T) (A2 "octet") cT (Bt (Ak (Ab (Ac "octet") Af) (one Pz))) 4000 (C8 [])) Af) (two (Go T))) I9) Mr))
 (Ag (C6 (pC (.bool false)))
 Ap)
 Ap)
 (Ag (Cv (Da T (Br (Ak (Ab (pC (.int 3)) Af) Ck) (Ej T) (A2 "k") (P8 (Da T (Ak (Ab (Am (Ac "modes") (Ac "k") (Ao T)) (Ab (Am (Ac "listings") (Ac "k") (Ao T)) Af)) (Hd T)))) (Bt (Ac "k")) 4000 (C8 ["listings","modes"])))
 (Ag (C6 (pC (.bool false)))
 Ap)
 Ap)
 (Ag (Bi "told" (Br (Ac "questions") (Ej T) (A2 "question") cT (Bt (Ak (Ab (Ac "question") Af) (F7 T))) 4000 (C8 [])))
 (Ag (Bi "places" (Br (Ac "questions") (Ej T) (A2 "question") cT (Bt (Br (Ak (Ab (pC (.int 5)) Af) Ck) (Ej T) (A2 "p") (Da T (Ak (Ab (Ac "question") (Ab (Am (Am (Am (Ac "octets") (Ac "p") (Ao T)) (pC (.int 256)) Iu) (Am (Ac "octets") (Am (Ac "p") (pC (.int 1)) A1) (Ao T)) A1) Af)) (Hc T))) (Bt (Ac "p")) 4000 (C8 ["octets","question"]))) 4000 (C8 ["octets"])))
 (Ag (Ko T 4000 (Ak (Ab (pC (.int 2)) Af) Ck) (A2 "k")
 (Ag (G8 T ["figures","columns"] (Ak (Ab (Ak (Ab (Ak (Ab (Am (Ac "told") (Ac "k") (Ao T)) Af) (B7 T)) Af) (B5 T)) (Ab (Ak (Ab (Ak (Ab (Ak (Ab (Am (Ac "questions") (Ac "k") (Ao T)) Af) (Er T)) Af) (B7 T)) Af) (B5 T)) Af)) Bq))
 (Ag (Ko T 4000 (Ak (Ab (pC (.int 3)) Af) Ck) (A2 "j")
 (Ag (Bi "holds" (Am (Am (pC (.int 2)) (Ac "j") Iu) (Am (Ac "places") (Ac "k") (Ao T)) (Fa T)))
 (Ag (Cv (Nl (At T (Ak (Ab (Ac "figures") (Ab (Am (Ac "writings") (Ac "j") (Ao T)) Af)) (Dc T)) (Ac "holds") En) (Nl (At T (Ak (Ab (Ac "columns") (Ab (Am (Ac "listings") (Ac "j") (Ao T)) Af)) (Dc T)) (Ac "holds") En) Mr))
 (Ag (C6 (pC (.bool false)))
 Ap)
 Ap)
 Ap))
 Ap)
 (Ag (G8 T ["form","a","b"] (Ak (Ab (Am (Am (Ac "questions") (Ac "k") (Ao T)) (pC (.int 3)) (Ao T)) (Ab (Am (Ac "told") (Ac "k") (Ao T)) (Ab (Am (Ac "told") (Am (pC (.int 1)) (Ac "k") De) (Ao T)) Af))) Bq))
 (Ag (Bi "pattern" (Am (Ak (Ab (Am (Am (pC (.str "*")) (Ac "a") A1) (pC (.str "*")) A1) (Ab (Am (Am (Ac "a") (pC (.str "*")) A1) (Ac "b") A1) (Ab (Am (Am (Am (Am (pC (.str "*")) (Ac "a") A1) (pC (.str "*")) A1) (Ac "b") A1) (pC (.str "*")) A1) (Ab (Am (pC (.str "*")) (Ac "a") A1) Af)))) Bd) (Ac "form") (Ao T)))
 (Ag (Cv (At T (Ak (Ab (Ak (Ab (Ak (Ab (Ac "pattern") Af) (B7 T)) Af) (B5 T)) (Ab (Be O1 (pC (.str "")) (Ab (Ac "writings") Af) (two (Go T))) Af)) (Dc T)) (Ak (Ab (Ac "form") (Ab (Am (Ac "places") (Ac "k") (Ao T)) (Ab (Am (Ac "places") (Am (pC (.int 1)) (Ac "k") De) (Ao T)) Af))) (Hr T)) En)
 (Ag (C6 (pC (.bool false)))
 Ap)
 Ap)
 Ap)))))
 Ap)
 (Ag (C6 (pC (.bool true)))
 Ap))))))))))
theorem Wi(G:Gd C)(W:Wd C):CallOk C 5 (.ref 297) (Jf C.T):=
 CallOk.at G W.f__law_run (by lk) (show SB C (As (Ax 73)) 4 (Az (Ax 73)) _ from
 (Ae (Rt G (C9 G 4000 (W.nocd (by lk)) (by lk) (by lk) (by lk) Aa (A7 G) (A4 G (by lk)) Ft (Bp (A6 G (by lk) W.g__law_listed (Ad Aa Ai) Ar W.f__law_listed (P9 G W)))) (by lk))
 (Ae (Df G (by rintro ⟨_,_,_,_,_,_,_,_,_⟩ rfl;rfl) (by lk) 4000 (W.nocd (by lk)) (by lk) (by lk) (by lk) Aa (A7 G) (A4 G (by lk)) Ft (Bp (Av (A6 G (by lk) W.g_quote (Ad (Bj G (by lk) W.n_chr W.b_chr (Ad (Av Aa Al El) Ai) Ar KpA.builtin O0) Ai) Ar W.f_quote (Yk G W)) (A6 G (by lk) W.g_quote (Ad (Bj G (by lk) W.n_chr W.b_chr (Ad (Av Aa Al D1) Ai) Ar KpA.builtin O0) Ai) Ar W.f_quote (Yk G W)) A8)))
 (Ae (Rt G (A40 G 4000 (W.nocd (by lk)) (by lk) (by lk) (by lk) Aa (A7 G) (A4 G (by lk)) Ft (Tn G 4000 (Ca G (Ad (Av Aa Al El) (Ad (Av Aa Al D1) Ai))) (A7 G) (A4 G (by lk)) Ft (Bp Aa))) (by lk))
 (Ae (Bf (Dt (F2 (A0 G (C9 G 4000 (W.nocd (by lk)) (by lk) (by lk) (by lk) Aa (A7 G) (A4 G (by lk)) Ft (Bp (A6 G (by lk) W.g_filemode (Ad Aa Ai) Ar W.f_filemode (Wh G W)))) Aa Jw) (F2 (A0 G (A6 G (by lk) W.g_header_decode (Ad (Bs Ay (Ad Aa Ai) Ar (Du F.slot_str_join F.type_str_join) (Hb G)) Ai) Ar W.f_header_decode (Nn G W)) (Bs Ay (Ad (C9 G 4000 (W.nocd (by lk)) (by lk) (by lk) (by lk) Aa (A7 G) (A4 G (by lk)) Ft (Bp (Bj G (by lk) W.n_chr W.b_chr (Ad Aa Ai) Ar KpA.builtin O0))) Ai) Ar (Du F.slot_str_join F.type_str_join) (Hb G)) Jw) Ja)))
 (Ae (Bm Ew)
 An)
 An)
 (Ae (Bf (D2 G (C9 G 4000 (W.nocd (by lk)) (by lk) (by lk) (by lk) (Bj G (by lk) W.n_range W.b_range (Ad Al Ai) Ar KpA.type (Cu G)) (A7 G) (A4 G (by lk)) (Fu (Ot (D2 G (A6 G (by lk) W.g__law_kinds (Ad (A3 G Aa Aa) (Ad (A3 G Aa Aa) Ai)) Ar W.f__law_kinds (Rv G W))))) (Bp Aa)))
 (Ae (Bm Ew)
 An)
 An)
 (Ae (Df G (by rintro ⟨_,_,_,_,_,_,_,_,_⟩ rfl;rfl) (by lk) 4000 (W.nocd (by lk)) (by lk) (by lk) (by lk) Aa (A7 G) (A4 G (by lk)) Ft (Bp (A6 G (by lk) W.g__law_figures (Ad Aa Ai) Ar W.f__law_figures (Pe G W))))
 (Ae (Df G (by rintro ⟨_,_,_,_,_,_,_,_,_⟩ rfl;rfl) (by lk) 4000 (W.nocd (by lk)) (by lk) (by lk) (by lk) Aa (A7 G) (A4 G (by lk)) Ft (Bp (C9 G 4000 (W.nocd (by lk)) (by lk) (by lk) (by lk) (Bj G (by lk) W.n_range W.b_range (Ad Al Ai) Ar KpA.type (Cu G)) (A7 G) (A4 G (by lk)) (Fu (D2 G (A6 G (by lk) W.g__law_holds (Ad Aa (Ad (Av (Av (A3 G Aa Aa) Al Mf) (A3 G Aa (Av Aa Al A8)) A8) Ai)) Ar W.f__law_holds (Ru G W)))) (Bp Aa))))
 (Ae (Hl G 4000 (Bj G (by lk) W.n_range W.b_range (Ad Al Ai) Ar KpA.type (Cu G)) (A7 G) (A4 G (by lk))
 (Ae (Ha G ["figures","columns"] (Cn G (Ad (A6 G (by lk) W.g__law_read (Ad (A6 G (by lk) W.g_translate (Ad (A3 G Aa Aa) Ai) Ar W.f_translate (Ka G W)) Ai) Ar W.f__law_read (J8 G W)) (Ad (A6 G (by lk) W.g__law_read (Ad (A6 G (by lk) W.g_translate (Ad (A6 G (by lk) W.g__law_columns (Ad (A3 G Aa Aa) Ai) Ar W.f__law_columns (Pd G W)) Ai) Ar W.f_translate (Ka G W)) Ai) Ar W.f__law_read (J8 G W)) Ai))) (by lk))
 (Ae (Hl G 4000 (Bj G (by lk) W.n_range W.b_range (Ad Al Ai) Ar KpA.type (Cu G)) (A7 G) (A4 G (by lk))
 (Ae (Bh G (Dq (Av Al Aa Mf) (A3 G Aa Aa) (Iw G)) (by lk))
 (Ae (Bf (Dt (F2 (A0 G (A6 G (by lk) W.g__law_takes (Ad Aa (Ad (A3 G Aa Aa) Ai)) Ar W.f__law_takes (Je G W)) Aa Gn) (F2 (A0 G (A6 G (by lk) W.g__law_takes (Ad Aa (Ad (A3 G Aa Aa) Ai)) Ar W.f__law_takes (Je G W)) Aa Gn) Ja)))
 (Ae (Bm Ew)
 An)
 An)
 An))
 An)
 (Ae (Ha G ["form","a","b"] (Cn G (Ad (A3 G (A3 G Aa Aa) Al) (Ad (A3 G Aa Aa) (Ad (A3 G Aa (Av Al Aa F0)) Ai)))) (by lk))
 (Ae (Bh G (A3 G (Ca G (Ad (Av (Av Ay Aa A8) Ay A8) (Ad (Av (Av Aa Ay A8) Aa A8) (Ad (Av (Av (Av (Av Ay Aa A8) Ay A8) Aa A8) Ay A8) (Ad (Av Ay Aa A8) Ai))))) Aa) (by lk))
 (Ae (Bf (A0 G (A6 G (by lk) W.g__law_takes (Ad (A6 G (by lk) W.g__law_read (Ad (A6 G (by lk) W.g_translate (Ad Aa Ai) Ar W.f_translate (Ka G W)) Ai) Ar W.f__law_read (J8 G W)) (Ad (Bs Ay (Ad Aa Ai) Ar (Du F.slot_str_join F.type_str_join) (Hb G)) Ai)) Ar W.f__law_takes (Je G W)) (A6 G (by lk) W.g__law_row (Ad Aa (Ad (A3 G Aa Aa) (Ad (A3 G Aa (Av Al Aa F0)) Ai))) Ar W.f__law_row (Wg G W)) Gn)
 (Ae (Bm Ew)
 An)
 An)
 An)))))
 An)
 (Ae (Bm Ew)
 An))))))))))
noncomputable abbrev Cx.on(C:Cx)(U:GT):Cx:={C with T:=U}
theorem HR.toOn{U:GT}{α:List Addr}{H:Hp}{s:Shared}(r:HR C α H s):HR (C.on U) α H s:=⟨r.keepB,r.liveB,r.new,r.nodup,r.objs,r.gens,r.os,r.inv⟩
theorem HR.ofOn{U:GT}{α:List Addr}{H:Hp}{s:Shared}(r:HR (C.on U) α H s):HR C α H s:=⟨r.keepB,r.liveB,r.new,r.nodup,r.objs,r.gens,r.os,r.inv⟩
theorem CallOk.off{U:GT}{k:Nat}{f:Value}{g:List MV->P MV}(h:CallOk (C.on U) k f g):CallOk C k f g:=fun A α H s Q E ms vs r H' hR hr hv hf hp=>
 h A α H s Q E ms vs r H' hR hr.toOn hv hf fun α' s' v x y z=>hp α' s' v x.ofOn ⟨y.pre,y.fresh,y.keep,y.live⟩ z
def A42(T U:GT):List MV->P MV:=Ct ["script"] (
 (Ag (Bi "numbers" (Bz T (D0r T (Ac "script") (Ak (Ab (pC (.int 2)) (Ab (pC (.int 512)) (Ab (pC (.int 256)) Af))) Bd)) Ms (Cq (pC (.int 5)))))
 (Ag (Bi "count" (Ak (Ab (Ac "numbers") Af) (one (D4 T))))
 (Ag (Bi "modes" (Br (Ak (Ab (pC (.int 3)) Af) Ck) (Ej T) (A2 "k") cT (Bt (Am (Am (Am (Ac "numbers") (Am (Ac "k") (Ac "count") Ec) (Ao T)) (Am (Ak (Ab (pC (.int 33261)) (Ab (pC (.int 17407)) (Ab (pC (.int 35273)) Af))) Bd) (Ac "k") (Ao T)) A1) (pC (.int 65536)) Ec)) 4000 (C8 ["count","numbers"])))
 (Ag (Bi "asked" (Br (Ak (Ab (pC (.int 2)) Af) Ck) (Ej T) (A2 "k") cT (Bt (Am (Am (Am (Ac "numbers") (Am (Am (Ac "k") (pC (.int 3)) A1) (Ac "count") Ec) (Ao T)) (Am (Ak (Ab (pC (.int 33039091)) (Ab (pC (.int 9663987)) Af)) Bd) (Ac "k") (Ao T)) A1) (pC (.int 56401920)) Ec)) 4000 (C8 ["count","numbers"])))
 (Ag (Ag (C6 (Ak (Ab (Ac "modes") (Ab (Br (Ac "asked") (Ej T) (A2 "q") cT (Bt (Ak (Ab (Ac "q") Af) (Fn U))) 4000 (C8 [])) Af)) (Jf U)))
 Ap)
 Ap))))))
theorem D0s(G:Gd C)(W:Wd C){U:GT}(G0:Gd (C.on U))(W0:Wd (C.on U)):CallOk C 6 (.ref 302) (A42 C.T U):=
 CallOk.at G W.f_law (by lk) (show SB C (As (Ax 74)) 5 (Az (Ax 74)) _ from
 (Ae (Bh G (Ce G (D0h G Aa (Ou (Ca G (Ad Al (Ad Al (Ad Al Ai)))))) SP.none (SP.some Al)) (by lk))
 (Ae (Bh G (Fe G W) (by lk))
 (Ae (Df G (by rintro ⟨_,_,_,_,_,_,_,_,_⟩ rfl;rfl) (by lk) 4000 (W.nocd (by lk)) (by lk) (by lk) (by lk) (Bj G (by lk) W.n_range W.b_range (Ad Al Ai) Ar KpA.type (Cu G)) (A7 G) (A4 G (by lk)) Ft (Bp (Av (Av (A3 G Aa (Av Aa Aa D1)) (A3 G (Ca G (Ad Al (Ad Al (Ad Al Ai)))) Aa) A8) Al D1)))
 (Ae (Df G (by rintro ⟨_,_,_,_,_,_,_,_,_⟩ rfl;rfl) (by lk) 4000 (W.nocd (by lk)) (by lk) (by lk) (by lk) (Bj G (by lk) W.n_range W.b_range (Ad Al Ai) Ar KpA.type (Cu G)) (A7 G) (A4 G (by lk)) Ft (Bp (Av (Av (A3 G Aa (Av (Av Aa Al A8) Aa D1)) (A3 G (Ca G (Ad Al (Ad Al Ai))) Aa) A8) Al D1)))
 (Ae (B46 (Ae (Bm (A6 G (by lk) W.g__law_run (Ad Aa (Ad (C9 G 4000 (W.nocd (by lk)) (by lk) (by lk) (by lk) Aa (A7 G) (A4 G (by lk)) Ft (Bp (A6 G (by lk) W.g__law_question (Ad Aa Ai) Ar W.f__law_question (CallOk.off (Nm G0 W0))))) Ai)) Ar W.f__law_run (CallOk.off (Wi G0 W0))))
 An))
 An))))))
end
theorem Bv{x n:Nat}(h:x<n):∃q,n=q+1:=⟨n-1,(Nat.sub_add_cancel (Nat.lt_of_le_of_lt (Nat.zero_le x) h)).symm⟩
theorem Eh{a b:String}(h:Str.ofString a=Str.ofString b):a=b:=by
 rw[Str.ofString_eq_toList,Str.ofString_eq_toList] at h
 injection h with h
 have h:=congrArg Array.toList h;simp only at h;have:a.toList=b.toList:=by
  have inj:∀x y:Char,x.toNat=y.toNat->x=y:=fun x y e=>Char.ext (UInt32.toNat_inj.mp e)
  generalize a.toList=l at h
  generalize b.toList=m at h
  induction l generalizing m with
  | nil=>cases m with
   | nil=>rfl
   | cons=>simp at h
  | cons x l ih=>cases m with
   | nil=>simp at h
   | cons y m=>simp at h;rw[inj x y h.1,ih m h.2]
 exact String.ext (by simpa using this)
theorem upd_hit{ρ:Aj}{x:Str}{v:MV}:upd ρ x v x=some v:=by simp[upd]
theorem Ba{ρ:Aj}{a b:String}{v:MV}{w:Option MV}(h:¬a=b)(q:ρ (Str.ofString a)=w):upd ρ (Str.ofString b) v (Str.ofString a)=w:=by
 unfold upd;rw[if_neg fun e=>h (Eh e)];exact q
theorem A7o{ρ:Aj}{fs:List Str}{x:Str}{w:Option MV}(h:x∈fs)(q:ρ x=w):C8 fs ρ x=w:=by
 unfold C8;rw[if_pos (List.contains_iff_mem.mpr h)];exact q
noncomputable def Wp{β:Type}(m:P β)(H:Hp)(Q:β->Hp->Prop):Prop:=∃b H',m H=some (b,H')∧Q b H'
theorem Wp.mono{β:Type}{m:P β}{H:Hp}{Q R:β->Hp->Prop}(h:Wp m H Q)(f:∀b H',Q b H'->R b H'):Wp m H R:=by
 obtain⟨b,H',e,q⟩:=h;exact⟨b,H',e,f _ _ q⟩
theorem Wp.at{β:Type}{m:P β}{H:Hp}{v:β}{Q:β->Hp->Prop}(h:Wp m H fun r H'=>H'=H∧r=v)(q:Q v H):Wp m H Q:=by
 obtain⟨b,H',e,rfl,rfl⟩:=h;exact⟨_,_,e,q⟩
theorem Gf{β:Type}{m:P β}{H:Hp}{v:β}{Q:β->Hp->Prop}(h:Wp m H fun r H'=>H<+:H'∧r=v)(q:∀H',H<+:H'->Q v H'):Wp m H Q:=by
 obtain⟨b,H',e,p,rfl⟩:=h;exact⟨_,_,e,q _ p⟩
theorem Ym{c:Bool}{A B:Prop}(e:c=true)(h:A):(c=true->A)∧(c=false->B):=⟨fun zz=>h,fun q=>nomatch e.symm.trans q⟩
theorem Ll{c:Bool}{A B:Prop}(e:c=false)(h:B):(c=true->A)∧(c=false->B):=⟨(fun q=>nomatch e.symm.trans q),fun zz=>h⟩
theorem Cc{β γ:Type}{m:P β}{f:β->P γ}{H:Hp}{Q:γ->Hp->Prop}(h:Wp m H fun b H'=>Wp (f b) H' Q):Wp (B9 m f) H Q:=by
 obtain⟨b,H',e,c,H'',e',q⟩:=h;exact⟨c,H'',by unfold B9;rw[e];exact e',q⟩
abbrev QM:=MV->Hp->Prop
abbrev KO(g:MV->MV->P MV)(a:MV)(Q:QM):QM:=fun b H=>Wp (g a b) H Q
abbrev KB(f:Aj->P MV)(g:MV->MV->P MV)(ρ:Aj)(Q:QM):QM:=fun a H=>Wp (f ρ) H (KO g a Q)
abbrev KT(T:GT)(Q:Bool->Hp->Prop):QM:=fun v H=>Wp (Fs T v) H Q
abbrev KC(T:GT)(f:Aj->P MV)(g:MV->MV->P MV)(ρ:Aj)(Q:Bool->Hp->Prop):QM:=fun a H=>Wp (f ρ) H (KO g a (KT T Q))
noncomputable abbrev KN(Q:Bool->Hp->Prop):Bool->Hp->Prop:=fun b H=>Q (!b) H
abbrev KA(g:Aj->P Bool)(ρ:Aj)(Q:Bool->Hp->Prop):Bool->Hp->Prop:=fun b H=>(b=true->Wp (g ρ) H Q)∧(b=false->Q false H)
abbrev KR(g:Aj->P Bool)(ρ:Aj)(Q:Bool->Hp->Prop):Bool->Hp->Prop:=fun b H=>(b=true->Q true H)∧(b=false->Wp (g ρ) H Q)
abbrev KI{β:Type}(g j:Aj->P β)(ρ:Aj)(Q:β->Hp->Prop):Bool->Hp->Prop:=fun b H=>(b=true->Wp (g ρ) H Q)∧(b=false->Wp (j ρ) H Q)
abbrev KA2(g:Aj->P MV)(ρ:Aj)(Q:QM)(a:MV):Bool->Hp->Prop:=fun b H=>(b=true->Wp (g ρ) H Q)∧(b=false->Q a H)
abbrev KA1(T:GT)(g:Aj->P MV)(ρ:Aj)(Q:QM):QM:=fun a H=>Wp (Fs T a) H (KA2 g ρ Q a)
abbrev KR2(g:Aj->P MV)(ρ:Aj)(Q:QM)(a:MV):Bool->Hp->Prop:=fun b H=>(b=true->Q a H)∧(b=false->Wp (g ρ) H Q)
abbrev KR1(T:GT)(g:Aj->P MV)(ρ:Aj)(Q:QM):QM:=fun a H=>Wp (Fs T a) H (KR2 g ρ Q a)
noncomputable abbrev KL2(a:MV)(Q:List MV->Hp->Prop):List MV->Hp->Prop:=fun r H=>Q (a::r) H
abbrev KL1(g:Aj->P (List MV))(ρ:Aj)(Q:List MV->Hp->Prop):QM:=fun a H=>Wp (g ρ) H (KL2 a Q)
abbrev KH{β γ:Type}(g:β->P γ)(Q:γ->Hp->Prop):β->Hp->Prop:=fun a H=>Wp (g a) H Q
abbrev KD2(d:MV->List MV->P MV)(m:MV)(Q:QM):List MV->Hp->Prop:=fun ms H=>Wp (d m ms) H Q
abbrev KD1(f:Aj->P (List MV))(d:MV->List MV->P MV)(ρ:Aj)(Q:QM):QM:=fun m H=>Wp (f ρ) H (KD2 d m Q)
abbrev KM2(g:List MV->P MV)(m:MV)(Q:QM):List MV->Hp->Prop:=fun ms H=>Wp (g (m::ms)) H Q
abbrev KM1(ok:Hp->MV->Bool)(f:Aj->P (List MV))(g:List MV->P MV)(ρ:Aj)(Q:QM):QM:=fun m H=>ok H m=true∧Wp (f ρ) H (KM2 g m Q)
inductive KS0(Q:Option Int->Hp->Prop)(v:MV)(H:Hp):Prop
 | mk (i:Int) (e:v=.int i) (h:Q (some i) H)
noncomputable abbrev KNg(i:Int)(Q:QM):QM:=fun v H₁=>v=.int i∧Q (.int (-i)) H₁
abbrev KS3(T:GT)(a:MV)(l:Option Int)(Q:QM):Option Int->Hp->Prop:=fun u H=>Wp (Kf T a l u) H Q
abbrev KS2(T:GT)(j:Aj->P (Option Int))(ρ:Aj)(a:MV)(Q:QM):Option Int->Hp->Prop:=fun l H=>Wp (j ρ) H (KS3 T a l Q)
abbrev KS1(T:GT)(g j:Aj->P (Option Int))(ρ:Aj)(Q:QM):QM:=fun a H=>Wp (g ρ) H (KS2 T j ρ a Q)
section
variable {β γ:Type} {H:Hp} {ρ:Aj} {T:GT}
theorem wRet{b:β}{Q:β->Hp->Prop}(h:Q b H):Wp (Bg b) H Q:=⟨b,H,rfl,h⟩
theorem wC{v:MV}{Q:MV->Hp->Prop}(h:Q v H):Wp (pC v ρ) H Q:=⟨v,H,rfl,h⟩
theorem B0{x:Str}{v:MV}{Q:MV->Hp->Prop}(e:ρ x=some v)(h:Q v H):Wp (Ac x ρ) H Q:=⟨v,H,by unfold Ac;rw[e],h⟩
theorem wBin{fA fB:Aj->P MV}{g:MV->MV->P MV}{Q:MV->Hp->Prop}(h:Wp (fA ρ) H (KB fB g ρ Q)):Wp (Am fA fB g ρ) H Q:=Cc (h.mono fun zz zz x=>Cc x)
theorem wTCmp{fA fB:Aj->P MV}{g:MV->MV->P MV}{Q:Bool->Hp->Prop}(h:Wp (fA ρ) H (KC T fB g ρ Q)):Wp (At T fA fB g ρ) H Q:=
 Cc (h.mono fun zz zz x=>Cc (x.mono fun zz zz y=>Cc y))
theorem wTruth{f:Aj->P MV}{Q:Bool->Hp->Prop}(h:Wp (f ρ) H (KT T Q)):Wp (Da T f ρ) H Q:=Cc h
theorem trB{c:Bool}{Q:Bool->Hp->Prop}(h:Q c H):Wp (Fs T (.bool c)) H Q:=⟨c,H,rfl,h⟩
theorem trL{v:MV}{xs:List MV}{Q:Bool->Hp->Prop}(e:C7 T H v=some xs)(n:xs.length<=16777216)(h:Q (!xs.isEmpty) H):Wp (Fs T v) H Q:=by
 refine⟨!xs.isEmpty,H,?_,h⟩;cases v <;> try (exact Cy e)
 all_goals (show (C7 T H _).bind _=_;rw[e];exact if_pos n)
theorem wNot{f:Aj->P Bool}{Q:Bool->Hp->Prop}(h:Wp (f ρ) H (KN Q)):Wp (P8 f ρ) H Q:=Cc (h.mono fun zz zz x=>wRet x)
theorem wAndN{Q:Bool->Hp->Prop}(h:Q true H):Wp (Eg ρ) H Q:=wRet h
theorem wOrN{Q:Bool->Hp->Prop}(h:Q false H):Wp (Mr ρ) H Q:=wRet h
theorem wAnd{f g:Aj->P Bool}{Q:Bool->Hp->Prop}(h:Wp (f ρ) H (KA g ρ Q)):Wp (Dk f g ρ) H Q:=
 Cc (h.mono fun b H₁ x=>by cases b with
  | true=>exact x.1 rfl
  | false=>exact wRet (x.2 rfl))
theorem wOr{f g:Aj->P Bool}{Q:Bool->Hp->Prop}(h:Wp (f ρ) H (KR g ρ Q)):Wp (Nl f g ρ) H Q:=
 Cc (h.mono fun b H₁ x=>by cases b with
  | true=>exact wRet (x.1 rfl)
  | false=>exact x.2 rfl)
theorem wIf{f:Aj->P Bool}{g j:Aj->P β}{Q:β->Hp->Prop}(h:Wp (f ρ) H (KI g j ρ Q)):Wp (Cv f g j ρ) H Q:=
 Cc (h.mono fun b H₁ x=>by cases b with
  | true=>exact x.1 rfl
  | false=>exact x.2 rfl)
theorem wVAnd{f g:Aj->P MV}{Q:MV->Hp->Prop}(h:Wp (f ρ) H (KA1 T g ρ Q)):Wp (Tl T f g ρ) H Q:=
 Cc (h.mono fun a H₁ x=>Cc (x.mono fun b HP y=>by cases b with
  | true=>exact y.1 rfl
  | false=>exact wRet (y.2 rfl)))
theorem wVOr{f g:Aj->P MV}{Q:MV->Hp->Prop}(h:Wp (f ρ) H (KR1 T g ρ Q)):Wp (D0r T f g ρ) H Q:=
 Cc (h.mono fun a H₁ x=>Cc (x.mono fun b HP y=>by cases b with
  | true=>exact wRet (y.1 rfl)
  | false=>exact y.2 rfl))
theorem D3m{f:Aj->P MV}{i:Int}{Q:MV->Hp->Prop}(h:Wp (f ρ) H (KNg i Q)):Wp (Jd f ρ) H Q:=Cc (h.mono fun v H₁ x=>by obtain⟨rfl,q⟩:=x;exact wRet q)
theorem wNegC{i:Int}{Q:MV->Hp->Prop}(h:Q (.int (-i)) H):Wp (Jd (pC (.int i)) ρ) H Q:=D3m (wC ⟨rfl,h⟩)
theorem wNilS{Q:List MV->Hp->Prop}(h:Q [] H):Wp (Af ρ) H Q:=wRet h
theorem wConsS{f:Aj->P MV}{g:Aj->P (List MV)}{Q:List MV->Hp->Prop}(h:Wp (f ρ) H (KL1 g ρ Q)):Wp (Ab f g ρ) H Q:=Cc (h.mono fun zz zz x=>Cc (x.mono fun zz zz y=>wRet y))
theorem wThen{f:Aj->P β}{g:β->P γ}{Q:γ->Hp->Prop}(h:Wp (f ρ) H (KH g Q)):Wp (Ak f g ρ) H Q:=Cc h
theorem wCallD{ff:Aj->P MV}{fa:Aj->P (List MV)}{d:MV->List MV->P MV}{Q:MV->Hp->Prop}(h:Wp (ff ρ) H (KD1 fa d ρ Q)):Wp (Cp ff fa d ρ) H Q:=Cc (h.mono fun zz zz x=>Cc x)
theorem Gp{ok:Hp->MV->Bool}{fo:Aj->P MV}{fa:Aj->P (List MV)}{g:List MV->P MV}{Q:MV->Hp->Prop}(h:Wp (fo ρ) H (KM1 ok fa g ρ Q)):Wp (Be ok fo fa g ρ) H Q:=
 Cc (h.mono fun m H₁ x=>Cc ⟨(),H₁,by unfold chk;rw[if_pos x.1],Cc x.2⟩)
theorem wSl0{Q:Option Int->Hp->Prop}(h:Q none H):Wp (Ms ρ) H Q:=wRet h
theorem wSl1{f:Aj->P MV}{Q:Option Int->Hp->Prop}(h:Wp (f ρ) H (KS0 Q)):Wp (Cq f ρ) H Q:=Cc (h.mono fun v H₁ x=>by obtain⟨i,rfl,q⟩:=x;exact wRet q)
theorem wSlice{f:Aj->P MV}{g j:Aj->P (Option Int)}{Q:MV->Hp->Prop}(h:Wp (f ρ) H (KS1 T g j ρ Q)):Wp (Bz T f g j ρ) H Q:=Cc (h.mono fun zz zz x=>Cc (x.mono fun zz zz y=>Cc y))
theorem wOne{f:MV->P MV}{a:MV}{Q:MV->Hp->Prop}(h:Wp (f a) H Q):Wp (one f [a]) H Q:=h
theorem wTwo{f:MV->MV->P MV}{a b:MV}{Q:MV->Hp->Prop}(h:Wp (f a b) H Q):Wp (two f [a,b]) H Q:=h
theorem wThree{f:MV->MV->MV->P MV}{a b c:MV}{Q:MV->Hp->Prop}(h:Wp (f a b c) H Q):Wp (three f [a,b,c]) H Q:=h
end
def WS(f:Aj->P (Fl × Aj))(ρ:Aj)(H:Hp)(K:Fl->Aj->Hp->Prop):Prop:=Wp (f ρ) H fun r H'=>K r.1 r.2 H'
def Io(g:Aj->P (Fl × Aj))(K:Fl->Aj->Hp->Prop):Fl->Aj->Hp->Prop:=fun fl ρ H=>match fl with
 | .next=>WS g ρ H K
 | fl=>K fl ρ H
def B5c(Q:MV->Hp->Prop):Fl->Aj->Hp->Prop:=fun fl zz H=>match fl with
 | .ret v=>Q v H
 | .next=>Q .none H
 | _=>False
abbrev SK:=Fl->Aj->Hp->Prop
abbrev JA(x:Str)(ρ:Aj)(g:Aj->P (Fl × Aj))(K:SK):QM:=fun v H=>WS g (upd ρ x v) H K
abbrev JU(x:Str)(f:Aj->P MV)(op:MV->MV->P MV)(ρ:Aj)(g:Aj->P (Fl × Aj))(K:SK):QM:=fun a H=>Wp (f ρ) H (KO op a (JA x ρ g K))
abbrev JE(ρ:Aj)(g:Aj->P (Fl × Aj))(K:SK):QM:=fun zz H=>WS g ρ H K
noncomputable abbrev JR(ρ:Aj)(K:SK):QM:=fun v H=>K (.ret v) ρ H
abbrev JS(ρ:Aj)(g:Aj->P (Fl × Aj))(K:SK):Bool->Hp->Prop:=fun b H=>b=true∧WS g ρ H K
abbrev JW2(ns:List Str)(ρ:Aj)(g:Aj->P (Fl × Aj))(K:SK):List MV->Hp->Prop:=fun xs H=>WS g (Ci ns.reverse xs.reverse ρ) H K
abbrev JW(T:GT)(ns:List Str)(ρ:Aj)(g:Aj->P (Fl × Aj))(K:SK):QM:=fun a H=>Wp (Gl T ns.length a) H (JW2 ns ρ g K)
abbrev JG(g:Aj->P (Fl × Aj))(K:SK):Aj->Hp->Prop:=fun ρ H=>WS g ρ H K
abbrev JN(t:Aj->MV->P Aj)(ρ:Aj)(g:Aj->P (Fl × Aj))(K:SK):QM:=fun a H=>Wp (t ρ a) H (JG g K)
abbrev JI(a b:Aj->P (Fl × Aj))(ρ:Aj)(K:SK):Bool->Hp->Prop:=fun c H=>(c=true->WS a ρ H K)∧(c=false->WS b ρ H K)
inductive JF(T:GT)(t:Aj->MV->P Aj)(b o:Aj->P (Fl × Aj))(n:Nat)(ρ:Aj)(K:SK)(m:MV)(H:Hp):Prop
 | mk (src:Nat->P (Option MV)) (e:Ej T m H=some src) (h:WS (Gg src t b o n 0) ρ H K)
abbrev JFE(t:Aj->MV->P Aj)(b o:Aj->P (Fl × Aj))(n:Nat)(ρ:Aj)(K:SK):(Nat->P (Option MV))->Hp->Prop:=fun src H=>WS (Gg src t b o n 0) ρ H K
abbrev JT3(v a b:MV)(ρ:Aj)(g:Aj->P (Fl × Aj))(K:SK):Unit->Hp->Prop:=fun zz H=>WS g ρ H K
abbrev JT2(v a:MV)(ρ:Aj)(g:Aj->P (Fl × Aj))(K:SK):QM:=fun b H=>Wp (Vo a b v) H (JT3 v a b ρ g K)
abbrev JT1(fi:Aj->P MV)(v:MV)(ρ:Aj)(g:Aj->P (Fl × Aj))(K:SK):QM:=fun a H=>Wp (fi ρ) H (JT2 v a ρ g K)
abbrev JT0(fo fi:Aj->P MV)(ρ:Aj)(g:Aj->P (Fl × Aj))(K:SK):QM:=fun v H=>Wp (fo ρ) H (JT1 fi v ρ g K)
section
variable {H:Hp} {ρ:Aj} {T:GT} {K:Fl->Aj->Hp->Prop} {g:Aj->P (Fl × Aj)}
theorem thN(h:WS g ρ H K):Io g K .next ρ H:=h
theorem thB(h:K .brk ρ H):Io g K .brk ρ H:=h
theorem thR{v:MV}(h:K (.ret v) ρ H):Io g K (.ret v) ρ H:=h
theorem finR{Q:MV->Hp->Prop}{v:MV}(h:Q v H):B5c Q (.ret v) ρ H:=h
theorem Kq{f:Aj->P (Fl × Aj)}(h:WS f ρ H (Io g K)):WS (Ag f g) ρ H K:=by
 unfold WS Ag;refine Cc (Wp.mono h fun r H' x=>?_);obtain⟨fl,ρ'⟩:=r;cases fl <;> first |exact x|exact wRet x
theorem sEnd(h:K .next ρ H):WS Ap ρ H K:=wRet h
theorem sAsg{x:Str}{f:Aj->P MV}(h:Wp (f ρ) H (JA x ρ g K)):WS (Ag (Bi x f) g) ρ H K:=Kq (Cc (h.mono fun zz zz y=>wRet y))
theorem sAug{x:Str}{f:Aj->P MV}{op:MV->MV->P MV}(h:Wp (Ac x ρ) H (JU x f op ρ g K)):WS (Ag (C3 x f op) g) ρ H K:=
 Kq (Cc (h.mono fun zz zz y=>Cc (y.mono fun zz zz z=>Cc (z.mono fun zz zz w=>wRet w))))
theorem sExp{f:Aj->P MV}(h:Wp (f ρ) H (JE ρ g K)):WS (Ag (Cw f) g) ρ H K:=Kq (Cc (h.mono fun zz zz y=>wRet y))
theorem sRet{f:Aj->P MV}(h:Wp (f ρ) H (JR ρ K)):WS (Ag (C6 f) g) ρ H K:=Kq (Cc (h.mono fun zz zz y=>wRet y))
theorem sBrk(h:K .brk ρ H):WS (Ag Rs g) ρ H K:=Kq (wRet h)
theorem sAss{f:Aj->P Bool}(h:Wp (f ρ) H (JS ρ g K)):WS (Ag (V9 f) g) ρ H K:=Kq (Cc (h.mono fun b zz y=>by obtain⟨rfl,y⟩:=y;exact wRet y))
theorem sSwap{ns:List Str}{f:Aj->P MV}(h:Wp (f ρ) H (JW T ns ρ g K)):WS (Ag (G8 T ns f) g) ρ H K:=Kq (Cc (h.mono fun zz zz y=>Cc (y.mono fun zz zz z=>wRet z)))
theorem sUnp{f:Aj->P MV}{t:Aj->MV->P Aj}(h:Wp (f ρ) H (JN t ρ g K)):WS (Ag (Wa f t) g) ρ H K:=Kq (Cc (h.mono fun zz zz y=>Cc (y.mono fun zz zz z=>wRet z)))
theorem sSet{fv fo fi:Aj->P MV}(h:Wp (fv ρ) H (JT0 fo fi ρ g K)):WS (Ag (A7l fv fo fi) g) ρ H K:=
 Kq (Cc (h.mono fun zz zz y=>Cc (y.mono fun zz zz z=>Cc (z.mono fun zz zz w=>Cc (w.mono fun zz zz q=>wRet q)))))
theorem sDel{fo fi:Aj->P MV}(h:Wp (fo ρ) H fun a HP=>Wp (fi ρ) HP fun b HJ=>Wp (A7b a b) HJ fun zz HK=>WS g ρ HK K):WS (Ag (B5b fo fi) g) ρ H K:=
 Kq (Cc (h.mono fun zz zz z=>Cc (z.mono fun zz zz w=>Cc (w.mono fun zz zz q=>wRet q))))
theorem sIf{f:Aj->P Bool}{a b:Aj->P (Fl × Aj)}(h:Wp (f ρ) H (JI a b ρ (Io g K))):WS (Ag (Cv f a b) g) ρ H K:=Kq (wIf h)
theorem sWhile{t:Aj->P Bool}{b:Aj->P (Fl × Aj)}{n:Nat}(h:WS (By t b n) ρ H (Io g K)):WS (Ag (By t b n) g) ρ H K:=Kq h
theorem sFor{t:Aj->MV->P Aj}{f:Aj->P MV}{b o:Aj->P (Fl × Aj)}{n:Nat}(h:Wp (f ρ) H (JF T t b o n ρ (Io g K))):WS (Ag (Ko T n f t b o) g) ρ H K:=
 Kq (Cc (h.mono fun m H' x=>by
  obtain⟨src,e,q⟩:=x;obtain⟨b,H'',e',q'⟩:=q;exact⟨b,H'',by simp only[e,Option.bind_some];exact e',q'⟩))
theorem sForE{t:Aj->MV->P Aj}{f:Aj->P (Nat->P (Option MV))}{b o:Aj->P (Fl × Aj)}{n:Nat}(h:Wp (f ρ) H (JFE t b o n ρ (Io g K))):WS (Ag (A9n n f t b o) g) ρ H K:=Kq (Cc h)
def WhK(t:Aj->P Bool)(b:Aj->P (Fl × Aj))(n:Nat)(K:Fl->Aj->Hp->Prop):Fl->Aj->Hp->Prop:=fun fl ρ H=>match fl with
 | .next=>WS (By t b n) ρ H K
 | .cont=>WS (By t b n) ρ H K
 | .brk=>K .next ρ H
 | .ret v=>K (.ret v) ρ H
theorem whN{t:Aj->P Bool}{b:Aj->P (Fl × Aj)}{n:Nat}(h:WS (By t b n) ρ H K):WhK t b n K .next ρ H:=h
theorem whB{t:Aj->P Bool}{b:Aj->P (Fl × Aj)}{n:Nat}(h:K .next ρ H):WhK t b n K .brk ρ H:=h
abbrev KW(t:Aj->P Bool)(b:Aj->P (Fl × Aj))(n:Nat)(ρ:Aj)(K:SK):Bool->Hp->Prop:=fun c H₁=>(c=true->WS b ρ H₁ (WhK t b n K))∧(c=false->K .next ρ H₁)
theorem Es{t:Aj->P Bool}{b:Aj->P (Fl × Aj)}{n:Nat}(h:Wp (t ρ) H (KW t b n ρ K)):WS (By t b (n+1)) ρ H K:=by
 unfold WS By;refine Cc (Wp.mono h fun c H₁ x=>?_);cases c with
 | false=>exact wRet (x.2 rfl)
 | true=>
  refine Cc (Wp.mono (x.1 rfl) fun r H' y=>?_);obtain⟨fl,ρ'⟩:=r;cases fl
  ·exact y
  ·exact wRet y
  ·exact y
  ·exact wRet y
def FoK(src:Nat->P (Option MV))(t:Aj->MV->P Aj)(b o:Aj->P (Fl × Aj))(n i:Nat)(K:Fl->Aj->Hp->Prop):Fl->Aj->Hp->Prop:=fun fl ρ H=>match fl with
 | .next=>WS (Gg src t b o n i) ρ H K
 | .cont=>WS (Gg src t b o n i) ρ H K
 | .brk=>K .next ρ H
 | .ret v=>K (.ret v) ρ H
section
variable {src:Nat->P (Option MV)} {t:Aj->MV->P Aj} {b o:Aj->P (Fl × Aj)} {n i:Nat}
theorem foN(h:WS (Gg src t b o n i) ρ H K):FoK src t b o n i K .next ρ H:=h
theorem foB(h:K .next ρ H):FoK src t b o n i K .brk ρ H:=h
theorem foR{v:MV}(h:K (.ret v) ρ H):FoK src t b o n i K (.ret v) ρ H:=h
theorem Jo(e:src i H=some (none,H))(h:WS o ρ H K):WS (Gg src t b o (n+1) i) ρ H K:=by
 unfold WS Gg;exact Cc ⟨_,_,e,h⟩
theorem Ff{v:MV}{H₁:Hp}(e:src i H=some (some v,H₁))(h:Wp (t ρ v) H₁ (JG b (FoK src t b o n (i+1) K))):WS (Gg src t b o (n+1) i) ρ H K:=by
 unfold WS Gg;refine Cc ⟨_,_,e,Cc (Wp.mono h fun ρ' HP x=>Cc (Wp.mono x fun r H' y=>?_))⟩;obtain⟨fl,ρ'⟩:=r;cases fl
 ·exact y
 ·exact wRet y
 ·exact y
 ·exact wRet y
end
theorem Dg{ps:List Str}{f:Aj->P (Fl × Aj)}{ms:List MV}{Q:MV->Hp->Prop}(hl:ms.length=ps.length)(h:WS f (Ci ps ms fun zz=>none) H (B5c Q)):Wp (Ct ps f ms) H Q:=by
 obtain⟨b,H',e,q⟩:=h;unfold Ct;refine Wp.mono (Q:=Q) ?_ fun zz zz x=>x;unfold Wp;simp only[hl,if_true];refine Cc ⟨b,H',e,?_⟩;obtain⟨fl,ρ'⟩:=b;cases fl
 ·exact wRet q
 ·exact q.elim
 ·exact q.elim
 ·exact wRet q
theorem wTName{x:Str}{v:MV}{Q:Aj->Hp->Prop}(h:Q (upd ρ x v) H):Wp (A2 x ρ v) H Q:=wRet h
theorem Qa{n:Nat}{f:Aj->List MV->P Aj}{v:MV}{xs:List MV}{Q:Aj->Hp->Prop}(e:D0 T H v=some xs)(hn:xs.length=n)(h:Wp (f ρ xs) H Q):Wp (Js T n f ρ v) H Q:=
 Cc ⟨xs,H,by unfold Gl;rw[e];simp[hn],h⟩
theorem Yn{n:Nat}{v:MV}{xs:List MV}{Q:List MV->Hp->Prop}(e:D0 T H v=some xs)(hn:xs.length=n)(h:Q xs H):Wp (Gl T n v) H Q:=
 ⟨xs,H,by unfold Gl;rw[e];simp[hn],h⟩
abbrev KTC(j:Aj->List MV->P Aj)(xs:List MV)(Q:Aj->Hp->Prop):Aj->Hp->Prop:=fun ρ' H'=>Wp (j ρ' xs) H' Q
theorem wTCons{f:Aj->MV->P Aj}{j:Aj->List MV->P Aj}{v:MV}{xs:List MV}{Q:Aj->Hp->Prop}(h:Wp (f ρ v) H (KTC j xs Q)):Wp (Cj f j ρ (v::xs)) H Q:=Cc h
theorem wTNil{Q:Aj->Hp->Prop}{xs:List MV}(h:Q ρ H):Wp (Jr ρ xs) H Q:=wRet h
end
noncomputable abbrev sl(l:List Nat):MV:=.str ⟨l.toArray⟩
section
variable {H:Hp} {T:GT} {Q:MV->Hp->Prop} {a b:Int} {x y:List Nat}
theorem wAddI(h:Q (.int (a+b)) H):Wp (A1 (.int a) (.int b)) H Q:=⟨_,_,rfl,h⟩
theorem wSubI(h:Q (.int (a-b)) H):Wp (De (.int a) (.int b)) H Q:=⟨_,_,rfl,h⟩
theorem wAugI(h:Q (.int (a+b)) H):Wp (Bc (.int a) (.int b)) H Q:=⟨_,_,rfl,h⟩
theorem D0t(r:-big<a∧a<big)(h:Q (.int (a*b)) H):Wp (Iu (.int a) (.int b)) H Q:=⟨_,_,by show (if _ then _ else fl) H=_;rw[if_pos r];rfl,h⟩
theorem Yo(r:0<b∧b<1073741824)(h:Q (.int (a/b)) H):Wp (E4 (.int a) (.int b)) H Q:=⟨_,_,by show (if _ then _ else fl) H=_;rw[if_pos r];rfl,h⟩
theorem D0u(r:0<b)(h:Q (.int (a%b)) H):Wp (Ec (.int a) (.int b)) H Q:=⟨_,_,by show (if _ then _ else fl) H=_;rw[if_pos r];rfl,h⟩
theorem D0v(r:0<=b∧b<=100∧0<=a∧a<=100)(h:Q (.int (a ^ b.toNat)) H):Wp (Kt (.int a) (.int b)) H Q:=⟨_,_,by show (if _ then _ else fl) H=_;rw[if_pos r];rfl,h⟩
theorem wAndI(h:Q (.int (Builtin.bitAnd a b)) H):Wp (Qp (.int a) (.int b)) H Q:=⟨_,_,rfl,h⟩
theorem wLtI(h:Q (.bool (decide (a<b))) H):Wp (Fz (.int a) (.int b)) H Q:=⟨_,_,rfl,h⟩
theorem wGtI(h:Q (.bool (decide (b<a))) H):Wp (Vg (.int a) (.int b)) H Q:=⟨_,_,rfl,h⟩
theorem wLeI(h:Q (.bool (decide (a<=b))) H):Wp (Ze (.int a) (.int b)) H Q:=⟨_,_,rfl,h⟩
theorem wGeI(h:Q (.bool (decide (b<=a))) H):Wp (Vh (.int a) (.int b)) H Q:=⟨_,_,rfl,h⟩
theorem wEqI(h:Q (.bool (a==b)) H):Wp (Bb (.int a) (.int b)) H Q:=⟨_,_,rfl,h⟩
theorem wNeI(h:Q (.bool (a != b)) H):Wp (I9 (.int a) (.int b)) H Q:=⟨_,_,rfl,h⟩
theorem A43:((⟨x.toArray⟩:Str)==⟨y.toArray⟩)=(x==y):=by
 rw[Bool.eq_iff_iff,beq_iff_eq,beq_iff_eq];constructor
 ·intro h;injection h with h;simpa using congrArg Array.toList h
 ·rintro rfl;rfl
theorem wEqS(h:Q (.bool (x==y)) H):Wp (Bb (sl x) (sl y)) H Q:=⟨_,_,rfl,by rw[A43];exact h⟩
theorem wNeS(h:Q (.bool (x != y)) H):Wp (I9 (sl x) (sl y)) H Q:=⟨_,_,rfl,by
 have:((⟨x.toArray⟩:Str) != ⟨y.toArray⟩)=(x != y):=by unfold bne;rw[A43]
 rw[this];exact h⟩
theorem wLtS(h:Q (.bool (decide (x<y))) H):Wp (Fz (sl x) (sl y)) H Q:=⟨_,_,rfl,h⟩
theorem wGtS(h:Q (.bool (decide (y<x))) H):Wp (Vg (sl x) (sl y)) H Q:=⟨_,_,rfl,h⟩
theorem Dy:(⟨x.toArray⟩:Str).length=x.length:=by show x.toArray.size=_;simp
theorem M0:(⟨x.toArray⟩++⟨y.toArray⟩:Str)=⟨(x++y).toArray⟩:=by show Str.mk _=_;simp
theorem Fg(r:x.length+y.length<=16777216)(h:Q (sl (x++y)) H):Wp (A1 (sl x) (sl y)) H Q:=⟨_,_,by show (if _ then _ else fl) H=_;rw[Dy,Dy,if_pos r];rfl,by rw[M0];exact h⟩
theorem Ht(r:x.length+y.length<=16777216)(h:Q (sl (x++y)) H):Wp (Bc (sl x) (sl y)) H Q:=⟨_,_,by show (if _ then _ else none)=_;rw[Dy,Dy,if_pos r],by rw[M0];exact h⟩
theorem Ia(r:x.length<=16777216)(h:Q (.int x.length) H):Wp (D4 T (sl x)) H Q:=⟨_,_,by show ((if _ then _ else none).or _)=_;rw[Dy,if_pos r];rfl,h⟩
theorem Kw{v:MV}{xs:List MV}(e:C7 T H v=some xs)(r:xs.length<=16777216)(h:Q (.int xs.length) H):Wp (D4 T v) H Q:=⟨_,_,by
 cases v <;> try (exact Cy e)
 all_goals (unfold D4;rw[e];show (if _ then _ else none)=_;exact if_pos r),h⟩
theorem B5e(r:0<=a∧a<=1114111)(h:Q (sl [a.toNat]) H):Wp (Pz (.int a)) H Q:=⟨_,_,by show (if _ then _ else none)=_;exact if_pos r,h⟩
theorem wOrd{c:Nat}(h:Q (.int c) H):Wp (Rg (sl [c])) H Q:=⟨_,_,rfl,h⟩
theorem trS{Q:Bool->Hp->Prop}(r:x.length<=16777216)(h:Q (!x.isEmpty) H):Wp (Fs T (sl x)) H Q:=by
 refine⟨_,_,by show (if _ then _ else none)=_;rw[Dy,if_pos r],?_⟩;have:((x.length:Int) != 0)= !x.isEmpty:=by cases x <;> simp <;> exact B8q
 rw[this];exact h
theorem Kk{o v:MV}{i:Int}(r:-lim<=i∧i<lim)(q:Os T H o i=some v)(h:Q v H):Wp (Ao T o (.int i)) H Q:=
 ⟨_,_,by show (if _ then _ else none)=_;rw[if_pos r,q];rfl,h⟩
theorem A44{i:Int}{c:Nat}(r:-lim<=i∧i<lim)(e:((seqIndex? i x.length).bind (x[·]?))=some c)(h:Q (sl [c]) H):Wp (Ao T (sl x) (.int i)) H Q:=by
 refine Kk r ?_ h;have q:((seqIndex? i (⟨x.toArray⟩:Str).length).bind (x.toArray[·]?))=some c:=by rw[<- e,Dy];congr 1;funext j;simp
 show ((((seqIndex? i (⟨x.toArray⟩:Str).length).bind (x.toArray[·]?)).map _).or _)=_;rw[q];rfl
theorem Cs{i:Nat}{c:Nat}(e:x[i]?=some c)(r:(i:Int)<lim)(h:Q (sl [c]) H):Wp (Ao T (sl x) (.int i)) H Q:=by
 refine A44 ⟨by unfold lim;exact A95,r⟩ ?_ h;have hl:i<x.length:=by rw[List.getElem?_eq_some_iff] at e;exact e.1
 unfold seqIndex?;have:¬(i:Int)<0:=by exact zl6
 rw[List.getElem?_eq_some_iff] at e;simp[this,hl,e.2]
theorem Pg{i:Int}{v w:MV}{xs:List MV}(e:C7 T H v=some xs)(q:K4 xs i=some w)(r:-lim<=i∧i<lim)(h:Q w H):Wp (Ao T v (.int i)) H Q:=by
 refine Kk r ?_ h;cases v <;> try (exact Cy e)
 all_goals (unfold Os;rw[e];show ((K4 xs i).or _)=_;rw[q];rfl)
theorem Bl{i:Nat}{v w:MV}{xs:List MV}(e:C7 T H v=some xs)(q:xs[i]?=some w)(r:(i:Int)<lim)(h:Q w H):Wp (Ao T v (.int i)) H Q:=
 Pg e (by unfold K4;rw[if_pos (by exact Int.natCast_nonneg _)];simpa using q) ⟨by unfold lim;exact A95,r⟩ h
theorem Yp{v:MV}{xs:List MV}(e:D0 T H v=some xs)(hv:∀a,v=.val (.ref a)->T.lst a=none):C7 T H v=none:=by
 cases v <;> try rfl
 ·show Option.bind _ Kn=none;rw[Ra e];rfl
 ·obtain⟨a,ea,h⟩:=Dw (show (asA _).bind _=_ from e);show (asA _).bind _=none;rw[ea];exact hv a (by rw[Vj ea])
theorem Kb{i:Nat}{v w:MV}{xs:List MV}(e:D0 T H v=some xs)(q:xs[i]?=some w)(r:(i:Int)<lim)(h:Q w H)(hv:∀a,v=.val (.ref a)->T.lst a=none:=by exact fun zz h=>nomatch h):Wp (Ao T v (.int i)) H Q:=by
 refine Kk ⟨by unfold lim;exact A95,r⟩ ?_ h;have l:=Yp e hv;cases v <;> try (exact Cy e)
 all_goals (unfold Os;rw[l,e];show ((if 0<=(i:Int) then xs[i]? else none).or _)=_;rw[if_pos (by exact Int.natCast_nonneg _),q];rfl)
theorem A7p{xs:List MV}(r:xs.length<=16777216)(h:Q (.ref H.length) (H++[.list xs])):Wp (Bd xs) H Q:=⟨_,_,by unfold Bd;rw[if_pos r],h⟩
theorem Wj{xs:List MV}(r:xs.length<=16777216)(h:Q (.ref H.length) (H++[.tup xs])):Wp (Bq xs) H Q:=⟨_,_,by unfold Bq;rw[if_pos r],h⟩
theorem wMkDict(h:Q (.ref H.length) (H++[.dict []])):Wp Vi H Q:=⟨_,_,rfl,h⟩
theorem wRange1(h:Q (.ref H.length) (H++[.rng 0 a 1])):Wp (Ck [.int a]) H Q:=⟨_,_,rfl,h⟩
theorem wRange2(h:Q (.ref H.length) (H++[.rng a b 1])):Wp (Ck [.int a,.int b]) H Q:=⟨_,_,rfl,h⟩
theorem wRange3(h:Q (.ref H.length) (H++[.rng a b (-1)])):Wp (Ck [.int a,.int b,.int (-1)]) H Q:=⟨_,_,rfl,h⟩
theorem Fp{k:Nat}{v:MV}{xs:List MV}(e:H[k]?=some (.list xs))(r:xs.length<16777216)(h:Q .none (H.set k (.list (xs++[v])))):Wp (Bk (.ref k) v) H Q:=⟨_,_,by show ((H[k]?.bind Kn).bind _)=_;rw[e];exact if_pos r,h⟩
theorem A45{k:Nat}{xs:List MV}(e:H[k]?=some (.list xs))(h:Q (.ref H.length) (H++[.meth "list.append" k])):Wp (Yg (.ref k)) H Q:=⟨_,_,by show (H[k]?.bind Kn).map _=_;rw[e];rfl,h⟩
theorem Qb{tab:Value->Option (List MV->P MV)}{j k:Nat}{v:MV}(e:H[j]?=some (.meth "list.append" k))(h:Wp (Bk (.ref k) v) H Q):Wp (It tab (.ref j) [v]) H Q:=by
 obtain⟨b,H',q,z⟩:=h;exact⟨b,H',by simp only[It,e,if_true];exact q,z⟩
theorem inS{c:Nat}:(!(Builtin.Str.occurrences ⟨x.toArray⟩ ⟨#[c]⟩ 0 (⟨x.toArray⟩:Str).length 1).isEmpty)=x.contains c:=by
 rw[StrLaws.found_one];simp
theorem wInS{c:Nat}(h:Q (.bool (x.contains c)) H):Wp (Fa T (sl [c]) (sl x)) H Q:=⟨_,_,rfl,by show Q (.bool (!(Builtin.Str.occurrences _ _ 0 _ 1).isEmpty)) H;rw[inS];exact h⟩
theorem wNotInS{c:Nat}(h:Q (.bool (!x.contains c)) H):Wp (Fj (sl [c]) (sl x)) H Q:=⟨_,_,rfl,by
 have:=inS (x:=x) (c:=c);rw[<- this,Bool.not_not] at h;exact h⟩
end
theorem Ah{H H':Hp}(p:H<+:H'){k:Nat}{o:MO}(h:H[k]?=some o):H'[k]?=some o:=by
 obtain⟨t,rfl⟩:=p;rw[List.getElem?_append_left (by rw[List.getElem?_eq_some_iff] at h;exact h.1)];exact h
theorem pre_app{H:Hp}{t:Hp}:H<+:H++t:=List.prefix_append _ _
theorem Au{H:Hp}{o:MO}:(H++[o])[H.length]?=some o:=by simp
theorem Bx{H:Hp}{k:Nat}{o:MO}(h:H[k]?=some o):k<H.length:=by rw[List.getElem?_eq_some_iff] at h;exact h.1
theorem Ei{T:GT}{H H':Hp}(p:H<+:H'){v:MV}{xs:List MV}(h:C7 T H v=some xs):C7 T H' v=some xs:=by
 cases v <;> try (exact Cy h)
 ·show Option.bind _ Kn=_;rw[Ah p (Fi h)];rfl
 ·exact h
theorem A7q{T:GT}{H H':Hp}(p:H<+:H'){v:MV}{xs:List MV}(h:D0 T H v=some xs):D0 T H' v=some xs:=by
 cases v <;> try (exact Cy h)
 ·show Option.bind _ ofT=_;rw[Ah p (Ra h)];rfl
 ·exact h
theorem Aq{T:GT}{H:Hp}{k:Nat}{xs:List MV}(h:H[k]?=some (.list xs)):C7 T H (.ref k)=some xs:=by show Option.bind _ Kn=_;rw[h];rfl
theorem Bw{T:GT}{H:Hp}{k:Nat}{xs:List MV}(h:H[k]?=some (.tup xs)):D0 T H (.ref k)=some xs:=by show Option.bind _ ofT=_;rw[h];rfl
theorem Ph{T:GT}{H:Hp}{k:Nat}{o:MO}(e:H[k]?=some o)(h:Kn o=none):C7 T H (.ref k)=none:=by show Option.bind _ Kn=_;rw[e];exact h
theorem Rx{T:GT}{H:Hp}{k:Nat}{o:MO}(e:H[k]?=some o)(h:ofT o=none):D0 T H (.ref k)=none:=by show Option.bind _ ofT=_;rw[e];exact h
theorem Ex{H H':Hp}(p:H<+:H'){k:Nat}(hk:H.length<=k)(o:MO):H<+:H'.set k o:=by
 obtain⟨t,rfl⟩:=p;rw[List.set_append,if_neg (by exact B8r hk)];exact List.prefix_append _ _
theorem Bo{H:Hp}{k j:Nat}{o x:MO}(h:H[j]?=some x)(n:k≠j):(H.set k o)[j]?=some x:=by rw[List.getElem?_set_ne n];exact h
theorem Ds{H:Hp}{k:Nat}{o x:MO}(h:H[k]?=some x):(H.set k o)[k]?=some o:=by
 rw[List.getElem?_set_self (Bx h)]
theorem Ry{H:Hp}{k:Nat}{o:MO}(h:k<H.length):(H.set k o)[k]?=some o:=by rw[List.getElem?_set_self h]
noncomputable def Yl(src:Nat->P (Option MV))(vs:List MV)(H:Hp):Prop:=∀i,src i H=some (vs[i]?,H)
section
variable {T:GT} {H:Hp}
theorem Dd{v:MV}{xs:List MV}(e:C7 T H v=some xs):Ej T v H=some (Ox T v):=by unfold Ej;rw[if_pos (by rw[e];rfl)]
theorem Ch{v:MV}{xs:List MV}(e:C7 T H v=some xs):Yl (Ox T v) xs H:=fun i=>by unfold Ox;rw[e];rfl
theorem B5f{v:MV}{xs:List MV}(e:D0 T H v=some xs)(hv:∀a,v=.val (.ref a)->T.lst a=none:=by exact fun zz h=>nomatch h):Ej T v H=some (Sv T v):=by
 unfold Ej;rw[if_neg (by rw[Yp e hv];simp),if_pos (by rw[e];rfl)]
theorem A46{v:MV}{xs:List MV}(e:D0 T H v=some xs):Yl (Sv T v) xs H:=fun i=>by unfold Sv;rw[e];rfl
theorem Gw{k:Nat}{a b c:Int}(e:H[k]?=some (.rng a b c))(s:Builtin.Range.small a b c=true):Ej T (.ref k) H=some (Jq a b c):=by
 unfold Ej;rw[if_neg (by rw[Ph e rfl];exact Bool.false_ne_true),if_neg (by rw[Rx e rfl];exact Bool.false_ne_true)];show Option.bind _ (B49 k)=_;rw[e];exact if_pos s
theorem A7r{k:Nat}{es:List (Int × MV)}(e:H[k]?=some (.dict es)):Ej T (.ref k) H=some (Zj k es.length):=by
 unfold Ej;rw[if_neg (by rw[Ph e rfl];exact Bool.false_ne_true),if_neg (by rw[Rx e rfl];exact Bool.false_ne_true)];show Option.bind _ (B49 k)=_;rw[e];rfl
theorem A7s{k:Nat}{es:List (Int × MV)}(e:H[k]?=some (.dict es)):Yl (Zj k es.length) (es.map fun p=>.int p.1) H:=fun i=>by
 unfold Zj;simp only[e,if_true,List.getElem?_map];first |done|rfl
theorem B5g{l:List Nat}(h:l.all (·<128)=true):Ej T (sl l) H=some (A4c ⟨l.toArray⟩):=by
 unfold Ej;rw[if_neg (by exact Bool.false_ne_true),if_neg (by exact Bool.false_ne_true)];show ((if _=true then _ else none).or _)=_;rw[if_pos (by simpa using h)];rfl
theorem B5h{l:List Nat}:Yl (A4c ⟨l.toArray⟩) (l.map fun c=>sl [c]) H:=fun i=>by
 unfold A4c;simp
noncomputable def F9(a:Int)(n:Nat):List MV:=(List.range n).map fun (i:Nat)=>MV.int (a+(i:Int))
theorem Wk{a b:Int}{n:Nat}(h:b=a+n):Yl (Jq a b 1) (F9 a n) H:=fun i=>by
 unfold Jq;subst h;have:Builtin.Range.rangeSize a (a+n) 1=n:=by
  unfold Builtin.Range.rangeSize;simp only[show (1:Int)>0 by decide,if_true,Int.ediv_one]
  split <;> (first |exact B8s|exact B8t ‹_›)
 rw[this];by_cases q:i<n
 ·rw[if_pos (by exact A96 q),Int.mul_one];simp[F9,List.getElem?_map,List.getElem?_range q]
 ·rw[if_neg (by exact B8u q)];have:(F9 a n)[i]?=none:=by rw[List.getElem?_eq_none_iff];simp[F9];exact A1a q
  rw[this]
end
section
variable {src:Nat->P (Option MV)} {t:Aj->MV->P Aj} {ck:Aj->P Bool} {b:Aj->P Aj} {n i:Nat} {ρ:Aj} {H:Hp} {Q:Aj->Hp->Prop}
theorem cfE{H₁:Hp}(e:src i H=some (none,H₁))(h:Q ρ H₁):Wp (F5 src t ck b (n+1) i ρ) H Q:=by
 unfold F5;exact Cc ⟨_,_,e,wRet h⟩
theorem cfS{v:MV}{H₁:Hp}(e:src i H=some (some v,H₁))(h:Wp (t ρ v) H₁ fun ρA HP=>Wp (ck ρA) HP fun c HJ=>(c=true->Wp (b ρA) HJ fun ρB HK=>Wp (F5 src t ck b n (i+1) ρB) HK Q)∧(c=false->Wp (F5 src t ck b n (i+1) ρA) HJ Q)):
  Wp (F5 src t ck b (n+1) i ρ) H Q:=by
 unfold F5;refine Cc ⟨_,_,e,Cc (Wp.mono h fun ρA HP x=>Cc (Wp.mono x fun c HJ y=>?_))⟩;cases c with
 | true=>exact Cc (y.1 rfl)
 | false=>exact y.2 rfl
end
inductive KE(k:Nat)(ρ:Aj)(Q:Aj->Hp->Prop)(v:MV)(H:Hp):Prop
 | mk (xs:List MV) (e:H[k]?=some (.list xs)) (r:xs.length<16777216) (h:Q ρ (H.set k (.list (xs++[v]))))
theorem Yq{f:Aj->P MV}{k:Nat}{ρ:Aj}{H:Hp}{Q:Aj->Hp->Prop}(h:Wp (f ρ) H (KE k ρ Q)):Wp (Bt f k ρ) H Q:=
 Cc (h.mono fun v H₁ x=>by
  kcf_m;obtain⟨xs,e,r,q⟩:=x;refine hGx ?_;exact Cc (Fp e r (wRet q)))
inductive CI(T:GT)(t:Aj->MV->P Aj)(ck:Aj->P Bool)(b:Nat->Aj->P Aj)(n i:Nat)(ρ:Aj)(Q:Aj->Hp->Prop)(m:MV)(H:Hp):Prop
 | mk (src:Nat->P (Option MV)) (e:Ej T m H=some src) (h:Wp (F5 src t ck (b i) n 0 ρ) H Q)
noncomputable abbrev KQ(Q:QM)(k:Nat):Aj->Hp->Prop:=fun zz H=>Q (.ref k) H
inductive CR(T:GT)(t:Aj->MV->P Aj)(ck:Aj->P Bool)(b:Nat->Aj->P Aj)(n:Nat)(cap:Aj->Aj)(ρ:Aj)(Q:QM)(m:MV)(H:Hp):Prop
 | mk (src:Nat->P (Option MV)) (e:Ej T m H=some src) (h:Wp (F5 src t ck (b H.length) n 0 (cap ρ)) (H++[.list []]) (KQ Q H.length))
theorem Wl{fit:Aj->P MV}{T:GT}{t:Aj->MV->P Aj}{ck:Aj->P Bool}{b:Nat->Aj->P Aj}{n i:Nat}{ρ:Aj}{H:Hp}{Q:Aj->Hp->Prop}
  (h:Wp (fit ρ) H (CI T t ck b n i ρ Q)):Wp (J2 fit (Ej T) t ck b n i ρ) H Q:=
 Cc (h.mono fun m H₁ x=>by
  kcf_m;obtain⟨src,e,b',H',q,z⟩:=x;refine hGx ?_;exact⟨b',H',by simp only[e,Option.bind_some];exact q,z⟩)
theorem Wm{fit:Aj->P MV}{T:GT}{t:Aj->MV->P Aj}{ck:Aj->P Bool}{b:Nat->Aj->P Aj}{n:Nat}{cap:Aj->Aj}{ρ:Aj}{H:Hp}{Q:MV->Hp->Prop}
  (h:Wp (fit ρ) H (CR T t ck b n cap ρ Q)):Wp (Br fit (Ej T) t ck b n cap ρ) H Q:=
 Cc (h.mono fun m H₁ x=>by
  kcf_m;obtain⟨src,e,b',H',q,z⟩:=x;refine hGx ?_;exact⟨_,H',by simp only[e,Option.bind_some];unfold B9;rw[q];rfl,z⟩)
theorem Hh{α β:Type}{R:α->β->Prop}{l:List α}{m:List β}{a:α}{b:β}(h:All2 R l m)(r:R a b):All2 R (l++[a]) (m++[b]):=h.append (.cons r .nil)
theorem A7t{src:Nat->P (Option MV)}{t:Aj->MV->P Aj}{ck:Aj->P Bool}{f:Aj->P MV}(I:Aj->Prop){k:Nat}(E:MV->Option MV->Hp->Prop)
  (hE:∀v o H H',(∀j x,k<j->H[j]?=some x->H'[j]?=some x)->E v o H->E v o H') {vs:List MV} {H₁:Hp} (hk:H₁.length=k) (hy:∀H',H₁<+:H'->Yl src vs H')
  (hb:∀v∈vs,∀ρ H',I ρ->H₁<+:H'->k<H'.length->Wp (t ρ v) H' fun ρA H''=>H''=H'∧I ρA∧Wp (ck ρA) H' fun c HP=>H'<+:HP∧
   (c=true->Wp (f ρA) HP fun r HJ=>HP<+:HJ∧E v (some r) HJ)∧(c=false->E v none HP)):
  ∀(rest done:List MV) (n i:Nat) (ρ:Aj) (H':Hp) (os:List (Option MV)),vs=done++rest->i=done.length->I ρ->H₁<+:H'->H'[k]?=some (.list (os.filterMap id))->All2 (fun v o=>E v o H') done os->
   rest.length<n->vs.length<16777216->
   Wp (F5 src t ck (Bt f k) n i ρ) H' fun ρ' H''=>H₁<+:H''∧∃os',All2 (fun v o=>E v o H'') vs os'∧H''[k]?=some (.list (os'.filterMap id)):=by
 intro rest__
 induction rest__ with
 | nil=>
  intro done n i ρ H' os e ei hI hp hl ha hn hs;obtain⟨n,rfl⟩:∃m,n=m+1:=⟨n-1,by have:=hn;simp at this;exact B8v this⟩;have:src i H'=some (none,H'):=by rw[hy H' hp i,ei,e];simp
  exact cfE this ⟨hp,os,by rw[e,List.append_nil];exact ha,hl⟩
 | cons v rest ih=>
  intro done n i ρ H' os e ei hI hp hl ha hn hs;obtain⟨n,rfl⟩:∃m,n=m+1:=⟨n-1,by have:=hn;simp at this;exact B8w this⟩;have q:src i H'=some (some v,H'):=by rw[hy H' hp i,ei,e];simp
  refine cfS q (Wp.mono (hb v (by rw[e];simp) ρ H' hI hp (Bx hl)) fun ρA H'' x=>?_);obtain⟨rfl,hIA,x⟩:=x;refine Wp.mono x fun c HP y=>?_;obtain⟨pB,y1,y2⟩:=y;have al:∀ {A B:Hp},A<+:B->∀j x,k<j->A[j]?=some x->B[j]?=some x:=fun p j x zz h=>Ah p h;refine⟨fun hc=>?_,fun hc=>?_⟩
  ·refine Yq (Wp.mono (y1 hc) fun r HJ z=>?_);obtain⟨pJ,z⟩:=z;have hlC:=Ah pJ (Ah pB hl);have hlen:os.length=done.length:=ha.length.symm;have fl:(os.filterMap id).length<=os.length:=List.length_filterMap_le _ _;refine⟨_,hlC,by rw[e] at hs;simp at hs;exact B8x hlen fl hs,?_⟩;have st:∀j x,k<j->HJ[j]?=some x->(HJ.set k (.list (os.filterMap id++[r])))[j]?=some x:=fun j x hj hx=>Bo hx (by exact Nat.ne_of_lt ‹_›);refine ih (done++[v]) n (i+1) ρA _ (os++[some r]) (by rw[e];simp) (by simp[ei]) hIA (Ex (hp.trans (pB.trans pJ)) (by exact Nat.le_of_eq ‹_›) _) ?_ ?_ (by simp at hn;omega) hs
   ·rw[Ds hlC];simp
   ·refine Hh (ha.imp fun v o=>hE v o _ _ fun j x hj hx=>st j x hj (al (pB.trans pJ) j x hj hx)) (hE _ _ _ _ st z)
  ·refine ih (done++[v]) n (i+1) ρA _ (os++[none]) (by rw[e];simp) (by simp[ei]) hIA (hp.trans pB) ?_ ?_ (by simp at hn;omega) hs
   ·rw[Ah pB hl];simp
   ·exact Hh (ha.imp fun v o=>hE v o _ _ (al pB)) (y2 hc)
abbrev ER'(E:MV->Option MV->Hp->Prop)(v:MV)(HP:Hp):QM:=fun r HJ=>HP<+:HJ∧E v (some r) HJ
abbrev EC(E:MV->Option MV->Hp->Prop)(v:MV)(f:Aj->P MV)(ρA:Aj)(H':Hp):Bool->Hp->Prop:=fun c HP=>H'<+:HP∧(c=true->Wp (f ρA) HP (ER' E v HP))∧(c=false->E v none HP)
abbrev ET(E:MV->Option MV->Hp->Prop)(v:MV)(ck:Aj->P Bool)(f:Aj->P MV)(I:Aj->Prop)(H':Hp):Aj->Hp->Prop:=fun ρA H''=>H''=H'∧I ρA∧Wp (ck ρA) H' (EC E v f ρA H')
inductive CW(T:GT)(t:Aj->MV->P Aj)(ck:Aj->P Bool)(f:Aj->P MV)(n:Nat)(cap:Aj->Aj)(ρ:Aj)(Q:QM)(m:MV)(H₁:Hp):Prop
 | mk (src:Nat->P (Option MV)) (vs:List MV) (I:Aj->Prop) (E:MV->Option MV->Hp->Prop) (e:Ej T m H₁=some src) (hy:∀H',H₁<+:H'->Yl src vs H') (hn:vs.length<n) (hs:vs.length<16777216) (hI:I (cap ρ))
  (hE:∀v o H H',(∀j x,H₁.length<j->H[j]?=some x->H'[j]?=some x)->E v o H->E v o H') (hb:∀v∈vs,∀ρ H',I ρ->H₁<+:H'->H₁.length<H'.length->Wp (t ρ v) H' (ET E v ck f I H'))
  (hq:∀HP os,H₁<+:HP->All2 (fun v o=>E v o HP) vs os->HP[H₁.length]?=some (.list (os.filterMap id))->Q (.ref H₁.length) HP)
theorem A47{fit:Aj->P MV}{T:GT}{t:Aj->MV->P Aj}{ck:Aj->P Bool}{f:Aj->P MV}{n:Nat}{cap:Aj->Aj}{ρ:Aj}{H:Hp}{Q:MV->Hp->Prop}
  (h:Wp (fit ρ) H (CW T t ck f n cap ρ Q)):Wp (Br fit (Ej T) t ck (Bt f) n cap ρ) H Q:=
 Wm (h.mono fun m H₁ x=>by
  kcf_m;obtain⟨src,vs,I,E,e,hy,hn,hs,hI,hE,hb,hq⟩:=x;refine hGx ?_;refine⟨src,e,Wp.mono (A7t I E hE rfl hy hb vs [] n 0 (cap ρ) _ [] rfl rfl hI pre_app (by rw[Au];rfl) .nil hn hs) fun ρ' H'' x=>?_⟩;kcf_m;obtain⟨p,os,a,l⟩:=x;refine hGx ?_;exact hq H'' os p a l)
theorem A48{out:MV->Option MV}{vs:List MV}{os:List (Option MV)}(h:All2 (fun v o=>o=out v) vs os):os.filterMap id=vs.filterMap out:=by
 induction h with
 | nil=>rfl
 | cons r _ ih=>subst r;rw[List.filterMap_cons,List.filterMap_cons,ih];rfl
noncomputable abbrev FR(HP:Hp)(o:Option MV):QM:=fun r HJ=>HP<+:HJ∧o=some r
abbrev FC(f:Aj->P MV)(ρA:Aj)(H':Hp)(o:Option MV):Bool->Hp->Prop:=fun c HP=>H'<+:HP∧(c=true->Wp (f ρA) HP (FR HP o))∧(c=false->o=none)
abbrev FT(ck:Aj->P Bool)(f:Aj->P MV)(I:Aj->Prop)(H':Hp)(o:Option MV):Aj->Hp->Prop:=fun ρA H''=>H''=H'∧I ρA∧Wp (ck ρA) H' (FC f ρA H' o)
inductive CF(out:MV->Option MV)(I:Aj->Prop)(T:GT)(t:Aj->MV->P Aj)(ck:Aj->P Bool)(f:Aj->P MV)(n:Nat)(cap:Aj->Aj)(ρ:Aj)(Q:QM)(m:MV)(H₁:Hp):Prop
 | mk (src:Nat->P (Option MV)) (vs:List MV) (e:Ej T m H₁=some src) (hy:∀H',H₁<+:H'->Yl src vs H') (hn:vs.length<n) (hs:vs.length<16777216) (hI:I (cap ρ))
  (hb:∀v∈vs,∀ρ H',I ρ->H₁<+:H'->Wp (t ρ v) H' (FT ck f I H' (out v))) (hq:∀HP,H₁<+:HP->HP[H₁.length]?=some (.list (vs.filterMap out))->Q (.ref H₁.length) HP)
theorem Ip(out:MV->Option MV)(I:Aj->Prop){fit:Aj->P MV}{T:GT}{t:Aj->MV->P Aj}{ck:Aj->P Bool}{f:Aj->P MV}{n:Nat}{cap:Aj->Aj}{ρ:Aj}{H:Hp}{Q:MV->Hp->Prop}
  (h:Wp (fit ρ) H (CF out I T t ck f n cap ρ Q)):Wp (Br fit (Ej T) t ck (Bt f) n cap ρ) H Q:=
 A47 (h.mono fun m H₁ x=>by
  kcf_m;obtain⟨src,vs,e,hy,hn,hs,hI,hb,hq⟩:=x;refine hGx ?_;refine⟨src,vs,I,fun v o zz=>o=out v,e,hy,hn,hs,hI,fun zz zz zz zz zz h=>h,fun v hv ρ H' h1 h2 h3=>?_,fun HP os p a l=>hq HP p (by rw[l,A48 a])⟩;refine Wp.mono (hb v hv ρ H' h1 h2) fun ρA H'' x=>⟨x.1,x.2.1,Wp.mono x.2.2 fun c HP y=>⟨y.1,fun hc=>Wp.mono (y.2.1 hc) fun r HJ z=>⟨z.1,z.2.symm⟩,fun hc=>(y.2.2 hc).symm⟩⟩)
theorem Pi{l:List Int}:Hj (l.map MV.int)=some l:=by
 induction l with
 | nil=>rfl
 | cons a l ih=>simp[Hj,ih]
theorem Jg{l:List (List Nat)}:Gu (l.map sl)=some (l.map fun x=>⟨x.toArray⟩):=by
 induction l with
 | nil=>rfl
 | cons a l ih=>simp[Gu,ih]
section
variable {H:Hp} {T:GT} {Q:MV->Hp->Prop}
theorem A7u{l:List Int}{a:Int}:Nb (.int a) (l.map MV.int)=some (l.contains a):=by
 simp only[Nb,Pi,Option.map_some]
 congr 1
 induction l with
 | nil=>rfl
 | cons b l ih=>rw[List.any_cons,List.contains_cons,ih];congr 1;exact Bool.beq_comm
theorem Rz{l:List (List Nat)}{a:List Nat}:Nb (sl a) (l.map sl)=some (l.contains a):=by
 simp only[Nb,Jg,Option.map_some]
 congr 1
 induction l with
 | nil=>rfl
 | cons b l ih=>
  rw[List.map_cons,List.any_cons,List.contains_cons,ih]
  congr 1
  rw[A43];exact Bool.beq_comm
theorem D0x{v:MV}{l:List Int}{a:Int}(e:C7 T H v=some (l.map MV.int))(h:Q (.bool (l.contains a)) H):Wp (Fa T (.int a) v) H Q:=⟨_,_,by
 have q:Oq T H (.int a) v=some (l.contains a):=by
  cases v <;> try (exact Cy e)
  all_goals (unfold Oq;rw[e,show Su _ _=none from rfl,Option.none_or,Option.bind_some,A7u];rfl)
 unfold Fa;rw[q];rfl,h⟩
theorem A9q{v:MV}{l:List (List Nat)}{a:List Nat}(e:C7 T H v=some (l.map sl))(h:Q (.bool (l.contains a)) H):Wp (Fa T (sl a) v) H Q:=⟨_,_,by
 have q:Oq T H (sl a) v=some (l.contains a):=by
  cases v <;> try (exact Cy e)
  all_goals (unfold Oq;rw[e,show Su _ _=none from rfl,Option.none_or,Option.bind_some,Rz];rfl)
 unfold Fa;rw[q];rfl,h⟩
theorem D0y{k:Nat}{l:List (List Nat)}{a:List Nat}(e:H[k]?=some (.tup (l.map sl)))(h:Q (.bool (l.contains a)) H):Wp (Fa T (sl a) (.ref k)) H Q:=⟨_,_,by
 unfold Fa Oq;rw[Ph e rfl,Bw e,show Su _ _=none from rfl,Option.none_or,Option.bind_none,Option.none_or,Option.bind_some,Rz];rfl,h⟩
theorem A49{k:Nat}{l:List (List Nat)}{a:List Nat}(e:H[k]?=some (.list (l.map sl)))(h:Q (.bool (!l.contains a)) H):Wp (Fj (sl a) (.ref k)) H Q:=⟨_,_,by
 show ((H[k]?.bind Kn).bind _)=_;rw[e];show (Nb _ _).map _=_;rw[Rz];rfl,h⟩
theorem D3o{k:Nat}{es:List (Int × MV)}{a:Int}(e:H[k]?=some (.dict es))(h:Q (.bool (Lr es a).isSome) H):Wp (Fa T (.int a) (.ref k)) H Q:=⟨_,_,by
 unfold Fa Oq;rw[Ph e rfl,Rx e rfl,show Su _ _=none from rfl,show Mj H (.ref k)=some es by show H[k]?.bind ofD=_;rw[e];rfl];rfl,h⟩
theorem A5a{k:Nat}{es:List (Int × MV)}{a:Int}{w:MV}(e:H[k]?=some (.dict es))(q:Lr es a=some w)(r:-lim<=a∧a<lim)(h:Q w H):Wp (Ao T (.ref k) (.int a)) H Q:=by
 refine Kk r ?_ h;unfold Os;rw[Ph e rfl,Rx e rfl,show X9 _ _=none from rfl,show Mj H (.ref k)=some es by show H[k]?.bind ofD=_;rw[e];rfl];exact q
theorem D0z{k:Nat}{es:List (Int × MV)}{a:Int}{v:MV}(e:H[k]?=some (.dict es))(h:Q ((Lr es a).getD v) H):Wp (Ge (.ref k) (.int a) v) H Q:=⟨_,_,by show (H[k]?.bind ofD).map _=_;rw[e];rfl,h⟩
theorem D00{k:Nat}{es:List (Int × MV)}{a:Int}{v:MV}{Q:Unit->Hp->Prop}(e:H[k]?=some (.dict es))(r:es.length<=16777216)(h:Q () (H.set k (.dict (Vn es a v)))):Wp (Vo (.ref k) (.int a) v) H Q:=⟨_,_,by show ((H[k]?.bind Kn).bind _).or ((H[k]?.bind ofD).bind _)=_;rw[e];exact if_pos r,h⟩
theorem D01{k:Nat}{xs:List MV}{a:Nat}{v:MV}{Q:Unit->Hp->Prop}(e:H[k]?=some (.list xs))(r:a<xs.length)(r':(a:Int)<9223372036854775808)(h:Q () (H.set k (.list (xs.set a v)))):Wp (Vo (.ref k) (.int a) v) H Q:=⟨_,_,by
 show ((H[k]?.bind Kn).bind _).or ((H[k]?.bind ofD).bind _)=_;rw[e];exact congrArg (fun o=>Option.or o none) (if_pos ⟨Int.natCast_nonneg _,A96 r,r'⟩),h⟩
theorem D02{k:Nat}{xs:List MV}{a:Nat}{Q:Unit->Hp->Prop}(e:H[k]?=some (.list xs))(r:a<xs.length)(r':xs.length<=16777216)(h:Q () (H.set k (.list (xs.eraseIdx a)))):Wp (A7b (.ref k) (.int a)) H Q:=⟨_,_,by
 show (H[k]?.bind Kn).bind _=_;rw[e];exact if_pos ⟨Int.natCast_nonneg _,A96 r,r'⟩,h⟩
theorem A5b{i j:Nat}{xs:List MV}(e:H[i]?=some (.list xs))(q:H[j]?=some (.list []))(h:Q (.bool xs.isEmpty) H):Wp (Bb (.ref i) (.ref j)) H Q:=⟨_,_,by
 show ((H[i]?.bind Kn).bind _)=_;rw[e];show ((H[j]?.bind Kn).bind _)=_;rw[q];cases xs with
 | nil=>rfl
 | cons a l=>rfl,h⟩
theorem A7v{i j:Nat}{l:List Int}(e:H[i]?=some (.list (l.map MV.int)))(q:H[j]?=some (.list []))(h:Q (.bool (!l.isEmpty)) H):Wp (I9 (.ref i) (.ref j)) H Q:=⟨_,_,by
 show ((H[i]?.bind Kn).bind _)=_;rw[e];show ((H[j]?.bind Kn).bind _)=_;rw[q];show (I8 _ _).map _=_;rw[show I8 (l.map MV.int) []=some l.isEmpty by unfold I8;rw[Pi];cases l <;> rfl];rfl,h⟩
theorem Tq{l:List (List Nat)}(o:(l.all fun x=>PyData.strOk ⟨x.toArray⟩)=true):I8 (l.map sl) (l.map sl)=some true:=by
 cases l with
 | nil=>rfl
 | cons a l=>
  have e:Hj ((a::l).map sl)=none:=rfl;have f:=Jg (l:=a::l);unfold I8;rw[e,f];show (if _ then _ else none)=_;rw[if_pos (by simp only[List.all_map,Function.comp_def,Bool.and_self] at o ⊢;exact o)];simp
theorem A7w{i j:Nat}{l:List (List Nat)}(e:H[i]?=some (.list (l.map sl)))(q:H[j]?=some (.list (l.map sl)))(o:(l.all fun x=>PyData.strOk ⟨x.toArray⟩)=true)(h:Q (.bool false) H):Wp (I9 (.ref i) (.ref j)) H Q:=⟨_,_,by
 show ((H[i]?.bind Kn).bind _)=_;rw[e];show ((H[j]?.bind Kn).bind _)=_;rw[q];show (I8 _ _).map _=_;rw[Tq o];rfl,h⟩
end
noncomputable def Dv(n d:Nat):Option Int->Nat
 | none=>d
 | some i=>(max 0 (min (if i<0 then i+n else i) n)).toNat
def I4{α:Type}(lo hi:Option Int)(l:List α):List α:=(l.drop (Dv l.length 0 lo)).take (Dv l.length l.length hi-Dv l.length 0 lo)
theorem I1{n d:Nat}(h:d<=n)(o:Option Int):Dv n d o<=n:=by cases o <;> simp[Dv] <;> lia
theorem D6{n d k:Nat}:Dv n d (some (k:Int))=min k n:=by simp only[Dv];rw[if_neg (by exact zl6)];exact B8y
theorem Tr{α:Type}{l:List α}{a b:Nat}(ha:a<=l.length)(hb:b<=l.length):(sliceRange a b 1).filterMap (l[·]?)=(l.drop a).take (b-a):=by
 unfold sliceRange;simp only[show (1:Int)>0 by decide,if_true,List.filterMap_map];have e:(if (a:Int)<b then ((b:Int)-a+1-1)/1 else 0).toNat=b-a:=by
  split <;> (first |exact B6s ‹_›|exact B6t ‹_›)
 rw[e];have:∀(n:Nat) (a:Nat),a+n<=l.length->(List.range n).filterMap ((l[·]?)∘fun (k:Nat)=>((a:Int)+1*(k:Int)).toNat)=(l.drop a).take n:=by
  intro n a h;apply List.ext_getElem?;intro i;have:(List.range n).filterMap ((l[·]?)∘fun (k:Nat)=>((a:Int)+1*(k:Int)).toNat)=(List.range n).attach.map fun k=>l[a+k.1]'(by have:=List.mem_range.mp k.2;exact A97 h this):=by
   rw[<- List.filterMap_eq_map]
   conv=>lhs;rw[<- List.attach_map_subtype_val (List.range n),List.filterMap_map]
   congr 1
   funext k
   have hk:=List.mem_range.mp k.2;simp only[Function.comp];rw[show ((a:Int)+1*(k.1:Int)).toNat=a+k.1 by exact B8z];simp[show a+k.1<l.length by exact A97 h hk]
  rw[this,List.getElem?_take];by_cases hi:i<n
  ·simp[hi,List.getElem?_drop,show a+i<l.length by exact A97 h hi]
  ·simp[hi]
 by_cases h:a<=b
 ·exact this _ _ (B80 hb h)
 ·rw[show b-a=0 by exact B81 h];simp
theorem Ts(lo hi:Option Int)(n:Nat):sliceBounds lo hi none n=((Dv n 0 lo:Int),(Dv n n hi:Int),1):=by
 unfold sliceBounds Dv;cases lo <;> cases hi <;> simp <;> lia
theorem Z7{xs:List MV}{lo hi:Option Int}:Ov xs lo hi=I4 lo hi xs:=by
 unfold Ov;rw[Ts];exact Tr (I1 (Nat.zero_le _) _) (I1 (Nat.le_refl _) _)
theorem B5j(lo hi:Option Int)(n:Nat):Builtin.Str.strSliceIndices lo hi 1 n=sliceRange (Dv n 0 lo) (Dv n n hi) 1:=by
 unfold Builtin.Str.strSliceIndices Dv;cases lo <;> cases hi <;> simp <;> (congr 1 <;> lia)
theorem Wn{α:Type}{l:List α}{lo hi:Option Int}:(I4 lo hi l).length=Dv l.length l.length hi-Dv l.length 0 lo:=by
 unfold I4;rw[List.length_take,List.length_drop];have:=I1 (Nat.le_refl l.length) hi;exact B82 this
theorem Z8{l:List Nat}{lo hi:Option Int}:Txt.slice ⟨l.toArray⟩ lo hi=⟨(I4 lo hi l).toArray⟩:=by
 have h1:=I1 (n:=l.length) (Nat.zero_le _) lo;have h2:=I1 (Nat.le_refl l.length) hi;unfold Txt.slice;rw[Dy,B5j]
 split
 ·rename_i h;simp only[beq_self_eq_true,Bool.true_and,beq_iff_eq] at h;have e:(sliceRange (Dv l.length 0 lo) (Dv l.length l.length hi) 1).length=Dv l.length l.length hi-Dv l.length 0 lo:=by
   unfold sliceRange;simp only[show (1:Int)>0 by decide,if_true,List.length_map,List.length_range]
   split <;> (first |exact B6s ‹_›|exact B6t ‹_›)
  rw[e] at h;unfold I4;by_cases hl:l.length=0
  ·have:l=[]:=List.length_eq_zero_iff.mp hl;subst this;simp
  ·rw[show Dv l.length 0 lo=0 by exact B83 h2 h hl,show Dv l.length l.length hi=l.length by exact B84 h2 h hl];simp
 ·congr 2
  have:=Tr (l:=l) h1 h2;unfold I4;rw[<- this]
  congr 1
  funext i
  simp
noncomputable def jn(sep:List Nat):List (List Nat)->List Nat
 | []=>[]
 | [x]=>x
 | x::y::r=>x++sep++jn sep (y::r)
theorem R0{sep:List Nat}:∀ {ls:List (List Nat)},Txt.join ⟨sep.toArray⟩ (ls.map fun x=>⟨x.toArray⟩)=⟨(jn sep ls).toArray⟩:=by
 intro ls;show Builtin.Str.glued _ _=_;rw[StrLaws.glued_eq_join]
 induction ls with
 | nil=>rfl
 | cons x ls ih=>
  cases ls with
  | nil=>rfl
  | cons y r=>
   show _++_++Str.join _ _=_;have:Str.join ⟨sep.toArray⟩ (List.map (fun x=>(⟨x.toArray⟩:Str)) (y::r))=⟨(jn sep (y::r)).toArray⟩:=ih;rw[this,M0,M0];rfl
theorem Wo:∀ {ls:List (List Nat)},jn [] ls=ls.flatten
 | []=>rfl
 | [x]=>by simp[jn]
 | x::y::r=>by
  have:=Wo (ls:=y::r);simp only[jn,this];simp
section
variable {H:Hp} {T:GT} {Q:MV->Hp->Prop}
theorem B2{x:List Nat}{lo hi:Option Int}(r:x.length<=16777216)(h:Q (sl (I4 lo hi x)) H):Wp (Kf T (sl x) lo hi) H Q:=⟨_,_,by show ((if _ then _ else none).or _)=_;rw[Dy,if_pos r,Z8];rfl,h⟩
theorem R1{v:MV}{xs:List MV}{lo hi:Option Int}(e:C7 T H v=some xs)(r:xs.length<=16777216)(h:Q (.ref H.length) (H++[.list (I4 lo hi xs)])):Wp (Kf T v lo hi) H Q:=⟨_,_,by
 have c:(I4 lo hi xs).length<=16777216:=by rw[Wn];have:=I1 (Nat.le_refl xs.length) hi;exact B85 r this
 cases v <;> try (exact Cy e)
 all_goals (unfold Kf;rw[e];show (if _ then _ else none)=_;rw[if_pos r,Z7];unfold Bd;rw[if_pos c]),h⟩
theorem L1{v:MV}{ls:List (List Nat)}(e:C7 T H v=some (ls.map sl))(r:(ls.map (·.length)).sum<=16777216)(h:Q (sl ls.flatten) H):Wp (Go T (sl []) v) H Q:=⟨_,_,by
 simp only[Go,Lo,e,Option.bind_some,Jg];have hs:((ls.map fun x=>(⟨x.toArray⟩:Str)).map (·.length))=ls.map (·.length):=by
  rw[List.map_map];apply List.map_congr_left;intro x _;exact Dy
 rw[if_pos (by rw[hs];simpa [Str.length] using r),R0,Wo],h⟩
end
theorem Do{a b c v:Int}{i:Nat}{H:Hp}(h:(i:Int)<Builtin.Range.rangeSize a b c)(e:v=a+i*c):Jq a b c i H=some (some (.int v),H):=by unfold Jq;rw[if_pos h,e]
theorem Hf{a b c:Int}{i:Nat}{H:Hp}(h:¬(i:Int)<Builtin.Range.rangeSize a b c):Jq a b c i H=some (none,H):=by unfold Jq;rw[if_neg h]
section
variable {T:GT} {H:Hp} {ρ:Aj} {K:Fl->Aj->Hp->Prop} {g:Aj->P (Fl × Aj)}
inductive Sw2(a b:Str)(ρ:Aj)(g:Aj->P (Fl × Aj))(K:SK)(ms:List MV)(H:Hp):Prop
 | mk (x y:MV) (e:ms=[x,y]) (h:WS g (upd (upd ρ b y) a x) (H++[.tup ms]) K)
inductive Sw3(a b c:Str)(ρ:Aj)(g:Aj->P (Fl × Aj))(K:SK)(ms:List MV)(H:Hp):Prop
 | mk (x y u:MV) (e:ms=[x,y,u]) (h:WS g (upd (upd (upd ρ c u) b y) a x) (H++[.tup ms]) K)
theorem sSwap2{a b:Str}{f:Aj->P (List MV)}(h:Wp (f ρ) H (Sw2 a b ρ g K)):WS (Ag (G8 T [a,b] (Ak f Bq)) g) ρ H K:=
 sSwap (wThen (h.mono fun ms H₁ z=>by obtain⟨x,y,rfl,z⟩:=z;exact Wj (by simp) (Yn (Bw Au) rfl z)))
theorem sSwap3{a b c:Str}{f:Aj->P (List MV)}(h:Wp (f ρ) H (Sw3 a b c ρ g K)):WS (Ag (G8 T [a,b,c] (Ak f Bq)) g) ρ H K:=
 sSwap (wThen (h.mono fun ms H₁ z=>by obtain⟨x,y,u,rfl,z⟩:=z;exact Wj (by simp) (Yn (Bw Au) rfl z)))
end
noncomputable def GQ(ρ:Aj)(x:Str)(Q:QM)(H:Hp):Prop:=∃v,ρ x=some v∧Q v H
theorem gq{ρ:Aj}{x:Str}{v:MV}{Q:QM}{H:Hp}(e:ρ x=some v)(h:Q v H):GQ ρ x Q H:=⟨v,e,h⟩
theorem D03{H:Hp}{ρ:Aj}{x:Str}{Q:QM}(h:GQ ρ x Q H):Wp (Ac x ρ) H Q:=by obtain⟨v,e,h⟩:=h;exact B0 e h
section
variable {H:Hp} {Q:MV->Hp->Prop} {a b:Int} {xs:List MV}
theorem B5k(h:(-big<a∧a<big)∧Q (.int (a*b)) H):Wp (Iu (.int a) (.int b)) H Q:=D0t h.1 h.2
theorem B5l(h:(0<b∧b<1073741824)∧Q (.int (a/b)) H):Wp (E4 (.int a) (.int b)) H Q:=Yo h.1 h.2
theorem B5m(h:0<b∧Q (.int (a%b)) H):Wp (Ec (.int a) (.int b)) H Q:=D0u h.1 h.2
theorem B5n(h:(0<=b∧b<=100∧0<=a∧a<=100)∧Q (.int (a ^ b.toNat)) H):Wp (Kt (.int a) (.int b)) H Q:=D0v h.1 h.2
theorem A5c(h:xs.length<=16777216∧Q (.ref H.length) (H++[.list xs])):Wp (Bd xs) H Q:=A7p h.1 h.2
theorem A7x(h:xs.length<=16777216∧Q (.ref H.length) (H++[.tup xs])):Wp (Bq xs) H Q:=Wj h.1 h.2
end
theorem wCT{ρ:Aj}{H:Hp}{Q:Bool->Hp->Prop}(h:Q true H):Wp (cT ρ) H Q:=wRet h
theorem lit{s:String}{l:List Nat}(h:Str.ofString s=⟨l.toArray⟩):pC (.str (Str.ofString s))=pC (sl l):=by rw[h]
theorem Jh{a b:Nat}:Builtin.bitAnd (a:Int) (b:Int)=((a&&& b:Nat):Int):=by rw[bitAnd_pp (by exact Int.natCast_nonneg _) (by exact Int.natCast_nonneg _)];simp
noncomputable def I2(n:Nat):Nat:=if n<10 then 48+n else 55+n
def Fv(c:Nat):List Nat:=[61,I2 (c/16),I2 (c%16)]
def tupL:List (Addr × List MV):=[(219,[.val (.ref 194),.val (.ref 196),.val (.ref 198),.val (.ref 202),.val (.ref 204),.val (.ref 206),.val (.ref 210),.val (.ref 212),.val (.ref 214),.val (.ref 218)]),(194,[.val (.ref 187),.val (.ref 188),.val (.ref 189),.val (.ref 190),.val (.ref 191),.val (.ref 192),.val (.ref 193)]),(187,[.int 40960,sl [108]]),(188,[.int 49152,sl [115]]),(189,[.int 32768,sl [45]]),(190,[.int 24576,sl [98]]),(191,[.int 16384,sl [100]]),(192,[.int 8192,sl [99]]),(193,[.int 4096,sl [112]]),(196,[.val (.ref 195)]),(195,[.int 256,sl [114]]),(198,[.val (.ref 197)]),(197,[.int 128,sl [119]]),(202,[.val (.ref 199),.val (.ref 200),.val (.ref 201)]),(199,[.int 2112,sl [115]]),(200,[.int 2048,sl [83]]),(201,[.int 64,sl [120]]),(204,[.val (.ref 203)]),(203,[.int 32,sl [114]]),(206,[.val (.ref 205)]),(205,[.int 16,sl [119]]),(210,[.val (.ref 207),.val (.ref 208),.val (.ref 209)]),(207,[.int 1032,sl [115]]),(208,[.int 1024,sl [83]]),(209,[.int 8,sl [120]]),(212,[.val (.ref 211)]),(211,[.int 4,sl [114]]),(214,[.val (.ref 213)]),(213,[.int 2,sl [119]]),(218,[.val (.ref 215),.val (.ref 216),.val (.ref 217)]),(215,[.int 513,sl [116]]),(216,[.int 512,sl [84]]),(217,[.int 1,sl [120]])]
def T0:GT:=⟨fun a=>if a=39 then some ((List.range 256).map fun c=>sl (Fv c)) else none,fun a=>tupL.lookup a⟩
end Mine.Internal
end
noncomputable section
open PySem PySem.W PyProof.Rows
namespace Mine.Internal
local macro_rules | `(tactic|lk)=>`(tactic|first |kernel_rfl|decide+kernel)
local macro_rules | `(tactic|kd_p)=>`(tactic|decide+kernel)
set_option hygiene false in
local macro_rules | `(tactic|kpf_c)=>`(tactic|first |exact Cy hf|replace hp:=D8 hf hp|cases hf)
set_option hygiene false in
local macro_rules | `(tactic|kcf_m)=>`(tactic|refine On fun Gx hGx=>?_)
local macro_rules | `(tactic|w_up)=>`(tactic|repeat z_go)
local macro_rules | `(tactic|x_go)=>`(tactic|first |decide|lia|(simp;done))
local macro_rules | `(tactic|k_in)=>`(tactic|first |with_reducible exact upd_hit|assumption|(with_reducible refine Ba (by kd_p) ?_;k_in)|(refine A7o (by kd_p) ?_;k_in))
local macro_rules | `(tactic|z_go)=>do
 let f:=fun (s:String) (t:Lean.TSyntax `tactic)=>do
  let x:=Lean.mkIdent (.mkSimple s)
  `(tactic|first |refine $x ?_ | $t:tactic)
 let t <- ("wC sAsg wBin wThen wConsS wNilS wOne wTwo wThree sRet sExp sAug sIf wTCmp wTruth wNot wAnd wOr wAndN wOrN wCT wIf wVAnd wVOr wNegC wSlice wSl0 wSl1 sSwap2 sSwap3 sSwap sUnp sAss sBrk sEnd thN thB thR finR whN whB foN foB foR sFor sForE sWhile sSet sDel wCallD wTName wTCons wTNil trB wRet wAddI wSubI wAugI wAndI wLtI wGtI wLeI wGeI wEqI wNeI wEqS wNeS wLtS wGtS wOrd wMkDict wRange1 wRange2 wRange3 wInS wNotInS".splitOn " ").foldrM f (<- `(tactic|first |((first |refine B5n ?_|refine B5l ?_|refine B5m ?_);refine⟨by x_go,?_⟩)|(refine B5k ?_;refine⟨by unfold big;lia,?_⟩)|((first |refine A7x ?_|refine A5c ?_);refine⟨by simp;done,?_⟩)|exact⟨_,rfl,‹_›⟩|refine⟨_,rfl,?_⟩|refine⟨_,_,rfl,?_⟩|refine⟨_,_,_,rfl,?_⟩|refine Ym (by decide) ?_|refine Ll (by decide) ?_))
 `(tactic|with_reducible first |(refine D03 ?_;refine gq (by k_in) ?_) | $t:tactic)
section
variable {H:Hp}
theorem Ey{m:Nat}:Wp (Ed T0 [.int m]) H fun r H'=>H'=H∧r=.int ((m&&& 61440:Nat):Int):=by
 refine Dg rfl ?_;dsimp only[Ci];w_up;exact⟨rfl,congrArg MV.int Jh⟩
theorem Wq{m:Nat}:Wp (Mt T0 [.int m]) H fun r H'=>H'=H∧r=.int ((m&&& 4095:Nat):Int):=by
 refine Dg rfl ?_;dsimp only[Ci];w_up;exact⟨rfl,congrArg MV.int Jh⟩
theorem Wr{m:Nat}:Wp (Mu T0 [.int m]) H fun r H'=>H'=H∧r=.bool ((((m&&& 61440:Nat):Int))==24576):=by
 refine Dg rfl ?_;dsimp only[Ci];w_up;refine Wp.at Ey ?_;w_up;exact⟨rfl,rfl⟩
theorem Ws{m:Nat}:Wp (Mv T0 [.int m]) H fun r H'=>H'=H∧r=.bool ((((m&&& 61440:Nat):Int))==8192):=by
 refine Dg rfl ?_;dsimp only[Ci];w_up;refine Wp.at Ey ?_;w_up;exact⟨rfl,rfl⟩
theorem Wt{m:Nat}:Wp (Mw T0 [.int m]) H fun r H'=>H'=H∧r=.bool ((((m&&& 61440:Nat):Int))==16384):=by
 refine Dg rfl ?_;dsimp only[Ci];w_up;refine Wp.at Ey ?_;w_up;exact⟨rfl,rfl⟩
theorem Tt{m:Nat}:Wp (La T0 [.int m]) H fun r H'=>H'=H∧r=.bool ((((m&&& 61440:Nat):Int))==4096):=by
 refine Dg rfl ?_;dsimp only[Ci];w_up;refine Wp.at Ey ?_;w_up;exact⟨rfl,rfl⟩
theorem Wu{m:Nat}:Wp (Mx T0 [.int m]) H fun r H'=>H'=H∧r=.bool ((((m&&& 61440:Nat):Int))==40960):=by
 refine Dg rfl ?_;dsimp only[Ci];w_up;refine Wp.at Ey ?_;w_up;exact⟨rfl,rfl⟩
theorem Wv{m:Nat}:Wp (My T0 [.int m]) H fun r H'=>H'=H∧r=.bool ((((m&&& 61440:Nat):Int))==32768):=by
 refine Dg rfl ?_;dsimp only[Ci];w_up;refine Wp.at Ey ?_;w_up;exact⟨rfl,rfl⟩
theorem Tu{m:Nat}:Wp (Lb T0 [.int m]) H fun r H'=>H'=H∧r=.bool ((((m&&& 61440:Nat):Int))==49152):=by
 refine Dg rfl ?_;dsimp only[Ci];w_up;refine Wp.at Ey ?_;w_up;exact⟨rfl,rfl⟩
noncomputable def kch:List Nat:=[63,112,99,63,100,63,98,63,45,63,108,63,115,63,63,63]
noncomputable def kc(m:Nat):Nat:=kch.getD (m/4096) 0
noncomputable def pk(a b:Nat)(x:Nat):Nat:=if x=0 then a else b
def U0(a b c d:Nat)(x y:Nat):Nat:=if x=0 then pk a b y else pk c d y
def Eb(m:Nat):List Nat:=[kc m,pk 45 114 (m/256%2),pk 45 119 (m/128%2),U0 45 120 83 115 (m/2048%2) (m/64%2),pk 45 114 (m/32%2),pk 45 119 (m/16%2),U0 45 120 83 115 (m/1024%2) (m/8%2),
 pk 45 114 (m/4%2),pk 45 119 (m/2%2),U0 45 120 84 116 (m/512%2) (m%2)]
theorem Iq{a b:Nat}{i:Int}{k:Nat}{Q:MV->Hp->Prop}(e:i=k)(hk:k<2)(h:Q (sl [pk a b k]) H):Wp (Ao T0 (sl [a,b]) (.int i)) H Q:=by
 subst e;refine Cs (c:=pk a b k) ?_ (by unfold lim;exact A6u hk) h;obtain rfl|rfl:k=0∨k=1:=by exact B6u hk
 ·rfl
 ·rfl
theorem A5d{m:Nat}(hm:m<65536){Q:MV->Hp->Prop}(h:Q (sl [kc m]) H):Wp (Ao T0 (sl kch) (.int ((m:Int)/4096))) H Q:=by
 rw[show (m:Int)/4096=((m/4096:Nat):Int) by exact B86];refine Cs (c:=kc m) ?_ (by unfold lim;exact B87 hm) h;unfold kc;rw[List.getD_eq_getElem?_getD];have:m/4096<kch.length:=by show _<16;exact A6v hm
 simp[this]
theorem A5e:pC (.str "?pc?d?b?-?l?s???")=pC (sl kch):=lit (by kd_p)
theorem L_r:pC (.str "-r")=pC (sl [45,114]):=lit (by kd_p)
theorem L_w:pC (.str "-w")=pC (sl [45,119]):=lit (by kd_p)
theorem L_x:pC (.str "-x")=pC (sl [45,120]):=lit (by kd_p)
theorem D04:pC (.str "Ss")=pC (sl [83,115]):=lit (by kd_p)
theorem D05:pC (.str "Tt")=pC (sl [84,116]):=lit (by kd_p)
theorem Kl{v:MV}{a b c d:Nat}{i:Int}{x:Nat}{Q:MV->Hp->Prop}(e:C7 T0 H v=some [sl [a,b],sl [c,d]])(ei:i=x)(hx:x<2)(h:Q (sl [pk a c x,pk b d x]) H):Wp (Ao T0 v (.int i)) H Q:=by
 subst ei;refine Bl e (w:=sl [pk a c x,pk b d x]) ?_ (by unfold lim;exact A6u hx) h;obtain rfl|rfl:x=0∨x=1:=by exact B6u hx
 ·rfl
 ·rfl
theorem oc4{m j k:Nat}(hk:8 ^ j*4=k):(m:Int)/8 ^ j%8/4=((m/k%2:Nat):Int):=by
 subst hk;rw[<- Nat.div_div_eq_div_mul,show (m:Int)/8 ^ j=((m/8 ^ j:Nat):Int) by simp];exact B88
theorem oc2{m j k:Nat}(hk:8 ^ j*2=k):(m:Int)/8 ^ j%8/2%2=((m/k%2:Nat):Int):=by
 subst hk;rw[<- Nat.div_div_eq_div_mul,show (m:Int)/8 ^ j=((m/8 ^ j:Nat):Int) by simp];exact B89
theorem oc1{m j k:Nat}(hk:8 ^ j=k):(m:Int)/8 ^ j%8%2=((m/k%2:Nat):Int):=by
 subst hk;rw[show (m:Int)/8 ^ j=((m/8 ^ j:Nat):Int) by simp];exact B9a
theorem md2{x:Nat}:x%2<2:=Nat.mod_lt _ Nat.zero_lt_two
theorem Z9{m:Nat}(hm:m<65536):Wp (Gm T0 [.int m]) H fun r H'=>H<+:H'∧r=sl (Eb m):=by
 unfold Gm;simp only[A5e,L_r,L_w,L_x,D04,D05];refine Dg rfl ?_;dsimp only[Ci];w_up;refine A5d hm ?_;w_up;refine⟨_,Gw Au (by decide),?_⟩;refine Ff (Do (v:=0) (by decide) rfl) ?_;w_up;refine Iq (k:=m/256%2) (oc4 (by decide)) md2 ?_;w_up;refine Iq (k:=m/128%2) (oc2 (by decide)) md2 ?_;w_up;refine Fg (by simp) ?_;w_up;refine Kl (x:=m/2048%2) (Aq Au) (by x_go) md2 ?_;w_up;refine Iq (k:=m/64%2) (oc1 (by decide)) md2 ?_;w_up;refine Fg (by simp) ?_;w_up;refine Ht (by simp) ?_;w_up;refine Ff (Do (v:=1) (by decide) rfl) ?_;w_up;refine Iq (k:=m/32%2) (oc4 (by decide)) md2 ?_;w_up;refine Iq (k:=m/16%2) (oc2 (by decide)) md2 ?_;w_up;refine Fg (by simp) ?_;w_up;refine Kl (x:=m/1024%2) (Aq Au) (by x_go) md2 ?_;w_up;refine Iq (k:=m/8%2) (oc1 (by decide)) md2 ?_;w_up;refine Fg (by simp) ?_;w_up;refine Ht (by simp) ?_;w_up;refine Ff (Do (v:=2) (by decide) rfl) ?_;w_up;refine Iq (k:=m/4%2) (oc4 (by decide)) md2 ?_;w_up;refine Iq (k:=m/2%2) (oc2 (by decide)) md2 ?_;w_up;refine Fg (by simp) ?_;w_up;refine Kl (x:=m/512%2) (Aq Au) (by x_go) md2 ?_;w_up;refine Iq (k:=m/1%2) (oc1 (by decide)) md2 ?_;w_up;refine Fg (by simp) ?_;w_up;refine Ht (by simp) ?_;w_up;refine Jo (Hf (by decide)) ?_;w_up;refine⟨by simp[List.append_assoc],?_⟩;have e1:∀a b c d x y,pk (pk a b x) (pk c d x) y=U0 a c b d x y:=fun a b c d x y=>by
  unfold U0 pk;split <;> split <;> rfl
 simp[Eb,e1]
end
noncomputable def Pj:List (List (Nat × Nat)):=[[(40960,108),(49152,115),(32768,45),(24576,98),(16384,100),(8192,99),(4096,112)],[(256,114)],[(128,119)],[(2112,115),(2048,83),(64,120)],[(32,114)],[(16,119)],[(1032,115),(1024,83),(8,120)],
 [(4,114)],[(2,119)],[(513,116),(512,84),(1,120)]]
def A5f(T:GT)(v:MV)(p:Nat × Nat):Prop:=∃a,v=.val (.ref a)∧T.tup a=some [.int p.1,sl [p.2]]
def A9r(T:GT)(v:MV)(r:List (Nat × Nat)):Prop:=∃a vs,v=.val (.ref a)∧T.lst a=none∧T.tup a=some vs∧All2 (A5f T) vs r
structure Tp(T:GT):Prop where
 qm:T.lst 39=some ((List.range 256).map fun c=>sl (Fv c))
 fmt:∃vs,T.lst 219=none∧T.tup 219=some vs∧All2 (A9r T) vs Pj
 asks:[172,151,144,158,165,179,186].Nodup
noncomputable def hit(idx m bit:Nat):Bool:=if idx=0 then (m&&& 61440)==bit else (m&&& bit)==bit
def U1(idx m:Nat)(r:List (Nat × Nat)):Nat:=match r.find? fun p=>hit idx m p.1 with
 | some p=>p.2
 | none=>if idx=0 then 63 else 45
section
variable {H:Hp}
abbrev fmB(T:GT):Aj->P (Fl × Aj):=(Ag (Cv (At T (Ac "index") (pC (.int 0)) Bb)
 (Ag (Cv (At T (Ak (Ab (Ac "mode") Af) (Ed T)) (Ac "bit") Bb)
 (Ag (Cw (Be Kv (Ac "perm") (Ab (Ac "char") Af) (two Bk)))
 (Ag Rs
 Ap))
 Ap)
 Ap)
 (Ag (Cv (At T (Am (Ac "mode") (Ac "bit") Qp) (Ac "bit") Bb)
 (Ag (Cw (Be Kv (Ac "perm") (Ab (Ac "char") Af) (two Bk)))
 (Ag Rs
 Ap))
 Ap)
 Ap))
 Ap)
abbrev fmE(T:GT):Aj->P (Fl × Aj):=(Ag (Cv (At T (Ac "index") (pC (.int 0)) Bb)
 (Ag (Cw (Be Kv (Ac "perm") (Ab (pC (sl [63])) Af) (two Bk)))
 Ap)
 (Ag (Cw (Be Kv (Ac "perm") (Ab (pC (sl [45])) Af) (two Bk)))
 Ap))
 Ap)
abbrev fmT(T:GT):Aj->MV->P Aj:=Js T 2 (Cj (A2 "bit") (Cj (A2 "char") Jr))
theorem B5o{k:Nat}{xs:List MV}(e:H[k]?=some (.list xs)):Kv H (.ref k)=true:=by show (Option.bind _ Kn).isSome=true;rw[e];rfl
inductive AP(k:Nat)(Q:QM)(ms:List MV)(H:Hp):Prop
 | mk (v:MV) (ys:List MV) (e:ms=[v]) (l:H[k]?=some (.list ys)) (r:ys.length<16777216) (h:Q .none (H.set k (.list (ys++[v]))))
theorem Ng{x:Str}{ρ:Aj}{f:Aj->P (List MV)}{k:Nat}{xs:List MV}{Q:MV->Hp->Prop}(hx:ρ x=some (.ref k))(e:H[k]?=some (.list xs))(h:Wp (f ρ) H (AP k Q)):
  Wp (Be Kv (Ac x) f (two Bk) ρ) H Q:=
 Gp (B0 hx ⟨B5o e,h.mono fun ms H₁ z=>by obtain⟨v,ys,rfl,e',r,z⟩:=z;exact wTwo (Fp e' r z)⟩)
theorem Tv{a m idx kp:Nat}{vs acc:List MV}{H0:Hp}{K:Fl->Aj->Hp->Prop}(hT:T0.tup a=some vs)(hacc:acc.length<1000)(hk:H0.length<=kp):∀(rest:List (Nat × Nat)) (i n:Nat) (ρ:Aj) (H:Hp),
  All2 (A5f T0) (vs.drop i) rest->rest.length<n->ρ "index"=some (.int idx)->ρ "mode"=some (.int m)->ρ "perm"=some (.ref kp)->H0<+:H->H[kp]?=some (.list acc)->
  (∀ρ' H',ρ' "mode"=some (.int m)->ρ' "perm"=some (.ref kp)->H0<+:H'->H'[kp]?=some (.list (acc++[sl [U1 idx m rest]]))->K .next ρ' H')->
  WS (Gg (Sv T0 (.val (.ref a))) (fmT T0) (fmB T0) (fmE T0) n i) ρ H K
 | [],i,n,ρ,H,ha,hn,h1,h2,h3,hp,hl,hK=>by
  obtain⟨n,rfl⟩:=Bv hn;have hi:vs[i]?=none:=by
   have:=ha.length;simp at this;rw[List.getElem?_eq_none_iff];exact A65 this
  refine Jo (by rw[A46 (show D0 T0 H (.val (.ref a))=some vs from hT) i,hi]) ?_;w_up;refine⟨fun h=>?_,fun h=>?_⟩
  ·have h0:idx=0:=by simp at h;lia
   subst h0;w_up;refine Ng h3 hl ?_;w_up;refine⟨_,_,rfl,hl,by exact zl5 hacc,?_⟩;w_up;exact hK _ _ h2 h3 (Ex hp hk _) (Ds hl)
  ·have h0:idx≠0:=by simp at h;lia
   w_up;refine Ng h3 hl ?_;w_up;refine⟨_,_,rfl,hl,by exact zl5 hacc,?_⟩;w_up;refine hK _ _ h2 h3 (Ex hp hk _) ?_;have:U1 idx m []=45:=by simp[U1,h0]
   rw[this];exact Ds hl
 | (bit,char)::rest,i,n,ρ,H,ha,hn,h1,h2,h3,hp,hl,hK=>by
  obtain⟨n,rfl⟩:=Bv hn
  generalize hd:vs.drop i=d at ha
  cases ha with
  | @cons v _ d' _ hv ht=>
  have hi:vs[i]?=some v:=by
   have:=congrArg (·[0]?) hd;simpa using this
  have hd':vs.drop (i+1)=d':=by
   rw[<- List.tail_drop,hd];rfl
  obtain⟨b,rfl,hb⟩:=hv;refine Ff (by rw[A46 (show D0 T0 H (.val (.ref a))=some vs from hT) i,hi]) ?_;refine Qa hb rfl ?_;w_up;have next:∀ρ',ρ' "index"=some (.int idx)->ρ' "mode"=some (.int m)->ρ' "perm"=some (.ref kp)->hit idx m bit=false->WS (Gg (Sv T0 (.val (.ref a))) (fmT T0) (fmB T0) (fmE T0) n (i+1)) ρ' H K:=fun ρ' g1 g2 g3 g4=>by
   refine Tv hT hacc hk rest (i+1) n ρ' H (by rw[hd'];exact ht) (by simp at hn;lia) g1 g2 g3 hp hl fun ρ'' H' w1 w2 w3 w4=>hK _ _ w1 w2 w3 ?_;have:U1 idx m ((bit,char)::rest)=U1 idx m rest:=by simp[U1,g4]
   rw[this];exact w4
  have stop:∀ρ' H',ρ' "mode"=some (.int m)->ρ' "perm"=some (.ref kp)->hit idx m bit=true->H'=H.set kp (.list (acc++[sl [char]]))->K .next ρ' H':=fun ρ' H' g2 g3 g4 e=>by
   subst e;refine hK _ _ g2 g3 (Ex hp hk _) ?_;have:U1 idx m ((bit,char)::rest)=char:=by simp[U1,g4]
   rw[this];exact Ds hl
  refine⟨fun h=>?_,fun h=>?_⟩
  ·have h0:idx=0:=by simp at h;lia
   subst h0;w_up;refine Wp.at Ey ?_;w_up;refine⟨fun h=>?_,fun h=>?_⟩
   ·w_up;refine Ng (by k_in) hl ?_;w_up;refine⟨_,_,rfl,hl,by exact zl5 hacc,?_⟩;w_up;refine stop _ _ (by k_in) (by k_in) ?_ rfl;simp[hit];simp at h;exact A66 h
   ·w_up;refine next _ (by k_in) (by k_in) (by k_in) ?_
    simp[hit];simp at h;exact A67 h
  ·have h0:idx≠0:=by simp at h;lia
   w_up;refine⟨fun h=>?_,fun h=>?_⟩
   ·rw[Jh] at h;w_up;refine Ng (by k_in) hl ?_;w_up;refine⟨_,_,rfl,hl,by exact zl5 hacc,?_⟩;w_up;refine stop _ _ (by k_in) (by k_in) ?_ rfl;simp[hit,h0];simp at h;exact A66 h
   ·rw[Jh] at h;w_up;refine next _ (by k_in) (by k_in) (by k_in) ?_
    simp[hit,h0];simp at h;exact A67 h
def L2(m:Nat):Nat->List (List (Nat × Nat))->List Nat
 | _,[]=>[]
 | i,r::rs=>U1 i m r::L2 m (i+1) rs
abbrev fmO(T:GT):Aj->P (Fl × Aj):=(Ag (Ko T 4000 (Ac "table") (fmT T) (fmB T) (fmE T)) Ap)
theorem A5g{A m kp:Nat}{vs:List MV}{H0:Hp}{K:Fl->Aj->Hp->Prop}(hA:T0.tup A=some vs)(hk:H0.length<=kp):∀(rest:List (List (Nat × Nat))) (i n:Nat) (ρ:Aj) (H:Hp) (acc:List Nat),
  All2 (A9r T0) (vs.drop i) rest->i<=vs.length->(∀r∈rest,r.length<4000)->rest.length<n->acc.length+rest.length<1000->ρ "mode"=some (.int m)->ρ "perm"=some (.ref kp)->H0<+:H->H[kp]?=some (.list (acc.map fun c=>sl [c]))->
  (∀ρ' H',ρ' "perm"=some (.ref kp)->H0<+:H'->H'[kp]?=some (.list ((acc++L2 m i rest).map fun c=>sl [c]))->K .next ρ' H')->
  WS (Gg (Td T0 (.val (.ref A)) vs.length) (Js T0 2 (Cj (A2 "index") (Cj (A2 "table") Jr))) (fmO T0) Ap n i) ρ H K:=by
 intro rest__
 induction rest__ with
 | nil=>
  intro i n ρ H acc ha hi hr hn hc h2 h3 hp hl hK;obtain⟨n,rfl⟩:=Bv hn;have hi':vs[i]?=none:=by
   have:=ha.length;simp at this;rw[List.getElem?_eq_none_iff];exact A65 this
  refine Jo (show Td T0 (.val (.ref A)) vs.length i H=some (none,H) from ?_) ?_
  ·unfold Td;rw[show D0 T0 H (.val (.ref A))=some vs from hA];simp only[Option.bind_some];rw[if_pos ⟨trivial,hi⟩,hi']
  ·w_up;exact hK _ _ h3 hp (by simpa [L2] using hl)
 | cons row rest ih=>
  intro i n ρ H acc ha hi hr hn hc h2 h3 hp hl hK;obtain⟨n,rfl⟩:=Bv hn
  generalize hd:vs.drop i=d at ha
  cases ha with
  | @cons v _ d' _ hv ht=>
  have hi':vs[i]?=some v:=by
   have:=congrArg (·[0]?) hd;simpa using this
  have hd':vs.drop (i+1)=d':=by
   rw[<- List.tail_drop,hd];rfl
  have hlt:i<vs.length:=by rw[List.getElem?_eq_some_iff] at hi';exact hi'.1
  kcf_m;obtain⟨b,ps,rfl,hb0,hb,hps⟩:=hv;refine hGx ?_;refine Ff (show Td T0 (.val (.ref A)) vs.length i H=some (some (.ref H.length),H++[.tup [.int i,.val (.ref b)]]) from ?_) ?_
  ·unfold Td;rw[show D0 T0 H (.val (.ref A))=some vs from hA];simp only[Option.bind_some];rw[if_pos ⟨trivial,hi⟩,hi']
  ·refine Qa (Bw Au) rfl ?_;w_up;refine⟨_,B5f (xs:=ps) hb (fun zz h=>by cases h;exact hb0),?_⟩;refine Tv (H0:=H0) (idx:=i) (m:=m) (kp:=kp) (acc:=acc.map fun c=>sl [c]) hb (by simp at hc ⊢;exact B6v hc) hk row 0 4000 _ _ (by simpa using hps) (hr _ (.head _)) (by k_in) (by k_in) (by k_in) (hp.trans pre_app) (Ah pre_app hl) fun ρ' H' w1 w2 w3 w4=>?_;w_up;refine ih (i+1) n ρ' H' (acc++[U1 i m row]) (by rw[hd'];exact ht) (by assumption) (fun r h=>hr r (.tail _ h)) (by simp at hn;lia) (by simp at hc ⊢;exact B6w hc) w1 w2 w3 (by rw[w4];simp) fun ρ'' H'' z1 z2 z3=>?_;exact hK _ _ z1 z2 (by rw[z3];simp[L2])
theorem D06:pC (.str "?")=pC (sl [63]):=lit (by kd_p)
theorem A5h:pC (.str "-")=pC (sl [45]):=lit (by kd_p)
theorem L_e:pC (.str "")=pC (sl []):=lit (by kd_p)
theorem R2(W:Tp T0){m:Nat}:Wp (Hs T0 [.int m]) H fun r H'=>H<+:H'∧r=sl (L2 m 0 Pj):=by
 kcf_m;obtain⟨vs,w0,w1,w2⟩:=W.fmt;refine hGx ?_;unfold Hs;simp only[D06,A5h,L_e];refine Dg rfl ?_;dsimp only[Ci];w_up;refine⟨Td T0 (.val (.ref 219)) vs.length,_,(show Te T0 (.val (.ref 219)) _=_ by unfold Te;rw[show D0 T0 _ (.val (.ref 219))=some vs from w1];rfl),?_⟩;refine A5g (H0:=H) (m:=m) (kp:=H.length) w1 (Nat.le_refl _) Pj 0 4000 _ _ [] (by simpa using w2) (Nat.zero_le _) (by decide) (by decide) (by decide) (by k_in) (by k_in) pre_app Au fun ρ' H' z1 z2 z3=>?_;w_up;refine Gp (wC ⟨rfl,?_⟩);w_up;refine L1 (ls:=(L2 m 0 Pj).map fun c=>[c]) (Aq (by rw[z3];simp)) (by simp[L2,Pj]) ?_;w_up;refine⟨z2,?_⟩
 congr 2
theorem Q0(m k:Nat):m&&& 2 ^ k=(m/2 ^ k%2)*2 ^ k:=by
 have hb:=Nat.testBit_eq_decide_div_mod_eq (x:=m) (i:=k);apply Nat.eq_of_testBit_eq;intro i;rw[Nat.testBit_and,Nat.testBit_two_pow];obtain h|h:m/2 ^ k%2=0∨m/2 ^ k%2=1:=by exact A6t
 ·rw[h] at hb ⊢;by_cases e:k=i
  ·subst e;simp[hb]
  ·simp[e]
 ·rw[h] at hb ⊢;rw[Nat.one_mul,Nat.testBit_two_pow];by_cases e:k=i
  ·subst e;simp[hb]
  ·simp[e]
theorem R3{m:Nat}(h:m<65536):m&&& 61440=m/4096*4096:=by
 apply Nat.eq_of_testBit_eq;intro i;rw[Nat.testBit_and,show m/4096*4096=(m/2 ^ 12)*2 ^ 12 from rfl,Nat.testBit_mul_two_pow,Nat.testBit_div_two_pow];by_cases h1:12<=i
 ·by_cases h2:i<16
  ·have:i=12∨i=13∨i=14∨i=15:=by exact B9b h1 h2
   rcases this with rfl|rfl|rfl|rfl <;> simp <;> intro _ <;> decide
  ·have:m.testBit i=false:=Nat.testBit_lt_two_pow (Nat.lt_of_lt_of_le h (show 2 ^ 16<=2 ^ i from Nat.pow_le_pow_right A6w (B9c h2)));simp[this,show i-12+12=i by exact B9d h2]
 ·have:(61440:Nat).testBit i=false:=by
   have:i=0∨i=1∨i=2∨i=3∨i=4∨i=5∨i=6∨i=7∨i=8∨i=9∨i=10∨i=11:=by exact B9e h1
   rcases this with rfl|rfl|rfl|rfl|rfl|rfl|rfl|rfl|rfl|rfl|rfl|rfl <;> decide
  simp[this,h1]
theorem fm0{m:Nat}(h:m<65536):U1 0 m [(40960,108),(49152,115),(32768,45),(24576,98),(16384,100),(8192,99),(4096,112)]=kc m:=by
 unfold U1 hit kc;simp only[if_true,R3 h];have:∀q,q<16->(match List.find? (fun p:Nat × Nat=>q*4096==p.1) [(40960,108),(49152,115),(32768,45),(24576,98),(16384,100),(8192,99),(4096,112)] with|some p=>p.2|none=>63)=kch.getD q 0:=by decide
 exact this _ (A6v h)
theorem fm1{m i c k b:Nat}(hi:i≠0)(hb:b=2 ^ k):U1 i m [(b,c)]=pk 45 c (m/b%2):=by
 subst hb;unfold U1 hit pk;simp only[hi,if_false];have p:0<2 ^ k:=Nat.two_pow_pos k;obtain h|h:m/2 ^ k%2=0∨m/2 ^ k%2=1:=by exact A6t
 ·have:¬(0=2 ^ k):=by exact A98 p
  simp[h,Q0,this]
 ·simp[h,Q0]
theorem fm3{m i a b c k j x y:Nat}(hi:i≠0)(hx:x=2 ^ k)(hy:y=2 ^ j)(hj:k<j):U1 i m [(y|||x,a),(y,b),(x,c)]=U0 45 c b a (m/y%2) (m/x%2):=by
 subst hx hy;unfold U1 hit U0 pk;simp only[hi,if_false];have p:0<2 ^ k:=Nat.two_pow_pos k;have q:0<2 ^ j:=Nat.two_pow_pos j;have n:¬(2 ^ k=2 ^ j):=by have:=Nat.pow_lt_pow_right (a:=2) A99 hj;exact B9f this
 have z1:¬(0=2 ^ k):=by exact A98 p
 have z2:¬(0=2 ^ j):=by exact A98 q
 have z3:¬(0=2 ^ j||| 2 ^ k):=by
  intro e;have:=congrArg (Nat.testBit · j) e;simp at this
 have z4:¬(2 ^ j=2 ^ j||| 2 ^ k):=by
  intro e;have:=congrArg (Nat.testBit · k) e;simp[Nat.testBit_two_pow] at this;exact B9g hj this
 have z5:¬(2 ^ k=2 ^ j||| 2 ^ k):=by
  intro e;have:=congrArg (Nat.testBit · j) e;simp[Nat.testBit_two_pow] at this;exact B9h hj this
 obtain h|h:m/2 ^ k%2=0∨m/2 ^ k%2=1:=by exact A6t
 all_goals obtain h'|h':m/2 ^ j%2=0∨m/2 ^ j%2=1:=by exact A6t
 ·simp[Nat.and_or_distrib_left,Q0,h,h',z1,z2,z3]
 ·simp[Nat.and_or_distrib_left,Q0,h,h',z1,z2,z4]
 ·simp[Nat.and_or_distrib_left,Q0,h,h',z1,z2,z5]
 ·simp[Nat.and_or_distrib_left,Q0,h,h']
theorem A0a{m:Nat}(h:m<65536):L2 m 0 Pj=Eb m:=by
 simp only[Pj,L2,Eb];rw[fm0 h,fm1 (k:=8) (by decide) rfl,fm1 (k:=7) (by decide) rfl,fm1 (k:=5) (by decide) rfl,fm1 (k:=4) (by decide) rfl,fm1 (k:=2) (by decide) rfl,fm1 (k:=1) (by decide) rfl];have e1:=fm3 (m:=m) (i:=3) (a:=115) (b:=83) (c:=120) (k:=6) (j:=11) (x:=64) (y:=2048) (by decide) rfl rfl (by decide);have e2:=fm3 (m:=m) (i:=6) (a:=115) (b:=83) (c:=120) (k:=3) (j:=10) (x:=8) (y:=1024) (by decide) rfl rfl (by decide);have e3:=fm3 (m:=m) (i:=9) (a:=116) (b:=84) (c:=120) (k:=0) (j:=9) (x:=1) (y:=512) (by decide) rfl rfl (by decide);rw[show (2048||| 64:Nat)=2112 by decide] at e1;rw[show (1024||| 8:Nat)=1032 by decide] at e2;rw[show (512||| 1:Nat)=513 by decide,Nat.div_one] at e3;simp only[e1,e2,e3]
theorem Tw(W:Tp T0){m:Nat}(h:m<65536):Wp (Hs T0 [.int m]) H fun r H'=>H<+:H'∧r=sl (Eb m):=by
 rw[<- A0a h];exact R2 W
theorem A5i{m:Nat}:m&&& 4095=m%4096:=Nat.and_two_pow_sub_one_eq_mod m 12
end
section
variable {H:Hp}
theorem Ty(W:Tp T0){c:Nat}(h:c<256):Wp (L0 T0 [sl [c]]) H fun r H'=>H'=H∧r=sl (Fv c):=by
 unfold L0;refine Dg rfl ?_;dsimp only[Ci];w_up;refine Bl (v:=.val (.ref 39)) (i:=c) W.qm (by simp[h];rfl) (by unfold lim;exact B9i h) ?_;w_up;exact⟨rfl,rfl⟩
theorem D3w:pC (.str "p")=pC (sl [112]):=lit (by kd_p)
theorem D3x:pC (.str "c")=pC (sl [99]):=lit (by kd_p)
theorem D3y:pC (.str "d")=pC (sl [100]):=lit (by kd_p)
theorem D3z:pC (.str "b")=pC (sl [98]):=lit (by kd_p)
theorem D30:pC (.str "l")=pC (sl [108]):=lit (by kd_p)
theorem D31:pC (.str "s")=pC (sl [115]):=lit (by kd_p)
inductive AskOk(T:GT)(m:Nat)(H:Hp)(v:MV):Prop
 | mk (s:Nat) (a:Addr) (f:List MV->P MV) (c:Nat) (e:D0 T H v=some [sl [s],.val (.ref a)]) (n:∀a',v≠.val (.ref a')) (t:F8 T (.ref a)=some f) (w:∀H,Wp (f [.int m]) H fun r H'=>H'=H∧r=.bool ((((m&&& 61440:Nat):Int))==c)) (q:((((m&&& 61440:Nat):Int))==c)=(kc m==s))
theorem AskOk.pre{m:Nat}{H H':Hp}(p:H<+:H'){v:MV}(h:AskOk T0 m H v):AskOk T0 m H' v:=by
 kcf_m;obtain⟨s,a,f,c,h1,h2,h3,h4,h5⟩:=h;refine hGx ?_;exact⟨s,a,f,c,A7q p h1,h2,h3,h4,h5⟩
theorem Lc{m:Nat}(h:m<65536){c s:Nat}(q:∀q,q<16->(q*4096==c)=(kch.getD q 0==s)):((((m&&& 61440:Nat):Int))==(c:Int))=(kc m==s):=by
 have:=q (m/4096) (A6v h);unfold kc;rw[<- this,R3 h,Bool.eq_iff_iff,beq_iff_eq,beq_iff_eq];exact B9j
theorem D07{tab:Value->Option (List MV->P MV)}{v:Value}{f:List MV->P MV}{ms:List MV}{Q:MV->Hp->Prop}(e:tab v=some f)(h:Wp (f ms) H Q):Wp (It tab (.val v) ms) H Q:=by
 kcf_m;obtain⟨b,H',q,z⟩:=h;refine hGx ?_;exact⟨b,H',by simp only[It,e];exact q,z⟩
theorem Nx{a b:Bool}{Q:MV->Hp->Prop}(h:Q (.bool (!(a==b))) H):Wp (En (.bool a) (.bool b)) H Q:=⟨_,_,rfl,h⟩
theorem Ji{α β:Type}:∀l:List α,l.filterMap (fun zz=>(none:Option β))=[]
 | []=>rfl
 | _::l=>by rw[List.filterMap_cons];exact Ji l
theorem A5j(W:Tp T0){m:Nat}(h:m<65536):Wp (Hd T0 [.int m,sl (Eb m)]) H fun r H'=>H<+:H'∧r=.bool true:=by
 unfold Hd;simp only[D3w,D3x,D3y,D3z,A5h,D30,D31];refine Dg rfl ?_;dsimp only[Ci];w_up;refine Ip (fun zz=>none) (fun ρ=>ρ "mode"=some (.int m)∧ρ "listed"=some (sl (Eb m))) ?_;w_up;refine⟨_,_,Dd (Aq Au),fun H' p=>Ch (Ei p (Aq Au)),by simp,by simp,⟨by k_in,by k_in⟩,?_,?_⟩
 ·intro v hv ρ H' ⟨hI1,hI2⟩ hp;have ok:AskOk T0 m H' v:=by
   refine AskOk.pre hp ?_;simp only[List.mem_cons,List.not_mem_nil,or_false] at hv;rcases hv with rfl|rfl|rfl|rfl|rfl|rfl|rfl
   ·exact⟨112,_,_,(4096:Nat),Bw (by with_reducible repeat first |exact Au|refine Ah pre_app ?_),(fun zz h=>nomatch h),rfl,(fun H=>Tt),Lc h (by decide)⟩
   ·exact⟨99,_,_,(8192:Nat),Bw (by with_reducible repeat first |exact Au|refine Ah pre_app ?_),(fun zz h=>nomatch h),rfl,(fun H=>Ws),Lc h (by decide)⟩
   ·exact⟨100,_,_,(16384:Nat),Bw (by with_reducible repeat first |exact Au|refine Ah pre_app ?_),(fun zz h=>nomatch h),rfl,(fun H=>Wt),Lc h (by decide)⟩
   ·exact⟨98,_,_,(24576:Nat),Bw (by with_reducible repeat first |exact Au|refine Ah pre_app ?_),(fun zz h=>nomatch h),rfl,(fun H=>Wr),Lc h (by decide)⟩
   ·exact⟨45,_,_,(32768:Nat),Bw (by with_reducible repeat first |exact Au|refine Ah pre_app ?_),(fun zz h=>nomatch h),rfl,(fun H=>Wv),Lc h (by decide)⟩
   ·exact⟨108,_,_,(40960:Nat),Bw (by with_reducible repeat first |exact Au|refine Ah pre_app ?_),(fun zz h=>nomatch h),rfl,(fun H=>Wu),Lc h (by decide)⟩
   ·exact⟨115,_,_,(49152:Nat),Bw (by with_reducible repeat first |exact Au|refine Ah pre_app ?_),(fun zz h=>nomatch h),rfl,(fun H=>Tu),Lc h (by decide)⟩
  kcf_m;obtain⟨s,a,f,c,h1,h0,h2,h3,h4⟩:=ok;refine hGx ?_;refine Qa h1 rfl ?_;w_up;refine⟨rfl,⟨by k_in,by k_in⟩,?_⟩;w_up;refine D07 h2 (Wp.mono (h3 _) ?_);rintro _ _ ⟨rfl,rfl⟩;w_up;refine Cs (i:=0) (c:=kc m) rfl (by decide) ?_;w_up;refine Nx ?_;w_up;have e:([kc m]==[s])=(kc m==s):=by simp
  rw[e,h4];clear hp hv;exact⟨List.prefix_rfl,fun h=>absurd h (by simp),fun zz=>rfl⟩
 ·intro HP p l;refine trL (Aq l) (by simp) ?_;rw[show (List.filterMap (fun zz:MV=>(none:Option MV)) _)=[] from Ji _];w_up;refine Wp.at Ey ?_;w_up;have e:(((m&&& 61440:Nat):Int)==(m:Int)/4096*4096)=true:=by rw[R3 h];simp
  rw[e];w_up;refine Wp.at Wq ?_;w_up;have e:(((m&&& 4095:Nat):Int)==(m:Int)%4096)=true:=by rw[A5i];simp
  rw[e];refine⟨?_,rfl⟩;refine List.IsPrefix.trans ?_ p;simp[List.append_assoc]
end
abbrev cq:Array Nat:=Dr
theorem A0b{c:Nat}(h:c∈hexs)(s:Sre.Seen):∃s',Sre.inSet cq c 29 17 true s=.ok (true,s'):=by
 refine⟨s.add 9,?_⟩;simp only[hexs,List.mem_cons,List.not_mem_nil,or_false] at h;rcases h with rfl|rfl|rfl|rfl|rfl|rfl|rfl|rfl|rfl|rfl|rfl|rfl|rfl|rfl|rfl|rfl <;> rfl
theorem Yr{c:Nat}(h:c∈hexs)(s:Sre.Seen):∃s',Sre.accepts cq 15 c s=.ok (true,s'):=A0b h s
theorem A7y{x:Array Nat}{p:Nat}(h1:x.getD p 0∈hexs)(h2:x.getD (p+1) 0∈hexs)(s:Sre.Seen):∃s',Sre.run cq x 15 2 p 0 s=.ok (2,s'):=by
 obtain⟨s1,e1⟩:=Yr h1 s;obtain⟨s2,e2⟩:=Yr h2 s1;refine⟨s2,?_⟩;unfold Sre.run;rw[e1];have:Sre.run cq x 15 1 (p+1) (0+1) s1=.ok (2,s2):=by
  unfold Sre.run;rw[e2];rfl
 exact this
def mq(x:Array Nat)(d pc pos handed:Nat)(fr:List Sre.Frame)(wt:Nat)(ans:Option Bool)(seen:Sre.Seen)(out:Option Sre.Outcome):Sre.M:=
 {code:=cq,text:=x,lim:=x.size,start:=d,lastStart:=x.size,pc,pos,handed,marks:=#[],frames:=fr,weight:=wt,answer:=ans,seen,outcome:=out}
noncomputable def fr0(d:Nat):Sre.Frame:={wait:=.nextStart,pc:=9,pos:=d,outermost:=true}
noncomputable def fr1(d:Nat):Sre.Frame:={wait:=.giveBack,pc:=11,pos:=d+3,outermost:=true,count:=2}
section
variable {x:Array Nat} {d:Nat}
theorem q0(hs:d+3<=x.size):∃s,Sre.forSearch cq x 0 d x.size false=mq x d 9 d d [fr0 d] 1 none s none:=by
 refine⟨({}:Sre.Seen).add 14,?_⟩;unfold Sre.forSearch;have:(decide (d>x.size)||decide (x.size-d<(Sre.header cq).1))=false:=by
  show (decide (d>x.size)||decide (x.size-d<3))=false;simp;exact B9k hs
 simp only[this];rfl
theorem q1(hs:d+3<=x.size)(h0:x.getD d 0=61)(s:Sre.Seen):∃s',(mq x d 9 d d [fr0 d] 1 none s none).step=mq x d 11 (d+1) d [fr0 d] 1 none s' none:=by
 refine⟨s.add 16,?_⟩;show (if d≥x.size then _ else _)=_;rw[if_neg (by exact B9l hs)];show (match Sre.accepts cq 9 (x.getD d 0) (s.add 16) with | .error why=>_ | .ok (false,seen)=>_ | .ok (true,seen)=>_)=_;rw[h0];rfl
theorem q2(hs:d+3<=x.size)(h1:x.getD (d+1) 0∈hexs)(h2:x.getD (d+2) 0∈hexs)(s:Sre.Seen):∃s',(mq x d 11 (d+1) d [fr0 d] 1 none s none).step=mq x d 28 (d+3) (d+3) [fr1 d,fr0 d] 2 none s' none:=by
 obtain⟨s',e⟩:=A7y (p:=d+1) h1 h2 ((s.add 24).add 13);refine⟨s',?_⟩;show (if ((2:Nat):Int)>(x.size:Int)-((d+1:Nat):Int) then _ else _)=_;rw[if_neg (by exact B9m hs)];show (match Sre.run cq x 15 (min 2 ((x.size:Int)-((d+1:Nat):Int)).toNat) (d+1) 0 ((s.add 24).add 13) with | .error why=>_ | .ok (n,seen)=>_)=_;rw[show min 2 ((x.size:Int)-((d+1:Nat):Int)).toNat=2 by exact B9n hs,e];rfl
theorem q3(s:Sre.Seen):∃s',(mq x d 28 (d+3) (d+3) [fr1 d,fr0 d] 2 none s none).step=mq x d 28 (d+3) (d+3) [fr1 d,fr0 d] 2 (some true) s' none:=⟨_,rfl⟩
theorem q4(s:Sre.Seen):∃s',(mq x d 28 (d+3) (d+3) [fr1 d,fr0 d] 2 (some true) s none).step=mq x d 11 (d+3) (d+3) [fr0 d] 1 (some true) s' none:=⟨_,rfl⟩
theorem q5(s:Sre.Seen):∃s',(mq x d 11 (d+3) (d+3) [fr0 d] 1 (some true) s none).step=mq x d 9 d (d+3) [] 0 (some true) s' none:=⟨_,rfl⟩
theorem q6(s:Sre.Seen):∃s',(mq x d 9 d (d+3) [] 0 (some true) s none).step=mq x d 9 d (d+3) [] 0 (some true) s' (some .matched):=⟨_,rfl⟩
theorem A0d{m:Sre.M}{n:Nat}(h:m.outcome=none):m.runFor (n+1)=m.step.runFor n:=by
 rw[show m.runFor (n+1)=(if m.outcome.isSome=true then m else m.step.runFor n) from rfl,h];rfl
theorem A0e(hs:d+3<=x.size)(h0:x.getD d 0=61)(h1:x.getD (d+1) 0∈hexs)(h2:x.getD (d+2) 0∈hexs):∃m,G7 cq x 0 d false=some (some m)∧m.start=d∧m.handed=d+3:=by
 obtain⟨s0,e0⟩:=q0 hs;obtain⟨s1,e1⟩:=q1 hs h0 s0;obtain⟨s2,e2⟩:=q2 hs h1 h2 s1;obtain⟨s3,e3⟩:=q3 (x:=x) (d:=d) s2;obtain⟨s4,e4⟩:=q4 (x:=x) (d:=d) s3;obtain⟨s5,e5⟩:=q5 (x:=x) (d:=d) s4;obtain⟨s6,e6⟩:=q6 (x:=x) (d:=d) s5;have r1:(mq x d 9 d d [fr0 d] 1 none s0 none).runFor 4=mq x d 11 (d+3) (d+3) [fr0 d] 1 (some true) s4 none:=by
  rw[A0d rfl,e1,A0d rfl,e2,A0d rfl,e3,A0d rfl,e4];rfl
 have r2:(mq x d 11 (d+3) (d+3) [fr0 d] 1 (some true) s4 none).runFor 4=mq x d 9 d (d+3) [] 0 (some true) s6 (some .matched):=by
  rw[A0d rfl,e5,A0d rfl,e6];rfl
 refine⟨mq x d 9 d (d+3) [] 0 (some true) s6 (some .matched),?_,rfl,rfl⟩;unfold G7;rw[e0];have g1:∀(k:Nat) (m m':Sre.M),m.runFor 4=m'->m'.outcome=none->P7 (k+1) m=P7 k m':=fun k m m' e h=>by
  show (if (m.runFor 4).outcome.isSome then some (m.runFor 4) else P7 k (m.runFor 4))=_;rw[e,h];rfl
 have g2:∀(k:Nat) (m m':Sre.M),m.runFor 4=m'->m'.outcome.isSome=true->P7 (k+1) m=some m':=fun k m m' e h=>by
  show (if (m.runFor 4).outcome.isSome then some (m.runFor 4) else P7 k (m.runFor 4))=_;rw[e,if_pos h]
 rw[g1 63 _ _ r1 rfl,g2 62 _ _ r2 rfl];rfl
theorem A0f:G7 cq x 0 x.size false=some none:=by
 unfold G7;have:∃m:Sre.M,Sre.forSearch cq x 0 x.size x.size false={m with answer:=some false,frames:=[],outcome:=none}:=by
  unfold Sre.forSearch;have:(decide (x.size>x.size)||decide (x.size-x.size<(Sre.header cq).1))=true:=by
   show (decide (x.size>x.size)||decide (x.size-x.size<3))=true;simp
  simp only[this];exact⟨_,rfl⟩
 obtain⟨m,e⟩:=this;rw[e];rfl
end
theorem Tz{l:List Nat}{c:Nat}(h:c ∉ l):J3 ⟨l.toArray⟩ ⟨[c].toArray⟩=true:=by
 unfold J3;cases q:Builtin.Str.occurrences ⟨l.toArray⟩ ⟨[c].toArray⟩ 0 (⟨l.toArray⟩:Str).length ((⟨l.toArray⟩:Str).length+1) with
 | nil=>rfl
 | cons i r=>
  exfalso
  have:=StrLaws.occ_spec _ _ _ _ _ i (by rw[q];exact .head _);have:=(StrLaws.subAt_one ⟨l.toArray⟩ c i).mp this;exact h (List.mem_of_getElem? (by simpa using this))
theorem A5k(d:List Nat):(d.map fun zz=>1).sum=d.length:=by
 induction d with
 | nil=>rfl
 | cons a d ih=>rw[List.map_cons,List.sum_cons,ih,List.length_cons];exact B6x
theorem Km{α:Type}(d:List α):(d.map fun c=>[c]).flatten=d:=by
 induction d with
 | nil=>rfl
 | cons a d ih=>rw[List.map_cons,List.flatten_cons,ih];rfl
theorem L3{n:Nat}(h:n<16):I2 n∈hexs:=by
 have:∀n,n<16->I2 n∈hexs:=by decide
 exact this n h
theorem Nh{n:Nat}(h:n<16):Gv (I2 n)=n:=by
 have:∀n,n<16->Gv (I2 n)=n:=by decide
 exact this n h
section
variable {H:Hp}
theorem A9t{l:List Nat}{c d:Nat}{y z:Str}{Q:MV->Hp->Prop}(ey:y=⟨[c].toArray⟩)(h:c ∉ l)(q:Q (sl l) H):Wp (Qy (sl l) (.str y) (.str z)) H Q:=⟨_,_,by
 simp only[Qy,Lo,Option.bind,ey,Tz h,if_true],q⟩
theorem B5p{a b:Nat}{Q:MV->Hp->Prop}(ha:a∈hexs)(hb:b∈hexs)(q:Q (.int ((16*Gv a+Gv b:Nat):Int)) H):Wp (Vy (sl [a,b]) (.int 16)) H Q:=⟨_,_,by
 show (if (16:Int)=16 then Option.map _ (if a∈hexs∧b∈hexs then some _ else none) else none)=_;rw[if_pos rfl,if_pos ⟨ha,hb⟩];rfl,q⟩
theorem Ww{c:Nat}(h:c<256):Wp (Kj T0 [sl (Fv c)]) H fun r H'=>H'=H∧r=sl [c]:=by
 unfold Kj;refine Dg rfl ?_;dsimp only[Ci];w_up;refine B2 (by simp[Fv]) ?_;rw[show I4 (some (1:Int)) (some (3:Int)) (Fv c)=[I2 (c/16),I2 (c%16)] from rfl];w_up;refine B5p (L3 (zl1 h)) (L3 zl2) ?_;rw[Nh (zl1 h),Nh zl2,show 16*(c/16)+c%16=c by exact B9o];w_up;refine B5e (B6y h) ?_;w_up;exact⟨rfl,rfl⟩
theorem A0g{x:Str}{j k b:Nat}{c:Nat}(h:c<256)(hj:H[j]?=some (.mtch x k))(hk:H[k]?=some (.tup [.int (Int.ofNat b),.int (Int.ofNat (b+3))]))(hx:x.cps.extract b (b+3)=(Fv c).toArray)(hl:x.length<=16777216):
  Wp (D5 T0 [.ref j]) H fun r H'=>H'=H∧r=sl [c]:=by
 unfold D5;refine Dg rfl ?_;dsimp only[Ci];w_up;refine Gp (B0 (by k_in) ⟨by show (Option.bind _ ofM).isSome=true;rw[hj];rfl,?_⟩);w_up;refine⟨sl (Fv c),H,by show ((Option.bind _ ofM).bind _)=_;rw[hj];show ((Option.bind (Option.bind H[k]? ofT) A4w).bind _)=_;rw[hk];show (if _ then _ else none)=_;rw[if_pos ⟨rfl,hl⟩];show some (MV.str ⟨x.cps.extract b (b+3)⟩,H)=_;rw[hx],?_⟩;w_up;refine Wp.at (Ww h) ?_;w_up;exact⟨rfl,rfl⟩
theorem Kc:∀l:List Nat,(l.flatMap Fv).length=3*l.length
 | []=>rfl
 | a::l=>by rw[List.flatMap_cons,List.length_append,Kc l];simp[Fv];exact B9p
theorem D08{done rest:List Nat}{c j:Nat}(hj:j<3):((done++c::rest).flatMap Fv)[3*done.length+j]?=(Fv c)[j]?:=by
 rw[List.flatMap_append,List.flatMap_cons,List.getElem?_append_right (by rw[Kc];exact B9q),Kc,show 3*done.length+j-3*done.length=j by exact B9r,List.getElem?_append_left (by simpa [Fv] using hj)]
theorem A5l{l:List Nat}(hsz:l.length<=16777216):∀(rest done:List Nat) (n:Nat) (H:Hp),l=(done++rest).flatMap Fv->(∀c∈rest,c<256)->done++rest≠[]->rest.length<n->(done++rest).length<=1000->
  Wp (J7 cq ⟨l.toArray⟩ (D5 T0) n (3*done.length) (done.map fun c=>⟨[c].toArray⟩)) H fun r H'=>H<+:H'∧r=sl (done++rest):=by
 intro rest__
 induction rest__ with
 | nil=>
  intro done n H hl hc hne hn hs;obtain⟨n,rfl⟩:=Bv hn;rw[List.append_nil] at *;have e:(⟨l.toArray⟩:Str).cps.size=3*done.length:=by show l.toArray.size=_;rw[List.size_toArray,hl,Kc]
  refine⟨sl done,H,?_,List.prefix_rfl,rfl⟩;have f:=A0f (x:=(⟨l.toArray⟩:Str).cps);rw[e] at f;show Option.bind (G7 cq _ 0 _ false) _=_;rw[f];show (if _ then _ else none)=_;have s1:(done.map fun c=>(⟨[c].toArray⟩:Str)).map (·.length)=done.map fun zz=>1:=by simp[Str.length]
  have s2:=A5k;rw[if_pos ⟨by rw[e],by simpa using hne,by rw[s1,s2];exact Ks hs,by simp;exact Ks hs⟩];have:(⟨l.toArray.extract 0 0⟩:Str)=⟨([]:List Nat).toArray⟩:=by congr 1;simp
  have j:=R0 (sep:=[]) (ls:=done.map fun c=>[c]);rw[List.map_map,Wo] at j;have fl:=Km done;rw[fl] at j;show some (MV.str (Txt.join ⟨l.toArray.extract 0 0⟩ _),H)=_;rw[this];exact congrArg (fun s=>some (MV.str s,H)) j
 | cons c rest ih=>
  intro done n H hl hc hne hn hs;obtain⟨n,rfl⟩:=Bv hn;have c256:=hc c (.head _);have ll:l.length=3*(done.length+(rest.length+1)):=by rw[hl,Kc];simp
  have at_:∀j,j<3->(⟨l.toArray⟩:Str).cps.getD (3*done.length+j) 0=(Fv c).getD j 0:=fun j hj=>by
   show l.toArray.getD _ 0=_;have:=D08 (done:=done) (rest:=rest) (c:=c) hj;rw[<- hl] at this;rw[List.getD_eq_getElem?_getD,<- this];simp[Array.getD_eq_getD_getElem?]
  have h0:(⟨l.toArray⟩:Str).cps.getD (3*done.length) 0=61:=at_ 0 B6z
  have h1:(⟨l.toArray⟩:Str).cps.getD (3*done.length+1) 0∈hexs:=by rw[at_ 1 B60];exact L3 (zl1 c256)
  have h2:(⟨l.toArray⟩:Str).cps.getD (3*done.length+2) 0∈hexs:=by rw[at_ 2 B61];exact L3 zl2
  obtain⟨m,f,hst,hha⟩:=A0e (x:=(⟨l.toArray⟩:Str).cps) (d:=3*done.length) (by show _<=l.toArray.size;simp;exact B9s ll) h0 h1 h2;have ex:(⟨l.toArray⟩:Str).cps.extract (3*done.length) (3*done.length+3)=(Fv c).toArray:=by
   show l.toArray.extract _ _=_;rw[List.extract_toArray]
   congr 1
   rw[hl,List.flatMap_append,List.flatMap_cons];rw[List.extract,List.drop_append,Kc,List.drop_of_length_le (by rw[Kc];exact B9t)];rw[show 3*done.length+3-3*done.length=3 by exact B9u,show 3*done.length-3*done.length=0 by exact B9v];rfl
  have hd:3*(done++[c]).length=3*done.length+3:=by simp;exact B9w
  have step:=ih (done++[c]) n ((H++[.tup [.int (Int.ofNat m.start),.int (Int.ofNat m.handed)]])++[.mtch ⟨l.toArray⟩ H.length]) (by rw[hl];simp) (fun a h=>hc a (.tail _ h)) (by simp) (by simp at hn;lia) (by simpa using hs);kcf_m;obtain⟨r,H',e,p,rfl⟩:=step;refine hGx ?_;refine⟨sl (done++[c]++rest),H',?_,(List.prefix_append _ _).trans ((List.prefix_append _ _).trans p),by simp⟩;show Option.bind (G7 cq _ 0 _ false) _=_;rw[f];show (if _ then _ else none)=_;rw[if_pos ⟨hst,by rw[hst,hha];simp,by simp at hs ⊢;exact B9x hs⟩];have um:=A0g (H:=(H++[.tup [.int (Int.ofNat m.start),.int (Int.ofNat m.handed)]])++[.mtch ⟨l.toArray⟩ H.length]) (x:=⟨l.toArray⟩) (j:=H.length+1) (k:=H.length) (b:=3*done.length) (c:=c) c256
   (by simp) (by rw[hst,hha];simp) ex (by rw[Dy];exact hsz)
  kcf_m;obtain⟨b,H₁,eO,rfl,rfl⟩:=um;refine hGx ?_;unfold B9;rw[eO];show J7 _ _ _ _ _ _ _=_;have hh:m.handed=3*(done++[c]).length:=by rw[hha,hd]
  rw[hh] at e ⊢;rw[List.map_append] at e;exact e
theorem D32:pC (.str "_")=pC (sl [95]):=lit (by kd_p)
theorem D33:pC (.str " ")=pC (sl [32]):=lit (by kd_p)
theorem A0h{cs:List Nat}(h:∀c∈cs,c<256)(hne:cs≠[])(hl:cs.length<100):Wp (Fo T0 [sl (cs.flatMap Fv)]) H fun r H'=>H<+:H'∧r=sl cs:=by
 unfold Fo;simp only[D32,D33];refine Dg rfl ?_;dsimp only[Ci];w_up;refine Gp (B0 (by k_in) ⟨rfl,?_⟩);w_up;refine A9t (c:=95) (d:=0) rfl ?_ ?_
 ·intro q;obtain⟨c,hc,q⟩:=List.mem_flatMap.mp q;have:∀n,n<16->I2 n≠95:=by decide
  have hc:=h c hc;have a1:=this (c/16) (zl1 hc);have a2:=this (c%16) zl2;simp[Fv] at q;exact B9y a1 a2 q
 w_up;have sz:(cs.flatMap Fv).length<=16777216:=by rw[Kc];exact B9z hl
 have:=A5l sz cs [] 100 H rfl h (by simpa using hne) hl (by simp;exact B90 hl);refine Wp.mono (Q:=fun r H'=>H<+:H'∧r=sl cs) ?_ ?_
 ·kcf_m;obtain⟨r,H',e,p,q⟩:=this;refine hGx ?_;exact⟨r,H',by show (if _ then _ else none)=_;rw[Dy,if_pos sz];exact e,p,q⟩
 ·rintro _ _ ⟨p,rfl⟩;w_up;exact⟨p,rfl⟩
end
theorem D34{β:Type}{m:P β}{H:Hp}{Q:β->Hp->Prop}(P:Hp->Prop)(h:P H)(k:∀HH,P HH->Wp m HH Q):Wp m H Q:=k H h
theorem Pk(g:Nat->Option MV)(n:Nat):(F9 0 n).filterMap (fun v=>match v with | .int j=>g j.toNat|_=>none)=(List.range n).filterMap g:=by
 unfold F9;rw[List.filterMap_map];refine congrArg (fun f=>List.filterMap f (List.range n)) (funext fun j=>?_);show g ((0+(j:Int)).toNat)=g j;rw[show ((0+(j:Int)).toNat)=j by exact B91]
inductive CN(g:Nat->Option MV)(I:Aj->Prop)(n:Nat)(t:Aj->MV->P Aj)(ck:Aj->P Bool)(f:Aj->P MV)(cap:Aj->Aj)(ρ:Aj)(Q:QM)(m:MV)(H₁:Hp):Prop
 | mk (h:∃k,m=.ref k∧H₁[k]?=some (.rng 0 n 1)) (hI:I (cap ρ)) (hb:∀j,j<n->∀ρ H',I ρ->H₁<+:H'->Wp (t ρ (.int (j:Int))) H' (FT ck f I H' (g j)))
  (hq:∀HP,H₁<+:HP->HP[H₁.length]?=some (.list ((List.range n).filterMap g))->Q (.ref H₁.length) HP)
theorem Ld{T:GT}(g:Nat->Option MV)(I:Aj->Prop)(n:Nat){fit:Aj->P MV}{t:Aj->MV->P Aj}{ck:Aj->P Bool}{f:Aj->P MV}{N:Nat}{cap:Aj->Aj}{ρ:Aj}{H:Hp}{Q:MV->Hp->Prop}(hn:n<N)(hN:N<=4000)(hs:Builtin.Range.small 0 (n:Int) 1=true)
  (h:Wp (fit ρ) H (CN g I n t ck f cap ρ Q)):Wp (Br fit (Ej T) t ck (Bt f) N cap ρ) H Q:=
 Ip (fun v=>match v with | .int j=>g j.toNat|_=>none) I (h.mono fun m H₁ x=>by
  obtain⟨⟨k,rfl,e⟩,hI,hb,hq⟩:=x;refine⟨_,F9 0 n,Gw e hs,fun H' p=>Wk B92,by simp[F9];lia,by simp[F9];exact B0a hn hN,hI,fun v hv ρ H' h1 h2=>?_,fun HP p l=>hq HP p ?_⟩
  ·obtain⟨j,hj,rfl⟩:=List.mem_map.mp hv;have:=hb j (List.mem_range.mp hj) ρ H' h1 h2;rw[Int.zero_add];simpa using this
  ·rw[l];exact congrArg (fun z=>some (MO.list z)) (Pk g n))
structure Qn where
 kinds:List Nat
 rights:List (Int × Int)
 dress:Nat
 form:Nat
noncomputable def dv(es:List (Int × Int)):List (Int × MV):=es.map fun p=>(p.1,.int p.2)
noncomputable def Ga(es:List (Int × Int))(i v:Int):List (Int × Int):=if es.any (fun e=>e.1=i) then es.map (fun e=>if e.1=i then (e.1,v) else e) else es++[(i,v)]
noncomputable def Dp(es:List (Int × Int))(i:Int):Option Int:=(es.find? fun e=>e.1=i).map (·.2)
theorem A7z{es:List (Int × Int)}{i v:Int}:Vn (dv es) i (.int v)=dv (Ga es i v):=by
 unfold Vn Ga dv;rw[List.any_map];show (if es.any (fun e=>decide (e.1=i))=true then _ else _)=_;by_cases h:es.any (fun e=>decide (e.1=i))=true
 ·rw[if_pos h,if_pos h,List.map_map,List.map_map];apply List.map_congr_left;intro e _;simp only[Function.comp]
  split <;> rfl
 ·rw[if_neg h,if_neg h];simp
theorem Ny{es:List (Int × Int)}{i:Int}:Lr (dv es) i=(Dp es i).map .int:=by
 unfold Lr Dp dv
 induction es with
 | nil=>rfl
 | cons e es ih=>
  rw[List.map_cons,List.find?_cons,List.find?_cons];by_cases h:e.1=i <;> simp[h] <;> simpa using ih
inductive RepQ(lo:Nat)(H:Hp)(m:MV)(q:Qn):Prop
 | mk (j jk jr:Nat) (e:m=.ref j) (l1:lo<=j) (l2:lo<=jk) (l3:lo<=jr) (h1:H[j]?=some (.tup [.ref jk,.ref jr,.int q.dress,.int q.form])) (h2:H[jk]?=some (.list ((q.kinds.map fun c=>[c]).map sl))) (h3:H[jr]?=some (.dict (dv q.rights)))
theorem RepQ.keep{lo:Nat}{H H':Hp}{m:MV}{q:Qn}(h:RepQ lo H m q)(p:∀j x,lo<=j->H[j]?=some x->H'[j]?=some x):RepQ lo H' m q:=by
 obtain⟨j,jk,jr,e,l1,l2,l3,h1,h2,h3⟩:=h;exact⟨j,jk,jr,e,l1,l2,l3,p _ _ l1 h1,p _ _ l2 h2,p _ _ l3 h3⟩
theorem RepQ.pre{lo:Nat}{H H':Hp}{m:MV}{q:Qn}(h:RepQ lo H m q)(p:H<+:H'):RepQ lo H' m q:=h.keep fun zz zz zz h=>Ah p h
noncomputable def k8:List Nat:=[45,63,98,99,100,108,112,115]
noncomputable def Gy(q:Nat):List Nat:=(List.range 8).filterMap fun j=>if (1+q%255)/2 ^ j%2=1 then some (k8.getD j 0) else none
noncomputable def xM(q j:Nat):Nat:=q/255/24 ^ j%24
def R4(q:Nat):List (Int × Int):=Ga (Ga (Ga [] ((xM q 0/2:Nat):Int) ((xM q 0%2:Nat):Int)) ((xM q 1/2:Nat):Int) ((xM q 1%2:Nat):Int)) ((xM q 2/2:Nat):Int) ((xM q 2%2:Nat):Int)
def qM(q:Nat):Qn:=⟨Gy q,R4 q,q/3525120%4,q/14100480%4⟩
theorem Hi{es:List (Int × Int)}{i v:Int}:(Ga es i v).length<=es.length+1:=by
 unfold Ga;split <;> simp
section
variable {H:Hp}
theorem D09:pC (.str "-?bcdlps")=pC (sl k8):=lit (by kd_p)
theorem xe{q:Nat}(j:Nat):((q:Int)/255/24 ^ j%24)=((xM q j:Nat):Int):=by unfold xM;simp
theorem Wx{k:Nat}{es:List (Int × Int)}{a v:Int}{Q:Unit->Hp->Prop}(e:H[k]?=some (.dict (dv es)))(r:es.length<=1000)(h:Q () (H.set k (.dict (dv (Ga es a v))))):Wp (Vo (.ref k) (.int a) (.int v)) H Q:=
 D00 e (by unfold dv;simp;exact Ks r) (by rw[A7z];exact h)
theorem T7{q:Nat}(hq:q<56401920):Wp (Fn T0 [.int q]) H fun r H'=>H<+:H'∧RepQ H.length H' r (qM q):=by
 unfold Fn;simp only[D09];refine Dg rfl ?_;dsimp only[Ci];w_up;refine⟨_,Gw Au (by decide),?_⟩;refine Ff (Do (v:=0) (by decide) rfl) ?_;w_up;rw[show ((q:Int)/255/24 ^ Int.toNat 0%24)=((xM q 0:Nat):Int) from xe 0,show ((xM q 0:Nat):Int)/2=((xM q 0/2:Nat):Int) by exact B0b,show ((xM q 0:Nat):Int)%2=((xM q 0%2:Nat):Int) by exact B0c];refine Wx (es:=[]) (Ah pre_app Au) (by simp) ?_;w_up;refine Ff (Do (v:=1) (by decide) rfl) ?_;w_up;rw[show ((q:Int)/255/24 ^ Int.toNat 1%24)=((xM q 1:Nat):Int) from xe 1,show ((xM q 1:Nat):Int)/2=((xM q 1/2:Nat):Int) by exact B0b,show ((xM q 1:Nat):Int)%2=((xM q 1%2:Nat):Int) by exact B0c];refine Wx (es:=Ga [] ((xM q 0/2:Nat):Int) ((xM q 0%2:Nat):Int)) (by with_reducible refine Ry ?_;first |exact Bx (by assumption)|(simp;done)|(simp;lia)) (by exact Nat.le_trans Hi (by decide)) ?_;w_up;refine Ff (Do (v:=2) (by decide) rfl) ?_;w_up;rw[show ((q:Int)/255/24 ^ Int.toNat 2%24)=((xM q 2:Nat):Int) from xe 2,show ((xM q 2:Nat):Int)/2=((xM q 2/2:Nat):Int) by exact B0b,show ((xM q 2:Nat):Int)%2=((xM q 2%2:Nat):Int) by exact B0c];refine Wx (es:=Ga (Ga [] ((xM q 0/2:Nat):Int) ((xM q 0%2:Nat):Int)) ((xM q 1/2:Nat):Int) ((xM q 1%2:Nat):Int)) (by with_reducible refine Ry ?_;first |exact Bx (by assumption)|(simp;done)|(simp;lia)) (by exact Nat.le_trans Hi (Nat.succ_le_succ (Nat.le_trans Hi (by decide)))) ?_;w_up;refine Jo (Hf (by decide)) ?_;w_up;refine D34 (fun HH=>H<+:HH∧HH[H.length]?=some (.dict (dv (R4 q)))) ⟨Ex (Ex (Ex (by simp[List.append_assoc]) (Nat.le_refl _) _) (Nat.le_refl _) _) (Nat.le_refl _) _,by unfold R4;with_reducible refine Ry ?_;first |exact Bx (by assumption)|(simp;done)|(simp;lia)⟩ fun HH ⟨p,hd⟩=>?_;refine Ld (fun j=>if (1+q%255)/2 ^ j%2=1 then some (sl [k8.getD j 0]) else none) (fun ρ=>ρ "q"=some (.int q)) 8 (by decide) (by decide) (by decide) ?_;w_up;refine⟨⟨_,rfl,Au⟩,by k_in,?_,?_⟩
 ·intro j hj ρ H' hI p';w_up;refine⟨rfl,by k_in,?_⟩;w_up;rw[Int.toNat_natCast,show (2:Int) ^ j=((2 ^ j:Nat):Int) by simp];have:=Nat.pow_le_pow_right (n:=2) A6w (show j<=8 by exact Nat.le_of_lt ‹_›);have:=Nat.two_pow_pos j;refine Yo (by lia) ?_;w_up;have e:((1+(q:Int)%255)/((2 ^ j:Nat):Int)%2==1)=decide ((1+q%255)/2 ^ j%2=1):=by
   rw[show (1+(q:Int)%255)/((2 ^ j:Nat):Int)%2=(((1+q%255)/2 ^ j%2:Nat):Int) by simp]
   generalize (1+q%255)/2 ^ j%2=z
   rw[Bool.eq_iff_iff,beq_iff_eq,decide_eq_true_eq];exact B93
  rw[e];refine⟨List.prefix_rfl,fun h=>?_,fun h=>?_⟩
  ·have h:=of_decide_eq_true h;w_up;refine Cs (i:=j) (c:=k8.getD j 0) ?_ (by unfold lim;exact B94 hj) ⟨List.prefix_rfl,by simp[h]⟩;rw[List.getD_eq_getElem?_getD];have:j<k8.length:=hj;simp[this]
  ·have h:=of_decide_eq_false h;simp[h]
 ·intro HP p' l;w_up;refine⟨(p.trans ((List.prefix_append _ _).trans p')).trans (List.prefix_append _ _),HP.length,_,_,rfl,?_,?_,?_,Au,?_,?_⟩
  ·have:=(p.trans ((List.prefix_append _ _).trans p')).length_le;exact this
  ·have:=p.length_le;simp;exact Nat.le_succ_of_le ‹_›
  ·exact Nat.le_refl _
  ·refine Ah (List.prefix_append _ _) ?_;rw[l]
   congr 2
   show _=((Gy q).map fun c=>[c]).map sl;unfold Gy;rw[List.map_map,List.map_filterMap]
   congr 1
   funext j
   split <;> rfl
  ·exact Ah (List.prefix_append _ _) (Ah p' (Ah (List.prefix_append _ _) hd))
end
noncomputable def KeysOk(es:List (Int × Int)):Prop:=(es.map (·.1)).Nodup∧∀p∈es,0<=p.1∧p.1<12∧(p.2=0∨p.2=1)
def Dm(q:Qn)(m:Nat):Bool:=q.kinds.contains (kc m)&&q.rights.all fun p=>decide ((m:Int)/2 ^ p.1.toNat%2=p.2)
theorem M1{es:List (Int × Int)}(hn:(es.map (·.1)).Nodup)(p:Int × Int)(hp:p∈es):Dp es p.1=some p.2:=by
 induction es with
 | nil=>cases hp
 | cons e es ih=>
  unfold Dp at ih ⊢;rw[List.find?_cons];rw[List.map_cons,List.nodup_cons] at hn;rcases List.mem_cons.mp hp with rfl|hp
  ·simp
  ·have:¬e.1=p.1:=fun h=>hn.1 (by rw[h];exact List.mem_map_of_mem hp);simp only[this,decide_false];exact ih hn.2 hp
theorem Kx{l:List Nat}{c:Nat}:(l.map fun c=>[c]).contains [c]=l.contains c:=by
 induction l with
 | nil=>rfl
 | cons a l ih=>rw[List.map_cons,List.contains_cons,List.contains_cons,ih];simp
section
variable {H:Hp}
theorem Nz{v:MV}{l:List Nat}{c:Nat}{Q:MV->Hp->Prop}(e:C7 T0 H v=some ((l.map fun c=>[c]).map sl))(h:Q (.bool (l.contains c)) H):Wp (Fa T0 (sl [c]) v) H Q:=
 A9q e (by rw[Kx];exact h)
theorem Le{k:Nat}{l:List Nat}{c:Nat}{Q:MV->Hp->Prop}(e:H[k]?=some (.list ((l.map fun c=>[c]).map sl)))(h:Q (.bool (!l.contains c)) H):Wp (Fj (sl [c]) (.ref k)) H Q:=
 A49 e (by rw[Kx];exact h)
theorem A5m{lo m:Nat}{q:Qn}{v:MV}(hm:m<65536)(hQ:RepQ lo H v q)(hk:KeysOk q.rights)(hl:q.rights.length<100):Wp (Hc T0 [v,.int m]) H fun r H'=>H<+:H'∧r=.bool (Dm q m):=by
 kcf_m;obtain⟨j,jk,jr,rfl,l1,l2,l3,h1,h2,h3⟩:=hQ;refine hGx ?_;unfold Hc;simp only[A5e];refine Dg rfl ?_;dsimp only[Ci];w_up;refine Qa (Bw h1) rfl ?_;w_up;refine Ip (fun v=>match v with | .int i=>if (m:Int)/2 ^ i.toNat%2=(Dp q.rights i).getD 0 then none else some (.int i)|_=>none) (fun ρ=>ρ "mode"=some (.int m)∧ρ "rights"=some (.ref jr)) ?_;w_up;refine⟨_,_,A7r h3,fun H' p=>A7s (Ah p h3),by simp[dv];exact B95 hl,by simp[dv];exact B96 hl,⟨by k_in,by k_in⟩,?_,?_⟩
 ·rintro v hv ρ H' ⟨i1,i2⟩ p';rw[dv,List.map_map] at hv;obtain⟨p,hp,rfl⟩:=List.mem_map.mp hv;obtain⟨g1,g2,g3⟩:=hk.2 p hp;have gg:=M1 hk.1 p hp;simp only[Function.comp];w_up;refine⟨rfl,⟨by k_in,by k_in⟩,?_⟩;w_up;obtain⟨z,hz⟩:∃z:Nat,p.1=z:=⟨p.1.toNat,by exact B97 g1⟩;rw[hz,Int.toNat_natCast,show (2:Int) ^ z=((2 ^ z:Nat):Int) by simp];have:=Nat.pow_le_pow_right (n:=2) A6w (show z<=12 by exact B98 g2 hz);have:=Nat.two_pow_pos z;refine Yo (by lia) ?_;w_up;refine A5a (w:=.int p.2) (Ah p' h3) (by rw[Ny,<- hz,gg];rfl) (by unfold lim;exact B99 g1 g2 hz) ?_;w_up;rw[<- hz,gg,Option.getD_some];refine⟨List.prefix_rfl,fun h=>?_,fun h=>?_⟩
  ·w_up;refine⟨List.prefix_rfl,?_⟩;rw[if_neg (by simpa using h)]
  ·rw[if_pos (by simpa using h)]
 ·intro HP p l;w_up;refine A5d hm ?_;w_up;refine Nz (Aq (Ah p h2)) ?_;w_up;unfold Dm;refine⟨fun h=>?_,fun h=>?_⟩
  ·w_up;refine A5b (Ah (List.prefix_append _ _) l) Au ?_;refine⟨p.trans (List.prefix_append _ _),?_⟩;rw[h,Bool.true_and]
   congr 1
   have:∀es:List (Int × Int),(∀p∈es,Dp q.rights p.1=some p.2)->(List.filterMap (fun v:MV=>match v with | .int i=>if (m:Int)/2 ^ i.toNat%2=(Dp q.rights i).getD 0 then none else some (MV.int i)|_=>none) ((dv es).map fun p=>MV.int p.1)).isEmpty=es.all fun p=>decide ((m:Int)/2 ^ p.1.toNat%2=p.2):=by
    intro es
    induction es with
    | nil=>intro _;rfl
    | cons e es ih=>
     intro hh;have ih:=ih fun p hp=>hh p (.tail _ hp);have he:=hh e (.head _);unfold dv at ih ⊢;rw[List.map_cons,List.map_cons,List.filterMap_cons,List.all_cons,<- ih];simp only[he,Option.getD_some];by_cases hc:(m:Int)/2 ^ e.1.toNat%2=e.2 <;> simp[hc]
   exact this _ fun p hp=>M1 hk.1 p hp
  ·refine⟨p,?_⟩;rw[h,Bool.false_and]
end
theorem Jp(g:Nat->Option MV):∀l:List Nat,(l.map fun c=>sl [c]).filterMap (fun v=>match v with | .str s=>(match s.cps.toList with|[c]=>g c|_=>none)|_=>none)=l.filterMap g
 | []=>rfl
 | a::l=>by
  rw[List.map_cons,List.filterMap_cons,List.filterMap_cons,Jp g l]
inductive CS(g:Nat->Option MV)(I:Aj->Prop)(l:List Nat)(t:Aj->MV->P Aj)(ck:Aj->P Bool)(f:Aj->P MV)(cap:Aj->Aj)(ρ:Aj)(Q:QM)(m:MV)(H₁:Hp):Prop
 | mk (h:m=sl l) (hI:I (cap ρ)) (hb:∀c∈l,∀ρ H',I ρ->H₁<+:H'->Wp (t ρ (sl [c])) H' (FT ck f I H' (g c)))
  (hq:∀HP,H₁<+:HP->HP[H₁.length]?=some (.list (l.filterMap g))->Q (.ref H₁.length) HP)
theorem A5n(g:Nat->Option MV)(I:Aj->Prop)(l:List Nat){fit:Aj->P MV}{t:Aj->MV->P Aj}{ck:Aj->P Bool}{f:Aj->P MV}{N:Nat}{cap:Aj->Aj}{ρ:Aj}{H:Hp}{Q:MV->Hp->Prop}(hn:l.length<N)(hN:N<=4000)(hs:l.all (·<128)=true)
  (h:Wp (fit ρ) H (CS g I l t ck f cap ρ Q)):Wp (Br fit (Ej T0) t ck (Bt f) N cap ρ) H Q:=
 Ip (fun v=>match v with | .str s=>(match s.cps.toList with|[c]=>g c|_=>none)|_=>none) I (h.mono fun m H₁ x=>by
  obtain⟨rfl,hI,hb,hq⟩:=x;refine⟨_,l.map fun c=>sl [c],B5g hs,fun H' p=>B5h,by simp;lia,by simp;exact B0a hn hN,hI,fun v hv ρ H' h1 h2=>?_,fun HP p l=>hq HP p ?_⟩
  ·obtain⟨c,hc,rfl⟩:=List.mem_map.mp hv;exact hb c hc ρ H' h1 h2
  ·rw[l];exact congrArg (fun z=>some (MO.list z)) (Jp g _))
theorem Q1{n:Nat}(h:n<4611686018427387904):Builtin.Range.small 0 (n:Int) 1=true:=by
 unfold Builtin.Range.small;have e:Builtin.Range.rangeSize 0 (n:Int) 1=n:=by
  unfold Builtin.Range.rangeSize;simp only[show (1:Int)>0 by decide,if_true,Int.ediv_one]
  split <;> (first |exact C0a|exact C0b ‹_›)
 rw[e];simp[Builtin.Range.rangeFitsLong];exact C0c h
noncomputable def Ni(signs:List Nat)(c:Nat):List Nat->List Nat
 | []=>[45,c]
 | d::_=>if signs.contains d then [] else [45,c]
def Lf(signs:List Nat):Bool->List Nat->List Nat
 | _,[]=>[]
 | p,c::rest=>if signs.contains c then (if p then Ni signs c rest else [c])++Lf signs true rest else Lf signs false rest
def brk(signs every:List Nat)(dress:Nat):List Nat:=
 if signs.length=every.length then [63] else if dress=2 then [91,33]++every.filter (fun c=>!signs.contains c)++[93]
 else if dress≠1 then (if dress=3 then [91,122,45,97] else [91])++every.filter (fun c=>signs.contains c)++[93]
 else [91]++Lf signs false every++[93]
theorem T8(signs:List Nat):∀(l:List Nat) (p:Bool),(Lf signs p l).length<=2*l.length:=by
 intro rest__
 induction rest__ with
 | nil=>
  intro _;exact by simp[Lf]
 | cons c rest ih=>
  intro p;have h1:=ih true;have h2:=ih false;unfold Lf
  split
  ·rw[List.length_append];have:(if p=true then Ni signs c rest else [c]).length<=2:=by
    split
    ·cases rest with
     | nil=>simp[Ni]
     | cons d r=>simp only[Ni];split <;> simp
    ·simp
   simp only[List.length_cons];exact C0d h1 this
  ·simp only[List.length_cons];exact C0e h2
noncomputable def L4(signs pre:List Nat):Bool:=match pre.getLast? with
 | some c=>signs.contains c
 | none=>false
theorem Wy{signs pre:List Nat}{c:Nat}:L4 signs (pre++[c])=signs.contains c:=by simp[L4]
theorem M2(p:Nat->Bool):∀l:List Nat,(l.filterMap fun c=>if p c=true then some (sl [c]) else none)=((l.filter p).map fun c=>[c]).map sl
 | []=>rfl
 | a::l=>by
  rw[List.filterMap_cons,List.filter_cons,M2 p l];by_cases h:p a=true <;> simp[h]
theorem Pl(l:List Nat):(((l.map fun c=>[c]).map (·.length))).sum=l.length:=by
 induction l with
 | nil=>rfl
 | cons a l ih=>rw[List.map_cons,List.map_cons,List.sum_cons,ih];simp;exact B6x
section
variable {H:Hp}
theorem D1a:pC (.str "[!")=pC (sl [91,33]):=lit (by kd_p)
theorem D1b:pC (.str "]")=pC (sl [93]):=lit (by kd_p)
theorem D1c:pC (.str "[")=pC (sl [91]):=lit (by kd_p)
theorem D35:pC (.str "[z-a")=pC (sl [91,122,45,97]):=lit (by kd_p)
abbrev brB(T:GT):Aj->P (Fl × Aj):=(Ag (Cv (At T (Am (Ac "every") (Ac "k") (Ao T)) (Ac "signs") (Fa T))
 (Ag (Cv (Nl (At T (Ac "k") (pC (.int 0)) Bb) (Nl (At T (Am (Ac "every") (Am (Ac "k") (pC (.int 1)) De) (Ao T)) (Ac "signs") Fj) Mr))
 (Ag (C3 "told" (Am (Ac "every") (Ac "k") (Ao T)) Bc)
 Ap)
 (Ag (Cv (Nl (At T (Am (Ac "k") (pC (.int 1)) A1) (Ak (Ab (Ac "every") Af) (one (D4 T))) Bb) (Nl (At T (Am (Ac "every") (Am (Ac "k") (pC (.int 1)) A1) (Ao T)) (Ac "signs") Fj) Mr))
 (Ag (C3 "told" (Am (pC (sl [45])) (Am (Ac "every") (Ac "k") (Ao T)) A1) Bc)
 Ap)
 Ap)
 Ap))
 Ap)
 Ap)
 Ap)
theorem A70{js:Nat}{signs every:List Nat}(hE:every.length<=100)(hs:H[js]?=some (.list ((signs.map fun c=>[c]).map sl))){K:Fl->Aj->Hp->Prop}:∀(rest pre told:List Nat) (n:Nat) (ρ:Aj),
  every=pre++rest->rest.length<n->told.length+2*rest.length<=1000->ρ "every"=some (sl every)->ρ "signs"=some (.ref js)->ρ "told"=some (sl told)->
  (∀ρ',ρ' "told"=some (sl (told++Lf signs (L4 signs pre) rest))->K .next ρ' H)->
  WS (Gg (Jq 0 every.length 1) (A2 "k") (brB T0) Ap n pre.length) ρ H K:=by
 intro rest__
 induction rest__ with
 | nil=>
  intro pre told n ρ he hn ht h1 h2 h3 hK;obtain⟨n,rfl⟩:=Bv hn;have:every.length=pre.length:=by rw[he];simp
  refine Jo (Hf ?_) ?_
  ·rw[this];unfold Builtin.Range.rangeSize;simp only[show (1:Int)>0 by decide,if_true,Int.ediv_one]
   split <;> (first |exact B62|exact B63 this ‹_›)
  w_up;exact hK _ (by simpa [Lf] using h3)
 | cons c rest ih=>
  intro pre told n ρ he hn ht h1 h2 h3 hK;obtain⟨n,rfl⟩:=Bv hn;have hlen:every.length=pre.length+(rest.length+1):=by rw[he];simp
  have hc:every[pre.length]?=some c:=by rw[he];simp
  have hl:(pre++[c]).length=pre.length+1:=by simp
  have next:∀(told':List Nat) ρ',told'.length<=told.length+2->ρ' "every"=some (sl every)->ρ' "signs"=some (.ref js)->ρ' "told"=some (sl told')->told'++Lf signs (signs.contains c) rest=told++Lf signs (L4 signs pre) (c::rest)->
    WS (Gg (Jq 0 every.length 1) (A2 "k") (brB T0) Ap n (pre.length+1)) ρ' H K:=fun told' ρ' hl' g1 g2 g3 g4=>by
   rw[<- hl];refine ih (pre++[c]) told' n ρ' (by rw[he];simp) (by exact Nat.lt_of_succ_lt_succ hn) (by simp at ht;exact C0f ht hl') g1 g2 g3 fun ρ'' z=>hK _ ?_;rw[z,Wy,g4]
  refine Ff (Do (v:=(pre.length:Int)) ?_ A6x) ?_
  ·unfold Builtin.Range.rangeSize;simp only[show (1:Int)>0 by decide,if_true,Int.ediv_one]
   split <;> (first |exact B64 hlen|exact B65 hlen ‹_›)
  w_up;refine Cs hc (by unfold lim;exact B0d hE hlen) ?_;w_up;refine Nz (Aq hs) ?_;w_up;refine⟨fun hin=>?_,fun hin=>?_⟩
  ·w_up;have plain:∀ρ',ρ' "every"=some (sl every)->ρ' "signs"=some (.ref js)->ρ' "told"=some (sl told)->ρ' "k"=some (.int pre.length)->L4 signs pre=false->
     WS (Ag (C3 "told" (Am (Ac "every") (Ac "k") (Ao T0)) Bc) Ap) ρ' H (Io Ap (Io Ap (FoK (Jq 0 every.length 1) (A2 "k") (brB T0) Ap n (pre.length+1) K))):=fun ρ' g1 g2 g3 g4 g5=>by
    w_up;refine Cs hc (by unfold lim;exact B0d hE hlen) ?_;w_up;refine Ht (by simp;exact C0g ht) ?_;w_up;refine next (told++[c]) _ (by simp only[List.length_append,List.length_cons,List.length_nil];exact C0h) (by k_in) (by k_in) (by k_in) ?_
    rw[g5];simp only[Lf,hin,if_true];simp
   have other:∀ρ',ρ' "every"=some (sl every)->ρ' "signs"=some (.ref js)->ρ' "told"=some (sl told)->ρ' "k"=some (.int pre.length)->L4 signs pre=true->
     WS (Ag (Cv (Nl (At T0 (Am (Ac "k") (pC (.int 1)) A1) (Ak (Ab (Ac "every") Af) (one (D4 T0))) Bb) (Nl (At T0 (Am (Ac "every") (Am (Ac "k") (pC (.int 1)) A1) (Ao T0)) (Ac "signs") Fj) Mr))
 (Ag (C3 "told" (Am (pC (sl [45])) (Am (Ac "every") (Ac "k") (Ao T0)) A1) Bc)
 Ap)
 Ap)
 Ap) ρ' H (Io Ap (Io Ap (FoK (Jq 0 every.length 1) (A2 "k") (brB T0) Ap n (pre.length+1) K))):=fun ρ' g1 g2 g3 g4 g5=>by
    have add:∀ρ',ρ' "every"=some (sl every)->ρ' "signs"=some (.ref js)->ρ' "told"=some (sl told)->ρ' "k"=some (.int pre.length)->Ni signs c rest=[45,c]->
     WS (Ag (C3 "told" (Am (pC (sl [45])) (Am (Ac "every") (Ac "k") (Ao T0)) A1) Bc) Ap) ρ' H (Io Ap (Io Ap (Io Ap (FoK (Jq 0 every.length 1) (A2 "k") (brB T0) Ap n (pre.length+1) K)))):=fun ρ' g1 g2 g3 g4 g6=>by
     w_up;refine Cs hc (by unfold lim;exact B0d hE hlen) ?_;w_up;refine Fg (by simp) ?_;w_up;refine Ht (by simp;exact C0i ht) ?_;w_up;refine next (told++([45]++[c])) _ (by simp only[List.length_append,List.length_cons,List.length_nil];exact C0j) (by k_in) (by k_in) (by k_in) ?_
     rw[g5];simp only[Lf,hin,if_true];rw[g6];simp
    w_up;refine Ia (B0e hE) ?_;w_up;refine⟨fun he'=>?_,fun he'=>?_⟩
    ·have hr:rest=[]:=by
      simp at he';exact List.length_eq_zero_iff.mp (C0k hlen he')
     exact(Ym rfl (add _ g1 g2 g3 g4 (by rw[hr];rfl)))
    ·obtain⟨d,rest',hr⟩:=List.exists_cons_of_ne_nil (show rest≠[] from fun q=>by rw[q] at hlen;simp at he' hlen;exact C0l he' hlen);w_up;have hd:every[pre.length+1]?=some d:=by rw[he,hr];simp
     rw[show (pre.length:Int)+1=((pre.length+1:Nat):Int) by exact A6y];refine Cs hd (by unfold lim;exact C0m hE hlen hl) ?_;w_up;refine Le hs ?_;w_up;refine⟨fun hd'=>?_,fun hd'=>?_⟩
     ·refine(Ym rfl (add _ g1 g2 g3 g4 ?_));rw[hr];simp only[Bool.not_eq_true'] at hd';simp only[Ni];rw[hd'];rfl
     ·w_up;refine next told _ B66 (by k_in) (by k_in) (by k_in) ?_
      rw[g5];simp only[Bool.not_eq_false'] at hd';have:Ni signs c rest=[]:=by rw[hr];simp only[Ni,hd',if_true]
      simp only[Lf,hin,if_true,this];simp
   refine⟨fun h0=>?_,fun h0=>?_⟩
   ·have hp:pre=[]:=by simp at h0;exact h0
    exact(Ym rfl (plain _ (by k_in) (by k_in) (by k_in) (by k_in) (by rw[hp];rfl)))
   ·have hpne:pre≠[]:=fun q=>by rw[q] at h0;simp at h0
    have hb:=List.getLast?_eq_some_getLast hpne
    generalize pre.getLast hpne=b at hb
    have hpl:=List.length_pos_iff.mpr hpne;have hb':every[pre.length-1]?=some b:=by
     rw[he,List.getElem?_append_left (C0n hl hpl),<- hb,List.getLast?_eq_getElem?]
    w_up;rw[show (pre.length:Int)-1=((pre.length-1:Nat):Int) by exact C0o hl hpl];refine Cs hb' (by unfold lim;exact C0p hE hlen) ?_;w_up;refine Le hs ?_;w_up;refine⟨fun h1=>?_,fun h1=>?_⟩
    ·refine(Ym rfl (plain _ (by k_in) (by k_in) (by k_in) (by k_in) ?_));unfold L4;rw[hb];simpa using h1
    ·refine wOrN (Ll rfl (other _ (by k_in) (by k_in) (by k_in) (by k_in) ?_));unfold L4;rw[hb];simpa using h1
  ·w_up;refine next told _ B66 (by k_in) (by k_in) (by k_in) ?_
   rw[hin];simp only[Lf,hin];simp
theorem Et{js dress:Nat}{signs every:List Nat}(hE:every.length<=100)(hA:every.all (·<128)=true)(hs:H[js]?=some (.list ((signs.map fun c=>[c]).map sl)))(hS:signs.length<=1000):
  Wp (B4 T0 [.ref js,sl every,.int dress]) H fun r H'=>H<+:H'∧r=sl (brk signs every dress):=by
 unfold B4;simp only[D1a,D1b,D1c,D35,D06,L_e,A5h];refine Dg rfl ?_;dsimp only[Ci];w_up;refine Kw (Aq hs) (by simp;exact Ks hS) ?_;w_up;refine Ia (B0e hE) ?_;w_up;refine⟨fun h=>?_,fun h=>?_⟩
 ·w_up;refine⟨List.prefix_rfl,?_⟩;have:signs.length=every.length:=by simp at h;exact A66 h
  unfold brk;rw[if_pos this]
 have hne:¬signs.length=every.length:=by simp at h;exact A67 h
 w_up;refine⟨fun h=>?_,fun h=>?_⟩
 ·have hd:dress=2:=by simp at h;exact A6z h
  w_up;refine Gp (wC ⟨rfl,?_⟩);w_up;refine A5n (fun c=>if (!signs.contains c)=true then some (sl [c]) else none) (fun ρ=>ρ "signs"=some (.ref js)) every (A1b hE) (by decide) hA ?_;w_up;refine⟨rfl,by rfl,?_,?_⟩
  ·intro c hc ρ H' hI p;w_up;refine⟨rfl,by k_in,?_⟩;w_up;refine Le (Ah p hs) ?_;w_up;refine⟨List.prefix_rfl,fun h=>?_,fun h=>?_⟩
   ·w_up;exact⟨List.prefix_rfl,by rw[if_pos h]⟩
   ·rw[if_neg (by rw[h];simp)]
  ·intro HP p l;w_up;rw[M2] at l;have:=List.length_filter_le (fun c=>!signs.contains c) every
   generalize hF:List.filter (fun c=>!signs.contains c) every=fl at l this
   refine L1 (Aq l) (by rw[Pl];exact B67 hE this) ?_;rw[Km];w_up;refine Fg (by simp;exact C0q hE this) ?_;w_up;refine Fg (by simp;exact C0r hE this) ?_;w_up;refine⟨p,?_⟩;unfold brk;rw[if_neg hne,if_pos hd,hF]
 have hd2:¬dress=2:=by simp at h;exact B68 h
 w_up;refine⟨fun h=>?_,fun h=>?_⟩
 ·have hd:dress≠1:=by simp at h;exact C0s h
  have fin:∀(ρ:Aj) (st:List Nat) (Q:MV->Hp->Prop),st.length<=4->ρ "signs"=some (.ref js)->ρ "every"=some (sl every)->(∀H',H<+:H'->Q (sl (st++every.filter (fun c=>signs.contains c)++[93])) H')->Wp (Be O1 (pC (sl [])) (Ab (Br (Ac "every") (Ej T0) (A2 "sign") (At T0 (Ac "sign") (Ac "signs") (Fa T0)) (Bt (Ac "sign")) 4000 (C8 ["signs"])) Af) (two (Go T0)) ρ) H fun b HP=>
    Wp (A1 (sl st) b) HP fun a H₁=>Wp (pC (sl [93]) ρ) H₁ fun b HP=>Wp (A1 a b) HP Q:=fun ρ st Q hst g1 g2 hQ=>by
   refine Gp (wC ⟨rfl,?_⟩);w_up;refine A5n (fun c=>if (signs.contains c)=true then some (sl [c]) else none) (fun ρ=>ρ "signs"=some (.ref js)) every (A1b hE) (by decide) hA ?_;w_up;refine⟨rfl,by k_in,?_,?_⟩
   ·intro c hc ρ H' hI p;w_up;refine⟨rfl,by k_in,?_⟩;w_up;refine Nz (Aq (Ah p hs)) ?_;w_up;refine⟨List.prefix_rfl,fun h=>?_,fun h=>?_⟩
    ·w_up;exact⟨List.prefix_rfl,by rw[if_pos h]⟩
    ·rw[if_neg (by rw[h];simp)]
   ·intro HP p l;w_up;rw[M2] at l;have:=List.length_filter_le (fun c=>signs.contains c) every;have hQ:=hQ HP p
    generalize hF:List.filter (fun c=>signs.contains c) every=fl at l this hQ
    refine L1 (Aq l) (by rw[Pl];exact B67 hE this) ?_;rw[Km];refine Fg (C0t hE hst this) ?_;w_up;refine Fg (by simp;exact C0u hE hst this) ?_;exact hQ
  w_up;refine⟨fun h3=>?_,fun h3=>?_⟩
  ·have h3:dress=3:=by simp at h3;exact B69 h3
   w_up;refine fin _ _ _ (by simp) (by k_in) (by k_in) fun H' p=>?_;w_up;refine⟨p,?_⟩;unfold brk;rw[if_neg hne,if_neg hd2,if_pos hd,if_pos h3]
  ·have h3:¬dress=3:=by simp at h3;exact B7a h3
   w_up;refine fin _ _ _ (by simp) (by k_in) (by k_in) fun H' p=>?_;w_up;refine⟨p,?_⟩;unfold brk;rw[if_neg hne,if_neg hd2,if_pos hd,if_neg h3]
 ·have hd:¬dress≠1:=by simp at h;exact C0v h
  w_up;refine Ia (B0e hE) ?_;w_up;refine⟨_,Gw Au (Q1 (C0w hE)),?_⟩;refine A70 (H:=H++[.rng 0 every.length 1]) hE (Ah (List.prefix_append _ _) hs) every [] [91] 4000 _ rfl ?_ ?_ ?_ ?_ ?_ fun ρ' h'=>?_
  ·exact A1b hE
  ·simp;exact C0x hE
  ·k_in
  ·k_in
  ·k_in
  have:=T8 signs every (L4 signs []);w_up;refine Fg ?_ ?_
  ·simp only[List.length_append,List.length_cons,List.length_nil];exact C0y hE this
  w_up;refine⟨List.prefix_append _ _,?_⟩;unfold brk;rw[if_neg hne,if_neg hd2,if_neg hd];rfl
end
noncomputable def h16:List Nat:=[48,49,50,51,52,53,54,55,56,57,65,66,67,68,69,70]
def M3(q:Qn)(k b:Nat):Option Int:=Dp q.rights (12-4*(k:Int)+(b:Int))
def okD(q:Qn)(k d:Nat):Bool:=(List.range 4).all fun b=>match M3 q k b with
 | some w=>decide ((d:Int)/2 ^ b%2=w)
 | none=>true
def Gq(q:Qn)(k:Nat):List Nat:=(List.range 16).filterMap fun d=>if (if k=0 then q.kinds.contains (kch.getD d 0) else okD q k d)=true then some (h16.getD d 0) else none
def Hg(q:Qn):List Nat:=[61]++brk (Gq q 0) h16 q.dress++([]++brk (Gq q 1) h16 q.dress)++([61]++brk (Gq q 2) h16 q.dress)++([]++brk (Gq q 3) h16 q.dress)
theorem Jj(p:Nat->Bool)(f:Nat->Nat):∀l:List Nat,(l.filterMap fun d=>if p d=true then some (sl [f d]) else none)=((l.filterMap fun d=>if p d=true then some (f d) else none).map fun c=>[c]).map sl
 | []=>rfl
 | a::l=>by
  rw[List.filterMap_cons,List.filterMap_cons,Jj p f l];by_cases h:p a=true <;> simp[h]
def WishE(q:Qn)(k lo:Nat)(v:MV)(o:Option MV)(H:Hp):Prop:=match v with
 | .int b=>(match Dp q.rights (12-4*(k:Int)+b) with
  | none=>o=none
  | some w=>∃j,lo<j∧o=some (.ref j)∧H[j]?=some (.tup [.int (2 ^ b.toNat),.int w]))
 | _=>False
theorem WishE.keep{q:Qn}{k lo:Nat}{v:MV}{o:Option MV}{H H':Hp}(p:∀j x,lo<j->H[j]?=some x->H'[j]?=some x)(h:WishE q k lo v o H):WishE q k lo v o H':=by
 unfold WishE at h ⊢
 split at h
 ·split at h
  ·exact h
  ·obtain⟨j,h1,h2,h3⟩:=h;exact⟨j,h1,h2,p _ _ h1 h3⟩
 ·exact h
section
variable {H:Hp}
theorem D1e:pC (.str "0123456789ABCDEF")=pC (sl h16):=lit (by kd_p)
theorem D36:pC (.str "=")=pC (sl [61]):=lit (by kd_p)
theorem Pm{l:List Nat}{d:Nat}{Q:MV->Hp->Prop}(hd:d<l.length)(hs:l.length<1000)(h:Q (sl [l.getD d 0]) H):Wp (Ao T0 (sl l) (.int (d:Int))) H Q:=by
 refine Cs (i:=d) (c:=l.getD d 0) ?_ (by unfold lim;exact C0z hd hs) h;rw[List.getD_eq_getElem?_getD];simp[hd]
theorem Lg{q:Qn}{k jr:Nat}{ρ:Aj}{H:Hp}{Q:MV->Hp->Prop}(hk:0<k∧k<4)(hr:H[jr]?=some (.dict (dv q.rights)))(h1:ρ "k"=some (.int k))(h2:ρ "rights"=some (.ref jr))
  (hQ:∀j H' os,H<+:H'->H'[j]?=some (.list (os.filterMap id))->All2 (fun v o=>WishE q k (H.length+1) v o H') (F9 0 4) os->Q (.ref j) H'):
  Wp (Br (Ak (Ab (pC (.int 4)) Af) Ck) (Ej T0) (A2 "b") (At T0 (Am (Am (pC (.int 12)) (Am (pC (.int 4)) (Ac "k") Iu) De) (Ac "b") A1) (Ac "rights") (Fa T0)) (Bt (Ak (Ab (Am (pC (.int 2)) (Ac "b") Kt) (Ab (Am (Ac "rights") (Am (Am (pC (.int 12)) (Am (pC (.int 4)) (Ac "k") Iu) De) (Ac "b") A1) (Ao T0)) Af)) Bq)) 4000 (C8 ["k","rights"]) ρ) H Q:=by
 refine A47 ?_;w_up;refine⟨_,F9 0 4,fun ρ=>ρ "k"=some (.int k)∧ρ "rights"=some (.ref jr),fun v o H'=>WishE q k (H.length+1) v o H',Gw Au (by decide),fun H' p=>Wk rfl,by decide,by decide,⟨by k_in,by k_in⟩,?_,?_,?_⟩
 ·intro v o A B p h;exact h.keep fun j x hj hx=>p j x (by simpa using hj) hx
 ·rintro v hv ρ H' ⟨i1,i2⟩ p hl;obtain⟨b,hb,rfl⟩:=List.mem_map.mp hv;have hb:=List.mem_range.mp hb;rw[Int.zero_add];w_up;refine⟨rfl,⟨by k_in,by k_in⟩,?_⟩;w_up;have hr':=Ah p (Ah (List.prefix_append _ _) hr);refine D3o hr' ?_;w_up;rw[Ny];refine⟨List.prefix_rfl,fun h=>?_,fun h=>?_⟩
  ·obtain⟨w,hw⟩:∃w,Dp q.rights (12-4*(k:Int)+b)=some w:=by
    cases hh:Dp q.rights (12-4*(k:Int)+b) with
    | none=>rw[hh] at h;simp at h
    | some w=>exact⟨w,rfl⟩
   w_up;refine A5a (w:=.int w) hr' (by rw[Ny,hw];rfl) (by unfold lim;exact C00 hk hb) ?_;w_up;refine⟨List.prefix_append _ _,?_⟩;unfold WishE;show (match Dp q.rights (12-4*(k:Int)+(b:Int)) with|none=>_|some w=>_);rw[hw];exact⟨H'.length,by simpa using hl,rfl,by rw[Au,Int.toNat_natCast]⟩
  ·unfold WishE;show (match Dp q.rights (12-4*(k:Int)+(b:Int)) with|none=>_|some w=>_);cases hh:Dp q.rights (12-4*(k:Int)+b) with
   | none=>rfl
   | some w=>rw[hh] at h;simp at h
 ·intro HP os p a l;exact hQ _ _ _ ((List.prefix_append _ _).trans p) l a
def A71(T:GT)(H:Hp)(v:MV):Option (Int × Int):=match D0 T H v with
 | some [.int p,.int w]=>some (p,w)
 | _=>none
def A0i(T:GT)(H:Hp)(d:Nat)(v:MV):Option MV:=match A71 T H v with
 | some (p,w)=>if (d:Int)/p%2=w then none else some v
 | none=>none
theorem A5o{q:Qn}{k lo d:Nat}{H:Hp}{bs:List Nat}{os:List (Option MV)}(h:All2 (fun v o=>WishE q k lo v o H) (bs.map fun (b:Nat)=>MV.int (b:Int)) os):
  ((os.filterMap id).filterMap (A0i T0 H d)).isEmpty=bs.all fun b=>match M3 q k b with|some w=>decide ((d:Int)/2 ^ b%2=w)|none=>true:=by
 induction bs generalizing os with
 | nil=>cases h;rfl
 | cons b bs ih=>
  cases h with
  | @cons _ o _ os h t=>
  have ih:=ih t;rw[List.filterMap_cons,List.all_cons,<- ih];unfold WishE at h;replace h:(match Dp q.rights (12-4*(k:Int)+(b:Int)) with|none=>o=none|some w=>∃j,lo<j∧o=some (.ref j)∧H[j]?=some (.tup [.int (2 ^ ((b:Int)).toNat),.int w])):=h;unfold M3;cases hh:Dp q.rights (12-4*(k:Int)+(b:Int)) with
  | none=>rw[hh] at h;subst h;simp
  | some w=>
   rw[hh] at h;obtain⟨j,_,rfl,h2⟩:=h;have ht:A71 T0 H (.ref j)=some (2 ^ b,w):=by
    unfold A71;rw[Bw h2];simp
   simp only[id,List.filterMap_cons];have:A0i T0 H d (.ref j)=if (d:Int)/2 ^ b%2=w then none else some (.ref j):=by unfold A0i;rw[ht]
   rw[this];by_cases hc:(d:Int)/2 ^ b%2=w <;> simp[hc]
theorem A5p{q:Qn}{k lo:Nat}{H:Hp}{bs:List Nat}{os:List (Option MV)}(h:All2 (fun v o=>WishE q k lo v o H) (bs.map fun (b:Nat)=>MV.int (b:Int)) os):
  ∀v∈os.filterMap id,∃j b w,b∈bs∧v=.ref j∧H[j]?=some (.tup [.int (2 ^ b),.int w]):=by
 intro v hv
 induction bs generalizing os with
 | nil=>cases h;cases hv
 | cons b bs ih=>
  cases h with
  | @cons _ o _ os h t=>
  rw[List.filterMap_cons] at hv;replace h:(match Dp q.rights (12-4*(k:Int)+(b:Int)) with|none=>o=none|some w=>∃j,lo<j∧o=some (.ref j)∧H[j]?=some (.tup [.int (2 ^ ((b:Int)).toNat),.int w])):=h;have rest:v∈os.filterMap id->∃j b' w,b'∈b::bs∧v=.ref j∧H[j]?=some (.tup [.int (2 ^ b'),.int w]):=fun hv=>by
   obtain⟨j,b',w,h1,h2,h3⟩:=ih t hv;exact⟨j,b',w,.tail _ h1,h2,h3⟩
  cases hh:Dp q.rights (12-4*(k:Int)+(b:Int)) with
  | none=>rw[hh] at h;subst h;exact rest hv
  | some w=>
   rw[hh] at h;obtain⟨j,_,rfl,h2⟩:=h;simp only[id,List.mem_cons] at hv;rcases hv with rfl|hv
   ·exact⟨j,b,w,.head _,rfl,by rw[h2,Int.toNat_natCast]⟩
   ·exact rest hv
theorem A0j{n:Nat}:F9 0 n=(List.range n).map fun (b:Nat)=>MV.int (b:Int):=by
 unfold F9;apply List.map_congr_left;intro b _;rw[Int.zero_add]
theorem R5{q:Qn}{k lo j:Nat}{os:List (Option MV)}{ρ:Aj}{H:Hp}{Q:MV->Hp->Prop}(hl:H[j]?=some (.list (os.filterMap id)))(ha:All2 (fun v o=>WishE q k lo v o H) (F9 0 4) os)(hk:k≠0)
  (h1:ρ "wished"=some (.ref j)) (h2:ρ "every"=some (sl h16)) (hQ:∀i H',H<+:H'->H'[i]?=some (.list (((Gq q k).map fun c=>[c]).map sl))->Q (.ref i) H'):
  Wp (Br (Ak (Ab (pC (.int 16)) Af) Ck) (Ej T0) (A2 "d") (At T0 (Br (Ac "wished") (Ej T0) (A2 "pair") (At T0 (Am (Am (Ac "d") (Am (Ac "pair") (pC (.int 0)) (Ao T0)) E4) (pC (.int 2)) Ec) (Am (Ac "pair") (pC (.int 1)) (Ao T0)) I9) (Bt (Ac "pair")) 4000 (C8 ["d"])) (Ak Af Bd) Bb) (Bt (Am (Ac "every") (Ac "d") (Ao T0))) 4000 (C8 ["every","wished"]) ρ) H Q:=by
 rw[A0j] at ha;have hm:=A5p ha;have hall:=fun d=>A5o (d:=d) ha;have hlen:(os.filterMap id).length<=4:=by have:=List.length_filterMap_le id os;have:=ha.length;simp at this;exact C01 ‹_› this
 refine Ld (fun d=>if okD q k d=true then some (sl [h16.getD d 0]) else none) (fun ρ=>ρ "wished"=some (.ref j)∧ρ "every"=some (sl h16)) 16 (by decide) (by decide) (by decide) ?_;w_up;refine⟨⟨_,rfl,Au⟩,⟨by k_in,by k_in⟩,?_,?_⟩
 ·rintro d hd ρ H' ⟨i1,i2⟩ p;have pH:=(List.prefix_append H [MO.rng 0 16 1]).trans p;w_up;refine⟨rfl,⟨by k_in,by k_in⟩,?_⟩;w_up;refine Ip (A0i T0 H d) (fun ρ=>ρ "d"=some (.int d)) ?_;w_up;refine⟨_,_,Dd (Aq (Ah pH hl)),fun H'' p=>Ch (Ei p (Aq (Ah pH hl))),by exact B7b hlen,by exact B7c hlen,by k_in,?_,?_⟩
  ·intro v hv ρ H'' hI p';obtain⟨i,b,w,hb,rfl,e⟩:=hm v hv;have hb:=List.mem_range.mp hb;have e':=Ah (pH.trans p') e;have:=Nat.pow_le_pow_right (n:=2) A6w (show b<=4 by exact Nat.le_of_lt ‹_›);have:=Nat.two_pow_pos b;have hp:(2:Int) ^ b=((2 ^ b:Nat):Int):=by simp
   w_up;refine⟨rfl,by k_in,?_⟩;w_up;refine Kb (i:=0) (Bw e') rfl (by unfold lim;exact Int.natCast_nonneg _) ?_;rw[hp];refine Yo (by lia) ?_;w_up;refine Kb (i:=1) (Bw e') rfl (by unfold lim;exact Int.natCast_nonneg _) ?_;w_up;have ht:A0i T0 H d (.ref i)=if (d:Int)/2 ^ b%2=w then none else some (.ref i):=by
    unfold A0i A71;rw[Bw e]
   rw[ht,hp];refine⟨List.prefix_rfl,fun h=>?_,fun h=>?_⟩
   ·w_up;exact⟨List.prefix_rfl,by rw[if_neg (by simpa using h)]⟩
   ·rw[if_pos (by simpa using h)]
  ·intro HP p' l;w_up;refine A5b (Ah (List.prefix_append _ _) l) Au ?_;w_up;rw[hall d];refine⟨p'.trans (List.prefix_append _ _),fun h=>?_,fun h=>?_⟩
   ·have h:okD q k d=true:=h;w_up;refine Pm (l:=h16) hd (by decide) ⟨List.prefix_rfl,by rw[if_pos h]⟩
   ·have h:okD q k d=false:=h;rw[h];rfl
 ·intro HP p l;refine hQ _ _ ((List.prefix_append _ _).trans p) ?_;rw[l,Jj];unfold Gq;simp only[hk,if_false]
end
theorem Ez{signs every:List Nat}{dress:Nat}:(brk signs every dress).length<=2*every.length+6:=by
 have:=T8 signs every false;have h1:=List.length_filter_le (fun c=>!signs.contains c) every;have h2:=List.length_filter_le (fun c=>signs.contains c) every;unfold brk
 split
 ·simp
 ·split
  ·simp only[List.length_append,List.length_cons,List.length_nil];exact C02 h1
  ·split
   ·split <;> simp only[List.length_append,List.length_cons,List.length_nil] <;> (first |exact C03 h2|exact C04 h2)
   ·simp only[List.length_append,List.length_cons,List.length_nil];exact C05 this
theorem L5{q:Qn}{k:Nat}:(Gq q k).length<=16:=Nat.le_trans (List.length_filterMap_le _ _) (by simp)
section
variable {H:Hp}
theorem A0k{q:Qn}{jk:Nat}{ρ:Aj}{H:Hp}{Q:MV->Hp->Prop}(hr:H[jk]?=some (.list ((q.kinds.map fun c=>[c]).map sl)))(h1:ρ "every"=some (sl h16))(h2:ρ "kinds"=some (.ref jk))
  (hQ:∀i H',H<+:H'->H'[i]?=some (.list (((Gq q 0).map fun c=>[c]).map sl))->Q (.ref i) H'):
  Wp (Br (Ak (Ab (pC (.int 16)) Af) Ck) (Ej T0) (A2 "d") (At T0 (Am (pC (sl kch)) (Ac "d") (Ao T0)) (Ac "kinds") (Fa T0)) (Bt (Am (Ac "every") (Ac "d") (Ao T0))) 4000 (C8 ["every","kinds"]) ρ) H Q:=by
 refine Ld (fun d=>if q.kinds.contains (kch.getD d 0)=true then some (sl [h16.getD d 0]) else none) (fun ρ=>ρ "every"=some (sl h16)∧ρ "kinds"=some (.ref jk)) 16 (by decide) (by decide) (by decide) ?_;w_up;refine⟨⟨_,rfl,Au⟩,⟨by k_in,by k_in⟩,?_,?_⟩
 ·rintro d hd ρ H' ⟨i1,i2⟩ p;w_up;refine⟨rfl,⟨by k_in,by k_in⟩,?_⟩;w_up;refine Pm (l:=kch) hd (by decide) ?_;w_up;refine Nz (Aq (Ah ((List.prefix_append _ _).trans p) hr)) ?_;w_up;refine⟨List.prefix_rfl,fun h=>?_,fun h=>?_⟩
  ·w_up;refine Pm (l:=h16) hd (by decide) ⟨List.prefix_rfl,by rw[if_pos h]⟩
  ·rw[if_neg (by rw[h];simp)]
 ·intro HP p l;refine hQ _ _ ((List.prefix_append _ _).trans p) ?_;rw[l,Jj];rfl
theorem Wz{lo:Nat}{q:Qn}{v:MV}(hQ:RepQ lo H v q):Wp (F7 T0 [v]) H fun r H'=>H<+:H'∧r=sl (Hg q):=by
 kcf_m;obtain⟨j,jk,jr,rfl,l1,l2,l3,h1,h2,h3⟩:=hQ;refine hGx ?_;have b0:=Ez (signs:=Gq q 0) (every:=h16) (dress:=q.dress);have b1:=Ez (signs:=Gq q 1) (every:=h16) (dress:=q.dress);have b2:=Ez (signs:=Gq q 2) (every:=h16) (dress:=q.dress);have b3:=Ez (signs:=Gq q 3) (every:=h16) (dress:=q.dress);rw[show h16.length=16 from rfl] at b0 b1 b2 b3;unfold F7;simp only[A5e,D1e,D36,L_e];refine Dg rfl ?_;dsimp only[Ci];w_up;refine Qa (Bw h1) rfl ?_;w_up;refine Qa (Bw Au) rfl ?_;w_up;refine A0k (q:=q) (Ah pre_app h2) (by k_in) (by k_in) fun j0 H0 p0 f0=>?_;w_up;refine⟨_,Gw Au (by decide),?_⟩;have h3:=Ah (pre_app (t:=[MO.rng 0 4 1])) (Ah p0 (Ah (pre_app (t:=[MO.tup [sl h16,sl []]])) h3));have f0:=Ah (pre_app (t:=[MO.rng 0 4 1])) f0;have P:=(List.prefix_append H [MO.tup [sl h16,sl []]]).trans (p0.trans (List.prefix_append _ [MO.rng 0 4 1]))
 generalize H0++[MO.rng 0 4 1]=G0 at *
 refine Ff (Do (v:=0) (by decide) rfl) ?_;w_up;refine Gf (Et (by decide) (by decide) f0 (Nat.le_trans L5 (by decide))) fun K0 q0=>?_;w_up;refine Fg ?_ ?_
 ·simp only[List.length_append,List.length_cons,List.length_nil];exact B7d b0
 w_up;refine Ht ?_ ?_
 ·simp only[List.length_append,List.length_cons,List.length_nil];exact C06 b0
 w_up;have h3:=Ah q0 h3;have P:=P.trans q0;refine Ff (Do (v:=1) (by decide) rfl) ?_;w_up;refine Lg (k:=1) (q:=q) C07 h3 ?_ ?_ fun jw1 W1 os1 p1 w1 a1=>?_
 ·show _=some (MV.int 1);k_in
 ·k_in
 w_up;refine R5 (q:=q) (k:=1) w1 a1 C08 ?_ ?_ fun jf1 G1 r1 f1=>?_
 ·k_in
 ·k_in
 w_up;refine Gf (Et (by decide) (by decide) f1 (Nat.le_trans L5 (by decide))) fun K1 q1=>?_;w_up;refine Fg ?_ ?_
 ·simp only[List.length_append,List.length_cons,List.length_nil];exact B7e b1
 w_up;refine Ht ?_ ?_
 ·simp only[List.length_append,List.length_cons,List.length_nil];exact C09 b0 b1
 w_up;have h3:=Ah (p1.trans (r1.trans q1)) h3;have P:=P.trans (p1.trans (r1.trans q1));refine Ff (Do (v:=2) (by decide) rfl) ?_;w_up;refine Lg (k:=2) (q:=q) C1a h3 ?_ ?_ fun jw2 W2 os2 p2 w2 a2=>?_
 ·show _=some (MV.int 2);k_in
 ·k_in
 w_up;refine R5 (q:=q) (k:=2) w2 a2 C1b ?_ ?_ fun jf2 G2 r2 f2=>?_
 ·k_in
 ·k_in
 w_up;refine Gf (Et (by decide) (by decide) f2 (Nat.le_trans L5 (by decide))) fun K2 q2=>?_;w_up;refine Fg ?_ ?_
 ·simp only[List.length_append,List.length_cons,List.length_nil];exact B7d b2
 w_up;refine Ht ?_ ?_
 ·simp only[List.length_append,List.length_cons,List.length_nil];exact C1c b0 b1 b2
 w_up;have h3:=Ah (p2.trans (r2.trans q2)) h3;have P:=P.trans (p2.trans (r2.trans q2));refine Ff (Do (v:=3) (by decide) rfl) ?_;w_up;refine Lg (k:=3) (q:=q) C1d h3 ?_ ?_ fun jw3 W3 Md p3 w3 a3=>?_
 ·show _=some (MV.int 3);k_in
 ·k_in
 w_up;refine R5 (q:=q) (k:=3) w3 a3 C1e ?_ ?_ fun jf3 G3 r3 f3=>?_
 ·k_in
 ·k_in
 w_up;refine Gf (Et (by decide) (by decide) f3 (Nat.le_trans L5 (by decide))) fun K3 q3=>?_;w_up;refine Fg ?_ ?_
 ·simp only[List.length_append,List.length_cons,List.length_nil];exact B7e b3
 w_up;refine Ht ?_ ?_
 ·simp only[List.length_append,List.length_cons,List.length_nil];exact C1f b0 b1 b2 b3
 w_up;have h3:=Ah (p3.trans (r3.trans q3)) h3;have P:=P.trans (p3.trans (r3.trans q3));refine Jo (Hf (by decide)) ?_;w_up;exact⟨P,rfl⟩
end
def rg(q:Qn)(i:Int)(a:Nat):Bool:=decide ((Dp q.rights i).getD (a:Int)=(a:Int))
def N0(q:Qn)(i:Int)(x y:Nat):List Nat:=[0,1].filterMap fun a=>if rg q i a=true then some (pk x y a) else none
def T9(q:Qn)(low up:Int):List (Nat × Nat):=[(0,0),(0,1),(1,0),(1,1)].filter fun p=>rg q low p.1&&rg q up p.2
def Hw(c d:Nat)(p:Nat × Nat):Nat:=U0 45 120 c d p.2 p.1
def A0l(q:Qn):List Nat:=
 brk q.kinds k8 q.dress++brk (N0 q 8 45 114) [45,114] q.dress++brk (N0 q 7 45 119) [45,119] q.dress++brk ((T9 q 6 11).map (Hw 83 115)) [45,83,115,120] q.dress++
 brk (N0 q 5 45 114) [45,114] q.dress++brk (N0 q 4 45 119) [45,119] q.dress++brk ((T9 q 3 10).map (Hw 83 115)) [45,83,115,120] q.dress++
 brk (N0 q 2 45 114) [45,114] q.dress++brk (N0 q 1 45 119) [45,119] q.dress++brk ((T9 q 0 9).map (Hw 84 116)) [45,84,116,120] q.dress
section
variable {H:Hp}
theorem B5q{k:Nat}{es:List (Int × MV)}(e:H[k]?=some (.dict es)):Si H (.ref k)=true:=by show (Option.bind _ ofD).isSome=true;rw[e];rfl
theorem A5q{o:Option Int}{a:Int}:(o.map MV.int).getD (.int a)=.int (o.getD a):=by cases o <;> rfl
inductive DG(H:Hp)(es:List (Int × Int))(Q:QM)(ms:List MV)(H₁:Hp):Prop
 | mk (i a:Int) (e:ms=[.int i,.int a]) (h:H₁=H∧Q (.int ((Dp es i).getD a)) H)
theorem W4{x:Str}{ρ:Aj}{f:Aj->P (List MV)}{k:Nat}{es:List (Int × Int)}{Q:MV->Hp->Prop}(hx:ρ x=some (.ref k))(e:H[k]?=some (.dict (dv es)))(h:Wp (f ρ) H (DG H es Q)):
  Wp (Be Si (Ac x) f (three Ge) ρ) H Q:=
 Gp (B0 hx ⟨B5q e,h.mono fun ms H₁ z=>by obtain⟨i,a,rfl,rfl,z⟩:=z;exact wThree (D0z e (by rw[Ny,A5q];exact z))⟩)
theorem Ys{x y a:Nat}{Q:MV->Hp->Prop}(ha:a<2)(h:Q (sl [pk x y a]) H):Wp (Ao T0 (sl [x,y]) (.int (a:Int))) H Q:=Iq rfl ha h
theorem Yt{q:Qn}{jr:Nat}{c low:Int}{x y:Nat}{ρ:Aj}{Q:MV->Hp->Prop}(hr:H[jr]?=some (.dict (dv q.rights)))(h1:ρ "low"=some (.int low))(h2:ρ "rights"=some (.ref jr))
  (hQ:∀i H',H<+:H'->H'[i]?=some (.list (((N0 q (low+c) x y).map fun c=>[c]).map sl))->Q (.ref i) H'):
  Wp (Br (Ak (Ab (pC (.int 0)) (Ab (pC (.int 1)) Af)) Bd) (Ej T0) (A2 "a") (At T0 (Be Si (Ac "rights") (Ab (Am (Ac "low") (pC (.int c)) A1) (Ab (Ac "a") Af)) (three Ge)) (Ac "a") Bb) (Bt (Am (pC (sl [x,y])) (Ac "a") (Ao T0))) 4000 (C8 ["low","rights"]) ρ) H Q:=by
 refine Ip (fun v=>match v with | .int a=>if rg q (low+c) a.toNat=true then some (sl [pk x y a.toNat]) else none|_=>none) (fun ρ=>ρ "low"=some (.int low)∧ρ "rights"=some (.ref jr)) ?_;w_up;refine⟨_,_,Dd (Aq Au),fun H' p=>Ch (Ei p (Aq Au)),by simp,by simp,⟨by k_in,by k_in⟩,?_,?_⟩
 ·rintro v hv ρ H' ⟨i1,i2⟩ p;obtain⟨a,ha,rfl⟩:∃a:Nat,a<2∧v=.int (a:Int):=by
   simp only[List.mem_cons,List.not_mem_nil,or_false] at hv;rcases hv with rfl|rfl
   ·exact⟨0,by exact B7f,rfl⟩
   ·exact⟨1,by exact A99,rfl⟩
  w_up;refine⟨rfl,⟨by k_in,by k_in⟩,?_⟩;w_up;refine W4 (by k_in) (Ah ((List.prefix_append _ _).trans p) hr) ?_;w_up;refine⟨rfl,?_⟩;w_up;refine⟨List.prefix_rfl,fun h=>?_,fun h=>?_⟩
  ·w_up;refine Ys ha ⟨List.prefix_rfl,?_⟩;show (if rg q (low+c) ((a:Int)).toNat=true then _ else _)=_;rw[Int.toNat_natCast,if_pos];unfold rg;simpa using h
  ·show (if rg q (low+c) ((a:Int)).toNat=true then _ else _)=_;rw[Int.toNat_natCast,if_neg];unfold rg;simpa using h
 ·intro HP p l;refine hQ _ _ ((List.prefix_append _ _).trans p) ?_;rw[l]
  congr 2
  unfold N0;simp only[List.filterMap_cons,List.filterMap_nil];by_cases e0:rg q (low+c) 0=true <;> by_cases e1:rg q (low+c) 1=true <;> simp[e0,e1]
abbrev prE(T:GT):Aj->P MV:=(Br (Ak (Ab (pC (.int 0)) (Ab (pC (.int 1)) Af)) Bd) (Ej T) (A2 "a") cT (J2 (Ak (Ab (pC (.int 0)) (Ab (pC (.int 1)) Af)) Bd) (Ej T) (A2 "b") (Dk (At T (Be Si (Ac "rights") (Ab (Ac "low") (Ab (Ac "a") Af)) (three Ge)) (Ac "a") Bb) (Dk (At T (Be Si (Ac "rights") (Ab (Am (pC (.int 11)) (Ac "k") De) (Ab (Ac "b") Af)) (three Ge)) (Ac "b") Bb) Eg)) (Bt (Ak (Ab (Ac "a") (Ab (Ac "b") Af)) Bq)) 4000) 4000 (C8 ["k","low","rights"]))
inductive PrOk(H:Hp)(v:MV)(p:Nat × Nat):Prop
 | mk (j:Nat) (e:v=.ref j) (h:H[j]?=some (.tup [.int (p.1:Int),.int (p.2:Int)]))
theorem A9u{q:Qn}{jr jl k0:Nat}{low kk:Int}{acc:List MV}{a:Nat}(ha:a<2){n:Nat}(hn:acc.length<1000):∀(rest done:List Nat) (n:Nat) (ρ:Aj) (H:Hp) (acc:List MV) (ps:List (Nat × Nat)) {Q:Aj->Hp->Prop},done++rest=[0,1]->rest.length<n->acc.length+rest.length<1000->
  H[jr]?=some (.dict (dv q.rights))->k0≠jr->k0≠jl->H[jl]?=some (.list [.int 0,.int 1])->ρ "k"=some (.int kk)->ρ "low"=some (.int low)->ρ "rights"=some (.ref jr)->ρ "a"=some (.int (a:Int))->H[k0]?=some (.list acc)->All2 (PrOk H) acc ps->
  (∀ρ' H' acc',ρ' "k"=some (.int kk)->ρ' "low"=some (.int low)->ρ' "rights"=some (.ref jr)->(∀j x,j≠k0->H[j]?=some x->H'[j]?=some x)->H.length<=H'.length->H'[k0]?=some (.list acc')->acc'.length<=acc.length+rest.length->All2 (PrOk H') acc' (ps++(rest.map fun b=>(a,b)).filter fun p=>rg q low p.1&&rg q (11-kk) p.2)->Q ρ' H')->
  Wp (F5 (Ox T0 (.ref jl)) (A2 "b") (Dk (At T0 (Be Si (Ac "rights") (Ab (Ac "low") (Ab (Ac "a") Af)) (three Ge)) (Ac "a") Bb) (Dk (At T0 (Be Si (Ac "rights") (Ab (Am (pC (.int 11)) (Ac "k") De) (Ab (Ac "b") Af)) (three Ge)) (Ac "b") Bb) Eg)) (Bt (Ak (Ab (Ac "a") (Ab (Ac "b") Af)) Bq) k0) n done.length ρ) H Q:=by
 intro rest__
 induction rest__ with
 | nil=>
  intro done n ρ H acc ps Q hd hn hc hr n1 n2 hl g1 g2 g3 g4 hk hA hQ;obtain⟨n,rfl⟩:=Bv hn;have:done=[0,1]:=by simpa using hd
  subst this;refine cfE (by rw[Ch (Aq hl)];rfl) (hQ _ _ acc g1 g2 g3 (fun zz zz zz h=>h) (Nat.le_refl _) hk (by simp) (by simpa using hA))
 | cons b rest ih=>
  intro done n ρ H acc ps Q hd hn hc hr n1 n2 hl g1 g2 g3 g4 hk hA hQ;obtain⟨n,rfl⟩:=Bv hn;have hb:[MV.int 0,MV.int 1][done.length]?=some (.int (b:Int)):=by
   have:([0,1]:List Nat)[done.length]?=some b:=by rw[<- hd];simp
   have e:[MV.int 0,MV.int 1]=[0,1].map fun (b:Nat)=>MV.int (b:Int):=rfl;rw[e,List.getElem?_map,this];rfl
  have step:∀(ρ':Aj) (H':Hp) (acc':List MV) (it:List (Nat × Nat)),ρ' "k"=some (.int kk)->ρ' "low"=some (.int low)->ρ' "rights"=some (.ref jr)->ρ' "a"=some (.int (a:Int))->(∀j x,j≠k0->H[j]?=some x->H'[j]?=some x)->H.length<=H'.length->H'[k0]?=some (.list acc')->acc'.length<=acc.length+1->
    All2 (PrOk H') acc' (ps++it)->it=[(a,b)].filter (fun p=>rg q low p.1&&rg q (11-kk) p.2)->
    Wp (F5 (Ox T0 (.ref jl)) (A2 "b") (Dk (At T0 (Be Si (Ac "rights") (Ab (Ac "low") (Ab (Ac "a") Af)) (three Ge)) (Ac "a") Bb) (Dk (At T0 (Be Si (Ac "rights") (Ab (Am (pC (.int 11)) (Ac "k") De) (Ab (Ac "b") Af)) (three Ge)) (Ac "b") Bb) Eg)) (Bt (Ak (Ab (Ac "a") (Ab (Ac "b") Af)) Bq) k0) n (done.length+1) ρ') H' Q:=fun ρ' H' acc' it w1 w2 w3 w4 w5 w5' w6 w7 w8 w9=>by
   have:=ih (done++[b]) n ρ' H' acc' (ps++it) (Q:=Q) (by simpa using hd) (by simp at hn;lia) (by simp at hc;exact C1g hc w7) (w5 _ _ (fun e=>n1 e.symm) hr) n1 n2 (w5 _ _ (fun e=>n2 e.symm) hl) w1 w2 w3 w4 w6 w8
    fun ρ'' H'' acc'' z1 z2 z3 z4 z4' z5 z6 z7=>hQ _ _ acc'' z1 z2 z3 (fun j x hj hx=>z4 j x hj (w5 j x hj hx)) (C1h w5' z4') z5 (by simp;exact C1i w7 z6) (by
     rw[w9] at z7;rw[List.map_cons,List.filter_cons];by_cases hh:(rg q low a&&rg q (11-kk) b)=true
     ·simpa [hh] using z7
     ·simpa [hh] using z7)
   simpa using this
  refine cfS (by rw[Ch (Aq hl),hb]) ?_;w_up;refine W4 (by k_in) hr ?_;w_up;refine⟨rfl,?_⟩;w_up;refine⟨fun h=>?_,fun h=>?_⟩
  ·have r1:rg q low a=true:=by unfold rg;simpa using h
   w_up;refine W4 (by k_in) hr ?_;w_up;refine⟨rfl,?_⟩;w_up;refine⟨fun h=>?_,fun h=>?_⟩
   ·have r2:rg q (11-kk) b=true:=by unfold rg;simpa using h
    w_up;refine Yq ?_;w_up;refine⟨acc,Ah pre_app hk,by exact C1j hc,?_⟩;have hlt:=Bx hk;have hne:k0≠H.length:=by exact Nat.ne_of_lt ‹_›
    refine step _ _ (acc++[.ref H.length]) [(a,b)] (by k_in) (by k_in) (by k_in) (by k_in) (fun j x hj hx=>Bo (Ah pre_app hx) (fun e=>hj e.symm)) (by simp) (Ds (Ah pre_app hk)) (by simp) ?_ (by simp[r1,r2]);refine Hh (hA.imp fun v p hv=>?_) ⟨H.length,rfl,Bo Au hne⟩;obtain⟨j,rfl,e⟩:=hv;refine⟨j,rfl,Bo (Ah pre_app e) fun e'=>?_⟩;rw[<- e',hk] at e;cases e
   ·have r2:rg q (11-kk) b=false:=by unfold rg;simpa using h
    w_up;refine step _ _ acc [] (by k_in) (by k_in) (by k_in) (by k_in) (fun zz zz zz h=>h) (Nat.le_refl _) hk A60 (by simpa using hA) (by simp[r2])
  ·have r1:rg q low a=false:=by unfold rg;simpa using h
   w_up;refine step _ _ acc [] (by k_in) (by k_in) (by k_in) (by k_in) (fun zz zz zz h=>h) (Nat.le_refl _) hk A60 (by simpa using hA) (by simp[r1])
theorem A5r{A B:Hp}(h:∀(j:Nat) (x:MO),A[j]?=some x->B[j]?=some x):A<+:B:=by
 rw[List.prefix_iff_getElem?];intro i hi;exact h i _ (List.getElem?_eq_getElem hi)
theorem A5s{q:Qn}{jr:Nat}{low kk:Int}{ρ:Aj}{Q:MV->Hp->Prop}(hr:H[jr]?=some (.dict (dv q.rights)))(h1:ρ "k"=some (.int kk))(h2:ρ "low"=some (.int low))(h3:ρ "rights"=some (.ref jr))
  (hQ:∀i H' acc,H<+:H'->H'[i]?=some (.list acc)->acc.length<=4->All2 (PrOk H') acc (T9 q low (11-kk))->Q (.ref i) H'):Wp (prE T0 ρ) H Q:=by
 refine Wm ?_;w_up;refine⟨_,Dd (Aq Au),?_⟩;have hjr:=Bx hr;refine cfS (v:=.int 0) (Ch (Ei pre_app (Aq Au)) 0) ?_;w_up;refine Wl ?_;w_up;refine⟨_,Dd (Aq Au),?_⟩;have X:=@A9u q jr (H++[MO.list [MV.int 0,MV.int 1]]++[MO.list []]).length (H++[MO.list [MV.int 0,MV.int 1]]).length low kk [] 0 B7f 0 (by simp) [0,1] [] 4000;refine X _ _ [] [] ?_ ?_ ?_ ?_ ?_ ?_ ?_ ?_ ?_ ?_ ?_ ?_ ?_ ?_
 ·rfl
 ·simp
 ·simp
 ·exact Ah pre_app (Ah pre_app (Ah pre_app hr))
 ·simp;exact B7g hjr
 ·simp
 ·exact Au
 ·k_in
 ·k_in
 ·k_in
 ·exact upd_hit
 ·exact Ah pre_app Au
 ·exact .nil
 intro ρA H₁ aA w1 w2 w3 w4 w4' w5 w6 w7;have hl:H₁[H.length]?=some (.list [.int 0,.int 1]):=w4 _ _ (by simp) (Ah pre_app (Ah pre_app Au));have hr1:=w4 jr _ (by simp;exact A61 hjr) (Ah pre_app (Ah pre_app (Ah pre_app hr)));have hlt:=Bx w5;refine cfS (v:=.int 1) (Ch (Aq hl) 1) ?_;w_up;refine Wl ?_;w_up;refine⟨_,Dd (Aq Au),?_⟩;have Y:=@A9u q jr H₁.length (H++[MO.list [MV.int 0,MV.int 1]]).length low kk [] 1 A99 0 (by simp) [0,1] [] 4000;refine Y _ _ aA _ ?_ ?_ ?_ ?_ ?_ ?_ ?_ ?_ ?_ ?_ ?_ ?_ (w7.imp fun v p hv=>?_) ?_
 ·rfl
 ·simp
 ·simp at w6 ⊢;exact C1k w6
 ·exact Ah pre_app hr1
 ·simp;exact B7g hjr
 ·simp at hlt ⊢;exact C1l hlt
 ·exact Au
 ·k_in
 ·k_in
 ·k_in
 ·exact upd_hit
 ·exact Ah pre_app w5
 ·obtain⟨j,rfl,e⟩:=hv;exact⟨j,rfl,Ah pre_app e⟩
 intro ρB HP aB z1 z2 z3 z4 z4' z5 z6 z7;have hl2:HP[H.length]?=some (.list [.int 0,.int 1]):=z4 _ _ (by simp) (Ah pre_app hl);refine cfE (Ch (Aq hl2) 2) ?_;refine hQ _ _ aB (A5r fun j x hx=>?_) z5 (by simp at w6 z6;exact C1m w6 z6) (by rw[show T9 q low (11-kk)=_ from List.filter_append (p:=fun p:Nat × Nat=>rg q low p.1&&rg q (11-kk) p.2) [(0,0),(0,1)] [(1,0),(1,1)]];simpa using z7);have hj:=Bx hx;exact z4 j x (by simp;exact A61 hj) (Ah pre_app (w4 j x (by simp;exact A61 hj) (Ah pre_app (Ah pre_app (Ah pre_app hx)))))
def A72(T:GT)(H:Hp)(v:MV):Option (Nat × Nat):=match D0 T H v with
 | some [.int p,.int w]=>some (p.toNat,w.toNat)
 | _=>none
theorem PrOk.tag{H:Hp}{v:MV}{p:Nat × Nat}(h:PrOk H v p):A72 T0 H v=some p:=by
 obtain⟨j,rfl,e⟩:=h;unfold A72;rw[Bw e];simp
theorem B5r{H:Hp}{c d:Nat}{acc:List MV}{ps:List (Nat × Nat)}(h:All2 (PrOk H) acc ps):acc.filterMap (fun v=>(A72 T0 H v).map fun p=>sl [Hw c d p])=((ps.map (Hw c d)).map fun c=>[c]).map sl:=by
 induction h with
 | nil=>rfl
 | cons h t ih=>rw[List.filterMap_cons,h.tag,ih];rfl
theorem D1f{q:Qn}{low up:Int}:∀p∈T9 q low up,p.1<2∧p.2<2:=by
 intro p hp;unfold T9 at hp;have:=(List.mem_filter.mp hp).1;simp only[List.mem_cons,List.not_mem_nil,or_false] at this;rcases this with rfl|rfl|rfl|rfl <;> decide
theorem All2.mem{α β:Type}{R:α->β->Prop}{l:List α}{m:List β}(h:All2 R l m)(a:α)(ha:a∈l):∃b∈m,R a b:=by
 induction h with
 | nil=>cases ha
 | cons h t ih=>
  cases ha with
  | head=>exact⟨_,.head _,h⟩
  | tail _ ha=>obtain⟨b,hb,r⟩:=ih ha;exact⟨b,.tail _ hb,r⟩
theorem A5t{i je c d:Nat}{acc:List MV}{ps:List (Nat × Nat)}{ρ:Aj}{Q:MV->Hp->Prop}(hl:H[i]?=some (.list acc))(ha:acc.length<=4)(hA:All2 (PrOk H) acc ps)(hp:∀p∈ps,p.1<2∧p.2<2)(he:H[je]?=some (.list [sl [45,120],sl [c,d]]))
  (h1:ρ "pairs"=some (.ref i)) (h2:ρ "ends"=some (.ref je)) (hQ:∀i H',H<+:H'->H'[i]?=some (.list (((ps.map (Hw c d)).map fun c=>[c]).map sl))->Q (.ref i) H'):
  Wp (Br (Ac "pairs") (Ej T0) (Js T0 2 (Cj (A2 "a") (Cj (A2 "b") Jr))) cT (Bt (Am (Am (Ac "ends") (Ac "b") (Ao T0)) (Ac "a") (Ao T0))) 4000 (C8 ["ends"]) ρ) H Q:=by
 refine Ip (fun v=>(A72 T0 H v).map fun p=>sl [Hw c d p]) (fun ρ=>ρ "ends"=some (.ref je)) ?_;w_up;refine⟨_,_,Dd (Aq hl),fun H' p=>Ch (Ei p (Aq hl)),by exact B7b ha,by exact B7c ha,by k_in,?_,?_⟩
 ·intro v hv ρ H' hI p;kcf_m;obtain⟨⟨a,b⟩,hab,ok⟩:=hA.mem v hv;refine hGx ?_;have ht:=ok.tag;obtain⟨j,rfl,e⟩:=ok;obtain⟨a2,b2⟩:=hp _ hab;refine Qa (Bw (Ah p e)) rfl ?_;w_up;refine⟨rfl,by k_in,?_⟩;w_up;refine⟨List.prefix_rfl,fun zz=>?_,fun h=>nomatch h⟩;w_up;refine Kl (x:=b) (Aq (Ah p he)) rfl b2 ?_;w_up;refine Ys a2 ⟨List.prefix_rfl,?_⟩;rw[ht];simp only[Option.map_some]
  congr 3
  unfold Hw U0 pk;dsimp only
  split <;> split <;> rfl
 ·intro HP p l;refine hQ _ _ p ?_;rw[l,B5r hA]
theorem Yu{q:Qn}{i:Int}{x y:Nat}:(N0 q i x y).length<=2:=List.length_filterMap_le _ _
theorem A73{q:Qn}{i j:Int}:(T9 q i j).length<=4:=List.length_filter_le _ _
theorem D1g:pC (.str "-Ttx")=pC (sl [45,84,116,120]):=lit (by kd_p)
theorem D1h:pC (.str "-Ssx")=pC (sl [45,83,115,120]):=lit (by kd_p)
abbrev A5u:Aj->P (Fl × Aj):=(Ag (Wa (Ak (Ab (Ak (Ab (pC (.str "-x")) (Ab (Cv (At T0 (Ac "k") (pC (.int 2)) Bb) (pC (.str "Tt")) (pC (.str "Ss"))) Af)) Bd) (Ab (Am (pC (.int 6)) (Am (pC (.int 3)) (Ac "k") Iu) De) Af)) Bq) (Js T0 2 (Cj (A2 "ends") (Cj (A2 "low") Jr))))
 (Ag (C3 "told" (Ak (Ab (Br (Ak (Ab (pC (.int 0)) (Ab (pC (.int 1)) Af)) Bd) (Ej T0) (A2 "a") (At T0 (Be Si (Ac "rights") (Ab (Am (Ac "low") (pC (.int 2)) A1) (Ab (Ac "a") Af)) (three Ge)) (Ac "a") Bb) (Bt (Am (pC (.str "-r")) (Ac "a") (Ao T0))) 4000 (C8 ["low","rights"])) (Ab (pC (.str "-r")) (Ab (Ac "dress") Af))) (B4 T0)) Bc)
 (Ag (C3 "told" (Ak (Ab (Br (Ak (Ab (pC (.int 0)) (Ab (pC (.int 1)) Af)) Bd) (Ej T0) (A2 "a") (At T0 (Be Si (Ac "rights") (Ab (Am (Ac "low") (pC (.int 1)) A1) (Ab (Ac "a") Af)) (three Ge)) (Ac "a") Bb) (Bt (Am (pC (.str "-w")) (Ac "a") (Ao T0))) 4000 (C8 ["low","rights"])) (Ab (pC (.str "-w")) (Ab (Ac "dress") Af))) (B4 T0)) Bc)
 (Ag (Bi "pairs" (Br (Ak (Ab (pC (.int 0)) (Ab (pC (.int 1)) Af)) Bd) (Ej T0) (A2 "a") cT (J2 (Ak (Ab (pC (.int 0)) (Ab (pC (.int 1)) Af)) Bd) (Ej T0) (A2 "b") (Dk (At T0 (Be Si (Ac "rights") (Ab (Ac "low") (Ab (Ac "a") Af)) (three Ge)) (Ac "a") Bb) (Dk (At T0 (Be Si (Ac "rights") (Ab (Am (pC (.int 11)) (Ac "k") De) (Ab (Ac "b") Af)) (three Ge)) (Ac "b") Bb) Eg)) (Bt (Ak (Ab (Ac "a") (Ab (Ac "b") Af)) Bq)) 4000) 4000 (C8 ["k","low","rights"])))
 (Ag (C3 "told" (Ak (Ab (Br (Ac "pairs") (Ej T0) (Js T0 2 (Cj (A2 "a") (Cj (A2 "b") Jr))) cT (Bt (Am (Am (Ac "ends") (Ac "b") (Ao T0)) (Ac "a") (Ao T0))) 4000 (C8 ["ends"])) (Ab (Cv (At T0 (Ac "k") (pC (.int 2)) Bb) (pC (.str "-Ttx")) (pC (.str "-Ssx"))) (Ab (Ac "dress") Af))) (B4 T0)) Bc)
 Ap)))))
noncomputable def U2(k:Nat):Nat:=if k=2 then 84 else 83
noncomputable def U3(k:Nat):Nat:=if k=2 then 116 else 115
def Ua(q:Qn)(k:Nat):List Nat:=
 brk (N0 q (6-3*(k:Int)+2) 45 114) [45,114] q.dress++(brk (N0 q (6-3*(k:Int)+1) 45 119) [45,119] q.dress++brk ((T9 q (6-3*(k:Int)) (11-(k:Int))).map (Hw (U2 k) (U3 k))) [45,U2 k,U3 k,120] q.dress)
theorem D1i{k:Nat}{ρ:Aj}{Q:QM}(h:Q (sl [U2 k,U3 k]) H):KI (pC (sl [84,116])) (pC (sl [83,115])) ρ Q ((k:Int)==2) H:=by
 refine⟨fun e=>wC ?_,fun e=>wC ?_⟩
 ·have:k=2:=by simp at e;exact A6z e
  subst this;exact h
 ·have:¬k=2:=fun q=>by subst q;cases e
  rwa [U2,U3,if_neg this,if_neg this] at h
theorem B5s{k:Nat}{ρ:Aj}{Q:QM}(h:Q (sl [45,U2 k,U3 k,120]) H):KI (pC (sl [45,84,116,120])) (pC (sl [45,83,115,120])) ρ Q ((k:Int)==2) H:=by
 refine⟨fun e=>wC ?_,fun e=>wC ?_⟩
 ·have:k=2:=by simp at e;exact A6z e
  subst this;exact h
 ·have:¬k=2:=fun q=>by subst q;cases e
  rwa [U2,U3,if_neg this,if_neg this] at h
theorem B5t{k:Nat}:[45,U2 k,U3 k,120].all (·<128)=true:=by
 unfold U2 U3
 split <;> rfl
theorem Pn{q:Qn}{k jr:Nat}{told:List Nat}{ρ:Aj}{K:SK}(h3:H[jr]?=some (.dict (dv q.rights)))(g1:ρ "k"=some (.int (k:Int)))(g2:ρ "rights"=some (.ref jr))(g3:ρ "dress"=some (.int (q.dress:Int)))(g4:ρ "told"=some (sl told))(ht:told.length<=1000)
  (hK:∀ρ' H',H<+:H'->ρ' "rights"=some (.ref jr)->ρ' "dress"=some (.int (q.dress:Int))->ρ' "told"=some (sl (told++Ua q k))->K .next ρ' H'):WS A5u ρ H K:=by
 unfold A5u;simp only[L_x,D04,D05,L_r,L_w,D1g,D1h];have bl:∀s e,(brk s e q.dress).length<=2*e.length+6:=fun s e=>Ez;have A:=bl (N0 q (6-3*(k:Int)+2) 45 114) [45,114];have B:=bl (N0 q (6-3*(k:Int)+1) 45 119) [45,119];have D:=bl ((T9 q (6-3*(k:Int)) (11-(k:Int))).map (Hw (U2 k) (U3 k))) [45,U2 k,U3 k,120];simp only[List.length_cons,List.length_nil] at A B D;w_up;refine D1i ?_;w_up;refine Qa (Bw Au) rfl ?_;w_up;have P:=(pre_app (H:=H) (t:=[MO.list [sl [45,120],sl [U2 k,U3 k]]])).trans (pre_app (t:=[MO.tup [MV.ref H.length,MV.int (6-3*(k:Int))]]));have e3:=Ah (pre_app (t:=[MO.tup [MV.ref H.length,MV.int (6-3*(k:Int))]])) (Au (H:=H) (o:=MO.list [sl [45,120],sl [U2 k,U3 k]]));have h3:=Ah P h3
 generalize List.length H=je at *
 generalize H++[MO.list [sl [45,120],sl [U2 k,U3 k]]]++[MO.tup [MV.ref je,MV.int (6-3*(k:Int))]]=G at *
 refine Yt (q:=q) (c:=2) h3 (by k_in) (by k_in) fun i1 H1 p1 f1=>?_;have h3:=Ah p1 h3;have e3:=Ah p1 e3;have P:=P.trans p1;w_up;refine Gf (Et (by decide) (by decide) f1 (Nat.le_trans Yu (by decide))) fun H1' p1'=>?_;have h3:=Ah p1' h3;have e3:=Ah p1' e3;have P:=P.trans p1';w_up;refine Ht (C1n ht A) ?_;w_up;refine Yt (q:=q) (c:=1) h3 (by k_in) (by k_in) fun i1 H1 p1 f1=>?_;have h3:=Ah p1 h3;have e3:=Ah p1 e3;have P:=P.trans p1;w_up;refine Gf (Et (by decide) (by decide) f1 (Nat.le_trans Yu (by decide))) fun H1' p1'=>?_;have h3:=Ah p1' h3;have e3:=Ah p1' e3;have P:=P.trans p1';w_up;refine Ht (by rw[List.length_append];exact C1o ht A B) ?_;w_up;refine A5s (q:=q) (kk:=(k:Int)) h3 (by k_in) (by k_in) (by k_in) fun i2 H2 acc p2 f2 n2 a2=>?_;have e3:=Ah p2 e3;have P:=P.trans p2;w_up;refine A5t (c:=U2 k) (d:=U3 k) f2 n2 a2 D1f e3 (by k_in) (by k_in) fun i3 H3 p3 f3=>?_;have P:=P.trans p3;w_up;refine B5s ?_;w_up;refine Gf (Et (by simp) B5t f3 (by rw[List.length_map];exact Nat.le_trans A73 (by decide))) fun H4 p4=>?_;w_up;refine Ht (by rw[List.length_append,List.length_append];exact C1p ht A B D) ?_;w_up;refine hK _ _ (P.trans p4) (by k_in) (by k_in) (upd_hit.trans ?_);unfold Ua;simp only[List.append_assoc]
theorem Ub{q:Qn}{k:Nat}:(Ua q k).length<=38:=by
 unfold Ua;have A:=Ez (signs:=N0 q (6-3*(k:Int)+2) 45 114) (every:=[45,114]) (dress:=q.dress);have B:=Ez (signs:=N0 q (6-3*(k:Int)+1) 45 119) (every:=[45,119]) (dress:=q.dress);have D:=Ez (signs:=(T9 q (6-3*(k:Int)) (11-(k:Int))).map (Hw (U2 k) (U3 k))) (every:=[45,U2 k,U3 k,120]) (dress:=q.dress);simp only[List.length_cons,List.length_nil] at A B D;rw[List.length_append,List.length_append];exact C1q A B D
theorem colM_P{q:Qn}:A0l q=brk q.kinds k8 q.dress++Ua q 0++Ua q 1++Ua q 2:=by
 unfold A0l Ua;simp only[List.append_assoc];rfl
theorem W5{lo:Nat}{q:Qn}{v:MV}(hQ:RepQ lo H v q)(hks:q.kinds.length<=1000):Wp (Er T0 [v]) H fun r H'=>H<+:H'∧r=sl (A0l q):=by
 kcf_m;obtain⟨j,jk,jr,rfl,l1,l2,l3,h1,h2,h3⟩:=hQ;refine hGx ?_;unfold Er;simp only[D09];refine Dg rfl ?_;dsimp only[Ci];w_up;refine Qa (Bw h1) rfl ?_;w_up;refine Gf (Et (by decide) (by decide) h2 hks) fun H0 P=>?_;have h3:=Ah P h3;w_up;refine⟨_,Gw Au (by decide),?_⟩;have h3:=Ah (pre_app (t:=[MO.rng 0 3 1])) h3;have P:=P.trans (List.prefix_append _ [MO.rng 0 3 1])
 generalize H0++[MO.rng 0 3 1]=G0 at *
 have b0:=Ez (signs:=q.kinds) (every:=k8) (dress:=q.dress);rw[show k8.length=8 from rfl] at b0;have c0:=Ub (q:=q) (k:=0);have c1:=Ub (q:=q) (k:=1);refine Ff (Do (v:=0) (by decide) rfl) ?_;refine wTName ?_;show WS A5u _ _ _;refine Pn (k:=0) h3 upd_hit (by k_in) (by k_in) (by k_in) (C1r b0) fun ρ1 H1 p1 r1 r2 r3=>?_;have h3:=Ah p1 h3;w_up;refine Ff (Do (v:=1) (by decide) rfl) ?_;refine wTName ?_;show WS A5u _ _ _;refine Pn (k:=1) h3 upd_hit (by k_in) (by k_in) (by k_in) (by rw[List.length_append];exact C1s b0 c0) fun ρ2 H2 p2 r1 r2 r3=>?_;have h3:=Ah p2 h3;w_up;refine Ff (Do (v:=2) (by decide) rfl) ?_;refine wTName ?_;show WS A5u _ _ _;refine Pn (k:=2) h3 upd_hit (by k_in) (by k_in) (by k_in) (by rw[List.length_append,List.length_append];exact C1t b0 c0 c1) fun ρ3 H3 p3 r1 r2 r3=>?_;w_up;refine Jo (Hf (by decide)) ?_;w_up;exact⟨((P.trans p1).trans p2).trans p3,congrArg _ (colM_P.symm)⟩
end
noncomputable abbrev Ek:=Bool × List Nat
inductive AtomOk(H:Hp)(v:MV)(a:Ek):Prop
 | mk (j:Nat) (e:v=.ref j) (h:H[j]?=some (.tup [.bool a.1,sl a.2]))
inductive RepA(H:Hp)(v:MV)(as:List Ek):Prop
 | mk (j:Nat) (vs:List MV) (e:v=.ref j) (h:H[j]?=some (.list vs)) (r:All2 (AtomOk H) vs as)
theorem AtomOk.pre{H H':Hp}(p:H<+:H'){v:MV}{a:Ek}(h:AtomOk H v a):AtomOk H' v a:=by
 obtain⟨j,e,h⟩:=h;exact⟨j,e,Ah p h⟩
theorem RepA.pre{H H':Hp}(p:H<+:H'){v:MV}{as:List Ek}(h:RepA H v as):RepA H' v as:=by
 obtain⟨j,vs,e,h1,h2⟩:=h;exact⟨j,vs,e,Ah p h1,h2.imp fun zz zz=>AtomOk.pre p⟩
noncomputable def Cf:List Ek->List Nat->Bool
 | [],_=>true
 | _::_,[]=>false
 | a::as,c::l=>(a.2.contains c != a.1)&&Cf as l
theorem Ib:∀ {as:List Ek} {l:List Nat},l.length<as.length->Cf as l=false
 | [],_,h=>by simp at h
 | _::_,[],_=>rfl
 | a::as,c::l,h=>by
  simp only[Cf];rw[Ib (as:=as) (l:=l) (by simpa using h),Bool.and_false]
section
variable {H:Hp}
theorem D37{a b:Bool}{Q:MV->Hp->Prop}(h:Q (.bool (a==b)) H):Wp (Bb (.bool a) (.bool b)) H Q:=⟨_,_,rfl,h⟩
abbrev ftB(T:GT):Aj->P (Fl × Aj):=(Ag (Cv (At T (Am (Am (Ac "name") (Am (Ac "at") (Ac "k") A1) (Ao T)) (Am (Am (Ac "atoms") (Ac "k") (Ao T)) (pC (.int 1)) (Ao T)) (Fa T)) (Am (Am (Ac "atoms") (Ac "k") (Ao T)) (pC (.int 0)) (Ao T)) Bb)
 (Ag (C6 (pC (.bool false)))
 Ap)
 Ap)
 Ap)
theorem A74{j at_:Nat}{vs:List MV}{as:List Ek}{name:List Nat}(hl:H[j]?=some (.list vs))(hA:All2 (AtomOk H) vs as)(hn:name.length<=1000)(hat:at_+as.length<=name.length){K:Fl->Aj->Hp->Prop}:∀(rest done:List Ek) (n:Nat) (ρ:Aj),as=done++rest->rest.length<n->
  ρ "atoms"=some (.ref j)->ρ "name"=some (sl name)->ρ "at"=some (.int (at_:Int))->
  ((Cf rest (name.drop (at_+done.length))=true->∀ρ',K .next ρ' H)∧(Cf rest (name.drop (at_+done.length))=false->∀ρ',K (.ret (.bool false)) ρ' H))->
  WS (Gg (Jq 0 as.length 1) (A2 "k") (ftB T0) Ap n done.length) ρ H K:=by
 intro rest__
 induction rest__ with
 | nil=>
  intro done n ρ he hc g1 g2 g3 hK;obtain⟨n,rfl⟩:=Bv hc;have:as.length=done.length:=by rw[he];simp
  refine Jo (Hf ?_) ?_
  ·rw[this];unfold Builtin.Range.rangeSize;simp only[show (1:Int)>0 by decide,if_true,Int.ediv_one]
   split <;> (first |exact B62|exact B63 this ‹_›)
  w_up;exact hK.1 rfl _
 | cons pr__ rest ih=>
  obtain⟨b,s⟩:=pr__;intro done n ρ he hc g1 g2 g3 hK;obtain⟨n,rfl⟩:=Bv hc;have hlen:as.length=done.length+(rest.length+1):=by rw[he];simp
  have ha:as[done.length]?=some (b,s):=by rw[he];simp
  obtain⟨v,hv,i,rfl,e⟩:=hA.get' ha;obtain⟨c,hc'⟩:∃c,name[at_+done.length]?=some c:=⟨name[at_+done.length]'(B7h hat hlen),by simp[show at_+done.length<name.length by exact B7h hat hlen]⟩;have hd:name.drop (at_+done.length)=c::name.drop (at_+done.length+1):=by
   rw[List.getElem?_eq_some_iff] at hc';rw[List.drop_eq_getElem_cons hc'.1,hc'.2]
  refine Ff (Do (v:=(done.length:Int)) ?_ A6x) ?_
  ·unfold Builtin.Range.rangeSize;simp only[show (1:Int)>0 by decide,if_true,Int.ediv_one]
   split <;> (first |exact B64 hlen|exact B65 hlen ‹_›)
  have hvl:=hA.length;w_up;rw[show (at_:Int)+(done.length:Int)=((at_+done.length:Nat):Int) by exact B7i];refine Cs hc' (by unfold lim;exact C1u hn hat hlen) ?_;w_up;refine Bl (Aq hl) hv (by unfold lim;exact B7j hn hat hlen) ?_;w_up;refine Kb (i:=1) (Bw e) rfl (by unfold lim;exact Int.natCast_nonneg _) ?_;w_up;refine Bl (Aq hl) hv (by unfold lim;exact B7j hn hat hlen) ?_;w_up;refine Kb (i:=0) (Bw e) rfl (by unfold lim;exact Int.natCast_nonneg _) ?_;refine D37 ?_;w_up;rw[hd] at hK;simp only[Cf] at hK;refine⟨fun h=>?_,fun h=>?_⟩
  ·w_up;refine hK.2 ?_ _;have h:s.contains c=b:=by simpa using h
   rw[h];simp
  ·w_up;have h:(s.contains c != b)=true:=by
    cases h1:s.contains c <;> cases h2:b <;> simp_all
   rw[h,Bool.true_and] at hK;have:=ih (done++[(b,s)]) n (upd ρ "k" (.int (done.length:Int))) (by rw[he];simp) (by simp at hc;lia) (by k_in) (by k_in) (by k_in) (by simpa [Nat.add_assoc] using hK);simpa using this
theorem Yv{v:MV}{as:List Ek}{name:List Nat}{at_:Nat}(hA:RepA H v as)(hal:as.length<=1000)(hn:name.length<=1000)(hat:at_<=name.length):Wp (Eo T0 [v,sl name,.int (at_:Int)]) H fun r H'=>H<+:H'∧r=.bool (Cf as (name.drop at_)):=by
 obtain⟨j,vs,rfl,hl,h2⟩:=hA;have hvl:=h2.length;unfold Eo;refine Dg rfl ?_;dsimp only[Ci];w_up;refine Kw (Aq hl) (U5 hal hvl) ?_;w_up;refine Ia (Ks hn) ?_;w_up;refine⟨fun h=>?_,fun h=>?_⟩
 ·w_up;refine⟨List.prefix_rfl,?_⟩;rw[Ib];simp at h ⊢;exact C1v hat hvl h
 ·w_up;refine Kw (Aq hl) (U5 hal hvl) ?_;w_up;rw[hvl];refine⟨_,Gw Au (Q1 (C1w hal)),?_⟩;have L:=@A74 (H++[.rng 0 as.length 1]) j at_ vs as name (Ah pre_app hl) (h2.imp fun zz zz=>AtomOk.pre pre_app) hn (by simp at h;exact C1x hvl h)
  refine L as [] 4000 _ rfl (A62 hal) (by k_in) (by k_in) (by k_in) ⟨fun h ρ'=>?_,fun h ρ'=>?_⟩
  ·w_up;exact⟨pre_app,by rw[show name.drop at_=name.drop (at_+([]:List Ek).length) from rfl,h]⟩
  ·w_up;exact⟨pre_app,by rw[show name.drop at_=name.drop (at_+([]:List Ek).length) from rfl,h]⟩
end
noncomputable abbrev E5:List Nat:=[104,101,108,100]
noncomputable abbrev Fh:List Nat:=[102,114,101,101]
noncomputable abbrev Dn:List Nat:=[114,117,110]
abbrev E0:=List Nat × List Ek
inductive PartOk(H:Hp)(v:MV)(p:E0):Prop
 | mk (j:Nat) (m:MV) (e:v=.ref j) (h:H[j]?=some (.tup [sl p.1,m])) (r:RepA H m p.2)
theorem PartOk.pre{H H':Hp}(p:H<+:H'){v:MV}{a:E0}(h:PartOk H v a):PartOk H' v a:=by
 obtain⟨j,m,e,h,h2⟩:=h;exact⟨j,m,e,Ah p h,h2.pre p⟩
def L6(as:List Ek)(name:List Nat):Nat->Nat->Nat
 | 0,at_=>at_
 | n+1,at_=>if decide (at_+as.length<=name.length)&&!Cf as (name.drop at_) then L6 as name n (at_+1) else at_
def Dz(p:E0)(name:List Nat)(at_:Nat):Nat:=
 if p.1=E5 then L6 p.2 name (name.length+2-at_) at_ else if p.1=Fh∧at_+p.2.length<=name.length then name.length-p.2.length else at_
def Hu:List E0->List Nat->Nat->Bool
 | [],name,at_=>at_==name.length
 | p::ps,name,at_=>Cf p.2 (name.drop (Dz p name at_))&&Hu ps name (Dz p name at_+p.2.length)
theorem Lh{as:List Ek}{name:List Nat}{n at_:Nat}:L6 as name (n+1) at_=if decide (at_+as.length<=name.length)&&!Cf as (name.drop at_) then L6 as name n (at_+1) else at_:=rfl
theorem Uc{as:List Ek}{name:List Nat}:∀(n at_:Nat),at_<=name.length->L6 as name n at_<=name.length
 | 0,at_,h=>h
 | n+1,at_,h=>by
  unfold L6
  split
  ·rename_i q;simp only[Bool.and_eq_true,decide_eq_true_eq,Bool.not_eq_true'] at q;refine Uc n (at_+1) ?_;cases as with
   | nil=>simp[Cf] at q
   | cons a as=>simp at q;lia
  ·exact h
theorem A0m{p:E0}{name:List Nat}{at_:Nat}(h:at_<=name.length):Dz p name at_<=name.length:=by
 unfold Dz
 split
 ·exact Uc _ _ h
 ·split <;> lia
theorem A0n{as:List Ek}{l:List Nat}(h:Cf as l=true):as.length<=l.length:=by
 refine Nat.le_of_not_lt fun q=>?_;rw[Ib q] at h;cases h
section
variable {H:Hp}
theorem A5v:pC (.str "held")=pC (sl E5):=lit (by kd_p)
theorem A5w:pC (.str "free")=pC (sl Fh):=lit (by kd_p)
theorem D1j:pC (.str "run")=pC (sl Dn):=lit (by kd_p)
abbrev tkW(T:GT)(n:Nat):Aj->P (Fl × Aj):=By (Dk (At T (Am (Ac "at") (Ak (Ab (Ac "atoms") Af) (one (D4 T))) A1) (Ak (Ab (Ac "name") Af) (one (D4 T))) Ze) (Dk (P8 (Da T (Ak (Ab (Ac "atoms") (Ab (Ac "name") (Ab (Ac "at") Af))) (Eo T)))) Eg))
 (Ag (C3 "at" (pC (.int 1)) Bc)
 Ap) n
theorem A5x{m:MV}{as:List Ek}{name:List Nat}(hal:as.length<=1000)(hn:name.length<=1000){K:Fl->Aj->Hp->Prop}:∀(f n at_:Nat) (ρ:Aj) (H:Hp),f<n->at_+f=name.length+2->at_<=name.length->RepA H m as->ρ "atoms"=some m->ρ "name"=some (sl name)->ρ "at"=some (.int (at_:Int))->
  (∀ρ' H',H<+:H'->(∀x,x≠("at":Str)->ρ' x=ρ x)->ρ' "at"=some (.int (L6 as name f at_:Int))->K .next ρ' H')->WS (tkW T0 n) ρ H K:=by
 intro rest__
 induction rest__ with
 | zero=>
  intro n at_ ρ H hf ha hle hA g1 g2 g3 hK
  exact(C1y ha hle).elim
 | succ f ih=>
  intro n at_ ρ H hf ha hle hA g1 g2 g3 hK
  obtain⟨n,rfl⟩:=Bv hf;obtain⟨j,vs,rfl,hl,h2⟩:=id hA;have hvl:=h2.length;refine Es ?_;w_up;refine Kw (Aq hl) (U5 hal hvl) ?_;w_up;refine Ia (Ks hn) ?_;w_up;refine⟨fun h=>?_,fun h=>?_⟩
  ·have h:at_+as.length<=name.length:=by rw[hvl] at h;simp at h;exact C1z ha h
   w_up;refine Gf (Yv hA hal hn hle) fun H₁ p=>?_;w_up;refine⟨fun q=>?_,fun q=>?_⟩
   ·have q:Cf as (name.drop at_)=false:=by simpa using q
    have hpos:0<as.length:=by
     cases as with
     | nil=>simp[Cf] at q
     | cons a l=>simp
    w_up;refine ih n (at_+1) _ H₁ (by exact Nat.le_of_lt_succ ‹_›) (C10 ha) (C11 hal ha hle hvl h hpos) (hA.pre p) (by k_in) (by k_in) ?_ fun ρ' H' p' w1 w2=>?_
    ·exact upd_hit
    ·refine hK ρ' H' (p.trans p') (fun x hx=>?_) ?_
     ·rw[w1 x hx];unfold upd;rw[if_neg hx]
     ·rw[w2,Lh];simp[h,q]
   ·have q:Cf as (name.drop at_)=true:=by simpa using q
    refine(Ll rfl (hK _ _ p (fun zz zz=>rfl) ?_));rw[g3,Lh];simp[q]
  ·have h:¬at_+as.length<=name.length:=by rw[hvl] at h;simp at h;exact C12 ha h
   refine(Ll rfl ?_);refine hK _ _ List.prefix_rfl (fun zz zz=>rfl) ?_;rw[g3,Lh];simp[h]
def tkR(T:GT):Aj->P (Fl × Aj):=(Ag (Cv (P8 (Da T (Ak (Ab (Ac "atoms") (Ab (Ac "name") (Ab (Ac "at") Af))) (Eo T))))
 (Ag (C6 (pC (.bool false)))
 Ap)
 Ap)
 (Ag (C3 "at" (Ak (Ab (Ac "atoms") Af) (one (D4 T))) Bc)
 Ap))
abbrev tkB(T:GT):Aj->P (Fl × Aj):=(Ag (Cv (At T (Ac "kind") (pC (sl E5)) Bb)
 (Ag (tkW T 4000)
 Ap)
 (Ag (Cv (Dk (At T (Ac "kind") (pC (sl Fh)) Bb) (Dk (At T (Am (Ac "at") (Ak (Ab (Ac "atoms") Af) (one (D4 T))) A1) (Ak (Ab (Ac "name") Af) (one (D4 T))) Ze) Eg))
 (Ag (Bi "at" (Am (Ak (Ab (Ac "name") Af) (one (D4 T))) (Ak (Ab (Ac "atoms") Af) (one (D4 T))) De))
 Ap)
 Ap)
 Ap))
 (tkR T))
theorem A75{j:Nat}{vs:List MV}{name:List Nat}(hn:name.length<=1000){K:Fl->Aj->Hp->Prop}:∀(rest:List E0) (i n at_:Nat) (ρ:Aj) (H:Hp),(∀p∈rest,p.2.length<=1000)->All2 (PartOk H) (vs.drop i) rest->rest.length<n->at_<=name.length->H[j]?=some (.list vs)->
  ρ "name"=some (sl name)->ρ "at"=some (.int (at_:Int))->
  (∀ρ' H',H<+:H'->(∀z:Nat,Hu rest name at_=(z==name.length)->ρ' "name"=some (sl name)->ρ' "at"=some (.int (z:Int))->K .next ρ' H')∧(Hu rest name at_=false->K (.ret (.bool false)) ρ' H'))->
  WS (Gg (Ox T0 (.ref j)) (Js T0 2 (Cj (A2 "kind") (Cj (A2 "atoms") Jr))) (tkB T0) Ap n i) ρ H K:=by
 intro rest__
 induction rest__ with
 | nil=>
  intro i n at_ ρ H hs ha hc hle hl g1 g2 hK
  obtain⟨n,rfl⟩:=Bv hc;have hi:vs[i]?=none:=by
   have:=ha.length;simp at this;rw[List.getElem?_eq_none_iff];exact A65 this
  refine Jo (by rw[Ch (Aq hl) i,hi]) ?_;w_up;exact(hK ρ H List.prefix_rfl).1 at_ rfl g1 g2
 | cons pr__ rest ih=>
  obtain⟨kd,as⟩:=pr__;intro i n at_ ρ H hs ha hc hle hl g1 g2 hK
  obtain⟨n,rfl⟩:=Bv hc
  generalize hd:vs.drop i=d at ha
  cases ha with
  | @cons v _ d' _ hv ht=>
  have hi:vs[i]?=some v:=by
   have:=congrArg (·[0]?) hd;simpa using this
  have hd':vs.drop (i+1)=d':=by
   rw[<- List.tail_drop,hd];rfl
  obtain⟨jv,m,rfl,e,hA⟩:=hv;have hal:=hs _ (.head _);refine Ff (by rw[Ch (Aq hl) i,hi]) ?_;refine Qa (Bw e) rfl ?_;w_up;have fin:∀ρA H₁,H<+:H₁->ρA "name"=some (sl name)->ρA "atoms"=some m->ρA "at"=some (.int (Dz (kd,as) name at_:Int))->
   WS (tkR T0) ρA H₁ (FoK (Ox T0 (.ref j)) (Js T0 2 (Cj (A2 "kind") (Cj (A2 "atoms") Jr))) (tkB T0) Ap n (i+1) K):=fun ρA H₁ pA w1 w2 w3=>by
   have hpl:=A0m (p:=(kd,as)) hle;unfold tkR;w_up;refine Gf (Yv (hA.pre pA) hal hn hpl) fun HP pB=>?_;w_up;refine⟨fun q=>?_,fun q=>?_⟩
   ·have q:Cf as (name.drop (Dz (kd,as) name at_))=false:=by simpa using q
    w_up;refine(hK _ _ (pA.trans pB)).2 ?_;simp[Hu,q]
   ·have q:Cf as (name.drop (Dz (kd,as) name at_))=true:=by simpa using q
    have hfl:=A0n q;rw[List.length_drop] at hfl;obtain⟨ja,va,rfl,hla,h2a⟩:=(hA.pre pA).pre pB;have hva:=h2a.length;w_up;refine Kw (Aq hla) (U5 hal hva) ?_;w_up;refine ih (i+1) n (Dz (kd,as) name at_+as.length) _ HP (fun p hp=>hs p (.tail _ hp)) (by rw[hd'];exact ht.imp fun zz zz=>PartOk.pre (pA.trans pB)) (by simp at hc;lia) (C13 hpl hfl) (Ah (pA.trans pB) hl) (by k_in) ?_ fun ρ' H' p'=>?_
    ·rw[hva];exact upd_hit
    ·have:=hK ρ' H' (pA.trans (pB.trans p'));simpa [Hu,q] using this
  refine⟨fun h=>?_,fun h=>?_⟩
  ·have hk:kd=E5:=by simpa using h
   w_up;refine A5x hal hn (name.length+2-at_) 4000 at_ _ H (C14 hn hle) (C15 hle) hle hA (by k_in) (by k_in) (by k_in) fun ρ' H' p w1 w2=>?_
   w_up;refine fin _ _ p ?_ ?_ ?_
   ·rw[w1 _ (by intro h;exact absurd (Eh h) (by simp))];k_in
   ·rw[w1 _ (by intro h;exact absurd (Eh h) (by simp))];k_in
   ·rw[w2];simp[Dz,hk]
  ·have hk:¬kd=E5:=by simpa using h
   obtain⟨ja,va,rfl,hla,h2a⟩:=id hA;have hva:=h2a.length;w_up;refine⟨fun h=>?_,fun h=>?_⟩
   ·have hf:kd=Fh:=by simpa using h
    w_up;refine Kw (Aq hla) (U5 hal hva) ?_;w_up;refine Ia (Ks hn) ?_;w_up;refine⟨fun h=>?_,fun h=>?_⟩
    ·have h:at_+as.length<=name.length:=by rw[hva] at h;simp at h;exact C16 h
     w_up;refine Ia (Ks hn) ?_;w_up;refine Kw (Aq hla) (U5 hal hva) ?_;w_up;refine fin _ _ List.prefix_rfl (by k_in) (by k_in) ?_;rw[hva];refine upd_hit.trans ?_;have:Dz (kd,as) name at_=name.length-as.length:=by unfold Dz;simp only;rw[if_neg hk,if_pos ⟨hf,h⟩]
     rw[this];refine congrArg (fun z:Int=>some (MV.int z)) ?_;simp only[hva];exact C17 h
    ·have h:¬at_+as.length<=name.length:=by rw[hva] at h;simp at h;exact C18 h
     refine(Ll rfl ?_);w_up;refine fin _ _ List.prefix_rfl (by k_in) (by k_in) ?_;have:Dz (kd,as) name at_=at_:=by unfold Dz;simp only;rw[if_neg hk,if_neg fun q=>h q.2]
     rw[this];k_in
   ·have hf:¬kd=Fh:=by simpa using h
    refine(Ll rfl ?_);w_up;refine fin _ _ List.prefix_rfl (by k_in) (by k_in) ?_;have:Dz (kd,as) name at_=at_:=by unfold Dz;simp only;rw[if_neg hk,if_neg fun q=>hf q.1]
    rw[this];k_in
inductive RepP(H:Hp)(v:MV)(ps:List E0):Prop
 | mk (j:Nat) (vs:List MV) (e:v=.ref j) (h:H[j]?=some (.list vs)) (r:All2 (PartOk H) vs ps)
theorem RepP.pre{H H':Hp}(p:H<+:H'){v:MV}{as:List E0}(h:RepP H v as):RepP H' v as:=by
 obtain⟨j,vs,e,h1,h2⟩:=h;exact⟨j,vs,e,Ah p h1,h2.imp fun zz zz=>PartOk.pre p⟩
theorem Po{v:MV}{ps:List E0}{name:List Nat}(hP:RepP H v ps)(hps:ps.length<=1000)(hs:∀p∈ps,p.2.length<=1000)(hn:name.length<=1000):Wp (Dc T0 [v,sl name]) H fun r H'=>H<+:H'∧r=.bool (Hu ps name 0):=by
 obtain⟨j,vs,rfl,hl,h2⟩:=hP;unfold Dc;simp only[A5v,A5w];refine Dg rfl ?_;dsimp only[Ci];w_up;refine⟨_,Dd (Aq hl),?_⟩;refine A75 hn ps 0 4000 0 _ H hs (by simpa using h2) (A62 hps) C19 hl ?_ ?_ fun ρ' H' p=>⟨fun z hz w1 w2=>?_,fun h=>?_⟩
 ·k_in
 ·exact upd_hit
 ·w_up;refine Ia (Ks hn) ?_;w_up;refine⟨p,?_⟩;rw[hz]
  congr 1
  rw[Bool.eq_iff_iff,beq_iff_eq,beq_iff_eq];exact B0r
 ·w_up;exact⟨p,by rw[h]⟩
noncomputable def M4(form:Nat)(a b:List Nat):Bool:=if form=1 then a.contains 0&&b.contains 4 else if form=2 then !a.isEmpty&&b.any (fun p=>decide (a.headD 0+2<=p)) else if form=3 then a.contains 4 else !a.isEmpty
noncomputable def il(l:List Nat):List MV:=l.map fun (n:Nat)=>MV.int (n:Int)
theorem A9v{l:List Nat}:il l=(l.map fun (n:Nat)=>(n:Int)).map MV.int:=by unfold il;rw[List.map_map];rfl
theorem Ud{l:List Nat}{c:Nat}:(l.map fun (n:Nat)=>(n:Int)).contains (c:Int)=l.contains c:=by
 induction l with
 | nil=>rfl
 | cons a l ih=>
  rw[List.map_cons,List.contains_cons,List.contains_cons,ih]
  congr 1
  rw[Bool.eq_iff_iff,beq_iff_eq,beq_iff_eq];exact B0r
theorem Yw{v:MV}{l:List Nat}{c:Nat}{Q:MV->Hp->Prop}(e:C7 T0 H v=some (il l))(h:Q (.bool (l.contains c)) H):Wp (Fa T0 (.int (c:Int)) v) H Q:=
 D0x (l:=l.map fun (n:Nat)=>(n:Int)) (by rw[e,A9v]) (by rw[Ud];exact h)
theorem A5y{i j:Nat}{l:List Nat}{Q:MV->Hp->Prop}(e:H[i]?=some (.list (il l)))(q:H[j]?=some (.list []))(h:Q (.bool (!l.isEmpty)) H):Wp (I9 (.ref i) (.ref j)) H Q:=
 A7v (l:=l.map fun (n:Nat)=>(n:Int)) (by rw[e,A9v]) q (by rw[List.isEmpty_map];exact h)
theorem B5u{form ia ib:Nat}{a b:List Nat}(ha:H[ia]?=some (.list (il a)))(hb:H[ib]?=some (.list (il b)))(hl:a.length<=100)(hl':b.length<=100):Wp (Hr T0 [.int (form:Int),.ref ia,.ref ib]) H fun r H'=>H<+:H'∧r=.bool (M4 form a b):=by
 unfold Hr;refine Dg rfl ?_;dsimp only[Ci];w_up;refine⟨fun h=>?_,fun h=>?_⟩
 ·have hf:form=1:=by simp at h;exact C2a h
  w_up;refine Yw (c:=0) (Aq ha) ?_;w_up;refine⟨fun h=>?_,fun h=>?_⟩
  ·w_up;refine Yw (c:=4) (Aq hb) ?_;exact⟨List.prefix_rfl,by simp only[M4,hf,if_true,h,Bool.true_and]⟩
  ·exact⟨List.prefix_rfl,by simp only[M4,hf,if_true,h,Bool.false_and]⟩
 have hf1:¬form=1:=by simp at h;exact C2b h
 w_up;refine⟨fun h=>?_,fun h=>?_⟩
 ·have hf:form=2:=by simp at h;exact A6z h
  w_up;refine A5y (Ah pre_app ha) Au ?_;w_up;refine⟨fun h=>?_,fun h=>?_⟩
  ·obtain⟨x,a',rfl⟩:∃x l,a=x::l:=by
    cases a with
    | nil=>simp at h
    | cons x l=>exact⟨x,l,rfl⟩
   w_up;refine Ip (fun v=>match v with | .int p=>if (x:Int)+2<=p then some (.int p) else none|_=>none) (fun ρ=>ρ "ahead"=some (.ref ia)) ?_;w_up;refine⟨_,_,Dd (Aq (Ah pre_app hb)),fun H' p=>Ch (Ei p (Aq (Ah pre_app hb))),by simp[il];exact A1b hl',by simp[il];exact B7k hl',by k_in,?_,?_⟩
   ·intro v hv ρ H' hI p;obtain⟨z,hz,rfl⟩:=List.mem_map.mp hv;w_up;refine⟨rfl,by k_in,?_⟩;w_up;refine Bl (i:=0) (w:=.int (x:Int)) (Aq (Ah (pre_app.trans p) ha)) rfl (by unfold lim;exact Int.natCast_nonneg _) ?_;w_up;refine⟨List.prefix_rfl,fun h=>?_,fun h=>?_⟩
    ·w_up;exact⟨List.prefix_rfl,if_pos (of_decide_eq_true h)⟩
    ·exact if_neg (of_decide_eq_false h)
   ·intro HP p l;w_up;have e:(il b).filterMap (fun v=>match v with | .int p=>if (x:Int)+2<=p then some (MV.int p) else none|_=>none)=il (b.filter fun p=>decide (x+2<=p)):=by
     unfold il;clear hb hl' l
     induction b with
     | nil=>rfl
     | cons c b ih=>
      rw[List.map_cons,List.filterMap_cons,List.filter_cons,ih];by_cases hc:x+2<=c
      ·have:(x:Int)+2<=c:=by exact C2c hc
       simp[hc,this]
      ·have:¬(x:Int)+2<=c:=by exact C2d hc
       simp[hc,this]
    rw[e] at l;refine A5y (Ah pre_app l) Au ?_;refine⟨pre_app.trans (p.trans pre_app),?_⟩
    congr 1
    simp only[M4,hf1,if_false,hf,if_true];rw[Bool.eq_iff_iff];simp
  ·refine⟨pre_app,?_⟩;unfold M4;rw[if_neg hf1,if_pos hf,h,Bool.false_and]
 have hf2:¬form=2:=by simp at h;exact B68 h
 w_up;refine⟨fun h=>?_,fun h=>?_⟩
 ·have hf:form=3:=by simp at h;exact B69 h
  w_up;refine Yw (c:=4) (Aq ha) ?_;exact⟨List.prefix_rfl,by unfold M4;rw[if_neg hf1,if_neg hf2,if_pos hf]⟩
 ·have hf:¬form=3:=by simp at h;exact B7a h
  w_up;refine A5y (Ah pre_app ha) Au ?_;exact⟨pre_app,by unfold M4;rw[if_neg hf1,if_neg hf2,if_neg hf]⟩
end
open Builtin.Str in
theorem B5v{l:List Nat}{c hi lim:Nat}(hh:hi<=l.length):∀(is:List Nat) (st:Array Nat × Nat),(∀i∈is,st.2<=i)->is.Pairwise (·<·)->
  (forIn is st (StrLaws.occBody ⟨l.toArray⟩ ⟨[c].toArray⟩ hi lim)).run.fst.toList=st.1.toList++(is.filter fun i=>decide (i<hi)&&(l[i]?==some c)).take (lim-st.1.size):=by
 intro rest__
 induction rest__ with
 | nil=>
  intro st _ _;exact by simp
 | cons i is ih=>
  intro st hf hp;rw[List.forIn_cons];have hp':=List.pairwise_cons.mp hp;have hi1:st.2<=i:=hf i (.head _);have one:(⟨[c].toArray⟩:Str).length=1:=rfl;have sa:(i+(⟨[c].toArray⟩:Str).length<=hi∧subAt ⟨l.toArray⟩ ⟨[c].toArray⟩ i=true)↔(i<hi∧l[i]?=some c):=by
   have:=StrLaws.subAt_one ⟨l.toArray⟩ c i;rw[one];constructor
   ·rintro ⟨a,b⟩;exact⟨by assumption,by have:=this.mp ⟨by show i+1<=l.toArray.size;simp;exact C2e hh a,b⟩;simpa using this⟩
   ·rintro ⟨a,b⟩;exact⟨by assumption,(this.mpr (by simpa using b)).2⟩
  by_cases h:i<hi∧l[i]?=some c
  ·by_cases hl:st.1.size<lim
   ·have e:StrLaws.occBody ⟨l.toArray⟩ ⟨[c].toArray⟩ hi lim i st=pure (ForInStep.yield (st.1.push i,i+1)):=by
     unfold StrLaws.occBody;rw[if_pos ⟨⟨⟨hl,hi1⟩,(sa.mpr h).1⟩,(sa.mpr h).2⟩];rfl
    rw[e];show (Id.run (forIn is (st.1.push i,i+1) (StrLaws.occBody ⟨l.toArray⟩ ⟨[c].toArray⟩ hi lim))).fst.toList=_;rw[ih (st.1.push i,i+1) (fun j hj=>hp'.1 j hj) hp'.2];rw[List.filter_cons,if_pos (by simp[h]),show lim-st.1.size=(lim-(st.1.push i).size)+1 by simp;exact C2f hl,List.take_succ_cons];simp
   ·have e:StrLaws.occBody ⟨l.toArray⟩ ⟨[c].toArray⟩ hi lim i st=pure (ForInStep.yield (st.1,st.2)):=by
     unfold StrLaws.occBody;rw[if_neg fun q=>hl q.1.1.1]
    rw[e];show (Id.run (forIn is (st.1,st.2) (StrLaws.occBody ⟨l.toArray⟩ ⟨[c].toArray⟩ hi lim))).fst.toList=_;rw[ih (st.1,st.2) (fun j hj=>hf j (.tail _ hj)) hp'.2,show lim-st.1.size=0 by exact C2g hl];simp
  ·have e:StrLaws.occBody ⟨l.toArray⟩ ⟨[c].toArray⟩ hi lim i st=pure (ForInStep.yield (st.1,st.2)):=by
    unfold StrLaws.occBody;rw[if_neg fun q=>h (sa.mp ⟨q.1.2,q.2⟩)]
   rw[e];show (Id.run (forIn is (st.1,st.2) (StrLaws.occBody ⟨l.toArray⟩ ⟨[c].toArray⟩ hi lim))).fst.toList=_;rw[ih (st.1,st.2) (fun j hj=>hf j (.tail _ hj)) hp'.2,List.filter_cons,if_neg (by simpa using h)]
theorem W6{l:List Nat}{c lo hi lim:Nat}(hh:hi<=l.length):Builtin.Str.occurrences ⟨l.toArray⟩ ⟨[c].toArray⟩ lo hi lim=((List.range' lo (hi+1-lo)).filter fun i=>decide (i<hi)&&(l[i]?==some c)).take lim:=by
 rw[StrLaws.occ_eq,B5v hh _ (#[],lo) (fun i hi'=>by have:=List.mem_range'.mp hi';obtain⟨k,_,rfl⟩:=this;simp) (List.pairwise_lt_range')];simp
theorem Ue{l:List Nat}{c lo hi p:Nat}(h1:lo<=p)(h2:p<hi)(h3:l[p]?=some c)(h4:∀i,lo<=i->i<p->l[i]?≠some c):((List.range' lo (hi+1-lo)).filter fun i=>decide (i<hi)&&(l[i]?==some c)).head?=some p:=by
 have e:List.range' lo (hi+1-lo)=List.range' lo (p-lo)++p::List.range' (p+1) (hi-p):=by
  have:=List.range'_append_1 (s:=lo) (m:=p-lo) (n:=hi+1-p);rw[show lo+(p-lo)=p by exact C2h h1,show p-lo+(hi+1-p)=hi+1-lo by exact C2i h1 h2] at this;rw[<- this,show hi+1-p=(hi-p)+1 by exact C2j h2,List.range'_succ]
 rw[e,List.filter_append,List.filter_cons,if_pos (by simp[h2,h3])];have:(List.range' lo (p-lo)).filter (fun i=>decide (i<hi)&&(l[i]?==some c))=[]:=by
  rw[List.filter_eq_nil_iff];intro i hi';obtain⟨k,hk,rfl⟩:=List.mem_range'.mp hi';have:=h4 (lo+k) B0f (C2k h1 hk);simp[this]
 rw[this];rfl
theorem D1k{l:List Nat}{c lo hi:Nat}(h4:∀i,lo<=i->i<hi->l[i]?≠some c):(List.range' lo (hi+1-lo)).filter (fun i=>decide (i<hi)&&(l[i]?==some c))=[]:=by
 rw[List.filter_eq_nil_iff];intro i hi';obtain⟨k,hk,rfl⟩:=List.mem_range'.mp hi';by_cases q:lo+1*k<hi
 ·have:=h4 (lo+k) B0f (C2l q);simp[this]
 ·rw[Nat.one_mul] at q ⊢;simp[q]
theorem Li{α:Type}{l:List α}:(l.take 1).head?=l.head?:=by cases l <;> rfl
section
variable {H:Hp}
theorem B5w{l:List Nat}{c lo hi p:Nat}{y:Str}{Q:MV->Hp->Prop}(ey:y=⟨[c].toArray⟩)(hh:hi<=l.length)(h1:lo<=p)(h2:p<hi)(h3:l[p]?=some c)(h4:∀i,lo<=i->i<p->l[i]?≠some c)(h:Q (.int (p:Int)) H):
  Wp (Sz [sl l,.str y,.int (lo:Int),.int (hi:Int)]) H Q:=⟨_,_,by
 subst ey;have e:Rh ⟨l.toArray⟩ ⟨[c].toArray⟩ (lo:Int) (hi:Int)=some p:=by
  unfold Rh fromIndex;rw[Dy,if_neg (by exact zl6),if_neg (by exact zl6),show (max 0 (lo:Int)).toNat=lo by exact B0g,show min (max 0 (hi:Int)).toNat l.length=hi by exact C2m hh h2,W6 hh,Li,Ue h1 h2 h3 h4]
 show some (MV.int (match Rh ⟨l.toArray⟩ ⟨[c].toArray⟩ (lo:Int) (hi:Int) with|some k=>(k:Int)|none=>-1),H)=_;rw[e],h⟩
theorem B5x{l:List Nat}{c lo hi:Nat}{y:Str}{Q:MV->Hp->Prop}(ey:y=⟨[c].toArray⟩)(hh:hi<=l.length)(h4:∀i,lo<=i->i<hi->l[i]?≠some c)(h:Q (.int (-1)) H):
  Wp (Sz [sl l,.str y,.int (lo:Int),.int (hi:Int)]) H Q:=⟨_,_,by
 subst ey;have e:Rh ⟨l.toArray⟩ ⟨[c].toArray⟩ (lo:Int) (hi:Int)=none:=by
  unfold Rh fromIndex;rw[Dy,if_neg (by exact zl6),if_neg (by exact zl6),show (max 0 (lo:Int)).toNat=lo by exact B0g,show min (max 0 (hi:Int)).toNat l.length=hi by exact C2n hh,W6 hh,Li,D1k h4];rfl
 show some (MV.int (match Rh ⟨l.toArray⟩ ⟨[c].toArray⟩ (lo:Int) (hi:Int) with|some k=>(k:Int)|none=>-1),H)=_;rw[e],h⟩
theorem A76{l:List Nat}{c lo p:Nat}{y:Str}{Q:MV->Hp->Prop}(ey:y=⟨[c].toArray⟩)(h1:lo<=p)(h3:l[p]?=some c)(h4:∀i,lo<=i->i<p->l[i]?≠some c)(h:Q (.int (p:Int)) H):
  Wp (Rj (sl l) (.str y) (.int (lo:Int))) H Q:=⟨_,_,by
 subst ey;have h2:p<l.length:=by rw[List.getElem?_eq_some_iff] at h3;exact h3.1
 have e:Zo ⟨l.toArray⟩ ⟨[c].toArray⟩ (lo:Int)=some p:=by
  unfold Zo fromIndex;rw[Dy,if_neg (by exact zl6),show (max 0 (lo:Int)).toNat=lo by exact B0g,W6 (Nat.le_refl _),Li,Ue h1 h2 h3 h4]
 show (Zo ⟨l.toArray⟩ ⟨[c].toArray⟩ (lo:Int)).map (fun (n:Nat)=>(MV.int (n:Int),H))=_;rw[e];rfl,h⟩
end
noncomputable def Px:List Nat->List Nat
 | []=>[]
 | c::l=>if c=45 then 92::45::Px l else c::Px l
theorem W7:∀a b:List Nat,Px (a++b)=Px a++Px b:=by
 intro rest__
 induction rest__ with
 | nil=>
  intro _;exact rfl
 | cons c a ih=>
  intro b;simp only[List.cons_append,Px,ih b]
  split <;> rfl
theorem Uf:∀l:List Nat,45 ∉ l->Px l=l:=by
 intro rest__
 induction rest__ with
 | nil=>
  intro _;exact rfl
 | cons c l ih=>
  intro h;simp only[List.mem_cons,not_or] at h;simp only[Px,if_neg (Ne.symm h.1),ih h.2]
theorem Ug:∀ps:List Str,(∀p∈ps,45 ∉ p.cps.toList)->Px (Str.join ⟨#[45]⟩ ps).cps.toList=(Str.join ⟨#[92,45]⟩ ps).cps.toList
 | [],_=>rfl
 | [p],h=>Uf _ (h p (.head _))
 | p::q::r,h=>by
  have ih:=Ug (q::r) fun a ha=>h a (.tail _ ha);have e:∀z:Str,Str.join z (p::q::r)=p++z++Str.join z (q::r):=fun zz=>rfl;rw[e,e];simp only[Str.cps_append,Array.toList_append,W7,ih,Uf _ (h p (.head _))];rfl
theorem Uh{l:List Nat}{y z:Str}(ey:y=⟨[45].toArray⟩)(ez:z=⟨[92,45].toArray⟩):Fm ⟨l.toArray⟩ y z=⟨(Px l).toArray⟩:=by
 subst ey ez;have h:Fm ⟨l.toArray⟩ ⟨[45].toArray⟩ ⟨[92,45].toArray⟩=Txt.replace ⟨l.toArray⟩ ⟨#[45]⟩ ⟨#[92,45]⟩:=by
  have h0:((⟨#[45]⟩:Str).length==0)=false:=rfl;have h1:((⟨[45].toArray⟩:Str).length==0)=false:=rfl;unfold Fm J3 Txt.replace;simp only[h0,h1,Bool.false_and,Bool.or_false,Bool.and_false,Bool.false_or]
 rw[h,StrLaws.replace_one];have:=Ug (Txt.split ⟨l.toArray⟩ ⟨#[45]⟩) (StrLaws.split_free _ _);rw[StrLaws.join_split] at this
 generalize Str.join ⟨#[92,45]⟩ (Txt.split ⟨l.toArray⟩ ⟨#[45]⟩)=r at this ⊢
 obtain⟨⟨r⟩⟩:=r;have e:Px l=r:=this;rw[e]
theorem R6:∀l:List Nat,(Px l).length<=2*l.length
 | []=>by simp[Px]
 | c::l=>by
  have:=R6 l;simp only[Px]
  split <;> simp only[List.length_cons] <;> (first |exact C2o this|exact C2p this)
abbrev cf:Array Nat:=Db
noncomputable def Hv(c:Nat):Bool:=decide (c<128)&&!(c==38)&&!(c==124)&&!(c==126)
theorem Ui{c:Nat}(h:Hv c=true)(s:Sre.Seen):∃s',Sre.inSet cf c 32 5 true s=.ok (false,s'):=by
 have:∀c,c<128->Hv c=true->(c<256&&(cf.getD (5+(1+c/32)) 0).testBit (c%32))=false:=by kd_p
 have lt:c<128:=by unfold Hv at h;simp at h;exact C2q h
 refine⟨(s.add 9).add 0,?_⟩;show (if (c<256&&(cf.getD (5+(1+c/32)) 0).testBit (c%32))=true then _ else _)=_;rw[this c lt h];rfl
theorem Uj{m:Sre.M}(hc:m.code=cf)(ht:∀i,i<m.lim->Hv (m.text.getD i 0)=true):∀(f s:Nat) (seen:Sre.Seen),∃s',Sre.M.admitted m f s seen=.ok (none,s')
 | 0,s,seen=>⟨seen,rfl⟩
 | f+1,s,seen=>by
  unfold Sre.M.admitted;by_cases h:s≥m.lim
  ·exact⟨seen,by rw[if_pos h]⟩
  ·rw[if_neg h];obtain⟨s',e⟩:=Ui (ht s (C2r h)) seen;have e':Sre.inSet m.code (m.text.getD s 0) m.code.size 5 true seen=.ok (false,s'):=by rw[hc];exact e
   rw[e'];exact Uj hc ht f (s+1) s'
theorem A5z{x:Array Nat}(h0:0<x.size)(ht:∀i,i<x.size->Hv (x.getD i 0)=true):G7 cf x 1 0 false=some none:=by
 have:∃m:Sre.M,Sre.forSearch cf x 1 0 x.size false={m with answer:=some false,frames:=[],outcome:=none}:=by
  unfold Sre.forSearch;have:(decide (0>x.size)||decide (x.size-0<(Sre.header cf).1))=false:=by
   show (decide (0>x.size)||decide (x.size-0<1))=false;rw[decide_eq_false C2s,decide_eq_false (C2t h0)];rfl
  simp only[this,Bool.false_eq_true,if_false];have aux:∀m:Sre.M,m.code=cf->m.text=x->m.lim=x.size->m.frames=[]->m.outcome=none->∃m':Sre.M,m.attemptFrom 0 true={m' with answer:=some false,frames:=[],outcome:=none}:=by
   intro m h1 h2 h3 h4 h5;obtain⟨s',e⟩:=Uj (m:=m) h1 (by rw[h2,h3];exact ht) (m.lim+1-0) 0 m.seen;have hf:m.hasFirstSet=true:=by unfold Sre.M.hasFirstSet;rw[h1];rfl
   unfold Sre.M.attemptFrom;rw[hf,e];refine⟨{m with seen:=s'},?_⟩;show ({m with seen:=s'}:Sre.M).say false=_;unfold Sre.M.say;rw[<- h4,<- h5]
  refine aux _ ?_ ?_ ?_ ?_ ?_ <;> rfl
 obtain⟨m,e⟩:=this;unfold G7;rw[e];rfl
noncomputable def Qc:Nat->List Nat->Option (List Nat)
 | 0,_=>none
 | _+1,[]=>some []
 | n+1,a::l=>match (if a=92 then l else a::l) with
  | c::45::d::t=>if d<c then none else (Qc n t).map (List.range' c (d+1-c)++·)
  | c::t=>(Qc n t).map (c::·)
  | []=>some []
def A50(l:List Nat):Option Ek:=(Qc 100 (if l.take 1=[94] then l.drop 1 else l)).map fun s=>(decide (l.take 1=[94]),s)
theorem R7{α:Type}{l:List α}{i:Nat}:I4 (some (i:Int)) (some ((i:Int)+1)) l=(l.drop i).take 1:=by
 unfold I4;rw[show ((i:Int)+1)=((i+1:Nat):Int) by exact A6y,D6,D6];by_cases h:i<l.length
 ·rw[show min i l.length=i by exact B7l h,show min (i+1) l.length-i=1 by exact C2u h]
 ·rw[List.drop_of_length_le (B7m h),List.drop_of_length_le (A1a h)];simp
theorem Cd{α:Type}{l:List α}{i:Nat}{a:α}{t:List α}(h:l.drop i=a::t):l[i]?=some a∧l.drop (i+1)=t∧i<l.length:=by
 have h1:l[i]?=some a:=by
  have:=congrArg (·[0]?) h;simpa using this
 refine⟨h1,?_,by rw[List.getElem?_eq_some_iff] at h1;exact h1.1⟩;rw[<- List.tail_drop,h];rfl
section
variable {H:Hp}
theorem D1l:pC (.str "^")=pC (sl [94]):=lit (by kd_p)
theorem B5y:pC (.str "\\")=pC (sl [92]):=lit (by kd_p)
theorem A77{a b:Nat}{ρ:Aj}{Q:MV->Hp->Prop}(hab:a<=b)(hb:b<1000)(h1:ρ "low"=some (sl [a]))(h2:ρ "high"=some (sl [b]))(hQ:∀H',H<+:H'->Q (sl (List.range' a (b+1-a))) H'):
  Wp (Be O1 (pC (sl [])) (Ab (Br (Ak (Ab (Ak (Ab (Ac "low") Af) (one Rg)) (Ab (Am (Ak (Ab (Ac "high") Af) (one Rg)) (pC (.int 1)) A1) Af)) Ck) (Ej T0) (A2 "code") cT (Bt (Ak (Ab (Ac "code") Af) (one Pz))) 4000 (C8 [])) Af) (two (Go T0)) ρ) H Q:=by
 refine Gp (wC ⟨rfl,?_⟩);w_up;refine Ip (fun v=>match v with | .int c=>some (sl [c.toNat])|_=>none) (fun zz=>True) ?_;w_up;have hn:((b:Int)+1)=(a:Int)+((b+1-a:Nat):Int):=by exact C2v hab
 have hsz:Builtin.Range.rangeSize (a:Int) ((b:Int)+1) 1=((b+1-a:Nat):Int):=by
  unfold Builtin.Range.rangeSize;simp only[show (1:Int)>0 by decide,if_true,Int.ediv_one]
  split <;> (first |exact C2w hn|exact C2x hab hn ‹_›)
 refine⟨_,F9 a (b+1-a),Gw Au ?_,fun H' p=>Wk hn,by simp[F9];exact C2y hb hn,by simp[F9];exact C2z hb hn,trivial,?_,?_⟩
 ·unfold Builtin.Range.small;rw[hsz];simp[Builtin.Range.rangeFitsLong];exact C20 hab hb hn
 ·intro v hv ρ' H' _ p;obtain⟨i,hi,rfl⟩:=List.mem_map.mp hv;have hi:=List.mem_range.mp hi;w_up;refine⟨rfl,trivial,?_⟩;w_up;refine⟨List.prefix_rfl,fun zz=>?_,fun h=>nomatch h⟩;w_up;refine B5e (C21 hb hn hi) ⟨List.prefix_rfl,rfl⟩
 ·intro HP p l;w_up;have e:(F9 a (b+1-a)).filterMap (fun v=>match v with | .int c=>some (sl [c.toNat])|_=>none)=((List.range' a (b+1-a)).map fun c=>[c]).map sl:=by
   unfold F9;rw[List.filterMap_map,List.range'_eq_map_range,List.map_map,List.map_map,<- List.filterMap_eq_map];refine congrArg (fun f=>List.filterMap f (List.range (b+1-a))) (funext fun i=>?_);show some (sl [((a:Int)+(i:Int)).toNat])=some (sl [a+i]);rw[show ((a:Int)+(i:Int)).toNat=a+i by exact C22]
  rw[e] at l;refine L1 (Aq l) (by rw[Pl];simp;exact C23 hb) ?_;rw[Km];exact hQ _ (pre_app.trans p)
def seR(T:GT):Aj->P (Fl × Aj):=(Ag (G8 T ["low","high"] (Ak (Ab (Bz T (Ac "rest") (Cq (Ac "at")) (Cq (Am (Ac "at") (pC (.int 1)) A1))) (Ab (Bz T (Ac "rest") (Cq (Am (Ac "at") (pC (.int 2)) A1)) (Cq (Am (Ac "at") (pC (.int 3)) A1))) Af)) Bq))
 (Ag (Cv (Dk (At T (Bz T (Ac "rest") (Cq (Am (Ac "at") (pC (.int 1)) A1)) (Cq (Am (Ac "at") (pC (.int 2)) A1))) (pC (sl [45])) Bb) (Dk (Da T (Ac "high")) Eg))
 (Ag (Cv (At T (Ac "high") (Ac "low") Fz)
 (Ag (fun zz=>fl)
 Ap)
 Ap)
 (Ag (C3 "signs" (Be O1 (pC (sl [])) (Ab (Br (Ak (Ab (Ak (Ab (Ac "low") Af) (one Rg)) (Ab (Am (Ak (Ab (Ac "high") Af) (one Rg)) (pC (.int 1)) A1) Af)) Ck) (Ej T) (A2 "code") cT (Bt (Ak (Ab (Ac "code") Af) (one Pz))) 4000 (C8 [])) Af) (two (Go T))) Bc)
 (Ag (C3 "at" (pC (.int 3)) Bc)
 Ap)))
 (Ag (C3 "signs" (Ac "low") Bc)
 (Ag (C3 "at" (pC (.int 1)) Bc)
 Ap)))
 Ap))
abbrev seW(T:GT)(n:Nat):Aj->P (Fl × Aj):=By (At T (Ac "at") (Ak (Ab (Ac "rest") Af) (one (D4 T))) Fz)
 (Ag (Cv (At T (Am (Ac "rest") (Ac "at") (Ao T)) (pC (sl [92])) Bb)
 (Ag (C3 "at" (pC (.int 1)) Bc)
 Ap)
 Ap)
 (seR T)) n
theorem A51{rest:List Nat}(hr:rest.length<=90)(hc:∀c∈rest,c<128){K:Fl->Aj->Hp->Prop}:∀(f n at_:Nat) (signs l out:List Nat) (ρ:Aj) (H:Hp),rest.drop at_=l->f<n->Qc f l=some out->signs.length+128*l.length<=100000->at_<=rest.length+1->
  ρ "rest"=some (sl rest)->ρ "signs"=some (sl signs)->ρ "at"=some (.int (at_:Int))->
  (∀ρ' H',H<+:H'->ρ' "barred"=ρ "barred"->ρ' "signs"=some (sl (signs++out))->K .next ρ' H')->
  WS (seW T0 n) ρ H K:=by
 intro rest__
 induction rest__ with
 | zero=>
  intro n at_ signs l out ρ H hl hf hs
  cases hs
 | succ f ih=>
  intro n at_ signs l out ρ H hl hf hs hb hat g1 g2 g3 hK
  cases l with
  | nil=>
  obtain⟨n,rfl⟩:=Bv hf;cases hs;have:rest.length<=at_:=by simpa using hl
  refine Es ?_;w_up;refine Ia (zl7 hr) ?_;w_up;refine⟨fun h=>?_,fun zz=>?_⟩
  ·simp at h;exact(C24 this h).elim
  ·exact hK _ _ List.prefix_rfl rfl (by simpa using g2)
  | cons a l=>
  obtain⟨n,rfl⟩:=Bv hf;obtain⟨ha,hl',hlt⟩:=Cd hl;have body2:∀(at1:Nat) (l1:List Nat) (ρA:Aj),rest.drop at1=l1->l1.length<=l.length+1->at1<=rest.length->(match l1 with|c::45::d::t=>if d<c then none else (Qc f t).map (List.range' c (d+1-c)++·)|c::t=>(Qc f t).map (c::·)|[]=>some [])=some out->
    ρA "rest"=some (sl rest)->ρA "signs"=some (sl signs)->ρA "at"=some (.int (at1:Int))->ρA "barred"=ρ "barred"->
    WS (seR T0) ρA H (WhK (At T0 (Ac "at") (Ak (Ab (Ac "rest") Af) (one (D4 T0))) Fz)
 (Ag (Cv (At T0 (Am (Ac "rest") (Ac "at") (Ao T0)) (pC (sl [92])) Bb)
 (Ag (C3 "at" (pC (.int 1)) Bc)
 Ap)
 Ap)
 (seR T0)) n K):=fun at1 l1 ρA e1 e2 e3 e4 w1 w2 w3 w4=>by
   unfold seR;have c1:I4 (some (at1:Int)) (some ((at1:Int)+1)) rest=l1.take 1:=by rw[R7,e1]
   have c2:I4 (some ((at1:Int)+1)) (some ((at1:Int)+2)) rest=(l1.drop 1).take 1:=by
    have:=R7 (l:=rest) (i:=at1+1);rw[show ((at1+1:Nat):Int)=(at1:Int)+1 by exact zl8,show (at1:Int)+1+1=(at1:Int)+2 by exact C25] at this;rw[this,<- e1,List.drop_drop]
   have c3:I4 (some ((at1:Int)+2)) (some ((at1:Int)+3)) rest=(l1.drop 2).take 1:=by
    have:=R7 (l:=rest) (i:=at1+2);rw[show ((at1+2:Nat):Int)=(at1:Int)+2 by exact B7n,show (at1:Int)+2+1=(at1:Int)+3 by exact C26] at this;rw[this,<- e1,List.drop_drop]
   have plain:∀(c:Nat) (t:List Nat) (ρB:Aj) (HP:Hp),l1=c::t->(Qc f t).map (c::·)=some out->H<+:HP->ρB "low"=some (sl [c])->ρB "rest"=some (sl rest)->ρB "signs"=some (sl signs)->ρB "at"=some (.int (at1:Int))->ρB "barred"=ρ "barred"->
     WS (Ag (C3 "signs" (Ac "low") Bc)
 (Ag (C3 "at" (pC (.int 1)) Bc)
 Ap)) ρB HP (Io Ap (WhK (At T0 (Ac "at") (Ak (Ab (Ac "rest") Af) (one (D4 T0))) Fz)
 (Ag (Cv (At T0 (Am (Ac "rest") (Ac "at") (Ao T0)) (pC (sl [92])) Bb)
 (Ag (C3 "at" (pC (.int 1)) Bc)
 Ap)
 Ap)
 (seR T0)) n K)):=fun c t ρB HP hl1 hs' p z1 z2 z3 z4 z5=>by
    subst hl1;obtain⟨o,ho,rfl⟩:=Ju hs';w_up;refine Ht ?_ ?_
    ·simp;simp at hb;exact C27 hb
    w_up;refine ih n (at1+1) (signs++[c]) t o _ HP (Cd e1).2.1 (by exact Nat.le_of_lt_succ ‹_›) ho (by simp at e2 hb ⊢;exact C28 hb e2) (by have:=(Cd e1).2.2;exact Nat.lt_succ_of_lt ‹_›) (by assumption) (by k_in) ?_ fun ρ' H' p' y1 y2=>hK _ _ (p.trans p') (y1.trans ?_) (by rw[y2];simp)
    ·exact upd_hit
    ·assumption
   w_up;refine B2 (zl7 hr) ?_;w_up;refine B2 (zl7 hr) ?_;rw[c1,c3];w_up;refine B2 (zl7 hr) ?_;rw[c2];w_up;clear hl hs hat g1 g2 g3 ha hl' hlt c1 c2 c3;cases l1 with
   | nil=>
    cases e4;refine⟨fun h=>?_,fun zz=>?_⟩
    ·simp at h
    w_up;refine Ht ?_ ?_
    ·simp;simp at hb;exact C29 hb
    w_up;obtain⟨n,rfl⟩:=Bv (Nat.lt_of_succ_lt_succ hf);have hle:rest.length<=at1:=by simpa using e1
    refine Es ?_;w_up;refine Ia (zl7 hr) ?_;w_up;refine⟨fun h=>?_,fun zz=>?_⟩
    ·simp at h;exact(C3a e3 hle h).elim
    ·refine hK _ _ pre_app ?_ ?_
     ·assumption
     ·rfl
   | cons c t=>
    refine⟨fun h=>?_,fun h=>?_⟩
    ·obtain⟨t1,ht1⟩:∃t1,t=45::t1:=by
      cases t with
      | nil=>simp at h
      | cons x t1=>simp at h;exact⟨t1,by rw[h]⟩
     subst ht1;w_up;refine trS (by simp;exact C3b) ?_;w_up;refine⟨fun h2=>?_,fun h2=>?_⟩
     ·obtain⟨d,t2,ht2⟩:∃d t2,t1=d::t2:=by
       cases t1 with
       | nil=>simp at h2
       | cons x t2=>exact⟨x,t2,rfl⟩
      subst ht2;have hm:(if d<c then none else (Qc f t2).map (List.range' c (d+1-c)++·))=some out:=e4;have hcd:¬d<c:=fun q=>by rw[if_pos q] at hm;cases hm
      rw[if_neg hcd] at hm;obtain⟨o,ho,rfl⟩:=Ju hm;have hmem:∀x∈c::45::d::t2,x<128:=fun x hx=>hc x (by rw[<- e1] at hx;exact List.mem_of_mem_drop hx);have hd128:=hmem d (by simp);w_up;refine⟨fun h3=>?_,fun h3=>?_⟩
      ·exfalso
       have h3:[d]<[c]:=of_decide_eq_true h3;have:d<c:=by
        rcases List.cons_lt_cons_iff.mp h3 with q|q
        ·exact q
        ·exact absurd q.2 (by simp)
       exact C3c hcd this
      w_up;refine A77 (a:=c) (b:=d) (A1a hcd) (C3d hd128) ?_ ?_ fun H' p=>?_
      ·show _=some (sl (List.take 1 (c::45::d::t2)));k_in
      ·show _=some (sl (List.take 1 (List.drop 2 (c::45::d::t2))));k_in
      refine Ht ?_ ?_
      ·simp;simp at hb e2;exact C3e hb hcd hd128
      w_up;obtain⟨_,q1,_⟩:=Cd e1;obtain⟨_,q2,_⟩:=Cd q1;obtain⟨_,q3,q4⟩:=Cd q2;refine ih n (at1+3) (signs++List.range' c (d+1-c)) t2 o _ H' q3 (by exact Nat.le_of_lt_succ ‹_›) ho (by simp at e2 hb ⊢;exact C3f hb hd128 e2) (C3g ‹_› ‹_›) (by assumption) (by k_in) ?_ fun ρ' H'' p' y1 y2=>hK _ _ (pre_app.trans (p.trans p')) (y1.trans ?_) (by rw[y2];simp)
      ·exact upd_hit
      ·assumption
     ·have ht2:t1=[]:=by
       cases t1 with
       | nil=>rfl
       | cons x t2=>simp at h2
      subst ht2;refine(Ll rfl ?_);refine plain c [45] _ _ rfl e4 pre_app ?_ ?_ ?_ ?_ (by assumption)
      ·show _=some (sl (List.take 1 (c::45::[])));k_in
      ·assumption
      ·assumption
      ·assumption
    ·refine(Ll rfl ?_);refine plain c t _ _ rfl ?_ pre_app ?_ ?_ ?_ ?_ (by assumption)
     rotate_left
     ·show _=some (sl (List.take 1 (c::t)));k_in
     ·assumption
     ·assumption
     ·assumption
     rw[<- e4];cases t with
     | nil=>rfl
     | cons x t1=>
      have hx:x≠45:=by simpa using h
      split
      ·rename_i heq;simp at heq;lia
      ·rename_i heq;simp at heq;obtain⟨rfl,rfl⟩:=heq;rfl
      ·rename_i heq;simp at heq
  refine Es ?_;w_up;refine Ia (zl7 hr) ?_;w_up;refine⟨fun zz=>?_,fun h=>?_⟩
  ·w_up;refine Cs ha (by unfold lim;exact C3h hr hlt) ?_;w_up;refine⟨fun h=>?_,fun h=>?_⟩
   ·have h92:a=92:=by simpa using h
    w_up;refine body2 (at_+1) l _ hl' A60 (by assumption) ?_ (by k_in) (by k_in) ?_ (Ba (by kd_p) rfl)
    ·subst h92;exact hs
    ·exact upd_hit
   ·have h92:¬a=92:=by simpa using h
    w_up;refine body2 at_ (a::l) _ hl (by simp) (by exact Nat.le_of_lt ‹_›) ?_ g1 g2 g3 rfl
    unfold Qc at hs;rw[if_neg h92] at hs;exact hs
  ·simp at h;exact(A63 hlt h).elim
theorem B5z{l:List Nat}{a:Ek}(hl:l.length<=90)(hc:∀c∈l,c<128)(hm:A50 l=some a):Wp (Hq T0 [sl l]) H fun r H'=>H<+:H'∧AtomOk H' r a:=by
 unfold Hq;simp only[D1l,L_e,B5y,A5h];refine Dg rfl ?_;dsimp only[Ci];w_up;refine B2 (zl7 hl) ?_;have c1:I4 none (some (1:Int)) l=l.take 1:=by
  unfold I4;rw[show (1:Int)=((1:Nat):Int) from rfl,D6];simp only[Dv,List.drop_zero,Nat.sub_zero];rw[Nat.min_def];split
  ·rfl
  ·rw[List.take_of_length_le B7o,List.take_of_length_le (B7p ‹_›)]
 rw[c1];w_up;unfold A50 at hm;obtain⟨out,ho,rfl⟩:=Ju hm;have fin:∀(rest:List Nat) (ρ:Aj) (H₁:Hp),rest.length<=90->(∀c∈rest,c<128)->Qc 100 rest=some out->H<+:H₁->ρ "rest"=some (sl rest)->ρ "signs"=some (sl [])->ρ "at"=some (.int 0)->ρ "barred"=some (.bool (l.take 1==[94]))->
   WS (Ag (seW T0 4000) (Ag (C6 (Ak (Ab (Ac "barred") (Ab (Ac "signs") Af)) Bq)) Ap)) ρ H₁ (B5c fun r H'=>H<+:H'∧AtomOk H' r (decide (l.take 1=[94]),out)):=fun rest ρ H₁ e1 e2 e3 p w1 w2 w3 w4=>by
  refine sWhile ?_;refine A51 e1 e2 100 4000 0 [] rest out ρ H₁ rfl B7q e3 (by simp;exact C3i e1) C3j w1 w2 w3 fun ρ' H' p' z1 z2=>?_;rw[w4] at z1;w_up;refine⟨p.trans (p'.trans pre_app),H'.length,rfl,?_⟩;have hb:(l.take 1==[94])=decide (l.take 1=[94]):=by rw[Bool.eq_iff_iff];simp
  rw[Au,hb];rfl
 refine⟨fun h=>?_,fun h=>?_⟩
 ·have h':l.take 1=[94]:=by simpa using h
  rw[if_pos h'] at ho;w_up;refine B2 (zl7 hl) ?_;have c2:I4 (some (1:Int)) none l=l.drop 1:=by
   unfold I4;rw[show (1:Int)=((1:Nat):Int) from rfl,D6];simp only[Dv];rw[Nat.min_def];split
   ·rw[List.take_of_length_le (by simp)]
   ·rw[List.drop_of_length_le B7o,List.drop_of_length_le (B7p ‹_›)];simp
  rw[c2];refine wConsS (wC (wConsS (wC (wNilS ?_))));refine⟨_,_,_,rfl,?_⟩;exact fin _ _ _ (by simp;exact C3k hl) (fun c h=>hc c (List.mem_of_mem_drop h)) ho pre_app (by k_in) (by k_in) (by k_in) (by k_in)
 ·have h':¬l.take 1=[94]:=by simpa using h
  rw[if_neg h'] at ho;refine B0 (by k_in) ?_;refine wConsS (wC (wConsS (wC (wNilS ?_))));refine⟨_,_,_,rfl,?_⟩;exact fin _ _ _ hl hc ho pre_app (by k_in) (by k_in) (by k_in) (by k_in)
end
inductive RT where
 | held|free|close|dot
 | set (s:List Nat)
 | lit (c:Nat)
noncomputable def RT.s:RT->List Nat
 | .held=>[40,63,62,46,42,63]
 | .free=>[46,42]
 | .close=>[41]
 | .dot=>[46]
 | .set s=>91::s++[93]
 | .lit c=>[c]
def Fq(ts:List RT):List Nat:=ts.flatMap RT.s
noncomputable def RT.ok:RT->Bool
 | .set s=>!s.contains 93&&decide (s.length<=90)&&s.all (·<128)
 | .lit c=>c==61
 | _=>true
def Eu:E0->List RT->Option (List E0)
 | p,[]=>some [p]
 | p,.held::t=>(Eu (E5,[]) t).map (p::·)
 | p,.free::t=>(Eu (Fh,[]) t).map (p::·)
 | p,.close::t=>if p.1=E5 then (Eu (Dn,[]) t).map (p::·) else none
 | p,.dot::t=>Eu (p.1,p.2++[(true,[])]) t
 | p,.set s::t=>(A50 s).bind fun a=>Eu (p.1,p.2++[a]) t
 | p,.lit c::t=>Eu (p.1,p.2++[(false,[c])]) t
theorem N1{α:Type}{l:List α}{i k:Nat}:I4 (some (i:Int)) (some ((i:Int)+(k:Int))) l=(l.drop i).take k:=by
 unfold I4;rw[show ((i:Int)+(k:Int))=((i+k:Nat):Int) by exact B7i,D6,D6];by_cases h:i<l.length
 ·rw[show min i l.length=i by exact B7l h];by_cases h2:i+k<=l.length
  ·rw[show min (i+k) l.length-i=k by exact C3l h2]
  ·rw[List.take_of_length_le (by rw[List.length_drop];exact C3m h h2),List.take_of_length_le (by rw[List.length_drop];exact C3n h h2)]
 ·rw[List.drop_of_length_le (B7m h),List.drop_of_length_le (A1a h)];simp
theorem A78{ts:List RT}(h:ts.all RT.ok=true):(Fq ts).take 1≠[42]:=by
 cases ts with
 | nil=>simp[Fq]
 | cons t ts=>
  rw[List.all_cons,Bool.and_eq_true] at h;cases t with
  | lit c=>have:=h.1;simp[RT.ok] at this;subst this;simp[Fq,RT.s]
  | _=>exact not_eq_of_beq_eq_false rfl
theorem AtomOk.set{H:Hp}{k:Nat}{xs:List MV}{o:MO}{v:MV}{a:Ek}(hk:H[k]?=some (.list xs))(h:AtomOk H v a):AtomOk (H.set k o) v a:=by
 obtain⟨j,e,h⟩:=h;exact⟨j,e,Bo h fun q=>by rw[q,h] at hk;cases hk⟩
inductive PartB(jp b:Nat)(H:Hp)(v:MV)(p:E0):Prop
 | mk (j ja:Nat) (vs:List MV) (e:v=.ref j) (h:H[j]?=some (.tup [sl p.1,.ref ja])) (l:ja<b) (n:ja≠jp) (h2:H[ja]?=some (.list vs)) (r:All2 (AtomOk H) vs p.2)
theorem PartB.pre{jp b:Nat}{H H':Hp}(p:H<+:H'){v:MV}{a:E0}(h:PartB jp b H v a):PartB jp b H' v a:=by
 kcf_m;obtain⟨j,ja,vs,e,h1,h2,h3,h4,h5⟩:=h;refine hGx ?_;exact⟨j,ja,vs,e,Ah p h1,h2,h3,Ah p h4,h5.imp fun zz zz=>AtomOk.pre p⟩
theorem PartB.set{jp b k:Nat}{H:Hp}{xs:List MV}{o:MO}{v:MV}{a:E0}(hk:H[k]?=some (.list xs))(hkb:b<=k∨k=jp)(h:PartB jp b H v a):PartB jp b (H.set k o) v a:=by
 kcf_m;obtain⟨j,ja,vs,e,h1,h2,h3,h4,h5⟩:=h;refine hGx ?_;exact⟨j,ja,vs,e,Bo h1 (fun q=>by rw[q,h1] at hk;cases hk),h2,h3,Bo h4 (C3o hkb h2 h3),h5.imp fun zz zz=>AtomOk.set hk⟩
theorem PartB.up{jp b b':Nat}(hb:b<=b'){H:Hp}{v:MV}{a:E0}(h:PartB jp b H v a):PartB jp b' H v a:=by
 kcf_m;obtain⟨j,ja,vs,e,h1,h2,h3,h4,h5⟩:=h;refine hGx ?_;exact⟨j,ja,vs,e,h1,by exact Nat.lt_of_lt_of_le ‹_› ‹_›,h3,h4,h5⟩
structure RdS(H0:Hp)(jp b jt ja:Nat)(vs va:List MV)(done:List E0)(cur:E0)(H:Hp):Prop where
 h0:H0<+:H
 lo:H0.length<=jp∧H0.length<=ja
 lp:H[jp]?=some (.list (vs++[.ref jt]))
 lt:H[jt]?=some (.tup [sl cur.1,.ref ja])
 la:H[ja]?=some (.list va)
 as:All2 (AtomOk H) va cur.2
 ps:All2 (PartB jp b H) vs done
 ba:b<=ja
 ne:ja≠jp
section
variable {H:Hp}
theorem RdS.pre{H0:Hp}{jp b jt ja:Nat}{vs va:List MV}{done:List E0}{cur:E0}{H H':Hp}(p:H<+:H')(h:RdS H0 jp b jt ja vs va done cur H):RdS H0 jp b jt ja vs va done cur H':=
 ⟨h.h0.trans p,h.lo,Ah p h.lp,Ah p h.lt,Ah p h.la,h.as.imp fun zz zz=>AtomOk.pre p,h.ps.imp fun zz zz=>PartB.pre p,h.ba,h.ne⟩
theorem RdS.atom{H0:Hp}{jp b jt ja:Nat}{vs va:List MV}{done:List E0}{cur:E0}{H:Hp}{v:MV}{a:Ek}(h:RdS H0 jp b jt ja vs va done cur H)(ha:AtomOk H v a):RdS H0 jp b jt ja vs (va++[v]) done (cur.1,cur.2++[a]) (H.set ja (.list (va++[v]))):=
 ⟨Ex h.h0 h.lo.2 _,h.lo,Bo h.lp h.ne,Bo h.lt (fun q=>by have:=h.la;rw[q,h.lt] at this;cases this),Ds h.la,Hh (h.as.imp fun zz zz=>AtomOk.set h.la) (ha.set h.la),h.ps.imp fun zz zz=>PartB.set h.la (.inl h.ba),h.ba,h.ne⟩
theorem RdS.part{H0:Hp}{jp b jt ja:Nat}{vs va:List MV}{done:List E0}{cur:E0}{H:Hp}(h:RdS H0 jp b jt ja vs va done cur H)(kd:List Nat):
  RdS H0 jp H.length (H++[MO.list []]).length H.length (vs++[.ref jt]) [] (done++[cur]) (kd,[]) ((H++[MO.list []]++[MO.tup [sl kd,.ref H.length]]).set jp (.list ((vs++[.ref jt])++[.ref (H++[MO.list []]).length]))):=by
 have p:H<+:H++[MO.list []]++[MO.tup [sl kd,.ref H.length]]:=(List.prefix_append _ _).trans (List.prefix_append _ _);have lp:=Ah p h.lp;have jl:=Bx h.lp;have al:=Bx h.la;have hl:=h.h0.length_le;have hb:=h.ba;refine⟨Ex (h.h0.trans p) h.lo.1 _,⟨h.lo.1,hl⟩,Ds lp,Bo Au (by simp;exact A61 jl),Bo (Ah pre_app Au) (by exact Nat.ne_of_lt ‹_›),.nil,?_,Nat.le_refl _,by exact Nat.ne_of_gt ‹_›⟩;refine Hh (h.ps.imp fun zz zz q=>PartB.set lp (.inr rfl) ((q.pre p).up (C3p al hb))) ?_;refine⟨jt,ja,va,rfl,Bo (Ah p h.lt) (fun q=>?_),by assumption,h.ne,Bo (Ah p h.la) (Ne.symm h.ne),h.as.imp fun zz zz q=>AtomOk.set lp (q.pre p)⟩;have:=Ah p h.lt;rw[<- q,lp] at this;cases this
theorem Ic{xs:List MV}{v:MV}:K4 (xs++[v]) (-1)=some v:=by
 unfold K4;rw[if_neg (by exact C3q),if_pos (by simp;exact C3r)];rw[show (-1+((xs++[v]).length:Int)).toNat=xs.length by simp;exact C3s];simp
theorem D39:pC (.str "(?>.*?")=pC (sl [40,63,62,46,42,63]):=lit (by kd_p)
theorem D1n:pC (.str ".*")=pC (sl [46,42]):=lit (by kd_p)
theorem D4a:pC (.str ")")=pC (sl [41]):=lit (by kd_p)
theorem D1o:pC (.str ".")=pC (sl [46]):=lit (by kd_p)
theorem D1p:pC (.str "()*+?{}|^$")=pC (sl [40,41,42,43,63,123,125,124,94,36]):=lit (by kd_p)
theorem D1q:pC (.str "(?s:")=pC (sl [40,63,115,58]):=lit (by kd_p)
theorem D1r:pC (.str ")\\Z")=pC (sl [41,92,90]):=lit (by kd_p)
def rdR(T:GT):Aj->P (Fl × Aj):=(Ag (Cv (At T (Bz T (Ac "body") (Cq (Ac "at")) (Cq (Am (Ac "at") (pC (.int 6)) A1))) (pC (sl [40,63,62,46,42,63])) Bb)
 (Ag (Cw (Be Kv (Ac "parts") (Ab (Ak (Ab (pC (sl E5)) (Ab (Ak Af Bd) Af)) Bq) Af) (two Bk)))
 (Ag (C3 "at" (pC (.int 6)) Bc)
 Ap))
 (Ag (Cv (At T (Bz T (Ac "body") (Cq (Ac "at")) (Cq (Am (Ac "at") (pC (.int 2)) A1))) (pC (sl [46,42])) Bb)
 (Ag (Cw (Be Kv (Ac "parts") (Ab (Ak (Ab (pC (sl Fh)) (Ab (Ak Af Bd) Af)) Bq) Af) (two Bk)))
 (Ag (C3 "at" (pC (.int 2)) Bc)
 Ap))
 (Ag (Cv (Dk (At T (Ac "sign") (pC (sl [41])) Bb) (Dk (At T (Am (Am (Ac "parts") (Jd (pC (.int 1))) (Ao T)) (pC (.int 0)) (Ao T)) (pC (sl E5)) Bb) Eg))
 (Ag (Cw (Be Kv (Ac "parts") (Ab (Ak (Ab (pC (sl Dn)) (Ab (Ak Af Bd) Af)) Bq) Af) (two Bk)))
 (Ag (C3 "at" (pC (.int 1)) Bc)
 Ap))
 (Ag (Cv (At T (Ac "sign") (pC (sl [91])) Bb)
 (Ag (Bi "to" (Be O1 (Ac "body") (Ab (pC (sl [93])) (Ab (Ac "at") Af)) (three Rj)))
 (Ag (Cw (Be Kv (Ac "atoms") (Ab (Ak (Ab (Bz T (Ac "body") (Cq (Am (Ac "at") (pC (.int 1)) A1)) (Cq (Ac "to"))) Af) (Hq T)) Af) (two Bk)))
 (Ag (Bi "at" (Am (Ac "to") (pC (.int 1)) A1))
 Ap)))
 (Ag (Cv (At T (Ac "sign") (pC (sl [46])) Bb)
 (Ag (Cw (Be Kv (Ac "atoms") (Ab (Ak (Ab (pC (.bool true)) (Ab (pC (sl [])) Af)) Bq) Af) (two Bk)))
 (Ag (C3 "at" (pC (.int 1)) Bc)
 Ap))
 (Ag (Cv (At T (Ac "sign") (pC (sl [40,41,42,43,63,123,125,124,94,36])) (Fa T))
 (Ag (fun zz=>fl)
 Ap)
 (Ag (C3 "at" (Cv (At T (Ac "sign") (pC (sl [92])) Bb) (pC (.int 1)) (pC (.int 0))) Bc)
 (Ag (Cw (Be Kv (Ac "atoms") (Ab (Ak (Ab (pC (.bool false)) (Ab (Bz T (Ac "body") (Cq (Ac "at")) (Cq (Am (Ac "at") (pC (.int 1)) A1))) Af)) Bq) Af) (two Bk)))
 (Ag (C3 "at" (pC (.int 1)) Bc)
 Ap))))
 Ap))
 Ap))
 Ap))
 Ap))
 Ap))
 Ap)
abbrev rdC(T:GT):Aj->P Bool:=At T (Ac "at") (Ak (Ab (Ac "body") Af) (one (D4 T))) Fz
abbrev rdB(T:GT):Aj->P (Fl × Aj):=(Ag (G8 T ["sign","atoms"] (Ak (Ab (Am (Ac "body") (Ac "at") (Ao T)) (Ab (Am (Am (Ac "parts") (Jd (pC (.int 1))) (Ao T)) (pC (.int 1)) (Ao T)) Af)) Bq))
 (rdR T))
inductive AK(H:Hp)(k:Nat)(xs:List MV)(Q:QM)(ms:List MV)(H₁:Hp):Prop
 | mk (v:MV) (e:ms=[v]) (h:H<+:H₁∧Q .none (H₁.set k (.list (xs++[v]))))
theorem Yx{x:Str}{ρ:Aj}{f:Aj->P (List MV)}{k:Nat}{xs:List MV}{Q:MV->Hp->Prop}(hx:ρ x=some (.ref k))(e:H[k]?=some (.list xs))(hs:xs.length<16777216)(h:Wp (f ρ) H (AK H k xs Q)):
  Wp (Be Kv (Ac x) f (two Bk) ρ) H Q:=
 Ng hx e (h.mono fun ms H₁ z=>by obtain⟨v,rfl,p,z⟩:=z;exact⟨v,xs,rfl,Ah p e,hs,z⟩)
theorem A79{H0:Hp}{jp:Nat}{body:List Nat}(hb:body.length<=1000){K:Fl->Aj->Hp->Prop}:∀(ts:List RT) (n at_ b jt ja:Nat) (vs va:List MV) (done:List E0) (cur:E0) (out:List E0) (ρ:Aj) (H:Hp),
  body.drop at_=Fq ts->ts.all RT.ok=true->ts.length<n->Eu cur ts=some out->done.length+ts.length<=2000->va.length+ts.length<=2000->at_<=body.length->
  RdS H0 jp b jt ja vs va done cur H->ρ "body"=some (sl body)->ρ "parts"=some (.ref jp)->ρ "at"=some (.int (at_:Int))->
  (∀ρ' H',H0<+:H'->ρ' "parts"=some (.ref jp)->RepP H' (.ref jp) (done++out)->K .next ρ' H')->
  WS (By (rdC T0) (rdB T0) n) ρ H K:=by
 intro rest__
 induction rest__ with
 | nil=>
  intro n at_ b jt ja vs va done cur out ρ H hd hok hn hr hc hc2 hat S g1 g2 g3 hK
  obtain⟨n,rfl⟩:=Bv hn;cases hr;have hle:body.length<=at_:=by simpa [Fq] using hd
  refine Es ?_;w_up;refine Ia (Ks hb) ?_;w_up;refine⟨fun h=>?_,fun zz=>?_⟩
  ·simp at h;exact(B0h hat hle h).elim
  ·refine hK _ _ S.h0 g2 ⟨jp,_,rfl,S.lp,Hh (S.ps.imp fun v p q=>?_) ⟨jt,.ref ja,rfl,S.lt,ja,va,rfl,S.la,S.as⟩⟩;kcf_m;obtain⟨j,ja',vs',e,h1,h2,h3,h4,h5⟩:=q;refine hGx ?_;exact⟨j,.ref ja',e,h1,ja',vs',rfl,h4,h5⟩
 | cons t ts ih=>
  intro n at_ b jt ja vs va done cur out ρ H hd hok hn hr hc hc2 hat S g1 g2 g3 hK
  obtain⟨n,rfl⟩:=Bv hn;have hat':∀k:Nat,body.drop (at_+k)=(RT.s t++Fq ts).drop k:=fun k=>by rw[<- List.drop_drop,hd];rfl
  have hd:body.drop at_=RT.s t++Fq ts:=hd
  rw[List.all_cons,Bool.and_eq_true] at hok;have hlenb:(RT.s t++Fq ts).length=body.length-at_:=by rw[<- hd,List.length_drop]
  have w6:I4 (some (at_:Int)) (some ((at_:Int)+6)) body=(RT.s t++Fq ts).take 6:=by rw[<- hd];exact N1 (k:=6)
  have w2:I4 (some (at_:Int)) (some ((at_:Int)+2)) body=(RT.s t++Fq ts).take 2:=by rw[<- hd];exact N1 (k:=2)
  have hvl:=S.ps.length;have hal:=S.as.length;have start:∀(c:Nat) (l:List Nat),RT.s t++Fq ts=c::l->WS (rdR T0) (upd (upd ρ "atoms" (.ref ja)) "sign" (sl [c])) (H++[.tup [sl [c],.ref ja]]) (WhK (rdC T0) (rdB T0) n K)->WS (By (rdC T0) (rdB T0) (n+1)) ρ H K:=fun c l e h=>by
   obtain⟨q1,_,q3⟩:=Cd (hd.trans e);refine Es ?_;w_up;refine Ia (Ks hb) ?_;w_up;refine⟨fun zz=>?_,fun h'=>?_⟩
   ·refine sSwap2 (wConsS (wBin (B0 g1 (B0 g3 ?_))));refine Cs q1 (by unfold lim;exact zl4 hb q3) ?_;w_up;refine Pg (Aq S.lp) Ic (by unfold lim;exact A1c) ?_;w_up;refine Kb (i:=1) (Bw S.lt) rfl (by unfold lim;exact Int.natCast_nonneg _) ?_;refine wNilS ⟨_,_,rfl,h⟩
   ·simp at h';exact(A1d hat q3 h').elim
  have newpart:∀(kd:List Nat) (k:Nat) (c:Nat) (out':List E0) (KK:Fl->Aj->Hp->Prop),(RT.s t).length=k->Eu (kd,[]) ts=some out'->out=cur::out'->(∀ρ' H',WS (By (rdC T0) (rdB T0) n) ρ' H' K->KK .next ρ' H')->
    WS (Ag (Cw (Be Kv (Ac "parts") (Ab (Ak (Ab (pC (sl kd)) (Ab (Ak Af Bd) Af)) Bq) Af) (two Bk))) (Ag (C3 "at" (pC (.int (k:Int))) Bc) Ap)) (upd (upd ρ "atoms" (.ref ja)) "sign" (sl [c])) (H++[.tup [sl [c],.ref ja]]) KK:=fun kd k c out' KK hk hr' ho hKK=>by
   have S1:=S.pre (List.prefix_append H [MO.tup [sl [c],.ref ja]]);have S2:=S1.part kd;w_up;refine Yx (xs:=vs++[.ref jt]) ?_ S1.lp (by simp;exact C3t hc hvl) ?_
   ·k_in
   w_up;refine⟨(List.prefix_append _ _).trans (List.prefix_append _ _),?_⟩;w_up;refine hKK _ _ ?_;refine ih n (at_+k) _ _ _ _ _ _ _ out' _ _ ?_ hok.2 (by exact Nat.lt_of_succ_lt_succ hn) hr' (by simp at hc ⊢;exact Y9 hc) (by simp at hc2 ⊢;exact C3u hc2) (by simp at hlenb;exact C3v hat hk hlenb) S2 ?_ ?_ ?_ fun ρ' H' p y1 y2=>hK ρ' H' p y1 (by rw[ho];simpa using y2)
   ·rw[hat' k,<- hk];simp
   ·assumption
   ·assumption
   ·rw[show ((at_+k:Nat):Int)=(at_:Int)+(k:Int) by exact C3w];exact upd_hit
  cases t with
  | held=>
   obtain⟨out',hr',ho⟩:=Ju hr;refine start 40 _ rfl ?_;unfold rdR;w_up;refine B2 (Ks hb) ?_;rw[w6];refine wC (wEqS ?_);rw[show ((RT.s .held++Fq ts).take 6==[40,63,62,46,42,63])=true from by simp[RT.s]];refine trB (Ym rfl ?_);exact newpart E5 6 40 out' _ rfl hr' ho.symm fun ρ' H' h=>thN (sEnd h)
  | free=>
   obtain⟨out',hr',ho⟩:=Ju hr;refine start 46 _ rfl ?_;unfold rdR;w_up;refine B2 (Ks hb) ?_;rw[w6];refine wC (wEqS ?_);rw[show ((RT.s .free++Fq ts).take 6==[40,63,62,46,42,63])=false from by simp[RT.s]];refine trB (Ll rfl ?_);w_up;refine B2 (Ks hb) ?_;rw[w2];refine wC (wEqS ?_);rw[show ((RT.s .free++Fq ts).take 2==[46,42])=true from by simp[RT.s]];refine trB (Ym rfl ?_);exact newpart Fh 2 46 out' _ rfl hr' ho.symm fun ρ' H' h=>thN (sEnd (thN (sEnd h)))
  | close=>
   have hh:cur.1=E5:=by
    unfold Eu at hr;by_cases q:cur.1=E5
    ·exact q
    ·rw[if_neg q] at hr;cases hr
   have hr:(Eu (Dn,[]) ts).map (cur::·)=some out:=by
    unfold Eu at hr;rw[if_pos hh] at hr;exact hr
   obtain⟨out',hr',ho⟩:=Ju hr;refine start 41 _ rfl ?_;unfold rdR;w_up;refine B2 (Ks hb) ?_;rw[w6];refine wC (wEqS ?_);rw[show ((RT.s .close++Fq ts).take 6==[40,63,62,46,42,63])=false from by simp[RT.s]];refine trB (Ll rfl ?_);w_up;refine B2 (Ks hb) ?_;rw[w2];refine wC (wEqS ?_);rw[show ((RT.s .close++Fq ts).take 2==[46,42])=false from by simp[RT.s]];refine trB (Ll rfl ?_);w_up;refine Pg (Aq (Ah pre_app S.lp)) Ic (by unfold lim;exact A1c) ?_;w_up;refine Kb (i:=0) (Bw (Ah pre_app S.lt)) rfl (by unfold lim;exact Int.natCast_nonneg _) ?_;refine wC (wEqS ?_);rw[hh];refine trB (Ym rfl (wAndN (Ym rfl ?_)));exact newpart Dn 1 41 out' _ rfl hr' ho.symm fun ρ' H' h=>thN (sEnd (thN (sEnd (thN (sEnd h)))))
  | dot=>
   have hh:=A78 hok.2;have ht2:((RT.s .dot++Fq ts).take 2==[46,42])=false:=by
    have:(RT.s .dot++Fq ts).take 2=46::(Fq ts).take 1:=rfl;rw[this];simpa using hh
   refine start 46 _ rfl ?_;unfold rdR;w_up;refine B2 (Ks hb) ?_;rw[w6];refine wC (wEqS ?_);rw[show ((RT.s .dot++Fq ts).take 6==[40,63,62,46,42,63])=false from by simp[RT.s]];refine trB (Ll rfl ?_);w_up;refine B2 (Ks hb) ?_;rw[w2];refine wC (wEqS ?_);rw[show ((RT.s .dot++Fq ts).take 2==[46,42])=false from by exact ht2];refine trB (Ll rfl ?_);have S1:=S.pre (List.prefix_append H [MO.tup [sl [46],.ref ja]]);w_up;refine Yx (xs:=va) ?_ S1.la (A1e hc2) ?_
   ·k_in
   w_up;refine⟨List.prefix_append _ _,?_⟩;have S2:=(S1.pre (List.prefix_append _ [MO.tup [.bool true,sl []]])).atom (a:=(true,[])) ⟨_,rfl,Au⟩;w_up;refine ih n (at_+1) _ _ _ _ _ _ _ out _ _ ?_ hok.2 (by exact Nat.lt_of_succ_lt_succ hn) hr (by simp at hc ⊢;exact B0i hc) (by simp at hc2 ⊢;exact Y9 hc2) (by simp[RT.s] at hlenb;exact B7r hat hlenb) S2 ?_ ?_ ?_ hK
   ·rw[hat' 1];rfl
   ·assumption
   ·assumption
   ·exact upd_hit
  | set s=>
   obtain⟨a,ha,hr'⟩:=Dw hr;have hs:=hok.1;simp only[RT.ok,Bool.and_eq_true,Bool.not_eq_true',decide_eq_true_eq,List.all_eq_true] at hs;obtain⟨⟨s1,s2⟩,s3⟩:=hs;have s1:93 ∉ s:=by simpa using s1
   have e1:body.drop (at_+1)=s++93::Fq ts:=by rw[hat' 1];simp[RT.s]
   have e2:body.drop (at_+1+s.length)=93::Fq ts:=by rw[<- List.drop_drop,e1];simp
   have e3:body[at_]?=some 91:=(Cd (hd.trans rfl)).1;refine start 91 _ rfl ?_;unfold rdR;w_up;refine B2 (Ks hb) ?_;rw[w6];refine wC (wEqS ?_);rw[show ((RT.s (.set s)++Fq ts).take 6==[40,63,62,46,42,63])=false from by simp[RT.s]];refine trB (Ll rfl ?_);w_up;refine B2 (Ks hb) ?_;rw[w2];refine wC (wEqS ?_);rw[show ((RT.s (.set s)++Fq ts).take 2==[46,42])=false from by simp[RT.s]];refine trB (Ll rfl ?_);have S1:=S.pre (List.prefix_append H [MO.tup [sl [91],.ref ja]]);w_up;refine Gp (B0 (Ba (by kd_p) (Ba (by kd_p) g1)) ⟨rfl,?_⟩);w_up;refine A76 (c:=93) (lo:=at_) (p:=at_+1+s.length) rfl C3x (Cd e2).1 (fun i h1 h2=>?_) ?_
   ·rcases Nat.lt_or_ge at_ i with h3|h3
    ·have e4:body[i]?=s[i-(at_+1)]?:=by
      have:=congrArg (·[i-(at_+1)]?) e1;simp only[List.getElem?_drop] at this;rw[show at_+1+(i-(at_+1))=i by exact C3y h1 h3] at this;rw[this,List.getElem?_append_left (C3z h2 h3)]
     rw[e4];intro q;exact s1 (List.mem_of_getElem? q)
    ·rw[show i=at_ by exact C30 h1 h3,e3];simp
   w_up;refine Yx (xs:=va) ?_ S1.la (A1e hc2) ?_
   ·k_in
   w_up;refine B2 (Ks hb) ?_;have e5:I4 (some ((at_:Int)+1)) (some (((at_+1+s.length:Nat):Int))) body=s:=by
    have:=N1 (l:=body) (i:=at_+1) (k:=s.length);rw[show ((at_+1:Nat):Int)=(at_:Int)+1 by exact zl8,show (at_:Int)+1+(s.length:Int)=((at_+1+s.length:Nat):Int) by exact C31,e1] at this;rw[this];simp
   rw[e5];w_up;refine Wp.mono (B5z s2 (fun c h=>by simpa using s3 c h) ha) ?_;rintro v HP ⟨pB,av⟩;w_up;refine⟨pB,?_⟩;have S2:=(S1.pre pB).atom av;w_up;refine ih n (at_+1+s.length+1) _ _ _ _ _ _ _ out _ _ (Cd e2).2.1 hok.2 (by simp at hn;lia) hr' (by simp at hc ⊢;exact B0i hc) (by simp at hc2 ⊢;exact Y9 hc2) (by have:=(Cd e2).2.2;assumption) S2 ?_ ?_ ?_ hK
   ·k_in
   ·k_in
   ·exact upd_hit
  | lit c=>
   have hc61:c=61:=by have:=hok.1;simpa [RT.ok] using this
   subst hc61;refine start 61 _ rfl ?_;unfold rdR;w_up;refine B2 (Ks hb) ?_;rw[w6];refine wC (wEqS ?_);rw[show ((RT.s (.lit 61)++Fq ts).take 6==[40,63,62,46,42,63])=false from by simp[RT.s]];refine trB (Ll rfl ?_);w_up;refine B2 (Ks hb) ?_;rw[w2];refine wC (wEqS ?_);rw[show ((RT.s (.lit 61)++Fq ts).take 2==[46,42])=false from by simp[RT.s]];refine trB (Ll rfl ?_);have S1:=S.pre (List.prefix_append H [MO.tup [sl [61],.ref ja]]);w_up;refine Yx (xs:=va) ?_ S1.la (A1e hc2) ?_
   ·k_in
   w_up;refine B2 (Ks hb) ?_;have e5:I4 (some ((at_:Int)+0)) (some ((at_:Int)+0+1)) body=[61]:=by
    rw[Int.add_zero,R7,hd];rfl
   rw[e5];w_up;refine⟨List.prefix_append _ _,?_⟩;have S2:=(S1.pre (List.prefix_append _ [MO.tup [.bool false,sl [61]]])).atom (a:=(false,[61])) ⟨_,rfl,Au⟩;w_up;refine ih n (at_+1) _ _ _ _ _ _ _ out _ _ ?_ hok.2 (by simp at hn;lia) hr (by simp at hc ⊢;exact B0i hc) (by simp at hc2 ⊢;exact Y9 hc2) (by simp[RT.s] at hlenb;exact B7r hat hlenb) S2 ?_ ?_ ?_ hK
   ·rw[hat' 1];rfl
   ·k_in
   ·k_in
   ·rw[show ((at_+1:Nat):Int)=(at_:Int)+0+1 by exact C32];exact upd_hit
end
def Ie(ps:List E0):Bool:=!((ps.map (·.1)).dropLast).contains Fh&&!((ps.map (·.1)).getLast?==some E5)
theorem L7{α:Type}{l:List α}:I4 none (some (-1)) l=l.dropLast:=by
 unfold I4 Dv;simp only[List.drop_zero,Nat.sub_zero];rw[List.dropLast_eq_take]
 congr 1
 split <;> (first |exact C33|exact C34 ‹_›)
def Uk(T:GT)(H:Hp)(v:MV):Option MV:=match D0 T H v with
 | some (k::_)=>some k
 | _=>none
section
variable {H:Hp}
theorem A52{H:Hp}{vs:List MV}{ps:List E0}(h:All2 (PartOk H) vs ps):vs.filterMap (Uk T0 H)=(ps.map (·.1)).map sl:=by
 induction h with
 | nil=>rfl
 | @cons v p vs ps h t ih=>
  obtain⟨j,m,rfl,e,_⟩:=h;have:Uk T0 H (.ref j)=some (sl p.1):=by unfold Uk;rw[Bw e]
  rw[List.filterMap_cons,this,ih];rfl
theorem A8a{ts:List RT}{out:List E0}(hok:ts.all RT.ok=true)(hl:(Fq ts).length<=900)(hts:ts.length<=900)(hr:Eu (Dn,[]) ts=some out)(hk:Ie out=true)(ho:out≠[])(hol:out.length<=1000):
  Wp (B5 T0 [sl ([40,63,115,58]++Fq ts++[41,92,90])]) H fun r H'=>H<+:H'∧RepP H' r out:=by
 unfold B5;simp only[D1q,D1r,D1j,D39,A5v,D1n,A5w,D4a,D1c,D1b,D1o,L_e,D1p,B5y];refine Dg rfl ?_;dsimp only[Ci];have hlen:([40,63,115,58]++Fq ts++[41,92,90]).length=(Fq ts).length+7:=by simp
 have c1:I4 none (some (4:Int)) ([40,63,115,58]++Fq ts++[41,92,90])=[40,63,115,58]:=by
  unfold I4;rw[show (4:Int)=((4:Nat):Int) from rfl,D6,hlen];simp only[Dv,List.drop_zero];rw[show min 4 ((Fq ts).length+7)-0=4 by exact C35];rfl
 have c2:I4 (some (-3:Int)) none ([40,63,115,58]++Fq ts++[41,92,90])=[41,92,90]:=by
  unfold I4 Dv;rw[hlen];simp only[];rw[if_pos (by decide),show (max 0 (min (-3+(((Fq ts).length+7:Nat):Int)) (((Fq ts).length+7:Nat):Int))).toNat=(Fq ts).length+4 by exact B7s];rw[List.drop_append_of_le_length (by simp),List.drop_of_length_le (by simp)];simp
 have c3:I4 (some (4:Int)) (some (-3:Int)) ([40,63,115,58]++Fq ts++[41,92,90])=Fq ts:=by
  unfold I4;rw[show (4:Int)=((4:Nat):Int) from rfl,D6,hlen];unfold Dv;simp only;rw[if_pos (by decide),show (max 0 (min (-3+(((Fq ts).length+7:Nat):Int)) (((Fq ts).length+7:Nat):Int))).toNat=(Fq ts).length+4 by exact B7s,show min 4 ((Fq ts).length+7)=4 by exact C36];rw[show (Fq ts).length+4-4=(Fq ts).length by exact C37];simp
 generalize [40,63,115,58]++Fq ts++[41,92,90]=told at *
 w_up;refine B2 (B0j hl hlen) ?_;rw[c1];w_up;refine B2 (B0j hl hlen) ?_;rw[c2];w_up;refine B2 (B0j hl hlen) ?_;rw[c3];w_up;have S:RdS H (H++[MO.list []]++[MO.tup [sl Dn,.ref H.length]]).length 0 (H++[MO.list []]).length H.length [] [] [] (Dn,[]) (H++[MO.list []]++[MO.tup [sl Dn,.ref H.length]]++[MO.list [.ref (H++[MO.list []]).length]]):=
  ⟨by simp[List.append_assoc],by simp,Au,Ah pre_app Au,Ah pre_app (Ah pre_app Au),.nil,.nil,Nat.zero_le _,by simp⟩
 refine A79 (body:=Fq ts) (C38 hl) ts 4000 0 _ _ _ _ _ _ _ out _ _ rfl hok (C39 hts) hr (by simp;exact A8u hts) (by simp;exact A8u hts) (Nat.zero_le _) (S.pre pre_app) ?_ ?_ ?_ fun ρ' H₁ p g hP=>?_
 ·k_in
 ·k_in
 ·show _=some (MV.int 0);k_in
 rw[List.nil_append] at hP;obtain⟨j,vs,ej,hl',hA⟩:=id hP;cases ej;have hvl:=hA.length;w_up;refine Ip (Uk T0 H₁) (fun zz=>True) ?_;w_up;refine⟨_,_,Dd (Aq hl'),fun H' p=>Ch (Ei p (Aq hl')),by exact C4a hol hvl,by exact C4b hol hvl,trivial,?_,?_⟩
 ·intro v hv ρ H' _ p';obtain⟨q,hq,ok⟩:=hA.mem v hv;obtain⟨i,m,rfl,e,_⟩:=ok;w_up;refine⟨rfl,trivial,?_⟩;w_up;refine⟨List.prefix_rfl,fun zz=>?_,fun h=>nomatch h⟩;w_up;refine Kb (i:=0) (Bw (Ah p' e)) rfl (by unfold lim;exact Int.natCast_nonneg _) ⟨List.prefix_rfl,?_⟩;unfold Uk;rw[Bw e]
 ·intro HP p' l;rw[A52 hA] at l;obtain⟨ks,k,hks⟩:∃ks k,out.map (·.1)=ks++[k]:=by
   have:out.map (·.1)≠[]:=by simpa using ho
   exact⟨_,_,(List.dropLast_concat_getLast this).symm⟩
  unfold Ie at hk;rw[hks] at hk l;simp only[List.dropLast_concat,List.getLast?_concat,Bool.and_eq_true,Bool.not_eq_true'] at hk;have hkl:(ks++[k]).length=out.length:=by rw[<- hks];simp
  simp only[List.length_append,List.length_cons,List.length_nil] at hkl;w_up;refine R1 (Aq l) (by simp;exact C4c hol hkl) ?_;refine A9q (l:=ks) (Aq (by rw[Au,L7,<- List.map_dropLast,List.dropLast_concat])) ?_;rw[hk.1];w_up;refine Pg (Aq (Ah pre_app l)) (by rw[List.map_append];exact Ic) (by unfold lim;exact A1c) ?_;w_up;have:(k==E5)=false:=by simpa using hk.2
  rw[this];w_up;exact⟨p.trans (p'.trans pre_app),hP.pre (p'.trans pre_app)⟩
end
def Nj(st:Nat):Option (List Nat)->MV
 | none=>.ref st
 | some s=>sl s
noncomputable abbrev Pp:List Nat:=[46,42]
def E9:List (List (List Nat))->List (List Nat)
 | []=>[]
 | [seg]=>if seg=[] then [Pp] else [Pp,seg.flatten]
 | seg::more=>([40,63,62,46,42,63]++seg.flatten++[41])::E9 more
def Hx(st:Nat)(segs:List (List (List Nat))):List MV:=segs.flatMap fun seg=>MV.ref st::seg.map sl
noncomputable def Gb:List (List (List Nat))->Bool
 | []=>true
 | [_]=>true
 | seg::more=>!seg.isEmpty&&Gb more
section
variable {H:Hp}
theorem N2{s:List Nat}{st:Nat}{Q:MV->Hp->Prop}(h:Q (.bool true) H):Wp (En (sl s) (.ref st)) H Q:=⟨_,_,rfl,h⟩
theorem Yy{st:Nat}{Q:MV->Hp->Prop}(h:Q (.bool false) H):Wp (En (.ref st) (.ref st)) H Q:=⟨_,_,by show Option.map _ (if st=st then some true else none)=_;rw[if_pos rfl];rfl,h⟩
theorem D4b{st:Nat}{Q:MV->Hp->Prop}(h:Q (.bool true) H):Wp (pIs (.ref st) (.ref st)) H Q:=⟨_,_,by show Option.map _ (if st=st then some true else none)=_;rw[if_pos rfl];rfl,h⟩
abbrev jnC(T:GT):Aj->P Bool:=(Dk (At T (Ac "i") (Ac "n") Fz) (Dk (At T (Am (Ac "inp") (Ac "i") (Ao T)) (Ac "STAR") En) Eg))
abbrev D4d(T:GT):Aj->P (Fl × Aj):=(Ag (Cw (Cp (Ac "add") (Ab (Am (Ac "inp") (Ac "i") (Ao T)) Af) (It (A5 T))))
 (Ag (C3 "i" (pC (.int 1)) Bc)
 Ap))
abbrev D1s(T:GT):Aj->P (Fl × Aj):=(Ag (Cw (Be Kv (Ac "fixed") (Ab (Am (Ac "inp") (Ac "i") (Ao T)) Af) (two Bk)))
 (Ag (C3 "i" (pC (.int 1)) Bc)
 Ap))
theorem D1t{jin jr jm st:Nat}{vs tl:List MV}(hvs:vs.length<=1000)(htl:tl=[]∨∃t,tl=.ref st::t)(hne:jr≠jin)(hne2:jr≠jm){K:Fl->Aj->Hp->Prop}:∀(rest:List (List Nat)) (i n:Nat) (acc:List (List Nat)) (ρ:Aj) (H:Hp),
  vs.drop i=rest.map sl++tl->rest.length<n->acc.length+rest.length<=2000->i<=vs.length->H[jin]?=some (.list vs)->H[jr]?=some (.list (acc.map sl))->H[jm]?=some (.meth "list.append" jr)->
  ρ "inp"=some (.ref jin)->ρ "STAR"=some (.ref st)->ρ "add"=some (.ref jm)->ρ "n"=some (.int (vs.length:Int))->ρ "i"=some (.int (i:Int))->
  (∀ρ' H',(∀x,x≠("i":Str)->ρ' x=ρ x)->ρ' "i"=some (.int ((i+rest.length:Nat):Int))->(∀j x,j≠jr->H[j]?=some x->H'[j]?=some x)->H'[jr]?=some (.list ((acc++rest).map sl))->K .next ρ' H')->
  WS (By (jnC T0) (D4d T0) n) ρ H K:=by
 intro rest__
 induction rest__ with
 | nil=>
  intro i n acc ρ H hd hn hc hi e1 e2 e3 g1 g2 g3 g4 g5 hK;obtain⟨n,rfl⟩:=Bv hn;have fin:K .next ρ H:=hK ρ H (fun zz zz=>rfl) (by simpa using g5) (fun zz zz zz h=>h) (by simpa using e2)
  refine Es ?_;w_up;refine⟨fun h=>?_,fun h=>?_⟩
  ·have hlt:i<vs.length:=by simp at h;lia
   rcases htl with rfl|⟨t,rfl⟩
   ·simp at hd;exact(A63 hlt hd).elim
   ·w_up;refine Bl (Aq e1) (Cd hd).1 (by unfold lim;exact zl4 hvs hlt) ?_;w_up;refine Yy ?_;refine trB (Ll rfl ((Ll rfl (fin))))
  ·exact(Ll rfl (fin))
 | cons s rest ih=>
  intro i n acc ρ H hd hn hc hi e1 e2 e3 g1 g2 g3 g4 g5 hK;obtain⟨n,rfl⟩:=Bv hn;obtain⟨q1,q2,q3⟩:=Cd hd;refine Es ?_;w_up;refine⟨fun zz=>?_,fun h=>?_⟩
  ·w_up;refine Bl (Aq e1) q1 (by unfold lim;exact zl4 hvs q3) ?_;w_up;refine N2 ?_;w_up;refine Bl (Aq e1) q1 (by unfold lim;exact zl4 hvs q3) ?_;w_up;refine Qb e3 (Fp e2 (by simp at hc ⊢;exact A1e hc) ?_);w_up;refine ih (i+1) n (acc++[s]) _ _ q2 (by simp at hn;lia) (by simp at hc ⊢;exact Y9 hc) (by assumption) (Bo e1 hne) (by rw[Ds e2];simp) (Bo e3 hne2) ?_ ?_ ?_ ?_ ?_ fun ρ' H' w1 w2 w3 w4=>hK ρ' H' (fun x hx=>?_) (by rw[w2];congr 3;simp;exact A8v) (fun j x hj hx=>w3 j x hj (Bo hx (Ne.symm hj))) (by rw[w4];simp)
   ·k_in
   ·k_in
   ·k_in
   ·k_in
   ·exact upd_hit
   ·rw[w1 x hx];unfold upd;rw[if_neg hx]
  ·simp at h;exact(A1d hi q3 h).elim
theorem D1u{jin jr st:Nat}{vs tl:List MV}(hvs:vs.length<=1000)(htl:tl=[]∨∃t,tl=.ref st::t)(hne:jr≠jin){K:Fl->Aj->Hp->Prop}:∀(rest:List (List Nat)) (i n:Nat) (acc:List (List Nat)) (ρ:Aj) (H:Hp),
  vs.drop i=rest.map sl++tl->rest.length<n->acc.length+rest.length<=2000->i<=vs.length->H[jin]?=some (.list vs)->H[jr]?=some (.list (acc.map sl))->
  ρ "inp"=some (.ref jin)->ρ "STAR"=some (.ref st)->ρ "fixed"=some (.ref jr)->ρ "n"=some (.int (vs.length:Int))->ρ "i"=some (.int (i:Int))->
  (∀ρ' H',(∀x,x≠("i":Str)->ρ' x=ρ x)->ρ' "i"=some (.int ((i+rest.length:Nat):Int))->(∀j x,j≠jr->H[j]?=some x->H'[j]?=some x)->H'[jr]?=some (.list ((acc++rest).map sl))->K .next ρ' H')->
  WS (By (jnC T0) (D1s T0) n) ρ H K:=by
 intro rest__
 induction rest__ with
 | nil=>
  intro i n acc ρ H hd hn hc hi e1 e2 g1 g2 g3 g4 g5 hK;obtain⟨n,rfl⟩:=Bv hn;have fin:K .next ρ H:=hK ρ H (fun zz zz=>rfl) (by simpa using g5) (fun zz zz zz h=>h) (by simpa using e2)
  refine Es ?_;w_up;refine⟨fun h=>?_,fun h=>?_⟩
  ·have hlt:i<vs.length:=by simp at h;lia
   rcases htl with rfl|⟨t,rfl⟩
   ·simp at hd;exact(A63 hlt hd).elim
   ·w_up;refine Bl (Aq e1) (Cd hd).1 (by unfold lim;exact zl4 hvs hlt) ?_;w_up;refine Yy ?_;refine trB (Ll rfl ((Ll rfl (fin))))
  ·exact(Ll rfl (fin))
 | cons s rest ih=>
  intro i n acc ρ H hd hn hc hi e1 e2 g1 g2 g3 g4 g5 hK;obtain⟨n,rfl⟩:=Bv hn;obtain⟨q1,q2,q3⟩:=Cd hd;refine Es ?_;w_up;refine⟨fun zz=>?_,fun h=>?_⟩
  ·w_up;refine Bl (Aq e1) q1 (by unfold lim;exact zl4 hvs q3) ?_;w_up;refine N2 ?_;w_up;refine Ng g3 e2 ?_;w_up;refine Bl (Aq e1) q1 (by unfold lim;exact zl4 hvs q3) ?_;w_up;refine⟨_,_,rfl,e2,by simp at hc ⊢;exact A1e hc,?_⟩;w_up;refine ih (i+1) n (acc++[s]) _ _ q2 (by simp at hn;lia) (by simp at hc ⊢;exact Y9 hc) (by assumption) (Bo e1 hne) (by rw[Ds e2];simp) ?_ ?_ ?_ ?_ ?_ fun ρ' H' w1 w2 w3 w4=>hK ρ' H' (fun x hx=>?_) (by rw[w2];congr 3;simp;exact A8v) (fun j x hj hx=>w3 j x hj (Bo hx (Ne.symm hj))) (by rw[w4];simp)
   ·k_in
   ·k_in
   ·k_in
   ·k_in
   ·exact upd_hit
   ·rw[w1 x hx];unfold upd;rw[if_neg hx]
  ·simp at h;exact(A1d hi q3 h).elim
theorem A53{a b:Str}{la lb s:List Nat}{Q:MV->Hp->Prop}(ea:a=⟨la.toArray⟩)(eb:b=⟨lb.toArray⟩)(hs:la.length+s.length+lb.length<=16777216)(h:Q (sl (la++s++lb)) H):Wp (Lz a b (sl s)) H Q:=⟨_,_,by
 subst ea eb;have e0:Str.empty++(⟨la.toArray⟩:Str)=⟨la.toArray⟩:=by
  have:=M0 (x:=[]) (y:=la);exact this
 simp only[Lz,e0,M0,Dy];rw[if_pos ⟨by exact C4d hs,by rw[List.length_append];exact C4e hs,by rw[List.length_append,List.length_append];lia,by exact C4f hs⟩],h⟩
abbrev D1v(T:GT):Aj->P (Fl × Aj):=(Ag (V9 (At T (Am (Ac "inp") (Ac "i") (Ao T)) (Ac "STAR") pIs))
 (Ag (C3 "i" (pC (.int 1)) Bc)
 (Ag (Cv (At T (Ac "i") (Ac "n") Bb)
 (Ag (Cw (Cp (Ac "add") (Ab (pC (sl Pp)) Af) (It (A5 T))))
 (Ag Rs
 Ap))
 Ap)
 (Ag (V9 (At T (Am (Ac "inp") (Ac "i") (Ao T)) (Ac "STAR") En))
 (Ag (Bi "fixed" (Ak Af Bd))
 (Ag (By (jnC T) (D1s T) 4000)
 (Ag (Bi "fixed" (Be O1 (pC (sl [])) (Ab (Ac "fixed") Af) (two (Go T))))
 (Ag (Cv (At T (Ac "i") (Ac "n") Bb)
 (Ag (Cw (Cp (Ac "add") (Ab (pC (sl Pp)) Af) (It (A5 T))))
 (Ag (Cw (Cp (Ac "add") (Ab (Ac "fixed") Af) (It (A5 T))))
 Ap))
 (Ag (Cw (Cp (Ac "add") (Ab (Ak (Ac "fixed") (Lz "(?>.*?" ")")) Af) (It (A5 T))))
 Ap))
 Ap))))))))
theorem Pq:∀l:List (List Nat),(l.map (·.length)).sum=l.flatten.length
 | []=>rfl
 | a::l=>by rw[List.map_cons,List.sum_cons,Pq l,List.flatten_cons,List.length_append]
theorem A54{jin jr jm st:Nat}{vs:List MV}(hvs:vs.length<=1000)(hne:jr≠jin)(hne2:jr≠jm){K:Fl->Aj->Hp->Prop}:∀(i n:Nat) (acc:List (List Nat)) (ρ:Aj) (H:Hp),
  vs.drop i=[]->0<n->i<=vs.length->H[jin]?=some (.list vs)->H[jr]?=some (.list (acc.map sl))->H[jm]?=some (.meth "list.append" jr)->
  ρ "inp"=some (.ref jin)->ρ "STAR"=some (.ref st)->ρ "add"=some (.ref jm)->ρ "n"=some (.int (vs.length:Int))->ρ "res"=some (.ref jr)->ρ "i"=some (.int (i:Int))->
  (∀ρ' H',ρ' "i"=some (.int (vs.length:Int))->ρ' "n"=some (.int (vs.length:Int))->ρ' "res"=some (.ref jr)->(∀j x,j≠jr->H[j]?=some x->H'[j]?=some x)->H'[jr]?=some (.list (acc.map sl))->K .next ρ' H')->
  WS (By (At T0 (Ac "i") (Ac "n") Fz) (D1v T0) n) ρ H K:=by
  intro i n acc ρ H hd hn hi e1 e2 e3 g1 g2 g3 g4 g5 g6 hK;obtain⟨n,rfl⟩:=Bv hn;have hle:vs.length<=i:=by simpa using hd
  refine Es ?_;w_up;refine⟨fun h=>?_,fun zz=>?_⟩
  ·simp at h;exact(B0h hi hle h).elim
  ·exact hK ρ H (by rw[g6];congr 2;exact A8w hi hle) g4 g5 (fun zz zz zz h=>h) e2
theorem Ul{st:Nat}{more:List (List (List Nat))}(h:Hx st more=[]):more=[]:=by
 cases more with
 | nil=>rfl
 | cons a l=>simp[Hx] at h
theorem A8b{st:Nat}:∀more:List (List (List Nat)),Hx st more=[]∨∃t,Hx st more=.ref st::t
 | []=>.inl rfl
 | a::l=>.inr ⟨_,by simp[Hx];rfl⟩
theorem A0o{seg:List (List Nat)}:∀ {more:List (List (List Nat))},Gb (seg::more)=true->Gb more=true
 | [],_=>rfl
 | _::_,h=>by simp[Gb] at h ⊢;exact h.2
theorem A0p{seg:List (List Nat)}:∀ {more:List (List (List Nat))},Gb (seg::more)=true->more=[]∨seg≠[]
 | [],_=>.inl rfl
 | _::_,h=>.inr (by rintro rfl;simp[Gb] at h)
theorem A0q{seg:List (List Nat)}(h:seg≠[]):E9 [seg]=[Pp,seg.flatten]:=if_neg h
theorem W8{seg:List (List Nat)}:∀ {more:List (List (List Nat))},more≠[]->E9 (seg::more)=([40,63,62,46,42,63]++seg.flatten++[41])::E9 more
 | [],h=>absurd rfl h
 | _::_,_=>rfl
theorem D1w{jin jr jm st:Nat}{vs:List MV}(hvs:vs.length<=1000)(hne:jr≠jin)(hne2:jr≠jm){K:Fl->Aj->Hp->Prop}:∀(segs:List (List (List Nat))) (i n:Nat) (acc:List (List Nat)) (ρ:Aj) (H:Hp),
  vs.drop i=Hx st segs->Gb segs=true->(∀seg∈segs,seg.flatten.length<=100000)->segs.length<n->acc.length+2*segs.length<=10000->i<=vs.length->H[jin]?=some (.list vs)->H[jr]?=some (.list (acc.map sl))->H[jm]?=some (.meth "list.append" jr)->
  ρ "inp"=some (.ref jin)->ρ "STAR"=some (.ref st)->ρ "add"=some (.ref jm)->ρ "n"=some (.int (vs.length:Int))->ρ "res"=some (.ref jr)->ρ "i"=some (.int (i:Int))->
  (∀ρ' H',ρ' "i"=some (.int (vs.length:Int))->ρ' "n"=some (.int (vs.length:Int))->ρ' "res"=some (.ref jr)->(∀j x,j≠jr->H[j]?=some x->H'[j]?=some x)->H'[jr]?=some (.list ((acc++E9 segs).map sl))->K .next ρ' H')->
  WS (By (At T0 (Ac "i") (Ac "n") Fz) (D1v T0) n) ρ H K:=by
 intro rest__
 induction rest__ with
 | nil=>
  intro i n acc ρ H hd hok hsz hn hc hi e1 e2 e3 g1 g2 g3 g4 g5 g6 hK;exact A54 hvs hne hne2 i n acc ρ H (by rw[hd];rfl) (Nat.lt_of_le_of_lt (Nat.zero_le _) hn) hi e1 e2 e3 g1 g2 g3 g4 g5 g6 fun ρ' H' y1 y2 y3 y4 y5=>hK ρ' H' y1 y2 y3 y4 (by rw[y5];simp[E9])
 | cons seg more ih=>
  intro i n acc ρ H hd hok hsz hn hc hi e1 e2 e3 g1 g2 g3 g4 g5 g6 hK;obtain⟨n,rfl⟩:=Bv hn;have hd1:vs.drop i=.ref st::(seg.map sl++Hx st more):=by rw[hd];simp[Hx]
  obtain⟨q1,q2,q3⟩:=Cd hd1;have hse:=hsz seg (.head _);refine Es ?_;w_up;refine⟨fun zz=>?_,fun h=>?_⟩
  rotate_left
  ·simp at h;exact(A1d hi q3 h).elim
  w_up;refine Bl (Aq e1) q1 (by unfold lim;exact zl4 hvs q3) ?_;w_up;refine D4b (trB ⟨rfl,?_⟩);w_up;have hlen:(seg.map sl++Hx st more).length=vs.length-(i+1):=by rw[<- q2,List.length_drop]
  refine⟨fun h=>?_,fun h=>?_⟩
  ·have hend:i+1=vs.length:=by simp at h;exact C4g h
   have hnil:seg=[]∧more=[]:=by
    have:seg.map sl++Hx st more=[]:=List.length_eq_zero_iff.mp (C4h hlen hend);exact⟨List.map_eq_nil_iff.mp (List.append_eq_nil_iff.mp this).1,Ul (List.append_eq_nil_iff.mp this).2⟩
   w_up;refine Qb e3 (Fp e2 (by simp at hc ⊢;exact B0k hc) ?_);w_up;refine hK _ _ ?_ (by k_in) (by k_in) (fun j x hj hx=>Bo hx (Ne.symm hj)) (by rw[Ds e2,hnil.1,hnil.2];simp[E9]);rw[<- hend];exact upd_hit
  ·have hend:i+1≠vs.length:=by simp at h;exact C4i q3 h
   have hseg:seg≠[]:=(A0p hok).elim (fun hm q=>by rw[hm,q] at hlen;simp[Hx] at hlen;exact C4j q3 hend hlen) id;obtain⟨s,rest,hs⟩:=List.exists_cons_of_ne_nil hseg;have q4:vs[i+1]?=some (sl s):=(Cd (q2.trans (by rw[hs];rfl))).1;w_up;rw[show (i:Int)+1=((i+1:Nat):Int) by exact A6y];refine Bl (Aq e1) q4 (by unfold lim;exact C4k hvs q3) ?_;w_up;refine N2 (trB ⟨rfl,?_⟩);w_up;have hjin:=Bx e1;have hrlen:seg.length<=1000:=by simp at hlen ⊢;exact C4l hvs q3 hlen
   refine D1u (jr:=H.length) hvs (A8b more) (by exact Nat.ne_of_gt ‹_›) seg (i+1) 4000 [] _ _ q2 (A62 hrlen) (by simp at hrlen ⊢;exact C4m hrlen) (by assumption) (Ah pre_app e1) Au ?_ ?_ ?_ ?_ ?_ fun ρ' H' w1 w2 w3 w4=>?_
   ·k_in
   ·k_in
   ·k_in
   ·k_in
   ·k_in
   have jl:=Bx e2;have ml:=Bx e3;have e1':=w3 jin _ (by exact Nat.ne_of_lt ‹_›) (Ah pre_app e1);have e2':=w3 jr _ (by exact Nat.ne_of_lt ‹_›) (Ah pre_app e2);have e3':=w3 jm _ (by exact Nat.ne_of_lt ‹_›) (Ah pre_app e3);have b1:ρ' "inp"=some (.ref jin):=(w1 _ (by intro h;exact absurd (Eh h) (by simp))).trans (by k_in);have b2:ρ' "STAR"=some (.ref st):=(w1 _ (by intro h;exact absurd (Eh h) (by simp))).trans (by k_in);have b3:ρ' "add"=some (.ref jm):=(w1 _ (by intro h;exact absurd (Eh h) (by simp))).trans (by k_in);have b4:ρ' "n"=some (.int (vs.length:Int)):=(w1 _ (by intro h;exact absurd (Eh h) (by simp))).trans (by k_in);have b5:ρ' "res"=some (.ref jr):=(w1 _ (by intro h;exact absurd (Eh h) (by simp))).trans (by k_in);have b6:ρ' "fixed"=some (.ref H.length):=(w1 _ (by intro h;exact absurd (Eh h) (by simp))).trans (by k_in);clear w1;w_up;refine Gp (wC ⟨rfl,?_⟩);w_up;refine L1 (ls:=seg) (Aq w4) (by rw[Pq];exact C4n hse) ?_;w_up;have keep:∀(X:MO),∀j x,j≠jr->H[j]?=some x->(H'.set jr X)[j]?=some x:=fun X j x hj hx=>Bo (w3 j x (by have:=Bx hx;exact Nat.ne_of_lt ‹_›) (Ah pre_app hx)) (Ne.symm hj);refine⟨fun h=>?_,fun h=>?_⟩
   ·have hm:more=[]:=Ul (st:=st) (List.length_eq_zero_iff.mp (by rw[List.length_append,List.length_map] at hlen;simp at h;exact C4o hlen hend hrlen h));w_up;refine Qb e3' (Fp e2' (by simp at hc ⊢;exact B0k hc) ?_);w_up;have e2'':=Ds (o:=MO.list (acc.map sl++[sl Pp])) e2';refine Qb (Bo e3' hne2) (Fp e2'' (by simp at hc ⊢;exact C4p hc) ?_);w_up;refine A54 (st:=st) hvs hne hne2 (i+1+seg.length) n (acc++[Pp,seg.flatten]) _ _ ?_ (by simp at hn;exact C4q hn) (by simp at hlen ⊢;exact A8x q3 hlen) (Bo (Bo e1' hne) hne) ?_ (Bo (Bo e3' hne2) hne2) ?_ ?_ ?_ ?_ ?_ ?_ fun ρ'' H'' y1 y2 y3 y4 y5=>hK ρ'' H'' y1 y2 y3 (fun j x hj hx=>y4 j x hj (Bo (keep _ j x hj hx) (Ne.symm hj))) ?_
    ·rw[<- List.drop_drop,q2,hm];simp[Hx]
    ·rw[Ds e2''];simp
    ·k_in
    ·k_in
    ·k_in
    ·k_in
    ·k_in
    ·k_in
    ·rw[y5,hm,A0q hseg]
   ·have hm:more≠[]:=fun q=>by
     rw[q] at hlen;simp[Hx] at hlen h;exact C4r q3 hlen h
    have hj:=W8 (seg:=seg) hm;have hok':=A0o hok;w_up;refine A53 (la:=[40,63,62,46,42,63]) (lb:=[41]) (by kd_p) (by kd_p) (by simp only[List.length_cons,List.length_nil];exact C4s hse) ?_;w_up;refine Qb e3' (Fp e2' (by simp at hc ⊢;exact B0k hc) ?_);w_up;refine ih (i+1+seg.length) n (acc++[[40,63,62,46,42,63]++seg.flatten++[41]]) _ _ ?_ hok' (fun x h=>hsz x (.tail _ h)) (by simp at hn;lia) (by simp at hc ⊢;exact C4t hc) (by simp at hlen ⊢;exact A8x q3 hlen) (Bo e1' hne) ?_ (Bo e3' hne2) ?_ ?_ ?_ ?_ ?_ ?_ fun ρ'' H'' y1 y2 y3 y4 y5=>hK ρ'' H'' y1 y2 y3 (fun j x hj hx=>y4 j x hj (keep _ j x hj hx)) ?_
    ·rw[<- List.drop_drop,q2];simp
    ·rw[Ds e2'];simp
    ·k_in
    ·k_in
    ·k_in
    ·k_in
    ·k_in
    ·k_in
    ·rw[y5,hj];simp
theorem A8c{jin st:Nat}{s0:List (List Nat)}{segs:List (List (List Nat))}(hin:H[jin]?=some (.list (s0.map sl++Hx st segs)))(hok:Gb segs=true)(hs0:s0.flatten.length<=100000)(hsz:∀seg∈segs,seg.flatten.length<=100000)(hl:(s0.map sl++Hx st segs).length<=1000)
  (hl2:segs.length<=1000) (htot:(E9 segs).flatten.length<=1000000):Wp (C0 T0 [.ref jin,.ref st]) H fun r H'=>H<+:H'∧r=sl ([40,63,115,58]++(s0++E9 segs).flatten++[41,92,90]):=by
 generalize hvs:s0.map sl++Hx st segs=vs at *
 unfold C0;simp only[D1n,L_e];refine Dg rfl ?_;dsimp only[Ci];have jl:=Bx hin;have hs0l:s0.length<=vs.length:=by rw[<- hvs];simp
 w_up;refine A45 Au ?_;w_up;refine Kw (Aq (Ah pre_app (Ah pre_app hin))) (Ks hl) ?_;w_up;have htl:Hx st segs=[]∨∃t,Hx st segs=.ref st::t:=by
  cases segs with
  | nil=>exact .inl rfl
  | cons a l=>exact .inr ⟨_,by simp[Hx];rfl⟩
 refine D1t (jr:=H.length) (jm:=(H++[MO.list []]).length) hl htl (by exact Nat.ne_of_gt ‹_›) (by simp) s0 0 4000 [] _ _ (by simpa using hvs.symm) (C4u hl hs0l) (by simp;exact C4v hl hs0l) (Nat.zero_le _) (Ah pre_app (Ah pre_app (Ah pre_app hin))) (Ah pre_app (Ah pre_app Au)) (Ah pre_app Au) ?_ ?_ ?_ ?_ ?_ fun ρ' H' w1 w2 w3 w4=>?_
 ·k_in
 ·k_in
 ·k_in
 ·k_in
 ·show _=some (MV.int 0);k_in
 have b1:ρ' "inp"=some (.ref jin):=(w1 _ (by intro h;exact absurd (Eh h) (by simp))).trans (by k_in);have b2:ρ' "STAR"=some (.ref st):=(w1 _ (by intro h;exact absurd (Eh h) (by simp))).trans (by k_in);have b3:ρ' "add"=some (.ref (H++[MO.list []]).length):=(w1 _ (by intro h;exact absurd (Eh h) (by simp))).trans (by k_in);have b4:ρ' "n"=some (.int (vs.length:Int)):=(w1 _ (by intro h;exact absurd (Eh h) (by simp))).trans (by k_in);have b5:ρ' "res"=some (.ref H.length):=(w1 _ (by intro h;exact absurd (Eh h) (by simp))).trans (by k_in);clear w1;rw[Nat.zero_add] at w2;refine thN (sWhile ?_);refine D1w (jr:=H.length) (jm:=(H++[MO.list []]).length) (jin:=jin) (st:=st) (vs:=vs) hl (by exact Nat.ne_of_gt ‹_›) (by simp) segs s0.length 4000 ([]++s0) ρ' H' (by rw[<- hvs];simp) hok hsz (A62 hl2) (by simp;exact C4w hl2 hl hs0l) hs0l (w3 jin _ (by exact Nat.ne_of_lt ‹_›) (Ah pre_app (Ah pre_app (Ah pre_app hin)))) w4 (w3 _ _ (by simp) (Ah pre_app Au)) b1 b2 b3 b4 b5 w2 fun ρ'' H'' y1 y2 y3 y4 y5=>?_;refine thN (sAss ?_);w_up;refine⟨by simp,?_⟩;w_up;refine Gp (wC ⟨rfl,?_⟩);w_up;have ht:(([]++s0)++E9 segs).flatten.length<=1100000:=by simp at hs0 htot ⊢;exact C4x hs0 htot
 refine L1 (ls:=([]++s0)++E9 segs) (Aq y5) (by rw[Pq];exact C4y ht) ?_;w_up;refine A53 (la:=[40,63,115,58]) (lb:=[41,92,90]) (by kd_p) (by kd_p) (by simp only[List.length_cons,List.length_nil];exact C4z ht) ?_;w_up;exact⟨A5r fun j x hx=>y4 j x (by have:=Bx hx;exact Nat.ne_of_lt ‹_›) (w3 j x (by have:=Bx hx;exact Nat.ne_of_lt ‹_›) (Ah pre_app (Ah pre_app (Ah pre_app hx)))),by simp⟩
end
def W9(T:GT):Aj->P (Fl × Aj):=(Ag (Cw (Cp (Ac "add") (Ab (Ak (Ac "stuff") (Lz "[" "]")) Af) (It (A9 T))))
 Ap)
def Xa(T:GT):Aj->P (Fl × Aj):=(Ag (Bi "stuff" (Ak (Ac "stuff") (I0 Db 1)))
 (Ag (Bi "i" (Am (Ac "j") (pC (.int 1)) A1))
 (Ag (Cv (P8 (Da T (Ac "stuff")))
 (Ag (Cw (Cp (Ac "add") (Ab (pC (sl [40,63,33,41])) Af) (It (A9 T))))
 Ap)
 (Ag (Cv (At T (Ac "stuff") (pC (sl [33])) Bb)
 (Ag (Cw (Cp (Ac "add") (Ab (pC (sl [46])) Af) (It (A9 T))))
 Ap)
 (Ag (Cv (At T (Am (Ac "stuff") (pC (.int 0)) (Ao T)) (pC (sl [33])) Bb)
 (Ag (Bi "stuff" (Am (pC (sl [94])) (Bz T (Ac "stuff") (Cq (pC (.int 1))) Ms) A1))
 Ap)
 (Ag (Cv (At T (Am (Ac "stuff") (pC (.int 0)) (Ao T)) (Ak (Ab (pC (sl [94])) (Ab (pC (sl [91])) Af)) Bq) (Fa T))
 (Ag (Bi "stuff" (Am (pC (sl [92])) (Ac "stuff") A1))
 Ap)
 Ap)
 Ap))
 (W9 T)))
 Ap))
 Ap)))
def R8(T:GT):Aj->P (Fl × Aj):=(Ag (Bi "k" (Be O1 (Ac "pat") (Ab (pC (sl [45])) (Ab (Ac "k") (Ab (Ac "j") Af))) Sz))
 (Ag (Cv (At T (Ac "k") (pC (.int 0)) Fz)
 (Ag Rs
 Ap)
 Ap)
 (Ag (Cw (Be Kv (Ac "chunks") (Ab (Bz T (Ac "pat") (Cq (Ac "i")) (Cq (Ac "k"))) Af) (two Bk)))
 (Ag (Bi "i" (Am (Ac "k") (pC (.int 1)) A1))
 (Ag (Bi "k" (Am (Ac "k") (pC (.int 3)) A1))
 Ap)))))
def N3(T:GT):Aj->P (Fl × Aj):=(Ag (Cv (At T (Am (Am (Ac "chunks") (Am (Ac "k") (pC (.int 1)) De) (Ao T)) (Jd (pC (.int 1))) (Ao T)) (Am (Am (Ac "chunks") (Ac "k") (Ao T)) (pC (.int 0)) (Ao T)) Vg)
 (Ag (A7l (Am (Bz T (Am (Ac "chunks") (Am (Ac "k") (pC (.int 1)) De) (Ao T)) Ms (Cq (Jd (pC (.int 1))))) (Bz T (Am (Ac "chunks") (Ac "k") (Ao T)) (Cq (pC (.int 1))) Ms) A1) (Ac "chunks") (Am (Ac "k") (pC (.int 1)) De))
 (Ag (B5b (Ac "chunks") (Ac "k"))
 Ap))
 Ap)
 Ap)
structure TrE(ρ:Aj)(pat:List Nat)(jr jm st:Nat):Prop where
 fpat:ρ "pat"=some (sl pat)
 fn:ρ "n"=some (.int (pat.length:Int))
 fres:ρ "res"=some (.ref jr)
 fadd:ρ "add"=some (.ref jm)
 fstar:ρ "STAR"=some (.ref st)
 fqm:ρ "QUESTION_MARK"=some (sl [46])
theorem TrE.upd{ρ:Aj}{pat:List Nat}{jr jm st:Nat}(h:TrE ρ pat jr jm st){x:String}{v:MV}(hx:("pat"≠x∧"n"≠x∧"res"≠x)∧"add"≠x∧"STAR"≠x∧"QUESTION_MARK"≠x):TrE (upd ρ (Str.ofString x) v) pat jr jm st:=
 ⟨Ba hx.1.1 h.fpat,Ba hx.1.2.1 h.fn,Ba hx.1.2.2 h.fres,Ba hx.2.1 h.fadd,Ba hx.2.2.1 h.fstar,Ba hx.2.2.2 h.fqm⟩
structure TrH(H0:Hp)(jr jm:Nat)(acc:List MV)(H:Hp):Prop where
 h0:H0<+:H
 lr:H[jr]?=some (.list acc)
 lm:H[jm]?=some (.meth "list.append" jr)
 lo:H0.length<=jr
 ne:jr≠jm
 sz:acc.length<=1000
theorem TrH.pre{H0:Hp}{jr jm:Nat}{acc:List MV}{H H':Hp}(p:H<+:H')(h:TrH H0 jr jm acc H):TrH H0 jr jm acc H':=⟨h.h0.trans p,Ah p h.lr,Ah p h.lm,h.lo,h.ne,h.sz⟩
theorem TrH.add{H0:Hp}{jr jm:Nat}{acc:List MV}{H:Hp}(h:TrH H0 jr jm acc H)(v:MV)(hs:acc.length<1000):TrH H0 jr jm (acc++[v]) (H.set jr (.list (acc++[v]))):=⟨Ex h.h0 h.lo _,Ds h.lr,Bo h.lm h.ne,h.lo,h.ne,by simp;exact C40 hs⟩
noncomputable def A9x:List Nat->List Nat
 | 33::t=>94::t
 | 94::t=>92::94::t
 | 91::t=>92::91::t
 | u=>u
def R9(u:List Nat):List Nat:=if u=[33] then [46] else [91]++A9x u++[93]
section
variable {H:Hp}
theorem D1x{u:List Nat}{Q:MV->Hp->Prop}(h0:u≠[])(hp:u.all Hv=true)(hs:u.length<=16777216)(h:Q (sl u) H):Wp (I0 cf 1 (sl u)) H Q:=⟨_,_,by
 have hsz:(⟨u.toArray⟩:Str).cps.size=u.length:=by show u.toArray.size=_;simp
 have hpos:0<u.length:=List.length_pos_iff.mpr h0;have f:=A5z (x:=(⟨u.toArray⟩:Str).cps) (by lia) (fun i hi=>by
  rw[hsz] at hi;have:=List.all_eq_true.mp hp (u[i]) (List.getElem_mem hi);show Hv (u.toArray.getD i 0)=true;simpa [Array.getD,hi] using this)
 simp only[I0,f];rw[if_pos ⟨by lia,by rw[Dy];exact hs,rfl⟩],h⟩
theorem Yz{pat u:List Nat}{jr jm st j:Nat}{H0:Hp}{acc:List MV}{ρ:Aj}{H:Hp}{K:Fl->Aj->Hp->Prop}(E:TrE ρ pat jr jm st)(S:TrH H0 jr jm acc H)(hs:acc.length<1000)(h0:u≠[])(hp:u.all Hv=true)(hu:u.length<=10000)(g1:ρ "stuff"=some (sl u))(g2:ρ "j"=some (.int (j:Int)))
  (hK:∀ρ' H',TrE ρ' pat jr jm st->ρ' "i"=some (.int ((j:Int)+1))->TrH H0 jr jm (acc++[sl (R9 u)]) H'->K .next ρ' H'):WS (Xa T0) ρ H K:=by
 unfold Xa;w_up;refine D1x h0 hp (A8y hu) ?_;w_up;refine trS (A8y hu) ?_;obtain⟨c,t,rfl⟩:∃c t,u=c::t:=by
  cases u with
  | nil=>exact absurd rfl h0
  | cons c t=>exact⟨c,t,rfl⟩
 refine⟨(fun h=>by simp at h),fun zz=>?_⟩;w_up;refine⟨fun h=>?_,fun h=>?_⟩
 ·have hu1:c::t=[33]:=by simpa using h
  w_up;refine B0 (by first |exact Ba (by kd_p) (Ba (by kd_p) E.fadd)) ?_;w_up;refine Qb S.lm (Fp S.lr (zl5 hs) ?_);w_up;refine hK _ _ ((E.upd (by simp)).upd (by simp)) upd_hit ?_;have:R9 (c::t)=[46]:=by unfold R9;rw[if_pos hu1]
  rw[this];exact S.add _ hs
 have hu1:¬c::t=[33]:=by simpa using h
 have last:∀(u':List Nat) (ρB:Aj) (HP:Hp),R9 (c::t)=[91]++u'++[93]->u'.length<=10001->TrE ρB pat jr jm st->ρB "stuff"=some (sl u')->ρB "i"=some (.int ((j:Int)+1))->H<+:HP->
   WS (W9 T0) ρB HP (Io Ap (Io Ap K)):=fun u' ρB HP e1 e2 E2 e3 e4 p=>by
  have S2:=S.pre p;unfold W9;refine sExp (wCallD (B0 E2.fadd ?_));w_up;refine A53 (la:=[91]) (lb:=[93]) (by kd_p) (by kd_p) (by simp only[List.length_cons,List.length_nil];exact C41 e2) ?_;w_up;refine Qb S2.lm (Fp S2.lr (zl5 hs) ?_);w_up;refine hK _ _ E2 e4 ?_;rw[e1];exact S2.add _ hs
 w_up;refine Cs (i:=0) (c:=c) rfl (by unfold lim;exact Int.natCast_nonneg _) ?_;w_up;refine⟨fun h=>?_,fun h=>?_⟩
 ·have hc:c=33:=by simpa using h
  subst hc;w_up;refine B2 (C42 hu) ?_;have e:I4 (some (1:Int)) none (33::t)=t:=by
   unfold I4;rw[show (1:Int)=((1:Nat):Int) from rfl,D6];simp[Dv]
  rw[e];refine Fg ?_ ?_
  ·simp at hu ⊢;exact C43 hu
  w_up;refine last (94::t) _ _ (by unfold R9;rw[if_neg hu1];rfl) (by simp at hu ⊢;exact A8z hu) (((E.upd (by simp)).upd (by simp)).upd (by simp)) upd_hit ?_ List.prefix_rfl;exact Ba (by kd_p) upd_hit
 ·have hc:¬c=33:=by simpa using h
  w_up;refine Cs (i:=0) (c:=c) rfl (by unfold lim;exact Int.natCast_nonneg _) ?_;w_up;refine D0y (l:=[[94],[91]]) Au ?_;w_up;refine⟨fun h=>?_,fun h=>?_⟩
  ·w_up;refine Fg ?_ ?_
   ·simp at hu ⊢;exact C44 hu
   w_up;refine last (92::c::t) _ _ ?_ (by simp at hu ⊢;lia) (((E.upd (by simp)).upd (by simp)).upd (by simp)) upd_hit ?_ pre_app
   ·have h:c=94∨c=91:=by simpa using h
    unfold R9;rw[if_neg hu1];rcases h with rfl|rfl <;> rfl
   ·exact Ba (by kd_p) upd_hit
  ·w_up;refine last (c::t) _ _ ?_ (by simp at hu ⊢;exact A8z hu) ((E.upd (by simp)).upd (by simp)) ?_ upd_hit pre_app
   ·have h:¬(c=94∨c=91):=by simpa using h
    unfold R9;rw[if_neg hu1];unfold A9x
    split
    ·rename_i heq;simp at heq;lia
    ·rename_i heq;simp at heq;lia
    ·rename_i heq;simp at heq;lia
    ·rfl
   ·exact Ba (by kd_p) upd_hit
end
noncomputable def A55(off:Nat)(l:List Nat):Option Nat:=(List.range l.length).find? fun p=>decide (off<=p)&&(l[p]?==some 45)
def Jk:Nat->Nat->List Nat->Option (List (List Nat) × List Nat)
 | 0,_,_=>none
 | n+1,off,l=>match A55 off l with
  | none=>some ([],l)
  | some p=>(Jk n 2 (l.drop (p+1))).map fun r=>(l.take p::r.1,r.2)
def Q2(c:List Nat):List (List Nat)->Option (List (List Nat))
 | (d0::dt)::r=>match c.getLast? with
  | some x=>some (if d0<x then (c.dropLast++dt)::r else c::(d0::dt)::r)
  | none=>none
 | _=>none
def Xb:List (List Nat)->List (List Nat)->Option (List (List Nat))
 | [],r=>some r
 | c::cs,r=>(Q2 c r).bind (Xb cs)
theorem TrH.other{H0:Hp}{jr jm:Nat}{acc:List MV}{H:Hp}(h:TrH H0 jr jm acc H){k:Nat}(o:MO)(h1:k≠jr)(h2:k≠jm)(h3:H0.length<=k):TrH H0 jr jm acc (H.set k o):=⟨Ex h.h0 h3 _,Bo h.lr h1,Bo h.lm h2,h.lo,h.ne,h.sz⟩
theorem Sa{α:Type}{l:List α}{i j:Nat}(hij:i<=j):I4 (some (i:Int)) (some (j:Int)) l=(l.drop i).take (j-i):=by
 have:=N1 (l:=l) (i:=i) (k:=j-i);rw[show (i:Int)+((j-i:Nat):Int)=(j:Int) by exact C45 hij] at this;exact this
section
variable {H:Hp}
theorem A8d{pat:List Nat}{jr jm st jc j:Nat}{H0:Hp}{acc:List MV}(hj:j<=pat.length)(hp:pat.length<=1000)(n1:jc≠jr)(n2:jc≠jm)(n3:H0.length<=jc){K:Fl->Aj->Hp->Prop}:∀(f n off i:Nat) (l last:List Nat) (ch cs:List (List Nat)) (ρ:Aj) (H:Hp),
  (pat.drop i).take (j-i)=l->i+l.length=j->f<n->Jk f off l=some (cs,last)->ch.length+f<=5000->TrE ρ pat jr jm st->TrH H0 jr jm acc H->H[jc]?=some (.list (ch.map sl))->
  ρ "chunks"=some (.ref jc)->ρ "i"=some (.int (i:Int))->ρ "j"=some (.int (j:Int))->ρ "k"=some (.int ((i+off:Nat):Int))->
  (∀ρ' H' (i':Nat),TrE ρ' pat jr jm st->TrH H0 jr jm acc H'->H'[jc]?=some (.list ((ch++cs).map sl))->ρ' "chunks"=some (.ref jc)->ρ' "j"=some (.int (j:Int))->ρ' "i"=some (.int (i':Int))->(pat.drop i').take (j-i')=last->i'+last.length=j->K .next ρ' H')->
  WS (By (Da T0 (pC (.bool true))) (R8 T0) n) ρ H K:=by
 intro rest__
 induction rest__ with
 | zero=>
  intro n off i l last ch cs ρ H hl hlen hf hc hs E S hcl g1 g2 g3 g4 hK;cases hc
 | succ f ih=>
  intro n off i l last ch cs ρ H hl hlen hf hc hs E S hcl g1 g2 g3 g4 hK;obtain⟨n,rfl⟩:=Bv hf;have hat:∀p,p<l.length->pat[i+p]?=l[p]?:=fun p hp'=>by rw[<- hl,List.getElem?_take,if_pos (by exact C46 hlen hp'),List.getElem?_drop]
  refine Es ?_;refine wTruth (wC (trB (Ym rfl ?_)));unfold R8;unfold Jk at hc;refine sAsg (Gp (B0 E.fpat ⟨rfl,?_⟩));w_up;cases hfd:A55 off l with
  | none=>
   rw[hfd] at hc;cases hc;have hno:=List.find?_range_eq_none.mp hfd;refine B5x (c:=45) (lo:=i+off) (hi:=j) rfl hj (fun q h1 h2=>?_) ?_
   ·have:=hno (q-i) (A80 hlen h1 h2);rw[show q=i+(q-i) by exact A81 h1,hat _ (A80 hlen h1 h2)];simp at this;rcases this with q|q
    ·exact(A82 h1 q).elim
    ·exact q
   w_up;refine hK _ _ i (E.upd (by kd_p)) S (by simpa using hcl) (by k_in) (by k_in) (by k_in) hl hlen
  | some p=>
   rw[hfd] at hc;obtain⟨⟨cs',last'⟩,hc',he⟩:=Ju hc;cases he;obtain⟨f1,f2,f3⟩:=List.find?_range_eq_some.mp hfd;simp only[Bool.and_eq_true,decide_eq_true_eq,beq_iff_eq] at f1;have hpl:=List.mem_range.mp f2;refine B5w (c:=45) (lo:=i+off) (hi:=j) (p:=i+p) rfl hj (by lia) (C47 hlen hpl) (by rw[hat _ hpl];exact f1.2) (fun q h1 h2=>?_) ?_
   ·have:=f3 (q-i) (C48 h1 h2);rw[show q=i+(q-i) by exact A81 h1,hat _ (C49 hlen hpl h2)];simp at this;rcases this with q|q
    ·exact(A82 h1 q).elim
    ·exact q
   w_up;refine⟨fun h=>?_,fun zz=>?_⟩
   ·simp at h;exact(C5a h).elim
   w_up;refine Ng (k:=jc) ?_ hcl ?_
   ·k_in
   refine wConsS (wSlice (B0 (Ba (by kd_p) E.fpat) ?_));w_up;refine B2 (Ks hp) ?_;rw[Sa B0f,show i+p-i=p by exact C5b];have e1:(pat.drop i).take p=l.take p:=by rw[<- hl,List.take_take,Nat.min_eq_left (C5c hlen hpl)]
   rw[e1];w_up;refine⟨_,_,rfl,hcl,by simp;exact C5d hs,?_⟩;w_up;refine ih n 2 (i+p+1) (l.drop (p+1)) last' (ch++[l.take p]) cs' _ _ ?_ (by simp;exact C5e hlen hpl) (by exact Nat.le_of_lt_succ ‹_›) hc' (by simp;exact C5f hs) (((E.upd (by kd_p)).upd (by kd_p)).upd (by kd_p)) (S.other _ n1 n2 n3) (by rw[Ds hcl];simp) (by assumption) ?_ (by assumption) ?_ fun ρ' H' i' E' S' c1 c2 c3 c4 c5 c6=>hK ρ' H' i' E' S' (by rw[c1];simp) c2 c3 c4 c5 c6
   ·rw[<- hl,List.drop_take,List.drop_drop]
    congr 1
    exact C5g
   ·rfl
   ·exact upd_hit
theorem A0r{l:List Nat}{x:Nat}{Q:MV->Hp->Prop}(e:l.getLast?=some x)(hs:l.length<=100000)(h:Q (sl [x]) H):Wp (Ao T0 (sl l) (.int (-1))) H Q:=by
 refine A44 (by unfold lim;exact A1c) ?_ h;have hl:0<l.length:=by cases l with|nil=>simp at e|cons=>simp
 unfold seqIndex?;rw[List.getLast?_eq_getElem?] at e;simp only[show (-1:Int)<0 by decide,if_true];rw[if_pos (by simp;exact C5h hl)];rw[show (-1+(l.length:Int)).toNat=l.length-1 by exact C5i hl];exact e
theorem Q3{α β:Type}(f:α->β):∀(l:List α) (i:Nat),(l.eraseIdx i).map f=(l.map f).eraseIdx i
 | [],_=>rfl
 | a::l,0=>rfl
 | a::l,i+1=>by
  rw[List.eraseIdx_cons_succ,List.map_cons,List.map_cons,List.eraseIdx_cons_succ,Q3 f l i]
theorem D4e{a b:Nat}:decide ([a]<[b])=decide (a<b):=by
 rw[Bool.eq_iff_iff,decide_eq_true_eq,decide_eq_true_eq,List.cons_lt_cons_iff];simp
theorem A56{pat:List Nat}{jr jm st jc L:Nat}{H0:Hp}{acc:List MV}(n1:jc≠jr)(n2:jc≠jm)(n3:H0.length<=jc)(hL:L<=1000){K:Fl->Aj->Hp->Prop}:∀(rp r out:List (List Nat)) (m n:Nat) (ρ:Aj) (H:Hp),
  Xb rp r=some out->m+rp.length+1=L->rp.length<n->r≠[]->(rp.reverse++r).length<=1000->(rp.reverse++r).flatten.length<=1000->TrE ρ pat jr jm st->TrH H0 jr jm acc H->H[jc]?=some (.list ((rp.reverse++r).map sl))->ρ "chunks"=some (.ref jc)->(∃jv:Int,ρ "j"=some (.int jv))->
  (∀ρ' H',TrE ρ' pat jr jm st->TrH H0 jr jm acc H'->H'[jc]?=some (.list (out.map sl))->ρ' "chunks"=some (.ref jc)->ρ' "j"=ρ "j"->K .next ρ' H')->
  WS (Gg (Jq ((L:Int)-1) 0 (-1)) (A2 "k") (N3 T0) Ap n m) ρ H K:=by
 intro rest__
 induction rest__ with
 | nil=>
  intro r out m n ρ H hm hL' hn hr hlen hfl E S hcl g1 g2 hK;obtain⟨n,rfl⟩:=Bv hn;cases hm;refine Jo (Hf ?_) ?_
  ·simp at hL';unfold Builtin.Range.rangeSize;simp only[show ¬(-1:Int)>0 by decide,if_false]
   split <;> simp <;> exact C5j hL'
  w_up;exact hK ρ H E S (by simpa using hcl) g1 rfl
 | cons c rp ih=>
  intro r out m n ρ H hm hL' hn hr hlen hfl E S hcl g1 g2 hK;obtain⟨n,rfl⟩:=Bv hn;obtain⟨r',hs,hm'⟩:=Dw hm;obtain⟨d0,dt,rr,x,rfl,hx,rfl⟩:∃d0 dt rr x,r=(d0::dt)::rr∧c.getLast?=some x∧r'=(if d0<x then (c.dropLast++dt)::rr else c::(d0::dt)::rr):=by
   unfold Q2 at hs
   split at hs
   ·rename_i d0 dt rr
    split at hs
    ·rename_i x hx;exact⟨d0,dt,rr,x,rfl,hx,(Option.some.inj hs).symm⟩
    ·cases hs
   ·cases hs
  simp only[List.reverse_cons,List.append_assoc,List.cons_append,List.nil_append] at hcl hlen hfl;simp only[List.length_cons] at hL' hn;have hrl:rp.reverse.length=rp.length:=by simp
  have i0:(rp.reverse++c::(d0::dt)::rr)[rp.length]?=some c:=by rw[List.getElem?_append_right (A1h hrl)];simp
  have i1:(rp.reverse++c::(d0::dt)::rr)[rp.length+1]?=some (d0::dt):=by rw[List.getElem?_append_right (A83 hrl)];simp
  have hcs:c.length<=1000:=by simp at hfl;exact C5k hfl
  have hds:(d0::dt).length<=1000:=by simp at hfl ⊢;exact C5l hfl
  refine Ff (Do (v:=((rp.length+1:Nat):Int)) ?_ (C5m hL')) ?_
  ·unfold Builtin.Range.rangeSize;simp only[show ¬(-1:Int)>0 by decide,if_false];rw[if_pos (by exact C5n hL')];simp;exact C5o hL'
  unfold N3;have mp:∀i v,(rp.reverse++c::(d0::dt)::rr)[i]?=some v->((rp.reverse++c::(d0::dt)::rr).map sl)[i]?=some (sl v):=fun i v h=>by rw[List.getElem?_map,h];rfl
  have k1:((rp.length+1:Nat):Int)-1=((rp.length:Nat):Int):=by exact C5p
  simp only[List.length_append,List.length_cons,hrl] at hlen;w_up;rw[k1];refine Bl (Aq hcl) (mp _ _ i0) (by unfold lim;exact B0l hL hL') ?_;w_up;refine A0r hx (C5q hcs) ?_;w_up;refine Bl (Aq hcl) (mp _ _ i1) (by unfold lim;exact A84 hL hL') ?_;w_up;refine Cs (i:=0) (c:=d0) rfl (by unfold lim;exact Int.natCast_nonneg _) ?_;w_up;rw[D4e];refine⟨fun h=>?_,fun h=>?_⟩
  ·have h:d0<x:=of_decide_eq_true h;rw[if_pos h] at hm';w_up;rw[k1];refine Bl (Aq hcl) (mp _ _ i0) (by unfold lim;exact B0l hL hL') ?_;w_up;refine B2 (Ks hcs) ?_;rw[L7];w_up;refine Bl (Aq hcl) (mp _ _ i1) (by unfold lim;exact A84 hL hL') ?_;w_up;refine B2 (C5r hds) ?_;have e:I4 (some (1:Int)) none (d0::dt)=dt:=by
    unfold I4;rw[show (1:Int)=((1:Nat):Int) from rfl,D6];simp[Dv]
   rw[e];refine Fg ?_ ?_
   ·simp at hds ⊢;exact C5s hcs hds
   w_up;rw[k1];refine D01 hcl (by exact place_lt (mp rp.length c i0)) (B0l hL hL') ?_;w_up;refine D02 (Ds hcl) (by simp) (by simp;exact C5t hlen) ?_;w_up;refine ih ((c.dropLast++dt)::rr) out (m+1) n _ _ hm' (A85 hL') (A86 hn) (by simp) (by simp;exact C5u hlen) ?_ (E.upd (by kd_p)) ((S.other _ n1 n2 n3).other _ n1 n2 n3) ?_ (by k_in) (by obtain⟨jv,hv⟩:=g2;exact⟨jv,by k_in⟩) fun ρ' H' E' S' c1 c2 c3=>hK ρ' H' E' S' c1 c2 (c3.trans (Ba (by kd_p) rfl))
   ·simp at hfl ⊢;exact C5v hcs hfl
   ·rw[Ds (Ds hcl)]
    congr 2
    rw[<- List.map_set,<- Q3]
    congr 1
    rw[List.set_append_right _ _ (A1h hrl),hrl,Nat.sub_self,List.set_cons_zero,List.eraseIdx_append_of_length_le (A83 hrl),hrl,show rp.length+1-rp.length=1 by exact C5w];rfl
  ·have h:¬d0<x:=of_decide_eq_false h;rw[if_neg h] at hm';w_up;refine ih (c::(d0::dt)::rr) out (m+1) n _ _ hm' (A85 hL') (A86 hn) (by simp) (by simp;lia) hfl (E.upd (by kd_p)) S hcl (by k_in) (by obtain⟨jv,hv⟩:=g2;exact⟨jv,by k_in⟩) fun ρ' H' E' S' c1 c2 c3=>hK ρ' H' E' S' c1 c2 (c3.trans (Ba (by kd_p) rfl))
end
def B50(T:GT):Aj->P (Fl × Aj):=(Ag (Bi "chunks" (Ak Af Bd))
 (Ag (Bi "k" (Cv (At T (Am (Ac "pat") (Ac "i") (Ao T)) (pC (sl [33])) Bb) (Am (Ac "i") (pC (.int 2)) A1) (Am (Ac "i") (pC (.int 1)) A1)))
 (Ag (By (Da T (pC (.bool true)))
 (R8 T) 4000)
 (Ag (Bi "chunk" (Bz T (Ac "pat") (Cq (Ac "i")) (Cq (Ac "j"))))
 (Ag (Cv (Da T (Ac "chunk"))
 (Ag (Cw (Be Kv (Ac "chunks") (Ab (Ac "chunk") Af) (two Bk)))
 Ap)
 (Ag (fun zz=>fl)
 Ap))
 (Ag (Ko T 4000 (Ak (Ab (Am (Ak (Ab (Ac "chunks") Af) (one (D4 T))) (pC (.int 1)) De) (Ab (pC (.int 0)) (Ab (Jd (pC (.int 1))) Af))) Ck) (A2 "k")
 (N3 T)
 Ap)
 (Ag (Bi "stuff" (Ak (Ac "chunks") (Hm T "-" Ee Dx)))
 Ap)))))))
def A57(T:GT):Aj->P (Fl × Aj):=(Ag (Bi "stuff" (Bz T (Ac "pat") (Cq (Ac "i")) (Cq (Ac "j"))))
 (Ag (Cv (At T (pC (sl [45])) (Ac "stuff") Fj)
 (Ag (Bi "stuff" (Be O1 (Ac "stuff") (Ab (pC (sl [92])) (Ab (pC (sl [92,92])) Af)) (three Qy)))
 Ap)
 (B50 T))
 (Xa T)))
def A0s(T:GT)(n:Nat):Aj->P (Fl × Aj):=(By (Dk (At T (Ac "j") (Ac "n") Fz) (Dk (At T (Am (Ac "pat") (Ac "j") (Ao T)) (pC (sl [93])) I9) Eg))
 (Ag (Bi "j" (Am (Ac "j") (pC (.int 1)) A1))
 Ap) n)
def A58(T:GT):Aj->P (Fl × Aj):=(Ag (Bi "j" (Ac "i"))
 (Ag (Cv (Dk (At T (Ac "j") (Ac "n") Fz) (Dk (At T (Am (Ac "pat") (Ac "j") (Ao T)) (pC (sl [33])) Bb) Eg))
 (Ag (Bi "j" (Am (Ac "j") (pC (.int 1)) A1))
 Ap)
 Ap)
 (Ag (Cv (Dk (At T (Ac "j") (Ac "n") Fz) (Dk (At T (Am (Ac "pat") (Ac "j") (Ao T)) (pC (sl [93])) Bb) Eg))
 (Ag (Bi "j" (Am (Ac "j") (pC (.int 1)) A1))
 Ap)
 Ap)
 (Ag (A0s T 4000)
 (Ag (Cv (At T (Ac "j") (Ac "n") Vh)
 (Ag (Cw (Cp (Ac "add") (Ab (pC (sl [92,91])) Af) (It (A9 T))))
 Ap)
 (A57 T))
 Ap)))))
def Sb(T:GT):Aj->P (Fl × Aj):=(Ag (Bi "c" (Am (Ac "pat") (Ac "i") (Ao T)))
 (Ag (Bi "i" (Am (Ac "i") (pC (.int 1)) A1))
 (Ag (Cv (At T (Ac "c") (pC (sl [42])) Bb)
 (Ag (Cv (Nl (P8 (Da T (Ac "res"))) (Nl (At T (Am (Ac "res") (Jd (pC (.int 1))) (Ao T)) (Ac "STAR") En) Mr))
 (Ag (Cw (Cp (Ac "add") (Ab (Ac "STAR") Af) (It (A9 T))))
 Ap)
 Ap)
 Ap)
 (Ag (Cv (At T (Ac "c") (pC (sl [63])) Bb)
 (Ag (Cw (Cp (Ac "add") (Ab (Ac "QUESTION_MARK") Af) (It (A9 T))))
 Ap)
 (Ag (Cv (At T (Ac "c") (pC (sl [91])) Bb)
 (A58 T)
 (Ag (Cw (Cp (Ac "add") (Ab (Ak (Ab (Ac "c") Af) (J9 T)) Af) (It (A9 T))))
 Ap))
 Ap))
 Ap))
 Ap)))
noncomputable def L8(out:List (List Nat)):Bool:=out.all (fun c=>!c.contains 92&&decide (c.length<=200))&&decide (out.length<=100)
def Pr(s:List Nat):Option (List Nat):=if s.contains 45 then
  (Jk 100 (if s.head?=some 33 then 2 else 1) s).bind fun r=>if r.2=[] then none else
   match (r.1++[r.2]).reverse with
   | last::rp=>(Xb rp [last]).bind fun out=>if L8 out then some (jn [45] (out.map Px)) else none
   | []=>none
 else some s
def Um(s:List Nat):Option (List Nat):=(Pr s).bind fun u=>if u.all Hv&&!u.isEmpty&&decide (u.length<=500) then some (R9 u) else none
noncomputable def Un(s:List Nat):Bool:=!s.contains 93&&!s.contains 92&&!s.isEmpty&&!(s==[33])&&decide (s.length<=60)
section
variable {H:Hp}
theorem A59{L:Nat}(hL:L<=100000):Builtin.Range.small ((L:Int)-1) 0 (-1)=true:=by
 unfold Builtin.Range.small;have e:Builtin.Range.rangeSize ((L:Int)-1) 0 (-1)=(L-1:Nat):=by
  unfold Builtin.Range.rangeSize;simp only[show ¬(-1:Int)>0 by decide,if_false]
  split <;> (try simp) <;> (first |exact C5x ‹_›|exact C5y hL ‹_›)
 rw[e];simp[Builtin.Range.rangeFitsLong];exact C5z hL
theorem A6a{v:MV}{ls:List (List Nat)}{Q:MV->Hp->Prop}(e:C7 T0 H v=some (ls.map sl))(h:L8 ls=true)(q:Q (sl (jn [45] (ls.map Px))) H):Wp (Hm T0 "-" Ee Dx v) H Q:=⟨_,_,by
 unfold L8 at h;simp only[Bool.and_eq_true,List.all_eq_true,Bool.not_eq_true',decide_eq_true_eq] at h;have hF:∀l:List Nat,Dx ⟨l.toArray⟩=⟨(Px l).toArray⟩:=fun l=>Uh (by kd_p) (by kd_p);have hok:∀l∈ls,Ee ⟨l.toArray⟩=true:=fun l hl=>by
  obtain⟨h1,h2⟩:=h.1 l hl;have h1:92 ∉ l:=by simpa using h1
  unfold Ee Rr;rw[show (Str.ofString "\\":Str)=⟨[92].toArray⟩ by kd_p,Tz h1];have e2:=hF l;unfold Dx at e2;have hel:=R6 l;have ho:=StrLaws.occ_length_le ⟨l.toArray⟩ (Str.ofString "-") 0 (⟨l.toArray⟩:Str).length ((⟨l.toArray⟩:Str).length+1);have hz:(Str.ofString "\\-":Str).length=2:=by kd_p
  rw[Dy] at ho;rw[hz,e2,Dy,Dy];have t:Builtin.Str.tooLong (l.length+(Builtin.Str.occurrences ⟨l.toArray⟩ (Str.ofString "-") 0 l.length (l.length+1)).length*2)=false:=by
   unfold Builtin.Str.tooLong;rw[decide_eq_false];rw[show sizeLine=16777216 from rfl];exact C50 h2 ho
  rw[t];simp;rw[show sizeLine=16777216 from rfl];exact C51 h2 hel
 have hm:(ls.map fun x=>(⟨x.toArray⟩:Str)).map Dx=(ls.map Px).map fun x=>⟨x.toArray⟩:=by
  rw[List.map_map,List.map_map];exact List.map_congr_left fun l zz=>hF l
 have hsum:∀l:List (List Nat),(∀c∈l,c.length<=200)->((((l.map Px).map fun x=>(⟨x.toArray⟩:Str)).map (·.length))).sum<=400*l.length:=by
  intro l
  induction l with
  | nil=>intro _;simp
  | cons a l ih=>
   intro hc;have:=ih fun c h=>hc c (.tail _ h);have h2:=R6 a;have h3:=hc a (.head _);simp only[List.map_cons,List.sum_cons,List.length_cons,Dy];exact C52 this h2 h3
 have hs:=hsum ls fun c hc=>(h.1 c hc).2;simp only[Hm,e,Option.bind_some,Jg];rw[hm,if_pos ⟨by rw[List.all_map,List.all_eq_true];exact fun l hl=>hok l hl,by simp;lia,by
  have:(Str.ofString "-":Str).length=1:=by kd_p
  rw[this];simp only[List.length_map] at hs ⊢;lia⟩,show (Str.ofString "-":Str)=⟨[45].toArray⟩ by kd_p,R0],q⟩
theorem D1y{pat s out:List Nat}{jr jm st i j:Nat}{H0:Hp}{acc:List MV}{ρ:Aj}{H:Hp}{K:Fl->Aj->Hp->Prop}(hj:j<=pat.length)(hp:pat.length<=1000)(hs:(pat.drop i).take (j-i)=s)(hl:i+s.length=j)(hsl:s.length<=60)(hm:Pr s=some out)(h45:s.contains 45=true)(E:TrE ρ pat jr jm st)(S:TrH H0 jr jm acc H)
  (g1:ρ "i"=some (.int (i:Int))) (g2:ρ "j"=some (.int (j:Int))) (hK:∀ρ' H',TrE ρ' pat jr jm st->TrH H0 jr jm acc H'->ρ' "stuff"=some (sl out)->ρ' "j"=some (.int (j:Int))->K .next ρ' H'):WS (B50 T0) ρ H K:=by
 unfold Pr at hm;rw[if_pos h45] at hm;obtain⟨⟨cs,last⟩,hc,hm⟩:=Dw hm;by_cases hlast:last=[]
 ·simp[hlast] at hm
 simp only[hlast,if_false] at hm;rw[List.reverse_append] at hm;simp only[List.reverse_cons,List.reverse_nil,List.nil_append,List.cons_append] at hm;obtain⟨ot,hmr,hm⟩:=Dw hm;by_cases hok:L8 ot=true
 rotate_left
 ·simp[hok] at hm
 rw[if_pos hok] at hm;cases hm;have hpos:i<j:=by
  have:s≠[]:=by intro q;rw[q] at h45;simp at h45
  have:=List.length_pos_iff.mpr this;exact C53 hl this
 have hi0:pat[i]?=s.head?:=by
  have:(s:List Nat)[0]?=pat[i]?:=by rw[<- hs,List.getElem?_take,if_pos (by exact C54 hpos),List.getElem?_drop];rfl
  rw[<- this,List.head?_eq_getElem?]
 obtain⟨c0,hc0⟩:∃c0,s.head?=some c0:=by
  cases s with
  | nil=>simp at h45
  | cons c t=>exact⟨c,rfl⟩
 rw[hc0] at hi0 hc;unfold B50;w_up;have E1:=E.upd (x:="chunks") (v:=.ref H.length) (by simp);have jrl:=Bx S.lr;have jml:=Bx S.lm;have n3:=S.h0.length_le;have after:∀(off:Nat) (ρA:Aj),Jk 100 off s=some (cs,last)->TrE ρA pat jr jm st->ρA "chunks"=some (.ref H.length)->ρA "i"=some (.int (i:Int))->ρA "j"=some (.int (j:Int))->ρA "k"=some (.int ((i+off:Nat):Int))->
   WS (By (Da T0 (pC (.bool true))) (R8 T0) 4000) ρA (H++[.list []]) (Io
 (Ag (Bi "chunk" (Bz T0 (Ac "pat") (Cq (Ac "i")) (Cq (Ac "j"))))
 (Ag (Cv (Da T0 (Ac "chunk"))
 (Ag (Cw (Be Kv (Ac "chunks") (Ab (Ac "chunk") Af) (two Bk)))
 Ap)
 (Ag (fun zz=>fl)
 Ap))
 (Ag (Ko T0 4000 (Ak (Ab (Am (Ak (Ab (Ac "chunks") Af) (one (D4 T0))) (pC (.int 1)) De) (Ab (pC (.int 0)) (Ab (Jd (pC (.int 1))) Af))) Ck) (A2 "k")
 (N3 T0)
 Ap)
 (Ag (Bi "stuff" (Ak (Ac "chunks") (Hm T0 "-" Ee Dx)))
 Ap)))) K):=fun off ρA hc E1 w1 w2 w3 w4=>by
  refine A8d (pat:=pat) (jr:=jr) (jm:=jm) (st:=st) (jc:=H.length) (j:=j) (H0:=H0) (acc:=acc) hj hp (by exact Nat.ne_of_gt ‹_›) (by exact Nat.ne_of_gt ‹_›) n3 100 4000 off i s last [] cs ρA _ hs hl B7q hc (by simp) E1 (S.pre pre_app) Au w1 w2 w3 w4 fun ρ' H' i' E' S' c1 c2 c3 c4 c5 c6=>?_;rw[List.nil_append] at c1;have hcs:cs.length<=100:=by
   have:∀(f off:Nat) (l:List Nat) (r:List (List Nat) × List Nat),Jk f off l=some r->r.1.length<=f:=by
    intro f
    induction f with
    | zero=>intro off l r h;cases h
    | succ f ih=>
     intro off l r h;unfold Jk at h
     split at h
     ·cases h;simp
     ·obtain⟨r',h1,rfl⟩:=Ju h;have:=ih _ _ _ h1;simp;lia
   exact this _ _ _ _ hc
  have hsum:(cs++[last]).flatten.length<=60:=by
   have:∀(f off:Nat) (l:List Nat) (r:List (List Nat) × List Nat),Jk f off l=some r->(r.1++[r.2]).flatten.length<=l.length:=by
    intro f
    induction f with
    | zero=>intro off l r h;cases h
    | succ f ih=>
     intro off l r h;unfold Jk at h
     split at h
     ·cases h;simp
     ·rename_i p hp';obtain⟨r',h1,rfl⟩:=Ju h;have:=ih _ _ _ h1;have hpl:=List.mem_range.mp (List.find?_range_eq_some.mp hp').2.1;rw[List.length_drop] at this;simp only[List.cons_append,List.flatten_cons,List.length_append,List.length_take];exact C55 this hpl
   have:=this _ _ _ _ hc;simp only at this;exact C56 hl hsl this
  have hlast':∃a l,last=a::l:=by
   cases last with
   | nil=>exact absurd rfl hlast
   | cons a l=>exact⟨a,l,rfl⟩
  refine thN (sAsg (wSlice (B0 E'.fpat (wSl1 (B0 c4 ⟨_,rfl,wSl1 (B0 c3 ⟨_,rfl,?_⟩)⟩)))));refine B2 (Ks hp) ?_;rw[Sa (A87 c6),c5];w_up;refine trS (by simp at hsum;exact C57 hj hp c6) ?_;refine⟨fun zz=>?_,fun h=>?_⟩
  rotate_left
  ·simp at h;exact absurd h hlast
  w_up;refine Ng (k:=H.length) ?_ c1 ?_
  ·k_in
  w_up;refine⟨_,_,rfl,c1,by simp;exact B7k hcs,?_⟩;w_up;have c1':=Ds (o:=MO.list (cs.map sl++[sl last])) c1;refine Kw (Aq c1') (by simp;exact C58 hcs) ?_;w_up;rw[show (List.map sl cs++[sl last]).length=cs.length+1 by simp];refine⟨_,Gw Au (A59 (C59 hcs)),?_⟩;refine A56 (pat:=pat) (jr:=jr) (jm:=jm) (st:=st) (H0:=H0) (acc:=acc) (jc:=H.length) (L:=cs.length+1) (by exact Nat.ne_of_gt ‹_›) (by exact Nat.ne_of_gt ‹_›) n3 (C6a hcs) cs.reverse [last] ot 0 4000 _ _ hmr (by simp) (by simp;exact A1b hcs) (by simp) (by simp;exact C6b hcs) ?_ (E'.upd (by simp)) ((S'.other _ (by exact Nat.ne_of_gt ‹_›) (by exact Nat.ne_of_gt ‹_›) n3).pre pre_app) ?_ ?_ ?_ fun ρ'' H'' E'' S'' d1 d2 d3=>?_
  ·rw[List.reverse_reverse];exact C6c hsum
  ·rw[Ah pre_app c1'];simp
  ·k_in
  ·exact⟨_,by k_in⟩
  w_up;refine A6a (Aq d1) hok ?_;w_up;refine hK _ _ (E''.upd (by simp)) S'' upd_hit (Ba (by kd_p) (d3.trans ?_))
  k_in
 refine B0 E1.fpat ?_;w_up;refine Cs hi0 (by unfold lim;exact C6d hj hp hpos) ?_;w_up;refine⟨fun h=>?_,fun h=>?_⟩
 ·have h33:c0=33:=by simpa using h
  rw[if_pos (by rw[h33])] at hc;w_up;refine after 2 _ hc (E1.upd (x:="k") (by simp)) ?_ ?_ ?_ ?_
  ·k_in
  ·k_in
  ·k_in
  ·rw[show ((i+2:Nat):Int)=(i:Int)+2 by exact B7n];exact upd_hit
 ·have h33:¬c0=33:=by simpa using h
  rw[if_neg (by simpa using h33)] at hc;w_up;refine after 1 _ hc (E1.upd (x:="k") (by simp)) ?_ ?_ ?_ ?_
  ·k_in
  ·k_in
  ·k_in
  ·rw[show ((i+1:Nat):Int)=(i:Int)+1 by exact zl8];exact upd_hit
end
section
variable {H:Hp}
theorem D1z{pat s u:List Nat}{jr jm st i j:Nat}{H0:Hp}{acc:List MV}{ρ:Aj}{H:Hp}{K:Fl->Aj->Hp->Prop}(hj:j<=pat.length)(hp:pat.length<=1000)(hs:(pat.drop i).take (j-i)=s)(hl:i+s.length=j)(hsl:s.length<=60)(hm:Pr s=some u)(h92:92 ∉ s)
  (h0:u≠[]) (hpl:u.all Hv=true) (hu:u.length<=10000) (hacc:acc.length<1000) (E:TrE ρ pat jr jm st) (S:TrH H0 jr jm acc H) (g1:ρ "i"=some (.int (i:Int))) (g2:ρ "j"=some (.int (j:Int)))
  (hK:∀ρ' H',TrE ρ' pat jr jm st->ρ' "i"=some (.int ((j:Int)+1))->TrH H0 jr jm (acc++[sl (R9 u)]) H'->K .next ρ' H'):WS (A57 T0) ρ H K:=by
 unfold A57;refine sAsg (wSlice (B0 E.fpat (wSl1 (B0 g1 ⟨_,rfl,wSl1 (B0 g2 ⟨_,rfl,?_⟩)⟩))));refine B2 (Ks hp) ?_;rw[Sa (A87 hl),hs];have E1:=E.upd (x:="stuff") (v:=sl s) (by simp);w_up;refine⟨fun h=>?_,fun h=>?_⟩
 ·have h45:¬s.contains 45=true:=by simpa using h
  unfold Pr at hm;rw[if_neg h45] at hm;cases hm;w_up;refine Gp (B0 upd_hit ⟨rfl,?_⟩);w_up;refine A9t (c:=92) (d:=0) rfl h92 ?_;w_up;refine Yz (E1.upd (by simp)) S hacc h0 hpl hu ?_ ?_ hK
  ·k_in
  ·k_in
 ·have h45:s.contains 45=true:=by simpa using h
  refine D1y hj hp hs hl hsl hm h45 E1 S ?_ ?_ fun ρ' H' E' S' c1 c2=>thN (Yz E' S' hacc h0 hpl hu c1 c2 hK)
  ·k_in
  ·k_in
theorem D4f{pat:List Nat}{jr jm st je:Nat}{ρ0:Aj}(hje:pat[je]?=some 93)(hp:pat.length<=1000){K:Fl->Aj->Hp->Prop}:∀(f n ja:Nat) (ρ:Aj) (H:Hp),ja+f=je->f<n->(∀m,ja<=m->m<je->pat[m]?≠some 93)->TrE ρ pat jr jm st->ρ "i"=ρ0 "i"->ρ "j"=some (.int (ja:Int))->
  (∀ρ',TrE ρ' pat jr jm st->ρ' "i"=ρ0 "i"->ρ' "j"=some (.int (je:Int))->K .next ρ' H)->WS (A0s T0 n) ρ H K:=by
 intro f;have hlt:je<pat.length:=by rw[List.getElem?_eq_some_iff] at hje;exact hje.1
 induction f with
 | zero=>
  intro n ja ρ H hf hn hne E gi gj hK;obtain⟨n,rfl⟩:=Bv hn;have:ja=je:=by lia
  subst this;unfold A0s;refine Es (wAnd (wTCmp (B0 gj (B0 E.fn ?_))));w_up;refine⟨fun zz=>?_,fun h=>?_⟩
  ·refine wAnd (wTCmp (wBin (B0 E.fpat (B0 gj ?_))));refine Cs hje (by unfold lim;exact zl4 hp hlt) ?_;w_up;exact hK ρ E gi gj
  ·simp at h;exact(A63 hlt h).elim
 | succ f ih=>
  intro n ja ρ H hf hn hne E gi gj hK;obtain⟨n,rfl⟩:=Bv hn;obtain⟨c,hc⟩:∃c,pat[ja]?=some c:=⟨pat[ja]'(A88 hlt hf),by simp[show ja<pat.length by exact A88 hlt hf]⟩;have hc93:c≠93:=fun q=>hne ja (Nat.le_refl _) (C6e hf) (by rw[hc,q]);unfold A0s;refine Es (wAnd (wTCmp (B0 gj (B0 E.fn ?_))));w_up;refine⟨fun zz=>?_,fun h=>?_⟩
  ·refine wAnd (wTCmp (wBin (B0 E.fpat (B0 gj ?_))));refine Cs hc (by unfold lim;exact C6f hp hlt hf) ?_;w_up;refine⟨fun zz=>?_,fun h=>?_⟩
   ·w_up;refine ih n (ja+1) _ H (C6g hf) (by exact Nat.le_of_lt_succ ‹_›) (fun m h1 h2=>hne m (by exact Nat.le_of_lt ‹_›) h2) (E.upd (by simp)) ((Ba (by kd_p) rfl).trans gi) ?_ hK;exact upd_hit
   ·simp at h;exact absurd h hc93
  ·simp at h;exact(C6h hlt hf h).elim
theorem B51{pat s v:List Nat}{jr jm st i:Nat}{H0:Hp}{acc:List MV}{ρ:Aj}{H:Hp}{K:Fl->Aj->Hp->Prop}{tl:List Nat}(hp:pat.length<=1000)(hd:pat.drop i=s++93::tl)(hok:Un s=true)(hm:Um s=some v)(hacc:acc.length<1000)(E:TrE ρ pat jr jm st)(S:TrH H0 jr jm acc H)(g1:ρ "i"=some (.int (i:Int)))
  (hK:∀ρ' H',TrE ρ' pat jr jm st->ρ' "i"=some (.int ((i+s.length+1:Nat):Int))->TrH H0 jr jm (acc++[sl v]) H'->K .next ρ' H'):WS (A58 T0) ρ H K:=by
 unfold Un at hok;simp only[Bool.and_eq_true,Bool.not_eq_true',decide_eq_true_eq] at hok;obtain⟨⟨⟨⟨k1,k2⟩,k3⟩,k4⟩,k5⟩:=hok;have k1:93 ∉ s:=by simpa using k1
 have k2:92 ∉ s:=by simpa using k2
 have k4:¬s=[33]:=by simpa using k4
 obtain⟨u,hu,hm⟩:=Dw hm;by_cases hc:(u.all Hv&&!u.isEmpty&&decide (u.length<=500))=true
 rotate_left
 ·rw[if_neg hc] at hm;cases hm
 rw[if_pos hc] at hm;cases hm;simp only[Bool.and_eq_true,decide_eq_true_eq,Bool.not_eq_true'] at hc;obtain⟨⟨c1,c2⟩,c3⟩:=hc;have hlen:pat.length=i+(s.length+(1+tl.length))∧i<=pat.length:=by
  have:=congrArg List.length hd;simp only[List.length_drop,List.length_append,List.length_cons] at this;exact C6i this
 have at_:∀m,m<s.length->pat[i+m]?=s[m]?:=fun m hm=>by
  have:=congrArg (·[m]?) hd;simp only[List.getElem?_drop] at this;rw[this,List.getElem?_append_left hm]
 have hje:pat[i+s.length]?=some 93:=by
  have:=congrArg (·[s.length]?) hd;simp only[List.getElem?_drop] at this;rw[this];simp
 obtain⟨a,t,hs⟩:=List.exists_cons_of_ne_nil (show s≠[] from fun q=>by rw[q] at k3;simp at k3);have s0:0<s.length:=by rw[hs];exact Nat.succ_pos _
 have ha:pat[i]?=some a:=by have:=at_ 0 s0;rw[hs] at this;simpa using this
 have go:∀(ja:Nat) (ρA:Aj),i<=ja->ja<=i+s.length->TrE ρA pat jr jm st->ρA "i"=some (.int (i:Int))->ρA "j"=some (.int (ja:Int))->
   WS (Ag (A0s T0 4000)
 (Ag (Cv (At T0 (Ac "j") (Ac "n") Vh)
 (Ag (Cw (Cp (Ac "add") (Ab (pC (sl [92,91])) Af) (It (A9 T0))))
 Ap)
 (A57 T0))
 Ap)) ρA H K:=fun ja ρA h1 h2 E1 w1 w2=>by
  refine Kq ?_;refine D4f (ρ0:=ρA) hje hp (i+s.length-ja) 4000 ja ρA H (C6j h2) (C6k k5 s0 h1 h2) (fun m m1 m2=>?_) E1 rfl w2 fun ρ' E' z1 z2=>?_
  ·rw[show m=i+(m-i) by exact C6l h1 m1,at_ _ (C6m s0 m2)];intro q;exact k1 (List.mem_of_getElem? q)
  ·refine thN (sIf (wTCmp (B0 z2 (B0 E'.fn ?_))));w_up;refine⟨fun h=>?_,fun zz=>?_⟩
   ·simp at h hlen;exact(C6n hlen h).elim
   ·refine D1z (j:=i+s.length) (C6o hlen) hp ?_ rfl (by lia) hu k2 (by intro q;rw[q] at c2;simp at c2) c1 (C6p c3) hacc E' S (z1.trans w1) z2 fun ρ'' H'' E'' y1 S''=>thN (sEnd (hK ρ'' H'' E'' ?_ S''))
    ·rw[hd,show i+s.length-i=s.length by exact C6q s0];simp
    ·rw[y1];congr 2
 unfold A58;refine sAsg (B0 g1 ?_);have E1:=E.upd (x:="j") (v:=.int (i:Int)) (by simp);refine sIf (wAnd (wTCmp (B0 upd_hit (B0 E1.fn ?_))));w_up;refine⟨fun zz=>?_,fun h=>?_⟩
 rotate_left
 ·simp at h hlen;exact(C6r hlen s0 h).elim
 refine wAnd (wTCmp (wBin (B0 E1.fpat (B0 upd_hit ?_))));refine Cs ha (by unfold lim;exact C6s hp hlen) ?_;w_up;have second:∀(ja:Nat) (c:Nat) (ρA:Aj),i<=ja->ja<i+s.length->pat[ja]?=some c->c≠93->TrE ρA pat jr jm st->ρA "i"=some (.int (i:Int))->ρA "j"=some (.int (ja:Int))->
   WS (Ag (Cv (Dk (At T0 (Ac "j") (Ac "n") Fz) (Dk (At T0 (Am (Ac "pat") (Ac "j") (Ao T0)) (pC (sl [93])) Bb) Eg))
 (Ag (Bi "j" (Am (Ac "j") (pC (.int 1)) A1))
 Ap)
 Ap)
 (Ag (A0s T0 4000)
 (Ag (Cv (At T0 (Ac "j") (Ac "n") Vh)
 (Ag (Cw (Cp (Ac "add") (Ab (pC (sl [92,91])) Af) (It (A9 T0))))
 Ap)
 (A57 T0))
 Ap))) ρA H K:=fun ja c ρA h1 h2 hc h93 E1 w1 w2=>by
  refine sIf (wAnd (wTCmp (B0 w2 (B0 E1.fn ?_))));w_up;refine⟨fun zz=>?_,fun h=>?_⟩
  ·refine wAnd (wTCmp (wBin (B0 E1.fpat (B0 w2 ?_))));refine Cs hc (by unfold lim;exact C6t hp hlen h2) ?_;w_up;refine⟨fun h=>?_,fun zz=>(Ll rfl (sEnd (thN (go ja ρA h1 (C6u h2) E1 w1 w2))))⟩;simp at h;exact absurd h h93
  ·simp at h hlen h2;exact(C6v hlen h2 h).elim
 refine⟨fun h=>?_,fun h=>?_⟩
 ·have h33:a=33:=by simpa using h
  obtain⟨b,t',ht⟩:=List.exists_cons_of_ne_nil (show t≠[] from fun q=>k4 (by rw[hs,q,h33]));have s1:1<s.length:=by rw[hs,ht];exact Nat.succ_lt_succ (Nat.succ_pos _)
  have hb:pat[i+1]?=some b:=by have:=at_ 1 s1;rw[hs,ht] at this;simpa using this
  refine wAndN (Ym rfl ?_);refine sAsg (wBin (B0 upd_hit (wC (wAddI ?_))));refine sEnd (thN (second (i+1) b _ A60 (C6w s0 s1) hb (fun q=>k1 (by rw[hs,ht,q];simp)) (E1.upd (by simp)) ?_ ?_))
  ·k_in
  ·exact upd_hit
 ·have h33:¬a=33:=by simpa using h
  refine(Ll rfl (sEnd (thN (second i a _ (Nat.le_refl _) (C6x s0) ha (fun q=>k1 (by rw[hs,q];simp)) E1 ?_ upd_hit))))
  k_in
end
inductive Tok where
 | star|any|lit
 | set (s:List Nat)
noncomputable def Tok.s:Tok->List Nat
 | .star=>[42]
 | .any=>[63]
 | .lit=>[61]
 | .set s=>91::s++[93]
noncomputable def Tok.hd:Tok->Nat
 | .star=>42
 | .any=>63
 | .lit=>61
 | .set _=>91
noncomputable def Tok.tl:Tok->List Nat
 | .set s=>s++[93]
 | _=>[]
theorem Tok.s_eq(t:Tok):t.s=t.hd::t.tl:=by cases t <;> rfl
def Tok.item:Tok->Option (List Nat)
 | .star=>none
 | .any=>some [46]
 | .lit=>some [61]
 | .set s=>some ((Um s).getD [])
def Tok.ok:Tok->Bool
 | .set s=>Un s&&(Um s).isSome
 | _=>true
noncomputable def Fw:Bool->List Tok->Bool
 | _,[]=>true
 | p,.star::t=>!p&&Fw true t
 | _,_::t=>Fw false t
section
variable {H:Hp}
theorem A0t:Wp (J9 T0 [sl [61]]) H fun r H'=>H'=H∧r=sl [61]:=by
 unfold J9;refine Dg rfl ?_;dsimp only[Ci];refine sIf (wTruth (wThen ?_));w_up;refine⟨.bool true,H,rfl,?_⟩;w_up;refine Gp (B0 (by k_in) ⟨rfl,?_⟩);w_up;refine⟨sl [61],H,by simp[Ro],?_⟩;w_up;exact⟨rfl,rfl⟩
theorem A0u{items:List (Option (List Nat))}{f:Option (List Nat)->MV}(h:(!!(items.map f).isEmpty)=false)(hl:¬items.getLast?=some none):∃its s,items=its++[some s]:=by
 have hne:items≠[]:=by rintro rfl;cases h
 refine⟨items.dropLast,?_⟩;cases e:items.getLast hne with
 | none=>exact absurd (by rw[List.getLast?_eq_some_getLast hne,e]) hl
 | some s=>exact⟨s,by rw[<- e];exact(List.dropLast_concat_getLast hne).symm⟩
theorem A8e{pat:List Nat}{jr jm st:Nat}{H0:Hp}(hp:pat.length<=1000){K:Fl->Aj->Hp->Prop}:∀(toks:List Tok) (i n:Nat) (items:List (Option (List Nat))) (ρ:Aj) (H:Hp),pat.drop i=toks.flatMap Tok.s->toks.all Tok.ok=true->Fw (items.getLast?==some none) toks=true->toks.length<n->items.length+toks.length<1000->i<=pat.length->
  TrE ρ pat jr jm st->TrH H0 jr jm (items.map (Nj st)) H->ρ "i"=some (.int (i:Int))->
  (∀ρ' H',TrE ρ' pat jr jm st->TrH H0 jr jm ((items++toks.map Tok.item).map (Nj st)) H'->ρ' "i"=some (.int (pat.length:Int))->K .next ρ' H')->
  WS (By (At T0 (Ac "i") (Ac "n") Fz) (Sb T0) n) ρ H K:=by
 intro rest__
 induction rest__ with
 | nil=>
  intro i n items ρ H hd hok hst hn hc hi E S g1 hK;obtain⟨n,rfl⟩:=Bv hn;have hle:pat.length<=i:=by simpa using hd
  refine Es (wTCmp (B0 g1 (B0 E.fn ?_)));w_up;refine⟨fun h=>?_,fun zz=>hK ρ H E (by simpa using S) (by rw[g1];congr 2;exact A8w hi hle)⟩;simp at h;exact(B0h hi hle h).elim
 | cons t toks ih=>
  intro i n items ρ H hd hok hst hn hc hi E S g1 hK;obtain⟨n,rfl⟩:=Bv hn;rw[List.flatMap_cons] at hd;rw[List.all_cons,Bool.and_eq_true] at hok;have hdl:pat.length=i+(t.s.length+(toks.flatMap Tok.s).length):=by
   have:=congrArg List.length hd;simp only[List.length_drop,List.length_append] at this;exact C6y hi this
  obtain⟨q1,q2,q3⟩:=Cd (show pat.drop i=t.hd::(t.tl++toks.flatMap Tok.s) by rw[hd,t.s_eq];rfl);have E1:=(E.upd (x:="c") (v:=sl [t.hd]) (by simp)).upd (x:="i") (v:=.int ((i:Int)+1)) (by simp);have hsz:(items.map (Nj st)).length<1000:=by simp at hc ⊢;exact B6v hc
  have next:∀(it:Option (List Nat)) (k:Nat) ρ' H',t.item=it->t.s.length=k->Fw (it==none) toks=true->TrE ρ' pat jr jm st->ρ' "i"=some (.int ((i+k:Nat):Int))->TrH H0 jr jm (items.map (Nj st)++[Nj st it]) H'->
    WS (By (At T0 (Ac "i") (Ac "n") Fz) (Sb T0) n) ρ' H' K:=fun it k ρ' H' hit hk h1 h2 h3 h4=>by
   refine ih (i+k) n (items++[it]) ρ' H' ?_ hok.2 ?_ (by simp at hn;lia) (by simp at hc ⊢;exact B6w hc) (C6z hdl hk) h2 (by simpa using h4) h3 fun ρ'' H'' w1 w2 w3=>hK ρ'' H'' w1 (by simpa [hit] using w2) w3
   ·rw[<- List.drop_drop,hd,<- hk];simp
   ·rw[List.getLast?_concat];cases it <;> exact h1
  refine Es (wTCmp (B0 g1 (B0 E.fn ?_)));w_up;refine⟨fun zz=>?_,fun h=>?_⟩
  rotate_left
  ·simp at h;exact(A1d hi q3 h).elim
  unfold Sb;refine sAsg (wBin (B0 E.fpat (B0 g1 ?_)));refine Cs q1 (by unfold lim;exact zl4 hp q3) ?_;refine sAsg (wBin (B0 (Ba (by kd_p) g1) (wC (wAddI ?_))));clear hd hdl hn hc hi q1 q3 hK ih E g1;cases t with
  | star=>
   dsimp only[Tok.hd];simp only[Fw,Bool.and_eq_true,Bool.not_eq_true'] at hst;have addS:WS (Ag (Cw (Cp (Ac "add") (Ab (Ac "STAR") Af) (It (A9 T0)))) Ap) (upd (upd ρ "c" (sl [42])) "i" (.int ((i:Int)+1))) H (Io Ap (Io Ap (WhK (At T0 (Ac "i") (Ac "n") Fz) (Sb T0) n K))):=by
    refine sExp (wCallD (B0 E1.fadd (wConsS (B0 E1.fstar (wNilS ?_)))));refine Qb S.lm (Fp S.lr (zl5 hsz) ?_);w_up;exact next none 1 _ _ rfl rfl hst.2 E1 (by rw[show ((i+1:Nat):Int)=(i:Int)+1 by exact zl8];exact upd_hit) (S.add _ hsz)
   w_up;refine B0 E1.fres ?_;refine trL (Aq S.lr) (C60 hsz) ?_;refine⟨fun zz=>(Ym rfl (addS)),fun h=>?_⟩;refine wOr (wTCmp (wBin (B0 E1.fres ?_)));w_up;obtain⟨its,s,hit⟩:∃its s,items=its++[some s]:=A0u h (by simpa using hst.1);refine Pg (w:=sl s) (Aq S.lr) (by rw[hit,List.map_append];exact Ic) (by unfold lim;exact A1c) ?_;refine B0 E1.fstar (N2 (trB (Ym rfl ((Ym rfl (addS))))))
  | any=>
   dsimp only[Tok.hd];w_up;refine B0 E1.fadd (wConsS (B0 E1.fqm (wNilS ?_)));refine Qb S.lm (Fp S.lr (zl5 hsz) ?_);w_up;exact next (some [46]) 1 _ _ rfl rfl hst E1 (by rw[show ((i+1:Nat):Int)=(i:Int)+1 by exact zl8];exact upd_hit) (S.add _ hsz)
  | lit=>
   dsimp only[Tok.hd];w_up;refine B0 E1.fadd (wConsS (wThen (wConsS (B0 (Ba (by kd_p) upd_hit) (wNilS ?_)))));refine Wp.at A0t ?_;w_up;refine Qb S.lm (Fp S.lr (zl5 hsz) ?_);w_up;exact next (some [61]) 1 _ _ rfl rfl hst E1 (by rw[show ((i+1:Nat):Int)=(i:Int)+1 by exact zl8];exact upd_hit) (S.add _ hsz)
  | set s=>
   dsimp only[Tok.hd];have ho:=hok.1;simp only[Tok.ok,Bool.and_eq_true] at ho;obtain⟨v,hv⟩:=Option.isSome_iff_exists.mp ho.2;w_up;refine B51 (i:=i+1) hp (tl:=toks.flatMap Tok.s) ?_ ho.1 hv hsz E1 S ?_ fun ρ' H' E' w1 S'=>?_
   ·rw[q2];simp[Tok.tl]
   ·rw[show ((i+1:Nat):Int)=(i:Int)+1 by exact zl8];exact upd_hit
   ·w_up;refine next (some v) (s.length+2) _ _ (by simp[Tok.item,hv]) (by simp[Tok.s]) hst E' ?_ S'
    rw[w1,show i+1+s.length+1=i+(s.length+2) by exact C61]
theorem Qd{toks:List Tok}{st:Nat}(hok:toks.all Tok.ok=true)(hst:Fw false toks=true)(hp:(toks.flatMap Tok.s).length<=990)(hl:toks.length<990):
  Wp (He T0 [sl (toks.flatMap Tok.s),.ref st,sl [46]]) H fun r H'=>H<+:H'∧∃j,r=.ref j∧H'[j]?=some (.list ((toks.map Tok.item).map (Nj st))):=by
 generalize hpat:toks.flatMap Tok.s=pat at *
 unfold He;simp only[L_e,B5y,A5h];refine Dg rfl ?_;dsimp only[Ci];w_up;refine A45 Au ?_;w_up;refine Ia (C62 hp) ?_;w_up;have lr:(H++[MO.list []]++[MO.meth "list.append" H.length]++[MO.tup [.int 0,.int (pat.length:Int)]])[H.length]?=some (.list []):=Ah pre_app (Ah pre_app Au);have lm:(H++[MO.list []]++[MO.meth "list.append" H.length]++[MO.tup [.int 0,.int (pat.length:Int)]])[(H++[MO.list []]).length]?=some (.meth "list.append" H.length):=Ah pre_app Au;refine A8e (pat:=pat) (jr:=H.length) (jm:=(H++[MO.list []]).length) (st:=st) (H0:=H) (C63 hp) toks 0 4000 [] _ _ (by rw[hpat];rfl) hok hst (C64 hl) (by simp;exact C65 hl) (Nat.zero_le _) ⟨?_,?_,?_,?_,?_,?_⟩ ⟨by simp[List.append_assoc],lr,lm,Nat.le_refl _,by simp,by simp⟩ ?_ fun ρ' H' E S w=>?_
 ·k_in
 ·k_in
 ·k_in
 ·k_in
 ·k_in
 ·k_in
 ·show _=some (MV.int 0);k_in
 refine thN (sAss (wTCmp (B0 w (B0 E.fn ?_))));w_up;refine⟨by simp,?_⟩;refine sRet (B0 E.fres ?_);w_up;exact⟨S.h0,_,rfl,by simpa using S.lr⟩
theorem M5{st:Nat}:∀segs:List (List (List Nat)),(segs.flatMap fun seg=>none::seg.map some).map (Nj st)=Hx st segs
 | []=>rfl
 | seg::segs=>by
  have:=M5 (st:=st) segs;simp only[Hx] at this ⊢;rw[List.flatMap_cons,List.map_append,this,List.flatMap_cons]
  congr 1
  simp[Nj,Function.comp_def]
theorem Sc{toks:List Tok}{s0:List (List Nat)}{segs:List (List (List Nat))}(hok:toks.all Tok.ok=true)(hst:Fw false toks=true)(hp:(toks.flatMap Tok.s).length<=990)(hl:toks.length<990)
  (hit:toks.map Tok.item=s0.map some++segs.flatMap fun seg=>none::seg.map some) (hso:Gb segs=true) (hs0:s0.flatten.length<=100000) (hsz:∀seg∈segs,seg.flatten.length<=100000) (hl2:segs.length<=1000) (htot:(E9 segs).flatten.length<=1000000):
  Wp (B7 T0 [sl (toks.flatMap Tok.s)]) H fun r H'=>H<+:H'∧r=sl ([40,63,115,58]++(s0++E9 segs).flatten++[41,92,90]):=by
 unfold B7;simp only[D1o];refine Dg rfl ?_;dsimp only[Ci];w_up;refine⟨.ref H.length,H++[.obj K8],rfl,?_⟩;w_up;refine Wp.mono (Qd hok hst hp hl) ?_;rintro _ H₁ ⟨p,j,rfl,e⟩;w_up;have e2:H₁[j]?=some (.list (s0.map sl++Hx H.length segs)):=by
  rw[e,hit,List.map_append,M5,List.map_map];rfl
 refine Wp.mono (A8c e2 hso hs0 hsz ?_ hl2 htot) ?_
 ·have:=congrArg List.length hit;have h2:=congrArg List.length (M5 (st:=H.length) segs);simp only[List.length_map,List.length_append] at this h2 ⊢;exact C66 hl this h2
 rintro _ HP ⟨p2,rfl⟩;w_up;exact⟨pre_app.trans (p.trans p2),rfl⟩
end
def A9y(signs every:List Nat)(dress:Nat):List Nat:=
 if dress=2 then [33]++every.filter (fun c=>!signs.contains c)
 else if dress≠1 then (if dress=3 then [122,45,97] else [])++every.filter (fun c=>signs.contains c)
 else Lf signs false every
def Cl(signs every:List Nat)(dress:Nat):Tok:=if signs.length=every.length then .any else .set (A9y signs every dress)
theorem Uo{signs every:List Nat}{dress:Nat}:(Cl signs every dress).s=brk signs every dress:=by
 unfold Cl brk A9y
 split
 ·rfl
 ·split
  ·simp[Tok.s]
  ·split
   ·split <;> simp[Tok.s]
   ·simp[Tok.s]
def wOf(s:List Nat):Option (List Nat):=match Um s with
 | some (91::w)=>if w.getLast?=some 93 then some w.dropLast else none
 | _=>none
noncomputable def Gz(a:Ek)(c:Nat):Bool:=a.2.contains c != a.1
def tkc(t:Tok)(test:List (Nat × Bool)):Bool:=match t with
 | .any=>test.all fun p=>p.2
 | .set s=>Un s&&match wOf s with
  | some w=>!w.contains 93&&decide (w.length<=60)&&w.all (·<128)&&(match A50 w with
   | some a=>test.all fun p=>Gz a p.1==p.2
   | none=>false)
  | none=>false
 | _=>false
noncomputable def okW(ws:List (Option Int))(d:Nat):Bool:=(List.range 4).all fun b=>match (ws.getD b none) with
 | some w=>decide ((d:Int)/2 ^ b%2=w)
 | none=>true
noncomputable def o3(n:Nat):Option Int:=if n=0 then none else if n=1 then some 0 else some 1
def B52(r:Nat):List Nat:=(List.range 16).filterMap fun d=>if (Gy r).contains (kch.getD d 0)=true then some (h16.getD d 0) else none
def B53(ws:List (Option Int)):List Nat:=(List.range 16).filterMap fun d=>if okW ws d=true then some (h16.getD d 0) else none
noncomputable def rgO(o:Option Int)(a:Nat):Bool:=decide (o.getD (a:Int)=(a:Int))
def sgO(o:Option Int)(x y:Nat):List Nat:=[0,1].filterMap fun a=>if rgO o a=true then some (pk x y a) else none
def prO(o u:Option Int):List (Nat × Nat):=[(0,0),(0,1),(1,0),(1,1)].filter fun p=>rgO o p.1&&rgO u p.2
set_option maxHeartbeats 4000000
theorem ck1:∀r,r<255->∀d,d<4->tkc (Cl (B52 r) h16 d) ((List.range 16).map fun x=>(I2 x,(Gy r).contains (kch.getD x 0)))=true:=by kd_p
theorem ck2:∀a,a<3->∀b,b<3->∀c,c<3->∀e,e<3->∀d,d<4->tkc (Cl (B53 [o3 a,o3 b,o3 c,o3 e]) h16 d) ((List.range 16).map fun x=>(I2 x,okW [o3 a,o3 b,o3 c,o3 e] x))=true:=by kd_p
theorem ck3:∀r,r<255->∀d,d<4->tkc (Cl (Gy r) k8 d) (kch.map fun x=>(x,(Gy r).contains x))=true:=by kd_p
theorem ck4:∀a,a<3->∀d,d<4->tkc (Cl (sgO (o3 a) 45 114) [45,114] d) [(45,rgO (o3 a) 0),(114,rgO (o3 a) 1)]=true:=by kd_p
theorem ck5:∀a,a<3->∀d,d<4->tkc (Cl (sgO (o3 a) 45 119) [45,119] d) [(45,rgO (o3 a) 0),(119,rgO (o3 a) 1)]=true:=by kd_p
theorem ck6:∀a,a<3->∀b,b<3->∀d,d<4->tkc (Cl ((prO (o3 a) (o3 b)).map (Hw 83 115)) [45,83,115,120] d) ([(0,0),(0,1),(1,0),(1,1)].map fun p=>(Hw 83 115 p,rgO (o3 a) p.1&&rgO (o3 b) p.2))=true:=by kd_p
theorem ck7:∀a,a<3->∀b,b<3->∀d,d<4->tkc (Cl ((prO (o3 a) (o3 b)).map (Hw 84 116)) [45,84,116,120] d) ([(0,0),(0,1),(1,0),(1,1)].map fun p=>(Hw 84 116 p,rgO (o3 a) p.1&&rgO (o3 b) p.2))=true:=by kd_p
structure TK(t:Tok)(r:RT)(a:Ek):Prop where
 ok:t.ok=true
 ns:(match t with | .star=>False|_=>True)
 item:t.item=some r.s
 rok:r.ok=true
 read:∀p ts,Eu p (r::ts)=Eu (p.1,p.2++[a]) ts
 len:t.s.length<=62∧r.s.length<=62
theorem TK.lit:TK .lit (.lit 61) (false,[61]):=⟨rfl,trivial,rfl,rfl,fun zz zz=>rfl,by decide,by decide⟩
theorem TK.any:TK .any .dot (true,[]):=⟨rfl,trivial,rfl,rfl,fun zz zz=>rfl,by decide,by decide⟩
theorem TK.of{t:Tok}{test:List (Nat × Bool)}(h:tkc t test=true):∃r a,TK t r a∧∀p∈test,Gz a p.1=p.2:=by
 cases t with
 | star=>cases h
 | lit=>cases h
 | any=>
  refine⟨.dot,(true,[]),.any,fun p hp=>?_⟩;have:=List.all_eq_true.mp h p hp;rw[this];rfl
 | set s=>
  unfold tkc at h;simp only[Bool.and_eq_true] at h;obtain⟨h1,h2⟩:=h;cases hw:wOf s with
  | none=>rw[hw] at h2;cases h2
  | some w=>
   rw[hw] at h2;simp only[Bool.and_eq_true,Bool.not_eq_true',decide_eq_true_eq] at h2;obtain⟨⟨⟨w1,w2⟩,w3⟩,h2⟩:=h2;cases ha:A50 w with
   | none=>rw[ha] at h2;cases h2
   | some a=>
    rw[ha] at h2;have hp:Um s=some (91::w++[93]):=by
     unfold wOf at hw
     split at hw
     ·rename_i w' hw'
      split at hw
      ·rename_i hl;cases hw;rw[hw'];have:w'≠[]:=by intro q;rw[q] at hl;simp at hl
       obtain⟨z,hz⟩:∃z,w'=w'.dropLast++[z]:=⟨_,(List.dropLast_concat_getLast this).symm⟩;have hz2:z=93:=by rw[hz,List.getLast?_concat] at hl;exact Option.some.inj hl
       rw[hz2] at hz
       congr 1
       rw[List.cons_append,<- hz]
      ·cases hw
     ·cases hw
    have hs5:s.length<=60:=by
     unfold Un at h1;simp only[Bool.and_eq_true,decide_eq_true_eq] at h1;exact h1.2
    refine⟨.set w,a,⟨?_,trivial,?_,?_,fun p ts=>?_,?_,?_⟩,fun p hp=>by simpa using List.all_eq_true.mp h2 p hp⟩
    ·simp[Tok.ok,h1,hp]
    ·simp[Tok.item,hp,RT.s]
    ·simp only[RT.ok,Bool.and_eq_true,Bool.not_eq_true',decide_eq_true_eq];exact⟨⟨w1,by exact C67 w2⟩,w3⟩
    ·simp only[Eu,ha,Option.bind_some]
    ·simp[Tok.s];lia
    ·simp[RT.s];lia
inductive U4:List Tok->List RT->List Ek->Prop where
 | nil:U4 [] [] []
 | cons {t r a ts rs as}:TK t r a->U4 ts rs as->U4 (t::ts) (r::rs) (a::as)
namespace U4
theorem ok{ts rs as}(h:U4 ts rs as):ts.all Tok.ok=true:=by
 induction h with
 | nil=>rfl
 | cons a _ ih=>rw[List.all_cons,a.ok,ih];rfl
theorem rok{ts rs as}(h:U4 ts rs as):rs.all RT.ok=true:=by
 induction h with
 | nil=>rfl
 | cons a _ ih=>rw[List.all_cons,a.rok,ih];rfl
theorem items{ts rs as}(h:U4 ts rs as):ts.map Tok.item=(rs.map RT.s).map some:=by
 induction h with
 | nil=>rfl
 | cons a _ ih=>rw[List.map_cons,a.item,ih];rfl
theorem star{ts rs as}(h:U4 ts rs as){b:Bool}{tl:List Tok}(ht:ts≠[]∨b=false)(hs:Fw false tl=true):Fw b (ts++tl)=true:=by
 induction h generalizing b with
 | nil=>
  rcases ht with h|h
  ·exact absurd rfl h
  ·rw[h];exact hs
 | @cons t r a ts rs as g _ ih=>
  have n:=g.ns;cases t with
  | star=>exact n.elim
  | any=>exact ih (.inr rfl)
  | lit=>exact ih (.inr rfl)
  | set s=>exact ih (.inr rfl)
theorem read{ts rs as}(h:U4 ts rs as){k:List Nat}{bs:List Ek}{tl:List RT}:Eu (k,bs) (rs++tl)=Eu (k,bs++as) tl:=by
 induction h generalizing bs with
 | nil=>simp
 | cons g _ ih=>rw[List.cons_append,g.read,ih];simp
theorem len{ts rs as}(h:U4 ts rs as):rs.length=ts.length∧as.length=ts.length∧(ts.flatMap Tok.s).length<=62*ts.length∧(Fq rs).length<=62*ts.length:=by
 induction h with
 | nil=>exact⟨rfl,rfl,Nat.zero_le _,Nat.zero_le _⟩
 | cons g _ ih=>
  obtain⟨h1,h2,h3,h4⟩:=ih;have:=g.len;unfold Fq at h4 ⊢;simp only[List.length_cons,List.flatMap_cons,List.length_append];exact C68 h1 h2 h3 h4 this
end U4
theorem Ig{a b:List RT}:Fq (a++b)=Fq a++Fq b:=by unfold Fq;rw[List.flatMap_append]
theorem Jl{rs:List RT}:(rs.map RT.s).flatten=Fq rs:=by unfold Fq;rw[List.flatMap_def]
section
variable {H:Hp}
theorem Ps{toks:List Tok}{s0:List (List Nat)}{segs:List (List (List Nat))}{rts:List RT}{out:List E0}(hok:toks.all Tok.ok=true)(hst:Fw false toks=true)(hp:(toks.flatMap Tok.s).length<=990)(hl:toks.length<990)
  (hit:toks.map Tok.item=s0.map some++segs.flatMap fun seg=>none::seg.map some) (hso:Gb segs=true) (hl2:segs.length<=1000) (hseg:∀seg∈segs,seg.flatten.length<=900)
  (hr:(s0++E9 segs).flatten=Fq rts) (hrok:rts.all RT.ok=true) (hrl:(Fq rts).length<=900) (hrl2:rts.length<=900) (hm:Eu (Dn,[]) rts=some out) (hk:Ie out=true) (ho:out≠[]) (hol:out.length<=1000)
  {Q:MV->Hp->Prop} (hQ:∀r H',H<+:H'->RepP H' r out->Q r H'):
  Wp (B7 T0 [sl (toks.flatMap Tok.s)]) H fun a H₁=>Wp (B5 T0 [a]) H₁ Q:=by
 have h1:s0.flatten.length<=900∧(E9 segs).flatten.length<=900:=by
  have:=congrArg List.length hr;rw[List.flatten_append,List.length_append] at this;exact C69 hrl this
 refine Gf (Sc hok hst hp hl hit hso (C7a h1) (fun s h=>by have:=hseg s h;exact C7b this) hl2 (C7c h1)) fun H₁ p=>?_;rw[hr];refine Wp.mono (A8a hrok hrl hrl2 hm hk ho hol) ?_;rintro r HP ⟨p2,hp2⟩;exact hQ r HP (p.trans p2) hp2
theorem Y0{toks:List Tok}{rs:List RT}{as:List Ek}(g:U4 toks rs as)(hl:toks.length<=10){Q:MV->Hp->Prop}(hQ:∀r H',H<+:H'->RepP H' r [(Dn,as)]->Q r H'):
  Wp (B7 T0 [sl (toks.flatMap Tok.s)]) H fun a H₁=>Wp (B5 T0 [a]) H₁ Q:=by
 obtain⟨l1,l2,l3,l4⟩:=g.len;refine Ps (s0:=rs.map RT.s) (segs:=[]) (rts:=rs) g.ok ?_ (C7d hl l3) (C7e hl) (by rw[g.items];simp) rfl (by simp) (fun zz h=>nomatch h) (by rw[E9,List.append_nil,Jl]) g.rok (C7f hl l4) (C7g hl l1) ?_ (by simp[Ie]) (by simp) (by simp) hQ
 ·have:=g.star (b:=false) (tl:=[]) (.inr rfl) rfl;simpa using this
 ·have:=g.read (k:=Dn) (bs:=[]) (tl:=[]);simpa [Eu] using this
end
structure QOk(q:Qn):Prop where
 kinds:∃r,r<255∧q.kinds=Gy r
 keys:KeysOk q.rights
 few:q.rights.length<=3
 dress:q.dress<4
 form:q.form<4
theorem Up{es:List (Int × Int)}{i w:Int}(h:Dp es i=some w):(i,w)∈es:=by
 unfold Dp at h;cases e:es.find? fun e=>e.1=i with
 | none=>rw[e] at h;cases h
 | some p=>
  rw[e] at h;have h1:=List.mem_of_find?_eq_some e;have h2:=List.find?_some e;simp only[decide_eq_true_eq] at h2;cases h;rw[<- h2];exact h1
theorem KeysOk.o3{es:List (Int × Int)}(h:KeysOk es)(i:Int):∃a,a<3∧Dp es i=o3 a:=by
 cases e:Dp es i with
 | none=>exact⟨0,by exact B6z,rfl⟩
 | some w=>
  obtain⟨_,_,q⟩:=h.2 _ (Up e);rcases q with q|q
  ·exact⟨1,by exact B60,by rw[show w=0 from q];rfl⟩
  ·exact⟨2,by exact B61,by rw[show w=1 from q];rfl⟩
def Jt(q:Qn):List Tok:=[.lit,Cl (Gq q 0) h16 q.dress,Cl (Gq q 1) h16 q.dress,.lit,Cl (Gq q 2) h16 q.dress,Cl (Gq q 3) h16 q.dress]
def A8g(q:Qn):List Tok:=[Cl q.kinds k8 q.dress,Cl (N0 q 8 45 114) [45,114] q.dress,Cl (N0 q 7 45 119) [45,119] q.dress,Cl ((T9 q 6 11).map (Hw 83 115)) [45,83,115,120] q.dress,
 Cl (N0 q 5 45 114) [45,114] q.dress,Cl (N0 q 4 45 119) [45,119] q.dress,Cl ((T9 q 3 10).map (Hw 83 115)) [45,83,115,120] q.dress,
 Cl (N0 q 2 45 114) [45,114] q.dress,Cl (N0 q 1 45 119) [45,119] q.dress,Cl ((T9 q 0 9).map (Hw 84 116)) [45,84,116,120] q.dress]
theorem Jm{q:Qn}:(Jt q).flatMap Tok.s=Hg q:=by
 unfold Jt Hg;simp only[List.flatMap_cons,List.flatMap_nil,Uo,show Tok.lit.s=[61] from rfl,List.append_assoc,List.nil_append,List.append_nil]
theorem B54{q:Qn}:(A8g q).flatMap Tok.s=A0l q:=by
 unfold A8g A0l;simp only[List.flatMap_cons,List.flatMap_nil,Uo,List.append_assoc,List.append_nil]
theorem D10{q:Qn}{r:Nat}(h:q.kinds=Gy r):Gq q 0=B52 r:=by
 unfold Gq B52;simp only[h,if_true]
theorem A9z{q:Qn}{k d:Nat}:okD q k d=okW [M3 q k 0,M3 q k 1,M3 q k 2,M3 q k 3] d:=by
 unfold okD okW;rw[show List.range 4=[0,1,2,3] from rfl];rfl
theorem D11{q:Qn}{k:Nat}(hk:k≠0):Gq q k=B53 [M3 q k 0,M3 q k 1,M3 q k 2,M3 q k 3]:=by
 unfold Gq B53;simp only[hk,if_false,A9z]
theorem A8h{q:Qn}{i:Int}{a:Nat}:rg q i a=rgO (Dp q.rights i) a:=rfl
theorem D12{q:Qn}{i:Int}{x y:Nat}:N0 q i x y=sgO (Dp q.rights i) x y:=rfl
theorem D13{q:Qn}{i j:Int}:T9 q i j=prO (Dp q.rights i) (Dp q.rights j):=rfl
theorem QOk.fig0{q:Qn}(h:QOk q):∃r a,TK (Cl (Gq q 0) h16 q.dress) r a∧∀d,d<16->Gz a (I2 d)=q.kinds.contains (kch.getD d 0):=by
 obtain⟨r,hr,e⟩:=h.kinds;kcf_m;obtain⟨x,a,h1,h2⟩:=TK.of (ck1 r hr q.dress h.dress);refine hGx ?_;rw[D10 e];exact⟨x,a,h1,fun d hd=>by rw[e];exact h2 _ (List.mem_map.mpr ⟨d,List.mem_range.mpr hd,rfl⟩)⟩
theorem QOk.figk{q:Qn}(h:QOk q){k:Nat}(hk:k≠0):∃r a,TK (Cl (Gq q k) h16 q.dress) r a∧∀d,d<16->Gz a (I2 d)=okD q k d:=by
 obtain⟨a0,l0,e0⟩:=h.keys.o3 (12-4*(k:Int)+((0:Nat):Int));obtain⟨a1,l1,e1⟩:=h.keys.o3 (12-4*(k:Int)+((1:Nat):Int));obtain⟨a2,l2,e2⟩:=h.keys.o3 (12-4*(k:Int)+((2:Nat):Int));obtain⟨a3,l3,e3⟩:=h.keys.o3 (12-4*(k:Int)+((3:Nat):Int));kcf_m;obtain⟨x,a,h1,h2⟩:=TK.of (ck2 a0 l0 a1 l1 a2 l2 a3 l3 q.dress h.dress);refine hGx ?_;rw[D11 hk];simp only[A9z];unfold M3;rw[e0,e1,e2,e3];exact⟨x,a,h1,fun d hd=>h2 _ (List.mem_map.mpr ⟨d,List.mem_range.mpr hd,rfl⟩)⟩
theorem QOk.col0{q:Qn}(h:QOk q):∃r a,TK (Cl q.kinds k8 q.dress) r a∧∀c∈kch,Gz a c=q.kinds.contains c:=by
 obtain⟨r,hr,e⟩:=h.kinds;kcf_m;obtain⟨x,a,h1,h2⟩:=TK.of (ck3 r hr q.dress h.dress);refine hGx ?_;rw[e];exact⟨x,a,h1,fun c hc=>h2 _ (List.mem_map.mpr ⟨c,hc,rfl⟩)⟩
theorem QOk.colr{q:Qn}(h:QOk q)(i:Int):∃r a,TK (Cl (N0 q i 45 114) [45,114] q.dress) r a∧∀b,b<2->Gz a (pk 45 114 b)=rg q i b:=by
 obtain⟨a0,l0,e0⟩:=h.keys.o3 i;kcf_m;obtain⟨x,a,h1,h2⟩:=TK.of (ck4 a0 l0 q.dress h.dress);refine hGx ?_;rw[D12];simp only[A8h];rw[e0];refine⟨x,a,h1,fun b hb=>?_⟩;rcases b with _|_|b
 ·exact h2 (45,_) (.head _)
 ·exact h2 (114,_) (.tail _ (.head _))
 ·exact(zl9 hb).elim
theorem QOk.colw{q:Qn}(h:QOk q)(i:Int):∃r a,TK (Cl (N0 q i 45 119) [45,119] q.dress) r a∧∀b,b<2->Gz a (pk 45 119 b)=rg q i b:=by
 obtain⟨a0,l0,e0⟩:=h.keys.o3 i;kcf_m;obtain⟨x,a,h1,h2⟩:=TK.of (ck5 a0 l0 q.dress h.dress);refine hGx ?_;rw[D12];simp only[A8h];rw[e0];refine⟨x,a,h1,fun b hb=>?_⟩;rcases b with _|_|b
 ·exact h2 (45,_) (.head _)
 ·exact h2 (119,_) (.tail _ (.head _))
 ·exact(zl9 hb).elim
theorem Uq{b c:Nat}(hb:b<2)(hc:c<2):(b,c)∈[(0,0),(0,1),(1,0),(1,1)]:=by
 rcases b with _|_|b <;> rcases c with _|_|c <;> first |(exfalso;(first |exact zl9 hc|exact zl9 hb))|simp
theorem QOk.cols{q:Qn}(h:QOk q)(i j:Int):∃r a,TK (Cl ((T9 q i j).map (Hw 83 115)) [45,83,115,120] q.dress) r a∧∀b c,b<2->c<2->Gz a (U0 45 120 83 115 c b)=(rg q i b&&rg q j c):=by
 obtain⟨a0,l0,e0⟩:=h.keys.o3 i;obtain⟨a1,l1,e1⟩:=h.keys.o3 j;kcf_m;obtain⟨x,a,h1,h2⟩:=TK.of (ck6 a0 l0 a1 l1 q.dress h.dress);refine hGx ?_;rw[D13];simp only[A8h];rw[e0,e1];exact⟨x,a,h1,fun b c hb hc=>h2 (Hw 83 115 (b,c),_) (List.mem_map.mpr ⟨(b,c),Uq hb hc,rfl⟩)⟩
theorem QOk.colt{q:Qn}(h:QOk q)(i j:Int):∃r a,TK (Cl ((T9 q i j).map (Hw 84 116)) [45,84,116,120] q.dress) r a∧∀b c,b<2->c<2->Gz a (U0 45 120 84 116 c b)=(rg q i b&&rg q j c):=by
 obtain⟨a0,l0,e0⟩:=h.keys.o3 i;obtain⟨a1,l1,e1⟩:=h.keys.o3 j;kcf_m;obtain⟨x,a,h1,h2⟩:=TK.of (ck7 a0 l0 a1 l1 q.dress h.dress);refine hGx ?_;rw[D13];simp only[A8h];rw[e0,e1];exact⟨x,a,h1,fun b c hb hc=>h2 (Hw 84 116 (b,c),_) (List.mem_map.mpr ⟨(b,c),Uq hb hc,rfl⟩)⟩
theorem Xc{q:Qn}{m:Nat}(hk:KeysOk q.rights):(q.rights.all fun p=>decide ((m:Int)/2 ^ p.1.toNat%2=p.2))=(List.range 12).all fun i=>rg q (i:Int) (m/2 ^ i%2):=by
 rw[Bool.eq_iff_iff,List.all_eq_true,List.all_eq_true];refine⟨fun h i hi=>?_,fun h p hp=>?_⟩
 ·unfold rg;cases e:Dp q.rights (i:Int) with
  | none=>simp
  | some w=>
   have:=of_decide_eq_true (h _ (Up e));rw[decide_eq_true_eq];simp only[Int.toNat_natCast] at this;rw[Option.getD_some,<- this];simp
 ·obtain⟨g1,g2,g3⟩:=hk.2 p hp;have:=h p.1.toNat (List.mem_range.mpr (C7h g2));unfold rg at this;rw[Int.toNat_of_nonneg g1,M1 hk.1 p hp,decide_eq_true_eq,Option.getD_some] at this;rw[decide_eq_true_eq,this];simp
theorem Ur{q:Qn}{m:Nat}(hk:KeysOk q.rights):Dm q m=(q.kinds.contains (kc m)&&(rg q 0 (m%2)&&(rg q 1 (m/2%2)&&(rg q 2 (m/4%2)&&(rg q 3 (m/8%2)&&(rg q 4 (m/16%2)&&(rg q 5 (m/32%2)&&(rg q 6 (m/64%2)&&(rg q 7 (m/128%2)&&
  (rg q 8 (m/256%2)&&(rg q 9 (m/512%2)&&(rg q 10 (m/1024%2)&&rg q 11 (m/2048%2))))))))))))):=by
 unfold Dm;rw[Xc hk,show List.range 12=[0,1,2,3,4,5,6,7,8,9,10,11] from rfl];simp only[List.all_cons,List.all_nil,Bool.and_true];simp
theorem Xd{q:Qn}{k d:Nat}:okD q k d=(rg q (12-4*(k:Int)) (d%2)&&(rg q (12-4*(k:Int)+1) (d/2%2)&&(rg q (12-4*(k:Int)+2) (d/4%2)&&rg q (12-4*(k:Int)+3) (d/8%2)))):=by
 have key:okD q k d=(List.range 4).all fun b=>rg q (12-4*(k:Int)+(b:Int)) (d/2 ^ b%2):=by
  unfold okD
  congr 1
  funext b
  unfold rg M3;cases Dp q.rights (12-4*(k:Int)+(b:Int)) with
  | none=>simp
  | some w=>
   show decide ((d:Int)/2 ^ b%2=w)=decide (w=((d/2 ^ b%2:Nat):Int));rw[Bool.eq_iff_iff,decide_eq_true_eq,decide_eq_true_eq];have:((d/2 ^ b%2:Nat):Int)=(d:Int)/2 ^ b%2:=by simp
   rw[this];exact eq_comm
 rw[key,show List.range 4=[0,1,2,3] from rfl];simp only[List.all_cons,List.all_nil,Bool.and_true];simp
theorem A6b{hi lo j:Nat}(hj:j<8):(hi*256+lo)/2 ^ j%2=lo/2 ^ j%2:=by
 have e:hi*256=2*(hi*2 ^ (7-j))*2 ^ j:=by rw[show 256=2*2 ^ (7-j)*2 ^ j by rw[Nat.mul_assoc,<- Nat.pow_add,Nat.sub_add_cancel (Nat.le_of_lt_succ hj)]];simp only[Nat.mul_assoc,Nat.mul_left_comm]
 rw[e,Nat.add_comm,Nat.add_mul_div_right _ _ (Nat.two_pow_pos j),Nat.add_mul_mod_self_left]
theorem B55{hi lo j:Nat}(hl:lo<256):(hi*256+lo)/2 ^ (8+j)%2=hi/2 ^ j%2:=by
 rw[Nat.pow_add,<- Nat.div_div_eq_div_mul,show 2 ^ 8=256 from rfl,Nat.add_comm,Nat.add_mul_div_right _ _ (by decide),Nat.div_eq_of_lt hl,Nat.zero_add]
theorem A8i:∀d<256,(List.range 4).all (fun j=>d/2 ^ j%2==d%16/2 ^ j%2&&d/2 ^ (4+j)%2==d/16/2 ^ j%2)=true:=by kd_p
theorem A6c{d j:Nat}(h:d<256)(hj:j<4):d/2 ^ j%2=d%16/2 ^ j%2∧d/2 ^ (4+j)%2=d/16/2 ^ j%2:=by
 have:=List.all_eq_true.mp (A8i d h) j (List.mem_range.mpr hj)
 rwa [Bool.and_eq_true,beq_iff_eq,beq_iff_eq] at this
theorem Fr{hi lo:Nat}(hh:hi<256)(hl:lo<256):∀j<4,(hi*256+lo)/2 ^ j%2=lo%16/2 ^ j%2∧(hi*256+lo)/2 ^ (4+j)%2=lo/16/2 ^ j%2∧(hi*256+lo)/2 ^ (8+j)%2=hi%16/2 ^ j%2:=fun j hj=>
 ⟨(A6b (C7i hj)).trans (A6c hl hj).1,(A6b (C7j hj)).trans (A6c hl hj).2,(B55 hl).trans (A6c hh hj).1⟩
theorem QOk.fig{q:Qn}(h:QOk q):∃rs as as',U4 (Jt q) rs as∧as=(false,[61])::as'∧as.length=6∧(Fq rs).length<=370∧∀hi lo rest,hi<256->lo<256->Cf as (Fv hi++(Fv lo++rest))=Dm q (hi*256+lo):=by
 kcf_m;obtain⟨r0,a0,t0,e0⟩:=h.fig0;refine hGx ?_;kcf_m;obtain⟨r1,a1,t1,e1⟩:=h.figk (k:=1) (by decide);refine hGx ?_;kcf_m;obtain⟨r2,a2,t2,e2⟩:=h.figk (k:=2) (by decide);refine hGx ?_;kcf_m;obtain⟨r3,a3,t3,e3⟩:=h.figk (k:=3) (by decide);refine hGx ?_;refine⟨_,_,_,.cons .lit (.cons t0 (.cons t1 (.cons .lit (.cons t2 (.cons t3 .nil))))),rfl,rfl,?_,fun hi lo rest hh hl=>?_⟩
 ·have:=t0.len;have:=t1.len;have:=t2.len;have:=t3.len;simp only[Fq,List.flatMap_cons,List.flatMap_nil,List.length_append,List.length_nil,show (RT.lit 61).s.length=1 from rfl];exact C7k ‹_› ‹_› ‹_› this
 have:Cf [(false,[61]),a0,a1,(false,[61]),a2,a3] (Fv hi++(Fv lo++rest))=(Gz a0 (I2 (hi/16))&&(Gz a1 (I2 (hi%16))&&(Gz a2 (I2 (lo/16))&&Gz a3 (I2 (lo%16))))):=by
  simp[Cf,Fv,Gz]
 rw[this,e0 _ (zl1 hh),e1 _ zl2,e2 _ (zl1 hl),e3 _ zl2,Xd,Xd,Xd,Ur h.keys];have hm:kc (hi*256+lo)=kch.getD (hi/16) 0:=by
  unfold kc
  congr 1
  exact C7l hl
 have b0:(hi*256+lo)%2=lo%16%2:=by have:=(Fr hh hl 0 (by decide)).1;rwa [Nat.pow_zero,Nat.div_one,Nat.div_one] at this
 have b1:(hi*256+lo)/2%2=lo%16/2%2:=(Fr hh hl 1 (by decide)).1;have b2:(hi*256+lo)/4%2=lo%16/4%2:=(Fr hh hl 2 (by decide)).1;have b3:(hi*256+lo)/8%2=lo%16/8%2:=(Fr hh hl 3 (by decide)).1;have b4:(hi*256+lo)/16%2=lo/16%2:=by have:=(Fr hh hl 0 (by decide)).2.1;rwa [Nat.pow_zero,Nat.div_one] at this
 have b5:(hi*256+lo)/32%2=lo/16/2%2:=(Fr hh hl 1 (by decide)).2.1;have b6:(hi*256+lo)/64%2=lo/16/4%2:=(Fr hh hl 2 (by decide)).2.1;have b7:(hi*256+lo)/128%2=lo/16/8%2:=(Fr hh hl 3 (by decide)).2.1;have b8:(hi*256+lo)/256%2=hi%16%2:=by have:=(Fr hh hl 0 (by decide)).2.2;rwa [Nat.pow_zero,Nat.div_one] at this
 have b9:(hi*256+lo)/512%2=hi%16/2%2:=(Fr hh hl 1 (by decide)).2.2;have b10:(hi*256+lo)/1024%2=hi%16/4%2:=(Fr hh hl 2 (by decide)).2.2;have b11:(hi*256+lo)/2048%2=hi%16/8%2:=(Fr hh hl 3 (by decide)).2.2;rw[hm,b0,b1,b2,b3,b4,b5,b6,b7,b8,b9,b10,b11];simp only[show (12-4*((1:Nat):Int))=8 by decide,show (12-4*((2:Nat):Int))=4 by decide,show (12-4*((3:Nat):Int))=0 by decide,show (8+1:Int)=9 by decide,show (8+2:Int)=10 by decide,show (8+3:Int)=11 by decide,
  show (4+1:Int)=5 by decide,show (4+2:Int)=6 by decide,show (4+3:Int)=7 by decide,show (0+1:Int)=1 by decide,show (0+2:Int)=2 by decide,show (0+3:Int)=3 by decide]
 ac_rfl
theorem A6d{m:Nat}(hm:m<65536):kc m∈kch:=by
 unfold kc;rw[List.getD_eq_getElem?_getD,List.getElem?_eq_getElem (by simp[kch];exact A6v hm),Option.getD_some];exact List.getElem_mem _
theorem QOk.col{q:Qn}(h:QOk q):∃rs as,U4 (A8g q) rs as∧as.length=10∧∀m,m<65536->Cf as (Eb m)=Dm q m:=by
 kcf_m;obtain⟨r0,a0,t0,e0⟩:=h.col0;refine hGx ?_;kcf_m;obtain⟨r1,a1,t1,e1⟩:=h.colr 8;refine hGx ?_;kcf_m;obtain⟨r2,a2,t2,e2⟩:=h.colw 7;refine hGx ?_;kcf_m;obtain⟨r3,a3,t3,e3⟩:=h.cols 6 11;refine hGx ?_;kcf_m;obtain⟨r4,a4,t4,e4⟩:=h.colr 5;refine hGx ?_;kcf_m;obtain⟨r5,a5,t5,e5⟩:=h.colw 4;refine hGx ?_;kcf_m;obtain⟨r6,a6,t6,e6⟩:=h.cols 3 10;refine hGx ?_;kcf_m;obtain⟨r7,a7,t7,e7⟩:=h.colr 2;refine hGx ?_;kcf_m;obtain⟨r8,a8,t8,e8⟩:=h.colw 1;refine hGx ?_;kcf_m;obtain⟨r9,a9,t9,e9⟩:=h.colt 0 9;refine hGx ?_;refine⟨_,_,.cons t0 (.cons t1 (.cons t2 (.cons t3 (.cons t4 (.cons t5 (.cons t6 (.cons t7 (.cons t8 (.cons t9 .nil))))))))),rfl,fun m hm=>?_⟩;have:Cf [a0,a1,a2,a3,a4,a5,a6,a7,a8,a9] (Eb m)=(Gz a0 (kc m)&&(Gz a1 (pk 45 114 (m/256%2))&&(Gz a2 (pk 45 119 (m/128%2))&&(Gz a3 (U0 45 120 83 115 (m/2048%2) (m/64%2))&&(Gz a4 (pk 45 114 (m/32%2))&&(Gz a5 (pk 45 119 (m/16%2))&&
   (Gz a6 (U0 45 120 83 115 (m/1024%2) (m/8%2))&&(Gz a7 (pk 45 114 (m/4%2))&&(Gz a8 (pk 45 119 (m/2%2))&&Gz a9 (U0 45 120 84 116 (m/512%2) (m%2))))))))))):=by
  simp[Cf,Eb,Gz]
 rw[this,e0 _ (A6d hm),e1 _ C7m,e2 _ C7n,e3 _ _ C7o C7p,e4 _ C7q,e5 _ C7r,e6 _ _ C7s C7t,e7 _ C7u,e8 _ C7v,e9 _ _ C7w C7x,Ur h.keys]
 ac_rfl
theorem A0v{k:List Nat}{as:List Ek}{name:List Nat}(h1:k≠E5)(h2:k≠Fh)(h:as.length=name.length):Hu [(k,as)] name 0=Cf as name:=by
 have hp:Dz (k,as) name 0=0:=by
  unfold Dz;rw[if_neg h1,if_neg (fun q=>h2 q.1)]
 show (Cf as (name.drop (Dz (k,as) name 0))&&(Dz (k,as) name 0+as.length==name.length))=_;rw[hp,h];simp
def Y1(f:Nat->Bool)(L N:Nat):Nat->Nat->Nat
 | 0,a=>a
 | n+1,a=>if decide (a+L<=N)&&!f a then Y1 f L N n (a+1) else a
noncomputable abbrev PF:=List Nat × Nat × (Nat->Bool)
def Sd(p:PF)(N a:Nat):Nat:=if p.1=E5 then Y1 p.2.2 p.2.1 N (N+2-a) a else if p.1=Fh∧a+p.2.1<=N then N-p.2.1 else a
def M6:List PF->Nat->Nat->Bool
 | [],N,a=>a==N
 | p::ps,N,a=>p.2.2 (Sd p N a)&&M6 ps N (Sd p N a+p.2.1)
theorem A6e{as:List Ek}{name:List Nat}:∀n a,L6 as name n a=Y1 (fun x=>Cf as (name.drop x)) as.length name.length n a
 | 0,_=>rfl
 | n+1,a=>by unfold L6 Y1;rw[A6e n (a+1)]
theorem A8j{p:E0}{name:List Nat}{a:Nat}:Dz p name a=Sd (p.1,p.2.length,fun x=>Cf p.2 (name.drop x)) name.length a:=by
 unfold Dz Sd;rw[A6e]
theorem A8k{name:List Nat}:∀(ps:List E0) (a:Nat),Hu ps name a=M6 (ps.map fun p=>(p.1,p.2.length,fun x=>Cf p.2 (name.drop x))) name.length a:=by
 intro rest__
 induction rest__ with
 | nil=>
  intro _;exact rfl
 | cons p ps ih=>
  intro a;show (_&&_)=(_&&_);rw[ih,A8j]
noncomputable def fx(h:List Bool)(x:Nat):Bool:=decide (x%3=0)&&h.getD (x/3) false
noncomputable def pl(h:List Bool):List Nat:=(List.range 5).filter fun p=>h.getD p false
def A0w(form:Nat)(f g:Nat->Bool):List PF:=
 if form=1 then [(Dn,6,f),(Fh,6,g)] else if form=2 then [(Dn,0,fun zz=>true),(E5,6,f),(Dn,0,fun zz=>true),(E5,6,g),(Dn,0,fun zz=>true),(Fh,0,fun zz=>true)]
 else if form=3 then [(Dn,0,fun zz=>true),(Fh,6,f)] else [(Dn,0,fun zz=>true),(E5,6,f),(Dn,0,fun zz=>true),(Fh,0,fun zz=>true)]
theorem ck8:∀a b c d e:Bool,M6 (A0w 0 (fx [a,b,c,d,e]) (fx [])) 18 0=M4 0 (pl [a,b,c,d,e]) []∧M6 (A0w 3 (fx [a,b,c,d,e]) (fx [])) 18 0=M4 3 (pl [a,b,c,d,e]) []:=by kd_p
theorem ck9:∀a b c d e a' b' c' d' e':Bool,M6 (A0w 1 (fx [a,b,c,d,e]) (fx [a',b',c',d',e'])) 18 0=M4 1 (pl [a,b,c,d,e]) (pl [a',b',c',d',e'])∧
  M6 (A0w 2 (fx [a,b,c,d,e]) (fx [a',b',c',d',e'])) 18 0=M4 2 (pl [a,b,c,d,e]) (pl [a',b',c',d',e']):=by kd_p
def Gj(form:Nat)(as bs:List Ek):List E0:=
 if form=1 then [(Dn,as),(Fh,bs)] else if form=2 then [(Dn,[]),(E5,as),(Dn,[]),(E5,bs),(Dn,[]),(Fh,[])]
 else if form=3 then [(Dn,[]),(Fh,as)] else [(Dn,[]),(E5,as),(Dn,[]),(Fh,[])]
theorem A8l{n:Nat}(h:n<16):I2 n≠61:=by unfold I2;split <;> (first |exact C7y ‹_›|exact C7z ‹_›)
def hs(q:Qn)(o:List Nat):List Bool:=(List.range 5).map fun p=>Dm q (o.getD p 0*256+o.getD (p+1) 0)
theorem Y2{q:Qn}{as as':List Ek}{o0 o1 o2 o3 o4 o5:Nat}(h:as=(false,[61])::as')(hl:as.length=6)(hf:∀hi lo rest,hi<256->lo<256->Cf as (Fv hi++(Fv lo++rest))=Dm q (hi*256+lo))
  (l0:o0<256) (l1:o1<256) (l2:o2<256) (l3:o3<256) (l4:o4<256) (l5:o5<256):
  (fun x=>Cf as (([o0,o1,o2,o3,o4,o5].flatMap Fv).drop x))=fx (hs q [o0,o1,o2,o3,o4,o5]):=by
 have no:∀n rest,n<16->Cf as (I2 n::rest)=false:=fun n rest hn=>by
  rw[h];have:=A8l hn;simp[Cf,this]
 have yes0:=hf o0 o1 (Fv o2++(Fv o3++(Fv o4++Fv o5))) l0 l1;have yes1:=hf o1 o2 (Fv o3++(Fv o4++Fv o5)) l1 l2;have yes2:=hf o2 o3 (Fv o4++Fv o5) l2 l3;have yes3:=hf o3 o4 (Fv o5) l3 l4;have yes4:=hf o4 o5 [] l4 l5;have hw:[o0,o1,o2,o3,o4,o5].flatMap Fv=Fv o0++(Fv o1++(Fv o2++(Fv o3++(Fv o4++Fv o5)))):=by simp
 rw[hw]
 funext x
 match x with
 | 0=>exact yes0
 | 1=>exact no _ _ (zl1 l0)
 | 2=>exact no _ _ zl2
 | 3=>exact yes1
 | 4=>exact no _ _ (zl1 l1)
 | 5=>exact no _ _ zl2
 | 6=>exact yes2
 | 7=>exact no _ _ (zl1 l2)
 | 8=>exact no _ _ zl2
 | 9=>exact yes3
 | 10=>exact no _ _ (zl1 l3)
 | 11=>exact no _ _ zl2
 | 12=>exact yes4
 | 13=>exact no _ _ (zl1 l4)
 | 14=>exact no _ _ zl2
 | n+15=>
  rw[Ib (by rw[hl];simp[Fv];exact C70)];unfold fx;rw[List.getD_eq_getElem?_getD,List.getElem?_eq_none (by simp[hs];exact C71)];simp
theorem A0x{form:Nat}{qa qb:Qn}{as as' bs bs':List Ek}{o0 o1 o2 o3 o4 o5:Nat}(hform:form<4)(h:as=(false,[61])::as')(hl:as.length=6)(hf:∀hi lo rest,hi<256->lo<256->Cf as (Fv hi++(Fv lo++rest))=Dm qa (hi*256+lo))
  (h':bs=(false,[61])::bs') (hl':bs.length=6) (hf':∀hi lo rest,hi<256->lo<256->Cf bs (Fv hi++(Fv lo++rest))=Dm qb (hi*256+lo))
  (l0:o0<256) (l1:o1<256) (l2:o2<256) (l3:o3<256) (l4:o4<256) (l5:o5<256):
  Hu (Gj form as bs) ([o0,o1,o2,o3,o4,o5].flatMap Fv) 0=M4 form (pl (hs qa [o0,o1,o2,o3,o4,o5])) (pl (hs qb [o0,o1,o2,o3,o4,o5])):=by
 have e1:=Y2 h hl hf l0 l1 l2 l3 l4 l5;have e2:=Y2 h' hl' hf' l0 l1 l2 l3 l4 l5;have hN:([o0,o1,o2,o3,o4,o5].flatMap Fv).length=18:=rfl;have key:(Gj form as bs).map (fun p=>(p.1,p.2.length,fun x=>Cf p.2 (([o0,o1,o2,o3,o4,o5].flatMap Fv).drop x)))=A0w form (fx (hs qa [o0,o1,o2,o3,o4,o5])) (fx (hs qb [o0,o1,o2,o3,o4,o5])):=by
  rw[<- e1,<- e2];unfold Gj A0w;have z:(fun x=>Cf [] (([o0,o1,o2,o3,o4,o5].flatMap Fv).drop x))=fun zz=>true:=by funext x;cases ([o0,o1,o2,o3,o4,o5].flatMap Fv).drop x <;> rfl
  split
  ·simp only[List.map_cons,List.map_nil,hl,hl']
  ·split
   ·simp only[List.map_cons,List.map_nil,hl,hl',z,List.length_nil]
   ·split
    ·simp only[List.map_cons,List.map_nil,hl,hl',z,List.length_nil]
    ·simp only[List.map_cons,List.map_nil,hl,hl',z,List.length_nil]
 rw[A8k,key,hN];obtain⟨a,b,c,d,e,ea⟩:∃a b c d e,hs qa [o0,o1,o2,o3,o4,o5]=[a,b,c,d,e]:=⟨_,_,_,_,_,rfl⟩;obtain⟨a',b',c',d',e',eb⟩:∃a b c d e,hs qb [o0,o1,o2,o3,o4,o5]=[a,b,c,d,e]:=⟨_,_,_,_,_,rfl⟩;rw[ea,eb]
 match form,hform with
 | 0,_=>exact(ck8 a b c d e).1
 | 1,_=>exact(ck9 a b c d e a' b' c' d' e').1
 | 2,_=>exact(ck9 a b c d e a' b' c' d' e').2
 | 3,_=>exact(ck8 a b c d e).2
 | n+4,h=>exact(B0m h).elim
theorem Gs{r:RT}{rs:List RT}:Fq (r::rs)=r.s++Fq rs:=rfl
theorem Ih:Fq []=[]:=rfl
theorem M7{a b:List (List Nat)}{l:List (List (List Nat))}:E9 (a::b::l)=([40,63,62,46,42,63]++a.flatten++[41])::E9 (b::l):=rfl
noncomputable def No(form:Nat)(a b:List Nat):List Nat:=if form=1 then a++[42]++b else if form=2 then [42]++a++[42]++b++[42] else if form=3 then [42]++a else [42]++a++[42]
theorem L9{q:Qn}:(Hg q).length<=200:=by
 have h0:=Ez (signs:=Gq q 0) (every:=h16) (dress:=q.dress);have h1:=Ez (signs:=Gq q 1) (every:=h16) (dress:=q.dress);have h2:=Ez (signs:=Gq q 2) (every:=h16) (dress:=q.dress);have h3:=Ez (signs:=Gq q 3) (every:=h16) (dress:=q.dress);unfold Hg;simp only[h16,List.length_append,List.length_cons,List.length_nil] at *;exact C72 h0 h1 h2 h3
section
variable {H:Hp}
theorem A8m{form:Nat}{qa qb:Qn}{rs ts:List RT}{as bs:List Ek}(hform:form<4)(ga:U4 (Jt qa) rs as)(gb:U4 (Jt qb) ts bs)(la:(Fq rs).length<=370)(lb:(Fq ts).length<=370){Q:MV->Hp->Prop}(hQ:∀r H',H<+:H'->RepP H' r (Gj form as bs)->Q r H'):
  Wp (B7 T0 [sl (No form (Hg qa) (Hg qb))]) H fun a H₁=>Wp (B5 T0 [a]) H₁ Q:=by
 have fa:=L9 (q:=qa);have fb:=L9 (q:=qb);obtain⟨a1,a2,_,_⟩:=ga.len;obtain⟨b1,b2,_,_⟩:=gb.len;have na:(Jt qa).length=6:=rfl;have nb:(Jt qb).length=6:=rfl;have ha:(rs.map RT.s).flatten.length<=370:=by rw[Jl];exact la
 have hb:(ts.map RT.s).flatten.length<=370:=by rw[Jl];exact lb
 have nz:(rs.map RT.s).isEmpty=false:=by cases rs with
  | nil=>simp at a1;exact(A89 na a1).elim
  | cons=>rfl
 have nz':(ts.map RT.s).isEmpty=false:=by cases ts with
  | nil=>simp at b1;exact(A89 nb b1).elim
  | cons=>rfl
 have nn:ts.map RT.s≠[]:=fun q=>by rw[q] at nz';cases nz'
 have nn':rs.map RT.s≠[]:=fun q=>by rw[q] at nz;cases nz
 have f0:(Jt qa)≠[]:=by simp[Jt]
 have f1:(Jt qb)≠[]:=by simp[Jt]
 match form,hform with
 | 0,_=>
  rw[show No 0 (Hg qa) (Hg qb)=(.star::(Jt qa++[.star]):List Tok).flatMap Tok.s by simp[No,<- Jm,Tok.s]];refine Ps (s0:=[]) (segs:=[rs.map RT.s,[]]) (rts:=.held::(rs++[.close,.free])) (out:=Gj 0 as bs) ?_ ?_ ?_ ?_ ?_ ?_ ?_ ?_ ?_ ?_ ?_ ?_ ?_ ?_ ?_ ?_ hQ
  ·simp[ga.ok,Tok.ok]
  ·show Fw true _=true;exact ga.star (.inl f0) rfl
  ·simp[Jm,Tok.s];exact C73 fa
  ·simp;exact C74 na
  ·simp[ga.items,Tok.item]
  ·simp[Gb,nz]
  ·simp
  ·simp only[List.forall_mem_cons];exact⟨by exact A1f ha,by simp,fun zz h=>nomatch h⟩
  ·rw[M7,E9,if_pos rfl];simp only[Gs,Ig,Ih,RT.s,List.flatten_cons,List.flatten_nil,List.flatten_append,Jl,Pp,List.append_assoc,List.cons_append,List.nil_append,List.append_nil]
  ·simp[ga.rok,RT.ok]
  ·simp only[Gs,Ig,Ih,RT.s,List.length_append,List.length_cons,List.length_nil];exact C75 la
  ·simp;exact C76 a1 na
  ·simp[Eu,ga.read,Gj]
  ·simp[Gj,Ie]
  ·simp[Gj]
  ·simp[Gj]
 | 1,_=>
  rw[show No 1 (Hg qa) (Hg qb)=(Jt qa++.star::Jt qb:List Tok).flatMap Tok.s by simp[No,<- Jm,Tok.s]];refine Ps (s0:=rs.map RT.s) (segs:=[ts.map RT.s]) (rts:=rs++.free::ts) (out:=Gj 1 as bs) ?_ ?_ ?_ ?_ ?_ ?_ ?_ ?_ ?_ ?_ ?_ ?_ ?_ ?_ ?_ ?_ hQ
  ·simp[ga.ok,gb.ok,Tok.ok]
  ·refine ga.star (.inr rfl) ?_;show Fw true _=true;have:=gb.star (b:=true) (tl:=[]) (.inl f1) rfl;simpa using this
  ·simp[Jm,Tok.s];exact C77 fa fb
  ·simp;exact C78 na nb
  ·simp[ga.items,gb.items,Tok.item]
  ·simp[Gb]
  ·simp
  ·simp only[List.forall_mem_cons];exact⟨by exact A1f hb,fun zz h=>nomatch h⟩
  ·rw[E9,if_neg nn];simp only[Gs,Ig,Ih,RT.s,List.flatten_cons,List.flatten_nil,List.flatten_append,Jl,Pp,List.append_assoc,List.cons_append,List.nil_append,List.append_nil]
  ·simp[ga.rok,gb.rok,RT.ok]
  ·simp only[Gs,Ig,Ih,RT.s,List.length_append,List.length_cons,List.length_nil];exact C79 la lb
  ·simp;exact C8a a1 b1 na nb
  ·have:=gb.read (k:=Fh) (bs:=[]) (tl:=[]);rw[List.append_nil] at this;simp[Eu,ga.read,this,Gj]
  ·simp[Gj,Ie]
  ·simp[Gj]
  ·simp[Gj]
 | 2,_=>
  rw[show No 2 (Hg qa) (Hg qb)=(.star::(Jt qa++.star::(Jt qb++[.star])):List Tok).flatMap Tok.s by simp[No,<- Jm,Tok.s]];refine Ps (s0:=[]) (segs:=[rs.map RT.s,ts.map RT.s,[]]) (rts:=.held::(rs++.close::.held::(ts++[.close,.free]))) (out:=Gj 2 as bs) ?_ ?_ ?_ ?_ ?_ ?_ ?_ ?_ ?_ ?_ ?_ ?_ ?_ ?_ ?_ ?_ hQ
  ·simp[ga.ok,gb.ok,Tok.ok]
  ·show Fw true _=true;refine ga.star (.inl f0) ?_;show Fw true _=true;exact gb.star (.inl f1) rfl
  ·simp[Jm,Tok.s];exact C8b fa fb
  ·simp;exact C8c na nb
  ·simp[ga.items,gb.items,Tok.item]
  ·simp[Gb,nz,nz']
  ·simp
  ·simp only[List.forall_mem_cons];exact⟨by exact A1f ha,by exact A1f hb,by simp,fun zz h=>nomatch h⟩
  ·rw[M7,M7,E9,if_pos rfl];simp only[Gs,Ig,Ih,RT.s,List.flatten_cons,List.flatten_nil,List.flatten_append,Jl,Pp,List.append_assoc,List.cons_append,List.nil_append,List.append_nil]
  ·simp[ga.rok,gb.rok,RT.ok]
  ·simp only[Gs,Ig,Ih,RT.s,List.length_append,List.length_cons,List.length_nil];exact C8d la lb
  ·simp;exact C8e a1 b1 na nb
  ·simp[Eu,ga.read,gb.read,Gj]
  ·simp[Gj,Ie]
  ·simp[Gj]
  ·simp[Gj]
 | 3,_=>
  rw[show No 3 (Hg qa) (Hg qb)=(.star::Jt qa:List Tok).flatMap Tok.s by simp[No,<- Jm,Tok.s]];refine Ps (s0:=[]) (segs:=[rs.map RT.s]) (rts:=.free::rs) (out:=Gj 3 as bs) ?_ ?_ ?_ ?_ ?_ ?_ ?_ ?_ ?_ ?_ ?_ ?_ ?_ ?_ ?_ ?_ hQ
  ·simp[ga.ok,Tok.ok]
  ·show Fw true _=true;have:=ga.star (b:=true) (tl:=[]) (.inl f0) rfl;simpa using this
  ·simp[Jm,Tok.s];exact C8f fa
  ·simp;exact C8g na
  ·simp[ga.items,Tok.item]
  ·simp[Gb]
  ·simp
  ·simp only[List.forall_mem_cons];exact⟨by exact A1f ha,fun zz h=>nomatch h⟩
  ·rw[E9,if_neg nn'];simp only[Gs,Ig,Ih,RT.s,List.flatten_cons,List.flatten_nil,List.flatten_append,Jl,Pp,List.append_assoc,List.cons_append,List.nil_append,List.append_nil]
  ·simp[ga.rok,RT.ok]
  ·simp only[Gs,Ig,Ih,RT.s,List.length_append,List.length_cons,List.length_nil];exact C8h la
  ·simp;exact C8i a1 na
  ·have:=ga.read (k:=Fh) (bs:=[]) (tl:=[]);rw[List.append_nil] at this;simp[Eu,this,Gj]
  ·simp[Gj,Ie]
  ·simp[Gj]
  ·simp[Gj]
 | n+4,h=>exact(B0m h).elim
theorem A6f{form:Nat}{as bs:List Ek}(h:as.length=6)(h':bs.length=6):(Gj form as bs).length<=1000∧∀p∈Gj form as bs,p.2.length<=1000:=by
 unfold Gj
 split
 ·simp[h,h']
 ·split
  ·simp[h,h']
  ·split
   ·simp[h,h']
   ·simp[h,h']
end
theorem Y3{α β:Type}{m:P β}{H:Hp}{A:α->Prop}{Q:α->β->Hp->Prop}(a0:α)(h0:A a0)(h:∀a,A a->Wp m H (Q a)):Wp m H fun b H'=>∀a,A a->Q a b H':=by
 kcf_m;obtain⟨b,H',e,q⟩:=h a0 h0;refine hGx ?_;refine⟨b,H',e,fun a ha=>?_⟩;kcf_m;obtain⟨b',H'',e',q'⟩:=h a ha;refine hGx ?_;rw[e] at e';cases e';exact q'
theorem A0y{α:Type}{R:MV->α->Prop}{G:MV->α->Prop}{vs:List MV}{os:List (Option MV)}{qs:List α}(h:All2 (fun v o=>∀a,R v a->∃r,o=some r∧G r a) vs os)(hr:All2 R vs qs):All2 G (os.filterMap id) qs:=by
 induction h generalizing qs with
 | nil=>cases hr;exact .nil
 | cons a _ ih=>
  cases hr with
  | cons b hr=>
   obtain⟨r,rfl,g⟩:=a _ b;exact .cons g (ih hr)
noncomputable abbrev AR{α:Type}(G:MV->α->Hp->Prop)(a:α)(H':Hp):QM:=fun r HJ=>H'<+:HJ∧G r a HJ
abbrev AT{α:Type}(G:MV->α->Hp->Prop)(I:Aj->Prop)(f:Aj->P MV)(a:α)(H':Hp):Aj->Hp->Prop:=fun ρA H''=>H''=H'∧I ρA∧Wp (f ρA) H' (AR G a H')
inductive CA{α:Type}(qs:List α)(R G:MV->α->Hp->Prop)(I:Aj->Prop)(T:GT)(t:Aj->MV->P Aj)(f:Aj->P MV)(n:Nat)(cap:Aj->Aj)(ρ:Aj)(Q:QM)(m:MV)(H₁:Hp):Prop
 | mk (src:Nat->P (Option MV)) (vs:List MV) (e:Ej T m H₁=some src) (hy:∀H',H₁<+:H'->Yl src vs H') (hn:vs.length<n) (hn2:n<=4000) (hA:All2 (fun v a=>R v a H₁) vs qs) (hI:I (cap ρ))
  (hG:∀r a H H',(∀j x,H₁.length<j->H[j]?=some x->H'[j]?=some x)->G r a H->G r a H') (hb:∀v a,R v a H₁->∀ρ H',I ρ->H₁<+:H'->H₁.length<H'.length->Wp (t ρ v) H' (AT G I f a H'))
  (hq:∀HP rs,H₁<+:HP->All2 (fun r a=>G r a HP) rs qs->HP[H₁.length]?=some (.list rs)->Q (.ref H₁.length) HP)
theorem Lj{T:GT}{α:Type}{qs:List α}(R:MV->α->Hp->Prop)(G:MV->α->Hp->Prop)(I:Aj->Prop){fit:Aj->P MV}{t:Aj->MV->P Aj}{f:Aj->P MV}{n:Nat}{cap:Aj->Aj}{ρ:Aj}{H:Hp}{Q:MV->Hp->Prop}
  (h:Wp (fit ρ) H (CA qs R G I T t f n cap ρ Q)):Wp (Br fit (Ej T) t cT (Bt f) n cap ρ) H Q:=
 A47 (h.mono fun m H₁ x=>by
  kcf_m;obtain⟨src,vs,e,hy,hn,hn2,hA,hI,hG,hb,hq⟩:=x;refine hGx ?_;refine⟨src,vs,I,fun v o H=>∀a,R v a H₁->∃r,o=some r∧G r a H,e,hy,hn,by exact B0a hn hn2,hI,?_,?_,?_⟩
  ·intro v o H H' k h a ra;obtain⟨r,e,g⟩:=h a ra;exact⟨r,e,hG _ _ _ _ k g⟩
  ·intro v hv ρ H' h1 h2 h3;obtain⟨a0,_,r0⟩:=hA.mem v hv;have:=Y3 (A:=fun a=>R v a H₁) a0 r0 fun a ra=>hb v a ra ρ H' h1 h2 h3;refine Wp.mono this fun ρA H'' z=>?_;obtain⟨rfl,i1,_⟩:=z a0 r0;refine⟨rfl,i1,wCT ⟨List.prefix_rfl,fun zz=>?_,fun h=>nomatch h⟩⟩;have z2:=Y3 (A:=fun a=>R v a H₁) a0 r0 fun a ra=>(z a ra).2.2;exact Wp.mono z2 fun r HJ y=>⟨(y a0 r0).1,fun a ra=>⟨r,rfl,(y a ra).2⟩⟩
  ·intro HP os p a l;exact hq HP _ p (A0y a hA) l)
theorem Ma{α β:Type}{g:α->β}{rs:List β}{qs:List α}(h:All2 (fun r a=>r=g a) rs qs):rs=qs.map g:=by
 induction h with
 | nil=>rfl
 | cons a _ ih=>rw[List.map_cons,<- ih,a]
theorem N4{ms:List Nat}{A:Nat->Prop}(h:∀m∈ms,A m):All2 (fun v a=>v=MV.int ((a:Nat):Int)∧A a) (il ms) ms:=by
 induction ms with
 | nil=>exact .nil
 | cons m ms ih=>exact .cons ⟨rfl,h m (.head _)⟩ (ih fun a ha=>h a (.tail _ ha))
theorem Lk{es:List (Int × Int)}{i v:Int}(h:KeysOk es)(h1:0<=i∧i<12)(h2:v=0∨v=1):KeysOk (Ga es i v):=by
 unfold Ga
 split
 ·rename_i hc;have hk:(es.map fun e=>if e.1=i then (e.1,v) else e).map (·.1)=es.map (·.1):=by
   rw[List.map_map];apply List.map_congr_left;intro e _;simp only[Function.comp]
   split <;> rfl
  refine⟨by rw[hk];exact h.1,fun p hp=>?_⟩;obtain⟨e,he,rfl⟩:=List.mem_map.mp hp;obtain⟨g1,g2,g3⟩:=h.2 e he
  split
  ·exact⟨g1,g2,h2⟩
  ·exact⟨g1,g2,g3⟩
 ·rename_i hc;refine⟨?_,fun p hp=>?_⟩
  ·rw[List.map_append,List.nodup_append];refine⟨h.1,by simp,?_⟩;intro a ha b hb q;simp only[List.map_cons,List.map_nil,List.mem_singleton] at hb;obtain⟨e,he,rfl⟩:=List.mem_map.mp ha;refine hc (List.any_eq_true.mpr ⟨e,he,?_⟩);rw[decide_eq_true_eq,q,hb]
  ·rcases List.mem_append.mp hp with hp|hp
   ·exact h.2 p hp
   ·rw[List.mem_singleton.mp hp];exact⟨h1.1,h1.2,h2⟩
theorem D14{q j:Nat}:xM q j<24:=Nat.mod_lt _ C8j
theorem D15{n:Nat}:QOk (qM n):=by
 have key:∀j,(0:Int)<=((xM n j/2:Nat):Int)∧((xM n j/2:Nat):Int)<12:=fun j=>by have:=@D14 n j;exact C8k this
 have key2:∀j,((xM n j%2:Nat):Int)=0∨((xM n j%2:Nat):Int)=1:=fun j=>by exact C8l
 refine⟨⟨n%255,Nat.mod_lt _ C8m,?_⟩,?_,?_,Nat.mod_lt _ A9a,Nat.mod_lt _ A9a⟩
 ·show Gy n=Gy (n%255);unfold Gy;rw[Nat.mod_mod]
 ·exact Lk (Lk (Lk ⟨List.nodup_nil,fun zz h=>nomatch h⟩ (key 0) (key2 0)) (key 1) (key2 1)) (key 2) (key2 2)
 ·have a:=@Hi [] ((xM n 0/2:Nat):Int) ((xM n 0%2:Nat):Int);have b:=@Hi (Ga [] ((xM n 0/2:Nat):Int) ((xM n 0%2:Nat):Int)) ((xM n 1/2:Nat):Int) ((xM n 1%2:Nat):Int);have c:=@Hi (Ga (Ga [] ((xM n 0/2:Nat):Int) ((xM n 0%2:Nat):Int)) ((xM n 1/2:Nat):Int) ((xM n 1%2:Nat):Int)) ((xM n 2/2:Nat):Int) ((xM n 2%2:Nat):Int);show (Ga (Ga (Ga [] ((xM n 0/2:Nat):Int) ((xM n 0%2:Nat):Int)) ((xM n 1/2:Nat):Int) ((xM n 1%2:Nat):Int)) ((xM n 2/2:Nat):Int) ((xM n 2%2:Nat):Int)).length<=3;simp only[List.length_nil] at a;exact C8n a b c
noncomputable def oct(m:Nat):List Nat:=[m/256,m%256]
theorem Y4:∀l:List Nat,(l.flatMap oct).length=2*l.length
 | []=>rfl
 | a::l=>by rw[List.flatMap_cons,List.length_append,Y4 l,List.length_cons];simp[oct];exact C8o
section
variable {H:Hp}
theorem A6g{k:Nat}{H0:Hp}{j:Nat}{ms:List Nat}(hk:H0.length<=k)(hj:H0[j]?=some (.list (il ms)))(hm:ms.length<=10){Q:Aj->Hp->Prop}(hQ:∀ρ H',H0<+:H'->H'[k]?=some (.list (il (ms.flatMap oct)))->Q ρ H'):∀(rest done:List Nat) (n:Nat) (ρ:Aj) (H:Hp),ms=done++rest->rest.length<n->H0<+:H->
  H[k]?=some (.list (il (done.flatMap oct)))->
  Wp (F5 (Ox T0 (.ref j)) (A2 "mode") cT (J2 (Ak (Ab (Am (Ac "mode") (pC (.int 256)) E4) (Ab (Am (Ac "mode") (pC (.int 256)) Ec) Af)) Bd) (Ej T0) (A2 "octet") cT (Bt (Ac "octet")) 4000 k) n done.length ρ) H Q:=by
 intro rest__
 induction rest__ with
 | nil=>
  intro done n ρ H he hn p hl;obtain⟨n,rfl⟩:=Bv hn;refine cfE (Ch (Aq (Ah p hj)) _ |>.trans ?_) (hQ ρ H p ?_)
  ·rw[he];simp[il]
  ·rw[hl,he,List.append_nil]
 | cons m rest ih=>
  intro done n ρ H he hn p hl;obtain⟨n,rfl⟩:=Bv hn;have hd:done.length<=10:=by have:=congrArg List.length he;simp at this;exact C8p hm this
  have hdl:(il (done.flatMap oct)).length<=20:=by unfold il;rw[List.length_map,Y4];exact C8q hd
  refine cfS (v:=.int (m:Int)) (H₁:=H) (Ch (Aq (Ah p hj)) _ |>.trans ?_) ?_
  ·rw[he];simp[il]
  w_up;refine Wl ?_;w_up;refine⟨_,Dd (Aq Au),?_⟩;have l0:(H++[MO.list [.int ((m:Int)/256),.int ((m:Int)%256)]])[k]?=some (.list (il (done.flatMap oct))):=Ah pre_app hl;have hkl:k<H.length:=Bx hl;refine cfS (v:=.int ((m:Int)/256)) (Ch (Aq Au) _) ?_;w_up;refine Yq ?_;w_up;refine⟨_,l0,by exact C8r hdl,?_⟩;refine cfS (v:=.int ((m:Int)%256)) (Ch (Aq (Bo Au (by exact Nat.ne_of_lt ‹_›))) _) ?_;w_up;refine Yq ?_;w_up;refine⟨_,Ds l0,by simp;exact C8s hdl,?_⟩;refine cfE (Ch (Aq (Bo (Bo Au (by exact Nat.ne_of_lt ‹_›)) (by exact Nat.ne_of_lt ‹_›))) _) ?_;have:=ih (done++[m]) n;rw[List.length_append] at this;refine this _ _ (by rw[he];simp) (by simp at hn;lia) ?_ ?_
  ·exact Ex (Ex (p.trans pre_app) hk _) hk _
  ·rw[Ds (Ds l0)];simp[il,oct]
end
def wr(m:Nat):List Nat:=Fv (m/256)++Fv (m%256)
theorem Xe{m:Nat}:(wr m).length=6:=rfl
theorem Us{h:List Bool}{p:Nat}(hp:p<5):(pl h).contains p=h.getD p false:=by
 rw[Bool.eq_iff_iff,List.contains_iff_mem,pl,List.mem_filter,List.mem_range];exact⟨fun h=>h.2,fun h=>⟨hp,h⟩⟩
theorem A6h{h:List Bool}:(pl h).length<=5:=by
 have:=List.length_filter_le (fun p=>h.getD p false) (List.range 5);simpa [pl] using this
noncomputable abbrev Md(m:Nat->Nat):List Nat:=[m 0/256,m 0%256,m 1/256,m 1%256,m 2/256,m 2%256]
theorem Xf{q:Qn}{m:Nat->Nat}{j:Nat}(hj:j<3):(pl (hs q (Md m))).contains (2*j)=Dm q (m j):=by
 rw[Us (C8t hj)];have e:∀x,x/256*256+x%256=x:=fun x=>by exact A9b
 match j,hj with
 | 0,_=>show Dm q (m 0/256*256+m 0%256)=_;rw[e]
 | 1,_=>show Dm q (m 1/256*256+m 1%256)=_;rw[e]
 | 2,_=>show Dm q (m 2/256*256+m 2%256)=_;rw[e]
 | n+3,h=>exact(B0n h).elim
theorem B56{m:Nat}{q:Qn}{as:List Ek}(h:∀hi lo rest,hi<256->lo<256->Cf as (Fv hi++(Fv lo++rest))=Dm q (hi*256+lo))(hm:m<65536):Cf as (wr m)=Dm q m:=by
 have:=h (m/256) (m%256) [] (Za hm) Zb;rw[List.append_nil,show m/256*256+m%256=m by exact A9b] at this;exact this
section
variable {H:Hp}
theorem B57{q:Qn}(h:QOk q):Wp (B7 T0 [sl (Hg q)]) H fun a H₁=>Wp (B5 T0 [a]) H₁ fun r H'=>H<+:H'∧∃as,RepP H' r [(Dn,as)]∧as.length=6∧∀m,m<65536->Cf as (wr m)=Dm q m:=by
 kcf_m;obtain⟨rs,as,as',g,_,hl,hr,hf⟩:=h.fig;refine hGx ?_;rw[<- Jm];exact Y0 g (by simp[Jt]) fun r H' p hp=>⟨p,as,hp,hl,fun m hm=>B56 hf hm⟩
theorem B58{q:Qn}(h:QOk q):Wp (B7 T0 [sl (A0l q)]) H fun a H₁=>Wp (B5 T0 [a]) H₁ fun r H'=>H<+:H'∧∃as,RepP H' r [(Dn,as)]∧as.length=10∧∀m,m<65536->Cf as (Eb m)=Dm q m:=by
 kcf_m;obtain⟨rs,as,g,hl,hf⟩:=h.col;refine hGx ?_;rw[<- B54];exact Y0 g (by simp[A8g]) fun r H' p hp=>⟨p,as,hp,hl,hf⟩
theorem A8n{qa qb:Qn}(ha:QOk qa)(hb:QOk qb){form:Nat}(hform:form<4){m:Nat->Nat}(hm:∀j,m j<65536):Wp (B7 T0 [sl (No form (Hg qa) (Hg qb))]) H fun a H₁=>Wp (B5 T0 [a]) H₁ fun r H'=>H<+:H'∧
  ∃ps,RepP H' r ps∧ps.length<=1000∧(∀p∈ps,p.2.length<=1000)∧Hu ps ((Md m).flatMap Fv) 0=M4 form (pl (hs qa (Md m))) (pl (hs qb (Md m))):=by
 kcf_m;obtain⟨rs,as,as',g,ga,hl,hr,hf⟩:=ha.fig;refine hGx ?_;kcf_m;obtain⟨ts,bs,bs',g',gb,hl',hr',hf'⟩:=hb.fig;refine hGx ?_;have h0:=hm 0;have h1:=hm 1;have h2:=hm 2;obtain⟨o1,o2⟩:=A6f (form:=form) hl hl';exact A8m hform g g' hr hr' fun r H' p hp=>⟨p,_,hp,o1,o2,A0x hform ga hl hf gb hl' hf' (Za h0) Zb (Za h1) Zb (Za h2) Zb⟩
theorem Pu{m:Nat}:(Eb m).length=10:=rfl
theorem Q4{as:List Ek}{name:List Nat}(h:as.length=name.length):Hu [(Dn,as)] name 0=Cf as name:=A0v (by decide) (by decide) h
structure RunE(ρ:Aj)(jm jq jl jw jt jp:Nat):Prop where
 q:ρ "questions"=some (.ref jq)
 l:ρ "listings"=some (.ref jl)
 w:ρ "writings"=some (.ref jw)
 t:ρ "told"=some (.ref jt)
 p:ρ "places"=some (.ref jp)
noncomputable def Kr{α:Type}(f:Nat->α):List α:=[f 0,f 1]
noncomputable def Ef{α:Type}(f:Nat->α):List α:=[f 0,f 1,f 2]
theorem Kd{α:Type}{f:Nat->α}{k:Nat}(h:k<2):(Kr f)[k]?=some (f k):=by
 match k,h with
 | 0,_=>rfl
 | 1,_=>rfl
 | n+2,h=>exact(A64 h).elim
theorem Mb{α:Type}{f:Nat->α}{k:Nat}(h:k<3):(Ef f)[k]?=some (f k):=by
 match k,h with
 | 0,_=>rfl
 | 1,_=>rfl
 | 2,_=>rfl
 | n+3,h=>exact(B0n h).elim
structure RunH(H:Hp)(jq jl jw jt jp:Nat)(m:Nat->Nat)(q:Nat->Qn)(r:Nat->MV)(p:Nat->Nat):Prop where
 hq:H[jq]?=some (.list (Kr r))
 rq:∀k,k<2->RepQ 0 H (r k) (q k)
 hl:H[jl]?=some (.list (Ef fun j=>sl (Eb (m j))))
 hw:H[jw]?=some (.list (Ef fun j=>sl (wr (m j))))
 ht:H[jt]?=some (.list (Kr fun k=>sl (Hg (q k))))
 hp:H[jp]?=some (.list (Kr fun k=>.ref (p k)))
 pp:∀k,k<2->H[p k]?=some (.list (il (pl (hs (q k) (Md m)))))
theorem RunH.pre{H':Hp}{jq jl jw jt jp:Nat}{m:Nat->Nat}{q:Nat->Qn}{r:Nat->MV}{p:Nat->Nat}(x:H<+:H')(h:RunH H jq jl jw jt jp m q r p):RunH H' jq jl jw jt jp m q r p:=
 ⟨Ah x h.hq,fun k hk=>(h.rq k hk).pre x,Ah x h.hl,Ah x h.hw,Ah x h.ht,Ah x h.hp,fun k hk=>Ah x (h.pp k hk)⟩
abbrev rnJ(T:GT):Aj->P (Fl × Aj):=(Ag (Bi "holds" (Am (Am (pC (.int 2)) (Ac "j") Iu) (Am (Ac "places") (Ac "k") (Ao T)) (Fa T)))
 (Ag (Cv (Nl (At T (Ak (Ab (Ac "figures") (Ab (Am (Ac "writings") (Ac "j") (Ao T)) Af)) (Dc T)) (Ac "holds") En) (Nl (At T (Ak (Ab (Ac "columns") (Ab (Am (Ac "listings") (Ac "j") (Ao T)) Af)) (Dc T)) (Ac "holds") En) Mr))
 (Ag (C6 (pC (.bool false)))
 Ap)
 Ap)
 Ap))
theorem D4j{jm jq jl jw jt jp k:Nat}{m:Nat->Nat}{q:Nat->Qn}{r:Nat->MV}{p:Nat->Nat}{fv cv:MV}{as bs:List Ek}(hk:k<2)(hm:∀j,m j<65536)(la:as.length=6)(lb:bs.length=10)
  (fa:∀m,m<65536->Cf as (wr m)=Dm (q k) m) (fb:∀m,m<65536->Cf bs (Eb m)=Dm (q k) m) {K:Fl->Aj->Hp->Prop}:∀(f j n:Nat) (ρ:Aj) (H:Hp),j+f=3->f<n->RunE ρ jm jq jl jw jt jp->RunH H jq jl jw jt jp m q r p->
  ρ "k"=some (.int (k:Int))->ρ "figures"=some fv->ρ "columns"=some cv->RepP H fv [(Dn,as)]->RepP H cv [(Dn,bs)]->
  (∀ρ' H',RunE ρ' jm jq jl jw jt jp->RunH H' jq jl jw jt jp m q r p->ρ' "k"=some (.int (k:Int))->K .next ρ' H')->
  WS (Gg (Jq 0 3 1) (A2 "j") (rnJ T0) Ap n j) ρ H K:=by
 intro rest__
 induction rest__ with
 | zero=>
  intro j n ρ H hj hn E S g1 g2 g3 a1 a2 hK;obtain⟨n,rfl⟩:=Bv hn;refine Jo (Hf (by unfold Builtin.Range.rangeSize;simp;exact C8u hj)) ?_;w_up;exact hK _ _ E S g1
 | succ f ih=>
  intro j n ρ H hj hn E S g1 g2 g3 a1 a2 hK;obtain⟨n,rfl⟩:=Bv hn;have hj3:j<3:=by exact C8v hj
  refine Ff (v:=.int (j:Int)) (Do (by unfold Builtin.Range.rangeSize;simp;exact C8w hj) A6x) ?_;have E1:RunE (upd ρ "j" (.int (j:Int))) jm jq jl jw jt jp:=⟨by rw[Ba (by kd_p) E.q],by rw[Ba (by kd_p) E.l],by rw[Ba (by kd_p) E.w],by rw[Ba (by kd_p) E.t],by rw[Ba (by kd_p) E.p]⟩;w_up;refine B0 E1.p (B0 (Ba (by kd_p) g1) (Bl (Aq S.hp) (Kd hk) (by unfold lim;exact A6u hk) ?_));rw[show (2*(j:Int))=((2*j:Nat):Int) by exact C8x];refine Yw (Aq (S.pp k hk)) ?_;rw[Xf hj3];have E2:RunE (upd (upd ρ "j" (.int (j:Int))) "holds" (.bool (Dm (q k) (m j)))) jm jq jl jw jt jp:=⟨by rw[Ba (by kd_p) E1.q],by rw[Ba (by kd_p) E1.l],by rw[Ba (by kd_p) E1.w],by rw[Ba (by kd_p) E1.t],by rw[Ba (by kd_p) E1.p]⟩;w_up;refine B0 E2.w ?_;w_up;refine Bl (Aq S.hw) (Mb hj3) (by unfold lim;exact A9c hj) ?_;w_up;refine Gf (Po a1 (by simp) (by simp[la]) (by rw[Xe];exact C8y)) fun H1 x1=>?_;rw[Q4 (by rw[la,Xe]),fa _ (hm j)];w_up;refine Nx ?_;rw[beq_self_eq_true];refine trB (Ll rfl ?_);w_up;refine B0 E2.l ?_;w_up;have S1:=S.pre x1;refine Bl (Aq S1.hl) (Mb hj3) (by unfold lim;exact A9c hj) ?_;w_up;refine Gf (Po (a2.pre x1) (by simp) (by simp[lb]) (by rw[Pu];exact C8z)) fun H2 x2=>?_;rw[Q4 (by rw[lb,Pu]),fb _ (hm j)];w_up;refine Nx ?_;rw[beq_self_eq_true];refine trB (Ll rfl ?_);w_up;exact ih (j+1) n _ _ (C80 hj) (by exact Nat.le_of_lt_succ ‹_›) E2 (S1.pre x2) (by k_in) (by k_in) (by k_in) (a1.pre (x1.trans x2)) (a2.pre (x1.trans x2)) hK
end
theorem B59:pC (.str "*")=pC (sl [42]):=lit (by kd_p)
theorem RunE.upd{ρ:Aj}{jm jq jl jw jt jp:Nat}(h:RunE ρ jm jq jl jw jt jp){x:String}{v:MV}(hx:¬ "questions"=x∧¬ "listings"=x∧¬ "writings"=x∧¬ "told"=x∧¬ "places"=x):RunE (Internal.upd ρ (Str.ofString x) v) jm jq jl jw jt jp:=
 ⟨Ba hx.1 h.q,Ba hx.2.1 h.l,Ba hx.2.2.1 h.w,Ba hx.2.2.2.1 h.t,Ba hx.2.2.2.2 h.p⟩
theorem Y5{m:Nat->Nat}:[wr (m 0),wr (m 1),wr (m 2)].flatten=(Md m).flatMap Fv:=by simp[wr,Md]
theorem B6a{form:Nat}{a b:List Nat}(hform:form<4):([sl ([42]++a++[42]),sl (a++[42]++b),sl ([42]++a++[42]++b++[42]),sl ([42]++a)]:List MV)[form]?=some (sl (No form a b)):=by
 match form,hform with
 | 0,_=>rfl
 | 1,_=>rfl
 | 2,_=>rfl
 | 3,_=>rfl
 | n+4,h=>exact(B0m h).elim
section
variable {H:Hp}
theorem B6b{x y:List Nat}{Q:MV->Hp->Prop}(h:x.length+y.length<=16777216∧Q (sl (x++y)) H):Wp (A1 (sl x) (sl y)) H Q:=Fg h.1 h.2
abbrev rnK(T:GT):Aj->P (Fl × Aj):=(Ag (G8 T ["figures","columns"] (Ak (Ab (Ak (Ab (Ak (Ab (Am (Ac "told") (Ac "k") (Ao T)) Af) (B7 T)) Af) (B5 T)) (Ab (Ak (Ab (Ak (Ab (Ak (Ab (Am (Ac "questions") (Ac "k") (Ao T)) Af) (Er T)) Af) (B7 T)) Af) (B5 T)) Af)) Bq))
 (Ag (Ko T 4000 (Ak (Ab (pC (.int 3)) Af) Ck) (A2 "j") (rnJ T) Ap)
 (Ag (G8 T ["form","a","b"] (Ak (Ab (Am (Am (Ac "questions") (Ac "k") (Ao T)) (pC (.int 3)) (Ao T)) (Ab (Am (Ac "told") (Ac "k") (Ao T)) (Ab (Am (Ac "told") (Am (pC (.int 1)) (Ac "k") De) (Ao T)) Af))) Bq))
 (Ag (Bi "pattern" (Am (Ak (Ab (Am (Am (pC (sl [42])) (Ac "a") A1) (pC (sl [42])) A1) (Ab (Am (Am (Ac "a") (pC (sl [42])) A1) (Ac "b") A1) (Ab (Am (Am (Am (Am (pC (sl [42])) (Ac "a") A1) (pC (sl [42])) A1) (Ac "b") A1) (pC (sl [42])) A1) (Ab (Am (pC (sl [42])) (Ac "a") A1) Af)))) Bd) (Ac "form") (Ao T)))
 (Ag (Cv (At T (Ak (Ab (Ak (Ab (Ak (Ab (Ac "pattern") Af) (B7 T)) Af) (B5 T)) (Ab (Be O1 (pC (sl [])) (Ab (Ac "writings") Af) (two (Go T))) Af)) (Dc T)) (Ak (Ab (Ac "form") (Ab (Am (Ac "places") (Ac "k") (Ao T)) (Ab (Am (Ac "places") (Am (pC (.int 1)) (Ac "k") De) (Ao T)) Af))) (Hr T)) En)
 (Ag (C6 (pC (.bool false)))
 Ap)
 Ap)
 Ap)))))
theorem D4k{jm jq jl jw jt jp:Nat}{m:Nat->Nat}{q:Nat->Qn}{r:Nat->MV}{p:Nat->Nat}(hm:∀j,m j<65536)(hok:∀k,QOk (q k)){K:Fl->Aj->Hp->Prop}:∀(f k n:Nat) (ρ:Aj) (H:Hp),k+f=2->f<n->RunE ρ jm jq jl jw jt jp->RunH H jq jl jw jt jp m q r p->
  (∀ρ' H',K .next ρ' H')->
  WS (Gg (Jq 0 2 1) (A2 "k") (rnK T0) Ap n k) ρ H K:=by
 intro rest__
 induction rest__ with
 | zero=>
  intro k n ρ H hj hn E S hK;obtain⟨n,rfl⟩:=Bv hn;refine Jo (Hf (by unfold Builtin.Range.rangeSize;simp;exact C81 hj)) ?_;w_up;exact hK _ _
 | succ f ih=>
  intro k n ρ H hj hn E S hK;obtain⟨n,rfl⟩:=Bv hn;have hk:k<2:=by exact C82 hj
  refine Ff (v:=.int (k:Int)) (Do (by unfold Builtin.Range.rangeSize;simp;exact C83 hj) A6x) ?_;have E1:=E.upd (x:="k") (v:=.int (k:Int)) (by simp);w_up;refine B0 E1.t ?_;w_up;refine Bl (Aq S.ht) (Kd hk) (by unfold lim;exact A1g hj) ?_;w_up;refine Wp.mono (B57 (hok k)) ?_;intro a0 H1 z;w_up;refine Wp.mono z ?_;intro fv H2 hpat;kcf_m;obtain⟨x1,as,a1,la,fa⟩:=hpat;refine hGx ?_;have S2:=S.pre x1;w_up;refine B0 E1.q ?_;w_up;refine Bl (Aq S2.hq) (Kd hk) (by unfold lim;exact A1g hj) ?_;w_up;refine Wp.mono (W5 (S2.rq k hk) ?_) ?_
  ·obtain⟨x,_,e⟩:=(hok k).kinds;rw[e];exact Nat.le_trans (List.length_filterMap_le _ _) (by simp)
  rintro _ H3 ⟨x2,rfl⟩;w_up;refine Wp.mono (B58 (hok k)) ?_;intro a0 H4 z;w_up;refine Wp.mono z ?_;intro cv H5 hpat;kcf_m;obtain⟨x3,bs,a2,lb,fb⟩:=hpat;refine hGx ?_;have S5:=S2.pre (x2.trans x3);w_up;refine⟨_,Gw Au (by decide),?_⟩;have E3:=(E1.upd (x:="columns") (v:=cv) (by simp)).upd (x:="figures") (v:=fv) (by simp);have x5:H5<+:H5++[MO.tup [fv,cv]]++[MO.rng 0 3 1]:=pre_app.trans pre_app;refine D4j hk hm la lb fa fb 3 0 4000 _ _ C84 B0o E3 (S5.pre x5) (by k_in) (by k_in) (by k_in) (a1.pre ((x2.trans x3).trans x5)) (a2.pre x5) fun ρ' H6 E6 S6 g6=>?_;w_up;refine B0 E6.q ?_;w_up;refine Bl (Aq S6.hq) (Kd hk) (by unfold lim;exact A1g hj) ?_;w_up;kcf_m;obtain⟨j1,jk,jr,e1,_,_,_,e2,_,_⟩:=S6.rq k hk;refine hGx ?_;rw[e1];show Wp (Ao T0 _ (.int ((3:Nat):Int))) _ _;refine Kb (Bw e2) rfl (by unfold lim;exact Int.natCast_nonneg _) ?_;w_up;refine B0 E6.t ?_;w_up;refine Bl (Aq S6.ht) (Kd hk) (by unfold lim;exact A1g hj) ?_;w_up;refine B0 E6.t ?_;w_up;rw[show (1-(k:Int))=((1-k:Nat):Int) by exact A9d hj];refine Bl (Aq S6.ht) (Kd (k:=1-k) (B0p hj)) (by unfold lim;exact A9e hj) ?_;w_up;have n1:=L9 (q:=q k);have n2:=L9 (q:=q (1-k));have E7:=((E6.upd (x:="b") (v:=sl (Hg (q (1-k)))) (by simp)).upd (x:="a") (v:=sl (Hg (q k))) (by simp)).upd (x:="form") (v:=.int ((q k).form:Int)) (by simp)
  repeat (first |z_go|(with_reducible refine B6b ?_;refine⟨by simp only[List.length_append,List.length_cons,List.length_nil];lia,?_⟩))
  have hform:=(hok k).form;refine Bl (Aq Au) (B6a hform) (by unfold lim;exact C85 hform) ?_;have E8:=E7.upd (x:="pattern") (v:=sl (No (q k).form (Hg (q k)) (Hg (q (1-k))))) (by simp);w_up;refine Wp.mono (A8n (hok k) (hok (1-k)) (hok k).form hm) ?_;intro a0 H7 z;w_up;refine Wp.mono z ?_;intro pv H8 hpat;kcf_m;obtain⟨x8,ps,b1,b2,b3,b4⟩:=hpat;refine hGx ?_;have S8:=S6.pre ((pre_app.trans pre_app).trans x8);w_up;refine Gp (wC ⟨rfl,?_⟩);w_up;refine B0 E8.w ?_;w_up;refine L1 (ls:=[wr (m 0),wr (m 1),wr (m 2)]) (Aq S8.hw) (by simp only[List.map_cons,List.map_nil,Xe];decide) ?_;rw[Y5];w_up;refine Gf (Po b1 b2 b3 (by simp[Fv])) fun H9 x9=>?_;rw[b4];have S9:=S8.pre x9;w_up;refine B0 E8.p ?_;w_up;refine Bl (Aq S9.hp) (Kd hk) (by unfold lim;exact A1g hj) ?_;w_up;refine B0 E8.p ?_;w_up;rw[show (1-(k:Int))=((1-k:Nat):Int) by exact A9d hj];refine Bl (Aq S9.hp) (Kd (k:=1-k) (B0p hj)) (by unfold lim;exact A9e hj) ?_;w_up;have l1:=@A6h (hs (q k) (Md m));have l2:=@A6h (hs (q (1-k)) (Md m));refine Gf (B5u (S9.pp k hk) (S9.pp (1-k) (B0p hj)) (A9f l1) (A9f l2)) fun H10 x10=>?_;refine Nx ?_;rw[beq_self_eq_true];refine trB (Ll rfl ?_);w_up;exact ih (k+1) n _ _ (C86 hj) (by exact Nat.le_of_lt_succ ‹_›) E8 (S9.pre x10) hK
end
section
variable {H:Hp}
theorem Xg{m:Nat}{Q:MV->Hp->Prop}(a:Int)(ha:a=(m:Int))(hm:m<256)(h:Q (sl [m]) H):Wp (Pz (.int a)) H Q:=by
 subst ha;refine B5e (B6y hm) ?_;simpa using h
def Xh(q:Qn)(o:List Nat)(p:Nat):Option MV:=if Dm q (o.getD p 0*256+o.getD (p+1) 0)=true then some (.int (p:Int)) else none
theorem A0z{q:Qn}{o:List Nat}:(List.range 5).filterMap (Xh q o)=il (pl (hs q o)):=by
 have key:∀(f:Nat->Bool) (l:List Nat),(l.filterMap fun p=>if f p=true then some (MV.int (p:Int)) else none)=(l.filter f).map fun (p:Nat)=>MV.int (p:Int):=fun f l=>by
  induction l with
  | nil=>rfl
  | cons a l ih=>
   rw[List.filterMap_cons,List.filter_cons];cases h:f a with
   | true=>simp only[if_true,List.map_cons,ih]
   | false=>assumption
 unfold il pl;rw[<- List.filter_congr (p:=fun p=>Dm q (o.getD p 0*256+o.getD (p+1) 0)),<- key]
 ·rfl
 ·intro p hp;rw[List.mem_range] at hp;rw[hs,List.getD_eq_getElem?_getD (l:=List.map _ _),List.getElem?_map,List.getElem?_range hp];rfl
theorem A00{m:Nat}(hm:m<65536):PyData.strOk ⟨(Eb m).toArray⟩=true:=by
 have h1:∀a b x:Nat,a<1114112->b<1114112->pk a b x<1114112:=fun a b x h1 h2=>by unfold pk;split <;> assumption
 have h2:∀a b c d x y:Nat,a<1114112->b<1114112->c<1114112->d<1114112->U0 a b c d x y<1114112:=fun a b c d x y g1 g2 g3 g4=>by unfold U0;split <;> apply h1 <;> assumption
 have h3:kc m<1114112:=by
  have:∀c∈kch,c<1114112:=by decide
  exact this _ (A6d hm)
 unfold PyData.strOk;simp only[List.all_toArray,Eb,List.all_cons,List.all_nil,Bool.and_true,Bool.and_eq_true,decide_eq_true_eq];exact⟨h3,h1 _ _ _ (by decide) (by decide),h1 _ _ _ (by decide) (by decide),h2 _ _ _ _ _ _ (by decide) (by decide) (by decide) (by decide),h1 _ _ _ (by decide) (by decide),h1 _ _ _ (by decide) (by decide),h2 _ _ _ _ _ _ (by decide) (by decide) (by decide) (by decide),
  h1 _ _ _ (by decide) (by decide),h1 _ _ _ (by decide) (by decide),h2 _ _ _ _ _ _ (by decide) (by decide) (by decide) (by decide)⟩
theorem A6i{m:Nat->Nat}(hm:∀j,m j<65536):∀c∈Md m,c<256:=by
 intro c hc;have h0:=hm 0;have h1:=hm 1;have h2:=hm 2;simp only[Md,List.mem_cons,List.not_mem_nil,or_false] at hc;exact C87 h0 h1 h2 hc
theorem B6c(W:Tp T0){jm jq:Nat}{m:Nat->Nat}{q:Nat->Qn}{r:Nat->MV}(hm:∀j,m j<65536)(hok:∀k,QOk (q k))(h1:H[jm]?=some (.list (il (Ef m))))(h2:H[jq]?=some (.list (Kr r)))(h3:∀k,k<2->RepQ 0 H (r k) (q k)):
  Wp (Jf T0 [.ref jm,.ref jq]) H fun v H'=>v=.bool true:=by
 have hmem:∀x∈Ef m,x<65536:=by
  intro x hx;simp only[Ef,List.mem_cons,List.not_mem_nil,or_false] at hx;rcases hx with rfl|rfl|rfl <;> exact hm _
 unfold Jf;simp only[B59,L_e];refine Dg rfl ?_;dsimp only[Ci];w_up;refine Lj (qs:=Ef m) (fun v a zz=>v=.int (a:Int)∧a<65536) (fun r a zz=>r=sl (Eb a)) (fun zz=>True) ?_;w_up;refine⟨_,_,Dd (Aq h1),fun H' p=>Ch (Ei p (Aq h1)),by exact Nat.lt_of_sub_eq_succ rfl,by exact zl3,N4 hmem,trivial,fun zz zz zz zz zz h=>h,?_,?_⟩
 ·rintro _ a ⟨rfl,ha⟩ ρ H' _ _ _;w_up;refine⟨rfl,trivial,?_⟩;w_up;exact Z9 ha
 intro HA rs xA eA lA;rw[Ma eA] at lA;w_up;refine Lj (qs:=Ef m) (fun v a zz=>v=.int (a:Int)∧a<65536) (fun r a zz=>r=sl (wr a)) (fun zz=>True) ?_;w_up;refine⟨_,_,Dd (Aq (Ah xA h1)),fun H' p=>Ch (Ei p (Aq (Ah xA h1))),by exact Nat.lt_of_sub_eq_succ rfl,by exact zl3,N4 hmem,trivial,fun zz zz zz zz zz h=>h,?_,?_⟩
 ·rintro _ a ⟨rfl,ha⟩ ρ H' _ _ _;w_up;refine⟨rfl,trivial,?_⟩;w_up;refine Xg (m:=a/256) _ C88 (Za ha) ?_;w_up;refine Wp.at (Ty W (Za ha)) ?_;w_up;refine Xg (m:=a%256) _ C89 Zb ?_;w_up;refine Wp.at (Ty W Zb) ?_;refine Fg (by exact Nat.le_of_ble_eq_true rfl) ?_;exact⟨List.prefix_rfl,rfl⟩
 intro HB rs2 xB eB lB;rw[Ma eB] at lB;w_up;have xAB:=xA.trans xB;refine Wm ?_;w_up;refine⟨_,Dd (Aq (Ah xAB h1)),?_⟩;refine A6g (H0:=HB) (ms:=Ef m) (Nat.le_refl _) (Ah xAB h1) (by simp[Ef]) ?_ (Ef m) [] 4000 _ _ rfl (by simp[Ef]) pre_app Au;intro _ HC xC lC;w_up;have xAC:=xAB.trans xC;refine Lj (qs:=Ef m) (fun v a zz=>v=.int (a:Int)∧a<65536) (fun r a zz=>r=sl (Eb a)) (fun zz=>True) ?_;w_up;refine⟨_,_,Dd (Aq (Ah xAC h1)),fun H' p=>Ch (Ei p (Aq (Ah xAC h1))),by exact Nat.lt_of_sub_eq_succ rfl,by exact zl3,N4 hmem,trivial,fun zz zz zz zz zz h=>h,?_,?_⟩
 ·rintro _ a ⟨rfl,ha⟩ ρ H' _ _ _;w_up;refine⟨rfl,trivial,?_⟩;w_up;exact Tw W ha
 intro HD rs3 xD eD lD;rw[Ma eD] at lD;have hAl:=Ah (xB.trans (xC.trans xD)) lA;have hBw:=Ah (xC.trans xD) lB;have hCo:=Ah xD lC;w_up;have ml:∀(f:Nat->List Nat),(Ef m).map (fun a=>sl (f a))=((Ef m).map f).map sl:=fun f=>rfl;rw[ml] at hAl lD hBw;refine A7w lD hAl ?_ ?_
 ·rw[List.all_map,List.all_eq_true];exact fun x hx=>A00 (hmem x hx)
 refine trB (Ll rfl ?_);w_up;refine Gp (wC ⟨rfl,?_⟩);w_up;have wf:((Ef m).map wr).flatten=(Md m).flatMap Fv:=Y5;refine L1 (Aq hBw) (by exact Nat.le_of_ble_eq_true rfl) ?_;rw[wf];w_up;refine Gf (A0h (A6i hm) (by simp) (by exact Nat.lt_of_sub_eq_succ rfl)) fun HE xE=>?_;w_up;refine Gp (wC ⟨rfl,?_⟩);w_up;have of3:(Ef m).flatMap oct=Md m:=rfl;rw[of3] at hCo;have hCE:=Ah xE hCo;refine Lj (qs:=Md m) (fun v a zz=>v=.int (a:Int)∧a<256) (fun r a zz=>r=sl [a]) (fun zz=>True) ?_;w_up;refine⟨_,_,Dd (Aq hCE),fun H' p=>Ch (Ei p (Aq hCE)),by exact Nat.lt_of_sub_eq_succ rfl,by exact zl3,N4 (A6i hm),trivial,fun zz zz zz zz zz h=>h,?_,?_⟩
 ·rintro _ a ⟨rfl,ha⟩ ρ H' _ _ _;w_up;refine⟨rfl,trivial,?_⟩;w_up;refine Xg (m:=a) _ rfl ha ?_;exact⟨List.prefix_rfl,rfl⟩
 intro HF rs4 xF eF lF;rw[Ma eF] at lF;w_up;refine L1 (ls:=(Md m).map fun a=>[a]) (Aq (by assumption)) (by exact Nat.le_of_ble_eq_true rfl) ?_;have sf:((Md m).map fun a=>[a]).flatten=Md m:=rfl;rw[sf];w_up;have bn:(Md m != Md m)=false:=by simp
 refine⟨(fun h=>by rw[bn] at h;cases h),fun zz=>?_⟩;w_up;have x1:=xAC.trans (xD.trans (xE.trans xF));have hm1:=Ah x1 h1;have hl1:=Ah (xE.trans xF) hAl;refine Ld (fun zz=>none) (fun ρ=>ρ "modes"=some (.ref jm)∧ρ "listings"=some (.ref H.length)) 3 B0o zl3 (by decide) ?_;w_up;refine⟨⟨_,rfl,Au⟩,⟨by rfl,by rfl⟩,?_,?_⟩
 ·rintro j hj ρ H' ⟨i1,i2⟩ p';have pp:=pre_app.trans p';w_up;refine⟨rfl,⟨by k_in,by k_in⟩,?_⟩;w_up;refine Bl (w:=.int ((m j:Nat):Int)) (Aq (Ah pp hm1)) ?_ (by unfold lim;exact B0q hj) ?_
  ·unfold il;rw[List.getElem?_map,Mb hj];rfl
  w_up;refine Bl (w:=sl (Eb (m j))) (Aq (Ah pp hl1)) ?_ (by unfold lim;exact B0q hj) ?_
  ·rw[List.map_map,List.getElem?_map,Mb hj];rfl
  w_up;refine Gf (A5j W (hm j)) fun HP x=>?_;refine trB ?_;exact⟨x,(fun h=>nomatch h),fun zz=>rfl⟩
 intro HG xG0 lG;have xG:=pre_app.trans xG0;rw[Ji] at lG;refine trL (Aq lG) (Nat.zero_le _) ?_;refine(Ll rfl ?_);w_up;have x2:=x1.trans xG;have hq2:=Ah x2 h2;refine Lj (qs:=Kr fun k=>k) (fun v k zz=>v=r k∧k<2) (fun v k zz=>v=sl (Hg (q k))) (fun zz=>True) ?_;w_up;have r2:All2 (fun v a=>v=r a∧a<2) (Kr r) (Kr fun k=>k):=.cons ⟨rfl,Nat.zero_lt_two⟩ (.cons ⟨rfl,Nat.one_lt_two⟩ .nil);refine⟨_,_,Dd (Aq hq2),fun H' p=>Ch (Ei p (Aq hq2)),by simp[Kr],by exact zl3,r2,trivial,fun zz zz zz zz zz h=>h,?_,?_⟩
 ·rintro _ k ⟨rfl,hk⟩ ρ H' _ p' _;w_up;refine⟨rfl,trivial,?_⟩;w_up;exact Wz ((h3 k hk).pre (x2.trans p'))
 intro HH rs5 xH eH lH;rw[Ma eH] at lH;w_up;have x3:=x2.trans xH;have hq3:=Ah x3 h2;have ho3:=Ah (xE.trans (xF.trans (xG.trans xH))) hCo;refine Lj (qs:=Kr fun k=>k) (fun v k zz=>v=r k∧k<2) (fun v k H'=>∃j,HH.length<j∧v=.ref j∧H'[j]?=some (.list (il (pl (hs (q k) (Md m)))))) (fun ρ=>ρ "octets"=some (.ref HB.length)) ?_;w_up;refine⟨_,_,Dd (Aq hq3),fun H' p=>Ch (Ei p (Aq hq3)),by simp[Kr],by exact zl3,r2,by rfl,?_,?_,?_⟩
 ·rintro v a HX HY k ⟨j,g1,g2,g3⟩;exact⟨j,g1,g2,k j _ g1 g3⟩
 ·rintro _ k ⟨rfl,hk⟩ ρ H' i1 p' hlen;w_up;refine⟨rfl,by k_in,?_⟩;refine Ld (Xh (q k) (Md m)) (fun ρ=>ρ "octets"=some (.ref HB.length)∧ρ "question"=some (r k)) 5 C9a zl3 (by decide) ?_;w_up;refine⟨⟨_,rfl,Au⟩,⟨by assumption,by rfl⟩,?_,?_⟩
  ·rintro p hp ρ2 H2 ⟨i2,i3⟩ p2;have ho4:=Ah (p'.trans (pre_app.trans p2)) ho3;have at_:∀p,p<6->(Md m).getD p 0<256∧(il (Md m))[p]?=some (.int (((Md m).getD p 0:Nat):Int)):=fun p hp=>by
    rw[List.getD_eq_getElem?_getD,il,List.getElem?_map,List.getElem?_eq_getElem (by exact hp)];exact⟨A6i hm _ (List.getElem_mem _),rfl⟩
   obtain⟨a1,a2⟩:=at_ p (by exact Nat.lt_succ_of_lt ‹_›)
   obtain⟨b1,b2⟩:=at_ (p+1) (C9b hp)
   unfold Xh
   generalize (Md m).getD p 0=a at *
   generalize (Md m).getD (p+1) 0=b at *
   w_up;refine⟨rfl,⟨by k_in,by k_in⟩,?_⟩;w_up;refine Bl (Aq ho4) a2 (by unfold lim;exact C9c hp) ?_;w_up;rw[show ((p:Int)+1)=((p+1:Nat):Int) by exact A6y];refine Bl (Aq ho4) b2 (by unfold lim;exact C9d hp) ?_;w_up;rw[show ((a:Int)*256+(b:Int))=((a*256+b:Nat):Int) by exact C9e];refine Gf (A5m (C9f a1 b1) ((h3 k hk).pre (x3.trans (p'.trans (pre_app.trans p2)))) (hok k).keys (by have:=(hok k).few;exact C9g this)) fun HP x=>?_;refine trB ⟨x,fun h=>?_,fun h=>?_⟩
   ·w_up;exact⟨List.prefix_rfl,by rw[if_pos h]⟩
   ·rw[if_neg (by rw[h];simp)]
  ·intro H2 p2 l2;rw[A0z] at l2;exact⟨pre_app.trans p2,_,by simp;exact Nat.lt_succ_of_lt ‹_›,rfl,l2⟩
 intro HI rs6 xI eI lI;w_up;have r6:∃p:Nat->Nat,rs6=Kr (fun k=>.ref (p k))∧∀k,k<2->HI[p k]?=some (.list (il (pl (hs (q k) (Md m))))):=by
  cases eI with
  | cons g1 eI=>cases eI with
   | cons g2 eI=>cases eI with
    | nil=>
     obtain⟨j1,_,rfl,e1⟩:=g1;obtain⟨j2,_,rfl,e2⟩:=g2;refine⟨fun k=>if k=0 then j1 else j2,rfl,fun k hk=>?_⟩
     match k,hk with
     | 0,_=>exact e1
     | 1,_=>exact e2
     | n+2,h=>exact(A64 h).elim
 obtain⟨p,rfl,hpp⟩:=r6;refine⟨_,Gw Au (by decide),?_⟩;have x9:H<+:HI++[MO.rng 0 2 1]:=x3.trans (xI.trans pre_app);have y1:HF<+:HI++[MO.rng 0 2 1]:=(xG.trans xH).trans (xI.trans pre_app);refine D4k (m:=m) (q:=q) (r:=r) (p:=p) (jm:=jm) hm hok 2 0 4000 _ _ C9h A9g ⟨by k_in,by k_in,by k_in,by k_in,by k_in⟩ ⟨Ah x9 h2,fun k hk=>(h3 k hk).pre x9,?_,?_,?_,Ah pre_app lI,fun k hk=>Ah pre_app (hpp k hk)⟩ fun ρ' H'=>?_
 ·exact Ah y1 hl1
 ·exact Ah ((xE.trans xF).trans y1) hBw
 ·exact Ah (xI.trans pre_app) lH
 w_up;rfl
end
theorem D4l{α:Type}{l:List α}:I4 none (some 5) l=l.take 5:=by
 unfold I4;rw[show (some (5:Int))=some ((5:Nat):Int) from rfl,D6];show (l.drop 0).take (min 5 l.length-0)=_;rw[List.drop_zero,Nat.sub_zero];by_cases h:5<=l.length
 ·rw[show min 5 l.length=5 by exact C9i h]
 ·rw[List.take_of_length_le (C9j h),List.take_of_length_le (C9k h)]
theorem RepQ.low{lo lo':Nat}{H:Hp}{v:MV}{q:Qn}(h:RepQ lo H v q)(hl:lo'<=lo):RepQ lo' H v q:=by
 obtain⟨j,jk,jr,e,l1,l2,l3,z1,z2,z3⟩:=h;exact⟨j,jk,jr,e,by exact Nat.le_trans ‹_› ‹_›,by exact Nat.le_trans ‹_› ‹_›,by exact Nat.le_trans ‹_› ‹_›,z1,z2,z3⟩
noncomputable def mAt(ns:List Int)(k:Nat):Nat:=((ns.getD (k%ns.length) 0+[33261,17407,35273].getD k 0)%65536).toNat
noncomputable def qAt(ns:List Int)(k:Nat):Nat:=((ns.getD ((k+3)%ns.length) 0+[33039091,9663987].getD k 0)%56401920).toNat
theorem B6e{ns:List Int}{k:Nat}:mAt ns k<65536:=by unfold mAt;exact C9l
theorem B6f{ns:List Int}{k:Nat}:qAt ns k<56401920:=by unfold qAt;exact C9m
theorem Y6{ns:List Int}{i:Nat}(h:i<ns.length):(ns.map MV.int)[i]?=some (.int (ns.getD i 0)):=by
 rw[List.getElem?_map,List.getD_eq_getElem?_getD,List.getElem?_eq_getElem h];rfl
section
variable {H:Hp}
theorem B6g(W:Tp T0){T:GT}{v:MV}{xs:List Int}(hx:∀H',C7 T H' v=some (xs.map .int))(hl:xs.length<=1000):Wp (A42 T T0 [v]) H fun v H'=>v=.bool true:=by
 unfold A42;refine Dg rfl ?_;dsimp only[Ci];refine sAsg ?_;refine Wp.mono (Q:=fun v H'=>∃j ns,v=MV.ref j∧H'[j]?=some (MO.list ((ns:List Int).map .int))∧ns≠[]∧ns.length<=5) ?_ ?_
 ·refine wSlice ?_;w_up;refine trL (hx _) (by simp;exact Ks hl) ?_;refine⟨fun h=>?_,fun h=>?_⟩
  ·w_up;refine R1 (hx _) (by simp;exact Ks hl) ?_;rw[D4l,<- List.map_take];refine⟨_,_,rfl,Au,?_,by simp;exact C9n⟩;cases xs with
   | nil=>simp at h
   | cons a l=>simp
  ·w_up;refine R1 (Aq Au) (by simp) ?_;exact⟨_,[2,512,256],rfl,Au,by simp,by simp⟩
 rintro _ H1 ⟨j,ns,rfl,hn,n0,n5⟩;have npos:0<ns.length:=by cases ns with
  | nil=>exact absurd rfl n0
  | cons=>simp
 w_up;refine Kw (Aq hn) (by simp;exact C9o n5) ?_;rw[List.length_map];w_up;refine Ld (fun k=>some (.int ((mAt ns k:Nat):Int))) (fun ρ=>ρ "numbers"=some (.ref j)∧ρ "count"=some (.int (ns.length:Int))) 3 B0o zl3 (by decide) ?_;w_up;refine⟨⟨_,rfl,Au⟩,⟨by k_in,by k_in⟩,?_,?_⟩
 ·rintro k hk ρ H' ⟨i1,i2⟩ p';have hn':=Ah (pre_app.trans p') hn;w_up;refine⟨rfl,⟨by k_in,by k_in⟩,?_⟩;w_up;refine⟨List.prefix_rfl,fun zz=>?_,fun h=>nomatch h⟩;w_up;rw[show ((k:Int)%(ns.length:Int))=((k%ns.length:Nat):Int) by simp];have:=Nat.mod_lt k npos;refine Bl (Aq hn') (Y6 this) (by unfold lim;exact C9p n5 this) ?_;w_up;refine Bl (w:=.int ([33261,17407,35273].getD k 0)) (Aq Au) ?_ (by unfold lim;exact B0q hk) ?_
  ·match k,hk with
   | 0,_=>rfl
   | 1,_=>rfl
   | 2,_=>rfl
   | n+3,h=>exact(B0n h).elim
  w_up;refine⟨pre_app,?_⟩
  congr 2
  unfold mAt;exact C9q
 intro HA xA0 lA;have xA:=pre_app.trans xA0;have rA:(List.range 3).filterMap (fun k=>some (MV.int ((mAt ns k:Nat):Int)))=il (Ef (mAt ns)):=rfl;rw[rA] at lA;have hnA:=Ah xA hn;w_up;refine Ld (fun k=>some (.int ((qAt ns k:Nat):Int))) (fun ρ=>ρ "numbers"=some (.ref j)∧ρ "count"=some (.int (ns.length:Int))) 2 A9g zl3 (by decide) ?_;w_up;refine⟨⟨_,rfl,Au⟩,⟨by k_in,by k_in⟩,?_,?_⟩
 ·rintro k hk ρ H' ⟨i1,i2⟩ p';have hn':=Ah (pre_app.trans p') hnA;w_up;refine⟨rfl,⟨by k_in,by k_in⟩,?_⟩;w_up;refine⟨List.prefix_rfl,fun zz=>?_,fun h=>nomatch h⟩;w_up;rw[show (((k:Int)+3)%(ns.length:Int))=(((k+3)%ns.length:Nat):Int) by simp];have:=Nat.mod_lt (k+3) npos;refine Bl (Aq hn') (Y6 this) (by unfold lim;exact C9r n5 this) ?_;w_up;refine Bl (w:=.int ([33039091,9663987].getD k 0)) (Aq Au) ?_ (by unfold lim;exact A6u hk) ?_
  ·match k,hk with
   | 0,_=>rfl
   | 1,_=>rfl
   | n+2,h=>exact(A64 h).elim
  w_up;refine⟨pre_app,?_⟩
  congr 2
  unfold qAt;exact C9s
 intro HB xB0 lB;have xB:=pre_app.trans xB0;have rB:(List.range 2).filterMap (fun k=>some (MV.int ((qAt ns k:Nat):Int)))=Kr fun k=>.int ((qAt ns k:Nat):Int):=rfl;rw[rB] at lB;have lA2:=Ah xB lA;w_up;refine Kq ?_;w_up;refine Lj (qs:=Kr fun k=>k) (fun v k zz=>v=.int ((qAt ns k:Nat):Int)∧k<2) (fun v k H'=>RepQ (HB.length+1) H' v (qM (qAt ns k))) (fun zz=>True) ?_;w_up;refine⟨_,_,Dd (Aq lB),fun H' p=>Ch (Ei p (Aq lB)),by simp[Kr],by exact zl3,.cons ⟨rfl,Nat.zero_lt_two⟩ (.cons ⟨rfl,Nat.one_lt_two⟩ .nil),trivial,fun zz zz zz zz k h=>h.keep fun j x h1 h2=>k j x (by assumption) h2,?_,?_⟩
 ·rintro _ k ⟨rfl,hk⟩ ρ H' _ p' hlen;w_up;refine⟨rfl,trivial,?_⟩;w_up;refine Wp.mono (T7 B6f) ?_;rintro v H2 ⟨x,y⟩;exact⟨x,y.low (by assumption)⟩
 intro HC rs xC eC lC;w_up;have rr:∃r:Nat->MV,rs=Kr r∧∀k,k<2->RepQ 0 HC (r k) (qM (qAt ns k)):=by
  cases eC with
  | cons g1 eC=>cases eC with
   | cons g2 eC=>cases eC with
    | nil=>
     refine⟨fun k=>if k=0 then _ else _,rfl,fun k hk=>?_⟩
     match k,hk with
     | 0,_=>exact g1.low (Nat.zero_le _)
     | 1,_=>exact g2.low (Nat.zero_le _)
     | n+2,h=>exact(A64 h).elim
 obtain⟨r,rfl,hr⟩:=rr;exact B6c W (m:=mAt ns) (q:=fun k=>qM (qAt ns k)) (fun zz=>B6e) (fun zz=>D15) (Ah xC lA2) lC hr
end
end Mine.Internal
end
noncomputable section
open PySem PySem.W PySem.Calls PyProof.Rows
namespace Mine.Internal
local macro_rules | `(tactic|lk)=>`(tactic|first |kernel_rfl|decide+kernel)
local macro_rules | `(tactic|kd_p)=>`(tactic|decide+kernel)
set_option hygiene false in
local macro_rules | `(tactic|kpf_c)=>`(tactic|first |exact Cy hf|replace hp:=D8 hf hp|cases hf)
set_option hygiene false in
local macro_rules | `(tactic|kcf_m)=>`(tactic|refine On fun Gx hGx=>?_)
local macro_rules | `(tactic|w_up)=>`(tactic|repeat z_go)
noncomputable abbrev B6h(h:Heap):Prop:=∃ps,CodeHd h 115 111∧h.get? 111=some (tabObj ps)∧TriplesOk ps.toList
def cx(T:GT)(w:World)(B:Heap)(mg mb:Str->Option Value)(os:OsState)(h5:(B.get? 115).isSome=true)(h1:(B.get? 111).isSome=true):Cx where
 T:=T
 prog:=pw
 w:=w
 B:=B
 tabs:=[111]
 mg:=mg
 mb:=mb
 os:=os
 inv:=B6h
 invk:=fun h h' x k=>by
  obtain⟨ps,⟨o,vs,file,tf,flags,tg,inF,text,tt,e,r⟩,y,z⟩:=x;exact⟨ps,⟨o,vs,file,tf,flags,tg,inF,text,tt,k _ _ e h5,r⟩,k _ _ y h1,z⟩
 cd:=fun sc c=>sc=As (Ax 27)∧c=115
noncomputable def B8(h:Heap)(n:Nat):Heap:={h with objs:=h.objs.extract 0 n}
theorem I3{h:Heap}{n b:Nat}(hn:n<=h.objs.size):(B8 h n).get? b=if b<n then h.get? b else none:=by
 unfold Heap.get? B8;simp only[Array.getElem?_extract];by_cases q:b<n
 ·simp[q,Nat.min_eq_left hn]
 ·simp[q,Nat.min_eq_left hn]
theorem Q5{h:Heap}{n:Nat}(hn:n<=h.objs.size):(B8 h n).objs.size=n:=by
 unfold B8;simp[Nat.min_eq_left hn]
noncomputable def vrB:MV->Value->Bool
 | .none=>fun v=>decide (v=.none)
 | .bool b=>fun v=>decide (v=.bool b)
 | .int i=>fun v=>Value.isInt i v
 | .str s=>fun v=>Value.isStrOf s v
 | .ref _=>fun zz=>false
 | .val w=>fun v=>decide (v=w)
theorem B6i{m:MV}{v:Value}(h:vrB m v=true):VRel [] m v:=by
 cases m with
 | none=>exact of_decide_eq_true (p:=v=.none) h
 | bool b=>exact of_decide_eq_true (p:=v=.bool b) h
 | int i=>exact Value.isInt_shape h
 | str s=>exact Value.isStrOf_shape h
 | ref k=>exact(Bool.false_ne_true h).elim
 | val w=>exact of_decide_eq_true (p:=v=w) h
def B6j:List MV->List Value->Bool
 | []=>fun vs=>vs.isEmpty
 | m::ms=>fun vs=>vs.head?.any (vrB m)&&B6j ms vs.tail
theorem A8o{ms:List MV}:∀ {vs:List Value},B6j ms vs=true->VRels [] ms vs:=by
 induction ms with
 | nil=>
  intro vs h;cases vs with
  | nil=>exact .nil
  | cons _ _=>exact(Bool.false_ne_true h).elim
 | cons m ms ih=>
  intro vs h;cases vs with
  | nil=>exact(Bool.false_ne_true h).elim
  | cons v vs=>exact .cons (B6i (Bool.and_eq_true_iff.mp h).1) (ih (Bool.and_eq_true_iff.mp h).2)
theorem Se{w:World}{h:Heap}(Y:∀b o,(H1 w.params).get? b=some o->h.get? b=some o){n:Nat}(hn:n<=h.objs.size)(h3:303<=n){b:Nat}{o:Obj}(e:(H1 w.params).get? b=some o)(hb:Nat.blt b 303=true):(B8 h n).get? b=some o:=by
 have:=Nat.le_of_ble_eq_true hb;rw[I3 hn,if_pos (by exact Nat.lt_of_lt_of_le ‹_› ‹_›)];exact Y b o e
def dS(xs:List MV):Data->Bool
 | .seq items _=>B6j xs items.toList
 | _=>false
theorem D16{xs:List MV}{d:Data}(h:dS xs d=true):∃items n,d=.seq items n∧VRels [] xs items.toList:=by
 cases d <;> first |exact(Bool.false_ne_true h).elim|exact⟨_,_,rfl,A8o h⟩
def A6j(t:BT)(cls:String)(a:Nat)(xs:List MV):Bool:=Nat.blt a 303&&(t.get a).any fun o=>decide (o.cls=.type cls)&&dS xs o.data
theorem Y7{w:World}{cls:String}{a:Nat}{xs:List MV}(h:A6j (T6 w.params) cls a xs=true):∃o items n,(H1 w.params).get? a=some o∧o.cls=.type cls∧o.data=.seq items n∧VRels [] xs items.toList∧Nat.blt a 303=true:=by
 obtain⟨h1,h⟩:=Bool.and_eq_true_iff.mp h;obtain⟨o,e,h⟩:=(Option.any_eq_true _ _).mp h;obtain⟨h2,h⟩:=Bool.and_eq_true_iff.mp h;obtain⟨items,n,d,r⟩:=D16 h;obtain⟨o1,o2,o3,o4⟩:=o;have h2:=of_decide_eq_true (p:=o1=.type cls) h2;cases h2;cases d;exact⟨_,items,n,I7 h1 e,rfl,rfl,r,h1⟩
structure Wld(w:World)(s:Shared)(n:Nat)(mg mb:Str->Option Value):Prop where
 Y:∀b o,(H1 w.params).get? b=some o->s.heap.get? b=some o
 hn:n<=s.heap.objs.size
 h3:303<=n
 g:s.heap.Ns mainGlobals mg
 b:s.heap.Ns builtinsNs mb
 nolimit:s.heap.NoLimit
 nodigits:∃mc,s.heap.Ns cStatics mc∧mc "sys.int_max_str_digits"=none
 builtins:∀x:Str,x≠"__name__"->mb x=bootBuiltins x
 bmain:∃bm ob,mg "__builtins__"=some (.ref bm)∧bm≠builtinsNs∧s.heap.get? bm=some ob∧ob.cls=.type "module"∧ob.dict=some builtinsNs∧ob.data=.plain
section
variable {w:World} {s:Shared} {n:Nat} {mg mb:Str->Option Value}
theorem Wld.obj(X:Wld w s n mg mb){b:Nat}{o:Obj}(hb:Nat.blt b 303=true)(e:(T6 w.params).get b=some o)(al:alive o=some o):(B8 s.heap n).get? b=some o:=
 Se X.Y X.hn X.h3 ((I7 hb e).trans al) hb
theorem Wld.same(X:Wld w s n mg mb){b:Nat}(hb:Nat.blt b 303=true):∀o,s.heap.get? b=some o->(B8 s.heap n).get? b=some o:=fun o e=>by
 have:=Nat.le_of_ble_eq_true hb;have:=X.h3;rw[I3 X.hn,if_pos (by exact Nat.lt_of_lt_of_le ‹_› ‹_›)];exact e
theorem Wld.glob(X:Wld w s n mg mb)(x:Str):mg x=(H1 w.params).nsMap mainGlobals x:=by
 rw[X.g.eq_nsMap];unfold Heap.nsMap;rw[show mainGlobals=3 from rfl,B4v,X.Y 3 _ (B4v w.params)]
end
section
variable {w:World} {s:Shared} {n:Nat} {mg mb:Str->Option Value} {T':GT} {h5:((B8 s.heap n).get? 115).isSome=true} {h1:((B8 s.heap n).get? 111).isSome=true}
theorem A91(X:Wld w s n mg mb)(hl:∀a xs,T'.lst a=some xs->∃vs,(B8 s.heap n).IsList a vs∧VRels [] xs vs.toList∧a ∉ [111])(ht:∀a xs,T'.tup a=some xs->∃vs,(B8 s.heap n).IsTuple a vs∧VRels [] xs vs.toList∧a ∉ [111])
  (la:∃o,(B8 s.heap n).get? (n-1)=some o):Gd (cx T' w (B8 s.heap n) mg mb s.os h5 h1) where
 g:=X.g.at (X.same (by decide))
 b:=X.b.at (X.same (by decide))
 gt:=by show 3 ∉ [111];decide
 bt:=by show 0 ∉ [111];decide
 st:=by show 2 ∉ [111];decide
 nolimit:=X.nolimit.at (X.same (by decide))
 nodigits:=let ⟨mc,a,b⟩:=X.nodigits;⟨mc,a.at (X.same (by decide)),b⟩
 tabs:=fun t h=>by
  rw[List.mem_singleton.mp (show t∈[111] from h)];exact Option.isSome_iff_exists.mp h1
 glst:=hl
 gtup:=ht
 low:=by
  show 1<(B8 s.heap n).objs.size;rw[Q5 X.hn];have:=X.h3;exact C9t this
 last:=by
  show ∃o,(B8 s.heap n).get? ((B8 s.heap n).objs.size-1)=some o;rw[Q5 X.hn];exact la
end
section
variable {w:World} {s:Shared} {n:Nat} {mg mb:Str->Option Value}
theorem B6k(X:Wld w s n mg mb){a:Nat}{xs:List MV}(h:A6j (T6 w.params) "list" a xs=true):∃vs,(B8 s.heap n).IsList a vs∧VRels [] xs vs.toList:=by
 obtain⟨o,items,k,e,c,d,v,hb⟩:=Y7 h;exact⟨items,⟨o,Se X.Y X.hn X.h3 e hb,c,k,d⟩,v⟩
theorem B6l(X:Wld w s n mg mb){a:Nat}{xs:List MV}(h:A6j (T6 w.params) "tuple" a xs=true):∃vs,(B8 s.heap n).IsTuple a vs∧VRels [] xs vs.toList:=by
 obtain⟨o,items,k,e,c,d,v,hb⟩:=Y7 h;exact⟨items,⟨o,Se X.Y X.hn X.h3 e hb,c,k,d⟩,v⟩
theorem A8p(P:Params):A6j (T6 P) "list" 39 ((List.range 256).map fun c=>sl (Fv c))=true:=by lk
theorem A8q(P:Params):(tupL.all fun p=>A6j (T6 P) "tuple" p.1 p.2&&!(p.1==111))=true:=by lk
theorem Q6{α β:Type}[BEq α][LawfulBEq α]:∀ {l:List (α × β)} {a:α} {b:β},l.lookup a=some b->(a,b)∈l
 | (x,y)::l,a,b,h=>by
  rw[List.lookup_cons] at h
  split at h
  ·rename_i e;cases h;rw[eq_of_beq e];exact .head _
  ·exact .tail _ (Q6 h)
theorem A6k(X:Wld w s n mg mb):∀a xs,T0.lst a=some xs->∃vs,(B8 s.heap n).IsList a vs∧VRels [] xs vs.toList∧a ∉ [111]:=fun a xs h=>by
 simp only[T0] at h
 split at h
 ·rename_i e;subst e;cases h;obtain⟨vs,a,b⟩:=B6k X (A8p w.params);exact⟨vs,a,b,by decide⟩
 ·cases h
theorem A6l(X:Wld w s n mg mb):∀a xs,T0.tup a=some xs->∃vs,(B8 s.heap n).IsTuple a vs∧VRels [] xs vs.toList∧a ∉ [111]:=fun a xs h=>by
 have:=List.all_eq_true.mp (A8q w.params) _ (Q6 h);rw[Bool.and_eq_true] at this;obtain⟨vs,x,y⟩:=B6l X this.1;exact⟨vs,x,y,by simpa using this.2⟩
end
abbrev fnD(name:Str)(i:Nat)(c:Addr)(md:Value):FuncData:=FuncData.mk name name (Me (Ax i)) (.stmts (Az (Ax i))) (As (Ax i)) 3 [] .none .none .none md none (.ref c) .none 0
abbrev fnO(name:Str)(i:Nat)(c:Addr)(md:Value):Obj:=Obj.mk (.type "function") none (.func (fnD name i c md)) ⟨[]⟩
theorem Q7{l:List Value}{n:Nat}(h:l.length=n+1):∃a t,l=a::t∧t.length=n:=by
 cases l with
 | nil=>exact absurd h.symm (Nat.succ_ne_zero n)
 | cons a t=>exact⟨a,t,rfl,Nat.succ.inj h⟩
theorem Ev{p:Str}{fd:FuncData}(h:∀a,bindArgs fd ⟨[a],[]⟩=pure [(p,a)]):∀vs:List Value,vs.length=[p].length->bindArgs fd ⟨vs,[]⟩=pure ([p].zip vs)
 :=fun vs hv=>by
 obtain⟨a,t,rfl,e⟩:=Q7 hv;obtain rfl:=List.eq_nil_of_length_eq_zero e;exact h a
theorem Ut{p q:Str}{fd:FuncData}(h:∀a b,bindArgs fd ⟨[a,b],[]⟩=pure [(p,a),(q,b)]):∀vs:List Value,vs.length=[p,q].length->bindArgs fd ⟨vs,[]⟩=pure ([p,q].zip vs)
 :=fun vs hv=>by
 obtain⟨a,t1,rfl,e1⟩:=Q7 hv;obtain⟨b,t2,rfl,e2⟩:=Q7 e1;obtain rfl:=List.eq_nil_of_length_eq_zero e2;exact h a b
theorem Y8{p q r:Str}{fd:FuncData}(h:∀a b c,bindArgs fd ⟨[a,b,c],[]⟩=pure [(p,a),(q,b),(r,c)]):∀vs:List Value,vs.length=[p,q,r].length->bindArgs fd ⟨vs,[]⟩=pure ([p,q,r].zip vs)
 :=fun vs hv=>by
 obtain⟨a,t1,rfl,e1⟩:=Q7 hv;obtain⟨b,t2,rfl,e2⟩:=Q7 e1;obtain⟨c,t3,rfl,e3⟩:=Q7 e2;obtain rfl:=List.eq_nil_of_length_eq_zero e3;exact h a b c
section
variable {w:World} {s:Shared} {n:Nat} {mg mb:Str->Option Value} {T':GT} {h5:((B8 s.heap n).get? 115).isSome=true} {h1:((B8 s.heap n).get? 111).isSome=true}
theorem Dh(X:Wld w s n mg mb){a c i:Nat}{name:Str}{md:Value}{oa oc:Obj}{vc:Array Value}{t:PySem.Tok}{ps:List Str}(ha:Nat.blt a 303=true)(hc:Nat.blt c 303=true)
  (ea:(T6 w.params).get a=some oa) (eo:oa=fnO name i c md) (la:alive oa=some oa) (ec:(T6 w.params).get c=some oc) (al:alive oc=some oc) (hd:oc.data=.fields vc) (hq:vc[1]?=some (.str name t)) (na:a ∉ [111]) (nc:c ∉ [111])
  (hb:∀vs:List Value,vs.length=ps.length->bindArgs (fnD name i c md) ⟨vs,[]⟩=pure (ps.zip vs)) (hs:((As (Ax i)).names.length==(As (Ax 27)).names.length)=false∨c=115):
  FnAt (cx T' w (B8 s.heap n) mg mb s.os h5 h1) a (As (Ax i)) (Az (Ax i)) ps:=by
 subst eo;refine⟨c,_,oc,fnD name i c md,vc,t,X.obj ha ea la,rfl,rfl,na,rfl,rfl,rfl,rfl,rfl,X.obj hc ec al,nc,hd,hq,rfl,hb,fun c' q=>?_⟩;rcases hs with e|e
 ·rw[show As (Ax i)=_ from q.1] at e;simp at e
 ·rw[e];exact q.2
theorem M8(X:Wld w s n mg mb):FnAt (cx T' w (B8 s.heap n) mg mb s.os h5 h1) 262 (As (Ax 66)) (Az (Ax 66)) ["q"]:=
 Dh X (oc:=A3n) (by decide) (by decide) (by lk:(T6 w.params).get 262=some A3o) rfl rfl (by lk) rfl rfl rfl (by decide) (by decide) (Ev (by intro _;lk)) (by kd_p)
theorem Np(X:Wld w s n mg mb):FnAt (cx T' w (B8 s.heap n) mg mb s.os h5 h1) 272 (As (Ax 68)) (Az (Ax 68)) ["signs","every","dress"]:=
 Dh X (oc:=A3r) (by decide) (by decide) (by lk:(T6 w.params).get 272=some A3s) rfl rfl (by lk) rfl rfl rfl (by decide) (by decide) (Y8 (by intro _ _ _;lk)) (by kd_p)
theorem Nq(X:Wld w s n mg mb):FnAt (cx T' w (B8 s.heap n) mg mb s.os h5 h1) 282 (As (Ax 70)) (Az (Ax 70)) ["question"]:=
 Dh X (oc:=A3v) (by decide) (by decide) (by lk:(T6 w.params).get 282=some A3w) rfl rfl (by lk) rfl rfl rfl (by decide) (by decide) (Ev (by intro _;lk)) (by kd_p)
theorem Nr(X:Wld w s n mg mb):FnAt (cx T' w (B8 s.heap n) mg mb s.os h5 h1) 277 (As (Ax 69)) (Az (Ax 69)) ["question"]:=
 Dh X (oc:=A3t) (by decide) (by decide) (by lk:(T6 w.params).get 277=some A3u) rfl rfl (by lk) rfl rfl rfl (by decide) (by decide) (Ev (by intro _;lk)) (by kd_p)
theorem Qe(X:Wld w s n mg mb):FnAt (cx T' w (B8 s.heap n) mg mb s.os h5 h1) 267 (As (Ax 67)) (Az (Ax 67)) ["question","mode"]:=
 Dh X (oc:=A3p) (by decide) (by decide) (by lk:(T6 w.params).get 267=some A3q) rfl rfl (by lk) rfl rfl rfl (by decide) (by decide) (Ut (by intro _ _;lk)) (by kd_p)
theorem A01(X:Wld w s n mg mb):FnAt (cx T' w (B8 s.heap n) mg mb s.os h5 h1) 137 (As (Ax 31)) (Az (Ax 31)) ["mode"]:=
 Dh X (oc:=A2v) (by decide) (by decide) (by lk:(T6 w.params).get 137=some A2w) rfl rfl (by lk) rfl rfl rfl (by decide) (by decide) (Ev (by intro _;lk)) (by kd_p)
theorem Xi(X:Wld w s n mg mb):FnAt (cx T' w (B8 s.heap n) mg mb s.os h5 h1) 130 (As (Ax 30)) (Az (Ax 30)) ["mode"]:=
 Dh X (oc:=A2t) (by decide) (by decide) (by lk:(T6 w.params).get 130=some A2u) rfl rfl (by lk) rfl rfl rfl (by decide) (by decide) (Ev (by intro _;lk)) (by kd_p)
theorem Xj(X:Wld w s n mg mb):FnAt (cx T' w (B8 s.heap n) mg mb s.os h5 h1) 158 (As (Ax 41)) (Az (Ax 41)) ["mode"]:=
 Dh X (oc:=A21) (by decide) (by decide) (by lk:(T6 w.params).get 158=some A22) rfl rfl (by lk) rfl rfl rfl (by decide) (by decide) (Ev (by intro _;lk)) (by kd_p)
theorem Xk(X:Wld w s n mg mb):FnAt (cx T' w (B8 s.heap n) mg mb s.os h5 h1) 151 (As (Ax 40)) (Az (Ax 40)) ["mode"]:=
 Dh X (oc:=A2z) (by decide) (by decide) (by lk:(T6 w.params).get 151=some A20) rfl rfl (by lk) rfl rfl rfl (by decide) (by decide) (Ev (by intro _;lk)) (by kd_p)
theorem Xl(X:Wld w s n mg mb):FnAt (cx T' w (B8 s.heap n) mg mb s.os h5 h1) 144 (As (Ax 39)) (Az (Ax 39)) ["mode"]:=
 Dh X (oc:=A2x) (by decide) (by decide) (by lk:(T6 w.params).get 144=some A2y) rfl rfl (by lk) rfl rfl rfl (by decide) (by decide) (Ev (by intro _;lk)) (by kd_p)
theorem Uu(X:Wld w s n mg mb):FnAt (cx T' w (B8 s.heap n) mg mb s.os h5 h1) 172 (As (Ax 43)) (Az (Ax 43)) ["mode"]:=
 Dh X (oc:=A25) (by decide) (by decide) (by lk:(T6 w.params).get 172=some A26) rfl rfl (by lk) rfl rfl rfl (by decide) (by decide) (Ev (by intro _;lk)) (by kd_p)
theorem Xm(X:Wld w s n mg mb):FnAt (cx T' w (B8 s.heap n) mg mb s.os h5 h1) 179 (As (Ax 44)) (Az (Ax 44)) ["mode"]:=
 Dh X (oc:=A27) (by decide) (by decide) (by lk:(T6 w.params).get 179=some A28) rfl rfl (by lk) rfl rfl rfl (by decide) (by decide) (Ev (by intro _;lk)) (by kd_p)
theorem Xn(X:Wld w s n mg mb):FnAt (cx T' w (B8 s.heap n) mg mb s.os h5 h1) 165 (As (Ax 42)) (Az (Ax 42)) ["mode"]:=
 Dh X (oc:=A23) (by decide) (by decide) (by lk:(T6 w.params).get 165=some A24) rfl rfl (by lk) rfl rfl rfl (by decide) (by decide) (Ev (by intro _;lk)) (by kd_p)
theorem Uv(X:Wld w s n mg mb):FnAt (cx T' w (B8 s.heap n) mg mb s.os h5 h1) 186 (As (Ax 45)) (Az (Ax 45)) ["mode"]:=
 Dh X (oc:=A29) (by decide) (by decide) (by lk:(T6 w.params).get 186=some A3a) rfl rfl (by lk) rfl rfl rfl (by decide) (by decide) (Ev (by intro _;lk)) (by kd_p)
theorem Qf(X:Wld w s n mg mb):FnAt (cx T' w (B8 s.heap n) mg mb s.os h5 h1) 287 (As (Ax 71)) (Az (Ax 71)) ["mode","listed"]:=
 Dh X (oc:=A3x) (by decide) (by decide) (by lk:(T6 w.params).get 287=some A3y) rfl rfl (by lk) rfl rfl rfl (by decide) (by decide) (Ut (by intro _ _;lk)) (by kd_p)
theorem Pv(X:Wld w s n mg mb):FnAt (cx T' w (B8 s.heap n) mg mb s.os h5 h1) 233 (As (Ax 61)) (Az (Ax 61)) ["mode"]:=
 Dh X (oc:=A3d) (by decide) (by decide) (by lk:(T6 w.params).get 233=some A3e) rfl rfl (by lk) rfl rfl rfl (by decide) (by decide) (Ev (by intro _;lk)) (by kd_p)
theorem Uw(X:Wld w s n mg mb):FnAt (cx T' w (B8 s.heap n) mg mb s.os h5 h1) 238 (As (Ax 62)) (Az (Ax 62)) ["inside"]:=
 Dh X (oc:=A3f) (by decide) (by decide) (by lk:(T6 w.params).get 238=some A3g) rfl rfl (by lk) rfl rfl rfl (by decide) (by decide) (Ev (by intro _;lk)) (by kd_p)
theorem Sf(X:Wld w s n mg mb):FnAt (cx T' w (B8 s.heap n) mg mb s.os h5 h1) 243 (As (Ax 63)) (Az (Ax 63)) ["told"]:=
 Dh X (oc:=A3h) (by decide) (by decide) (by lk:(T6 w.params).get 243=some A3i) rfl rfl (by lk) rfl rfl rfl (by decide) (by decide) (Ev (by intro _;lk)) (by kd_p)
theorem Ux(X:Wld w s n mg mb):FnAt (cx T' w (B8 s.heap n) mg mb s.os h5 h1) 292 (As (Ax 72)) (Az (Ax 72)) ["form","ahead","behind"]:=
 Dh X (oc:=A3z) (by decide) (by decide) (by lk:(T6 w.params).get 292=some A30) rfl rfl (by lk) rfl rfl rfl (by decide) (by decide) (Y8 (by intro _ _ _;lk)) (by kd_p)
theorem Sg(X:Wld w s n mg mb):FnAt (cx T' w (B8 s.heap n) mg mb s.os h5 h1) 250 (As (Ax 64)) (Az (Ax 64)) ["atoms","name","at"]:=
 Dh X (oc:=A3j) (by decide) (by decide) (by lk:(T6 w.params).get 250=some A3k) rfl rfl (by lk) rfl rfl rfl (by decide) (by decide) (Y8 (by intro _ _ _;lk)) (by kd_p)
theorem Qg(X:Wld w s n mg mb):FnAt (cx T' w (B8 s.heap n) mg mb s.os h5 h1) 257 (As (Ax 65)) (Az (Ax 65)) ["parts","name"]:=
 Dh X (oc:=A3l) (by decide) (by decide) (by lk:(T6 w.params).get 257=some A3m) rfl rfl (by lk) rfl rfl rfl (by decide) (by decide) (Ut (by intro _ _;lk)) (by kd_p)
theorem Uy(X:Wld w s n mg mb):FnAt (cx T' w (B8 s.heap n) mg mb s.os h5 h1) 226 (As (Ax 59)) (Az (Ax 59)) ["mode"]:=
 Dh X (oc:=A3b) (by decide) (by decide) (by lk:(T6 w.params).get 226=some A3c) rfl rfl (by lk) rfl rfl rfl (by decide) (by decide) (Ev (by intro _;lk)) (by kd_p)
theorem Xo(X:Wld w s n mg mb):FnAt (cx T' w (B8 s.heap n) mg mb s.os h5 h1) 59 (As (Ax 13)) (Az (Ax 13)) ["s"]:=
 Dh X (oc:=Xw) (by decide) (by decide) (by lk:(T6 w.params).get 59=some Xx) rfl rfl (by lk) rfl rfl rfl (by decide) (by decide) (Ev (by intro _;lk)) (by kd_p)
theorem Mc(X:Wld w s n mg mb):FnAt (cx T' w (B8 s.heap n) mg mb s.os h5 h1) 78 (As (Ax 18)) (Az (Ax 18)) ["match"]:=
 Dh X (oc:=X0) (by decide) (by decide) (by lk:(T6 w.params).get 78=some X1) rfl rfl (by lk) rfl rfl rfl (by decide) (by decide) (Ev (by intro _;lk)) (by kd_p)
theorem M9(X:Wld w s n mg mb):FnAt (cx T' w (B8 s.heap n) mg mb s.os h5 h1) 85 (As (Ax 19)) (Az (Ax 19)) ["s"]:=
 Dh X (oc:=X2) (by decide) (by decide) (by lk:(T6 w.params).get 85=some X3) rfl rfl (by lk) rfl rfl rfl (by decide) (by decide) (Ev (by intro _;lk)) (by kd_p)
theorem A6m(X:Wld w s n mg mb):FnAt (cx T' w (B8 s.heap n) mg mb s.os h5 h1) 66 (As (Ax 14)) (Az (Ax 14)) ["c"]:=
 Dh X (oc:=Xy) (by decide) (by decide) (by lk:(T6 w.params).get 66=some Xz) rfl rfl (by lk) rfl rfl rfl (by decide) (by decide) (Ev (by intro _;lk)) (by kd_p)
theorem Hy(X:Wld w s n mg mb):FnAt (cx T' w (B8 s.heap n) mg mb s.os h5 h1) 123 (As (Ax 28)) (Az (Ax 28)) ["inp","STAR"]:=
 Dh X (oc:=A2r) (by decide) (by decide) (by lk:(T6 w.params).get 123=some A2s) rfl rfl (by lk) rfl rfl rfl (by decide) (by decide) (Ut (by intro _ _;lk)) (by kd_p)
theorem A02(X:Wld w s n mg mb):FnAt (cx T' w (B8 s.heap n) mg mb s.os h5 h1) 109 (As (Ax 25)) (Az (Ax 25)) ["pattern"]:=
 Dh X (oc:=A2o) (by decide) (by decide) (by lk:(T6 w.params).get 109=some A2p) rfl rfl (by lk) rfl rfl rfl (by decide) (by decide) (Ev (by intro _;lk)) (by kd_p)
theorem Qh(X:Wld w s n mg mb):FnAt (cx T' w (B8 s.heap n) mg mb s.os h5 h1) 116 (As (Ax 27)) (Az (Ax 27)) ["pat","STAR","QUESTION_MARK"]:=
 Dh X (oc:=Kz) (by decide) (by decide) (by lk:(T6 w.params).get 116=some A2q) rfl rfl (by lk) rfl rfl rfl (by decide) (by decide) (Y8 (by intro _ _ _;lk)) (by kd_p)
theorem Sh(X:Wld w s n mg mb):FnAt (cx T' w (B8 s.heap n) mg mb s.os h5 h1) 97 (As (Ax 22)) (Az (Ax 22)) ["pat"]:=
 Dh X (oc:=X6) (by decide) (by decide) (by lk:(T6 w.params).get 97=some X7) rfl rfl (by lk) rfl rfl rfl (by decide) (by decide) (Ev (by intro _;lk)) (by kd_p)
theorem Uz(X:Wld w s n mg mb):FnAt (cx T' w (B8 s.heap n) mg mb s.os h5 h1) 297 (As (Ax 73)) (Az (Ax 73)) ["modes","questions"]:=
 Dh X (oc:=A31) (by decide) (by decide) (by lk:(T6 w.params).get 297=some A32) rfl rfl (by lk) rfl rfl rfl (by decide) (by decide) (Ut (by intro _ _;lk)) (by kd_p)
theorem B6m(X:Wld w s n mg mb):FnAt (cx T' w (B8 s.heap n) mg mb s.os h5 h1) 302 (As (Ax 74)) (Az (Ax 74)) ["script"]:=
 Dh X (oc:=A33) (by decide) (by decide) (by lk:(T6 w.params).get 302=some Q9) rfl rfl (by lk) rfl rfl rfl (by decide) (by decide) (Ev (by intro _;lk)) (by kd_p)
end
def nsv(P:Params)(x:Str):Option Value:=match (A68 P).data with
 | .dict es _=>nsFind es x
 | _=>none
noncomputable def kb(e:DictEntry):Bool:=match e.key with
 | .int i _=>e.hash==hashInt i
 | _=>false
section
variable {w:World} {s:Shared} {n:Nat} {mg mb:Str->Option Value} {T':GT} {h5:((B8 s.heap n).get? 115).isSome=true} {h1:((B8 s.heap n).get? 111).isSome=true}
theorem Wld.gv(X:Wld w s n mg mb){x:Str}{v:Option Value}(e:nsv w.params x=v):mg x=v:=by
 rw[X.glob x,<- e];unfold Heap.nsMap;rw[show mainGlobals=3 from rfl,B4v];rfl
theorem Wld.bv(X:Wld w s n mg mb){x:Str}{v:Option Value}(hx:(x==("__name__":Str))=false)(e:bootBuiltins x=v):mb x=v:=by
 rw[X.builtins x (by simpa using hx),e]
theorem B6n(X:Wld w s n mg mb):B45 (cx T' w (B8 s.heap n) mg mb s.os h5 h1) 99:=by
 have e:(T6 w.params).get 99=some o99v0:=by lk
 have hk:(match o99v0.data with | .dict es _=>es.toList.all kb|_=>false)=true:=by lk
 have hf:(match o99v0.data with | .dict es _=>findBy Value.isInt es 61|_=>none)=none:=by lk
 refine⟨by show 99 ∉ [111];decide,by decide,fun k=>findBy Value.isInt _ k,⟨_,_,_,X.obj (by decide) e rfl,⟨rfl,rfl,rfl⟩,rfl,fun x hx=>?_,fun zz=>rfl⟩,hf⟩;have:=List.all_eq_true.mp hk x (Array.mem_toList_iff.mpr hx);unfold kb at this
 split at this
 ·rename_i i t q;exact⟨i,by show Value.isInt i x.key=true;rw[q];simp[Value.isInt],beq_iff_eq.mp this⟩
 ·cases this
theorem A92(X:Wld w s n mg mb):Wd (cx T' w (B8 s.heap n) mg mb s.os h5 h1) where
 pat_twin_re_1_quoprimime:=fun α H s' hr=>⟨Qo,_,35,Qm,_,_,hr.keepB 36 _ (X.obj (by decide) (by lk) rfl) (by show 36 ∉ [111];decide),rfl,rfl,rfl,rfl,rfl,rfl,hr.keepB 35 _ (X.obj (by decide) (by lk) rfl) (by show 35 ∉ [111];decide),rfl,by lk⟩
 pat_twin_re_1_fnmatch:=fun α H s' hr=>⟨X5,_,89,X4,_,_,hr.keepB 90 _ (X.obj (by decide) (by lk) rfl) (by show 90 ∉ [111];decide),rfl,rfl,rfl,rfl,rfl,rfl,hr.keepB 89 _ (X.obj (by decide) (by lk) rfl) (by show 89 ∉ [111];decide),rfl,by lk⟩
 tr:=B6n X
 code:=⟨⟨rfl,rfl⟩,fun zz x=>x,fun zz ps a b c=>⟨ps,a,b,c⟩,by show 111∈[111];decide⟩
 bat:=fun α H s' hr=>⟨4,Q8,X.gv (by lk),by decide,by decide,by decide,hr.keepB 4 _ (X.obj (by decide) (by lk) rfl) (by show 4 ∉ [111];decide),rfl,rfl,rfl⟩
 bfor:=fun A α H s' Q E hr h=>wpAny_builtinsFor (bm:=4) (o:=Q8) ((X.g.at (X.same (by decide))).at fun o ho=>hr.keepB _ o ho (by show 3 ∉ [111];decide)) (X.gv (by lk)) (by decide) (hr.keepB 4 _ (X.obj (by decide) (by lk) rfl) (by show 4 ∉ [111];decide)) rfl rfl rfl h
 g_S_IFBLK:=⟨2149,X.gv (by lk)⟩
 g_S_IFCHR:=⟨2147,X.gv (by lk)⟩
 g_S_IFDIR:=⟨2145,X.gv (by lk)⟩
 g_S_IFIFO:=⟨2153,X.gv (by lk)⟩
 g_S_IFLNK:=⟨2155,X.gv (by lk)⟩
 g_S_IFREG:=⟨2151,X.gv (by lk)⟩
 g_S_IFSOCK:=⟨2157,X.gv (by lk)⟩
 g_S_IFMT:=X.gv (by lk)
 g_S_IMODE:=X.gv (by lk)
 g_S_ISBLK:=X.gv (by lk)
 g_S_ISCHR:=X.gv (by lk)
 g_S_ISDIR:=X.gv (by lk)
 g_S_ISFIFO:=X.gv (by lk)
 g_S_ISLNK:=X.gv (by lk)
 g_S_ISREG:=X.gv (by lk)
 g_S_ISSOCK:=X.gv (by lk)
 g__QUOPRI_MAP:=X.gv (by lk)
 g__filemode_table:=X.gv (by lk)
 g__join_translated_parts:=X.gv (by lk)
 g__law_bracket:=X.gv (by lk)
 g__law_columns:=X.gv (by lk)
 g__law_figures:=X.gv (by lk)
 g__law_fits:=X.gv (by lk)
 g__law_holds:=X.gv (by lk)
 g__law_kinds:=X.gv (by lk)
 g__law_listed:=X.gv (by lk)
 g__law_question:=X.gv (by lk)
 g__law_read:=X.gv (by lk)
 g__law_row:=X.gv (by lk)
 g__law_run:=X.gv (by lk)
 g__law_set:=X.gv (by lk)
 g__law_takes:=X.gv (by lk)
 g__special_chars_map:=X.gv (by lk)
 g__translate:=X.gv (by lk)
 g__unquote_match:=X.gv (by lk)
 g_escape:=X.gv (by lk)
 g_filemode:=X.gv (by lk)
 g_header_decode:=X.gv (by lk)
 g_law:=X.gv (by lk)
 g_quote:=X.gv (by lk)
 g_translate:=X.gv (by lk)
 g_twin_re_1_fnmatch:=X.gv (by lk)
 g_twin_re_1_quoprimime:=X.gv (by lk)
 g_unquote:=X.gv (by lk)
 n_chr:=X.gv (by lk)
 n_enumerate:=X.gv (by lk)
 n_int:=X.gv (by lk)
 n_isinstance:=X.gv (by lk)
 n_len:=X.gv (by lk)
 n_object:=X.gv (by lk)
 n_ord:=X.gv (by lk)
 n_range:=X.gv (by lk)
 n_str:=X.gv (by lk)
 b_chr:=X.bv (by kd_p) (by lk)
 b_enumerate:=X.bv (by kd_p) (by lk)
 b_int:=X.bv (by kd_p) (by lk)
 b_isinstance:=X.bv (by kd_p) (by lk)
 b_len:=X.bv (by kd_p) (by lk)
 b_object:=X.bv (by kd_p) (by lk)
 b_ord:=X.bv (by kd_p) (by lk)
 b_range:=X.bv (by kd_p) (by lk)
 b_str:=X.bv (by kd_p) (by lk)
 f__law_question:=M8 X
 f__law_bracket:=Np X
 f__law_columns:=Nq X
 f__law_figures:=Nr X
 f__law_holds:=Qe X
 f_S_IFMT:=A01 X
 f_S_IMODE:=Xi X
 f_S_ISBLK:=Xj X
 f_S_ISCHR:=Xk X
 f_S_ISDIR:=Xl X
 f_S_ISFIFO:=Uu X
 f_S_ISLNK:=Xm X
 f_S_ISREG:=Xn X
 f_S_ISSOCK:=Uv X
 f__law_kinds:=Qf X
 f__law_listed:=Pv X
 f__law_set:=Uw X
 f__law_read:=Sf X
 f__law_row:=Ux X
 f__law_fits:=Sg X
 f__law_takes:=Qg X
 f_filemode:=Uy X
 f_unquote:=Xo X
 f__unquote_match:=Mc X
 f_header_decode:=M9 X
 f_quote:=A6m X
 f__join_translated_parts:=Hy X
 f_escape:=A02 X
 f__translate:=Qh X
 f_translate:=Sh X
 f__law_run:=Uz X
 f_law:=B6m X
 cd:=fun zz zz q=>q.1
end
theorem tp0:Tp T0 where
 qm:=rfl
 fmt:=by
  refine⟨_,rfl,rfl,?_⟩
  repeat (first |exact All2.nil|refine All2.cons ?_ ?_|refine⟨_,_,rfl,rfl,rfl,?_⟩|exact⟨_,rfl,rfl⟩)
 asks:=by decide
theorem A6n{R:WRecords}{ds:List WData}(h:WShape.hasItems R ds .int=true):∃xs:List Int,ds=xs.map .int:=by
 induction ds with
 | nil=>exact⟨[],rfl⟩
 | cons d ds ih=>
  simp only[WShape.hasItems,Bool.and_eq_true] at h;obtain⟨i,rfl⟩:=hasW_int h.1;obtain⟨xs,rfl⟩:=ih h.2;exact⟨i::xs,rfl⟩
theorem A8r{args:List WData}(h:lw.row.toRowW.claim.pre args=true):∃xs:List Int,args=[.list (xs.map .int)]∧xs.length<=63:=by
 obtain⟨h1,h2⟩:=pre_splitW h;obtain⟨d,r,rfl,hd,hr⟩:=hasAllW_cons (show WShape.hasAll [] args [.list .int]=true from h1);obtain rfl:=hasAllW_nil hr;obtain⟨ds,rfl,hi⟩:=hasW_list hd;obtain⟨xs,rfl⟩:=A6n hi;refine⟨xs,rfl,?_⟩;have h2:WTm.holds [] (.and (.not (.lt (.lit (.int 63)) (.len (.arg 0)))) (.lit (.bool true))) {args:=[.list (xs.map .int)]}=true:=h2;simp[WTm.holds,WTm.value] at h2;refine Nat.le_of_not_lt fun hl=>?_;have e:less? (.int 63) (.int (xs.length:Int))=some true:=by
  have:(63:Int)<(xs.length:Int):=by exact C9u hl
  exact(show _=some (decide ((63:Int)<(xs.length:Int))) from rfl).trans (by rw[decide_eq_true this])
 rw[e] at h2;cases h2
theorem Xp{R:WRecords}{cl:Str->Option Addr}{h:Heap}{vs:List Value}{xs:List Int}{as:List Addr}(x:ReadsAllW R cl h vs (xs.map .int) as):VRels [] (xs.map MV.int) vs:=by
 induction xs generalizing vs as with
 | nil=>cases x;exact .nil
 | cons i xs ih=>
  cases x with
  | cons a b=>
   cases a;exact .cons ⟨_,rfl⟩ (ih b)
theorem hr0{w:World}{s:Shared}{n:Nat}{mg mb:Str->Option Value}{T':GT}{h5:((B8 s.heap n).get? 115).isSome=true}{h1:((B8 s.heap n).get? 111).isSome=true}(X:Wld w s n mg mb)(hg:s.gens=#[]):HR (cx T' w (B8 s.heap n) mg mb s.os h5 h1) [] [] s where
 keepB:=fun b o h zz=>by
  rw[show (cx T' w (B8 s.heap n) mg mb s.os h5 h1).B=B8 s.heap n from rfl,I3 X.hn] at h
  split at h
  ·exact h
  ·cases h
 liveB:=fun b o h=>by
  rw[show (cx T' w (B8 s.heap n) mg mb s.os h5 h1).B=B8 s.heap n from rfl,I3 X.hn] at h
  split at h
  ·exact⟨o,h⟩
  ·cases h
 new:=fun zz h=>nomatch h
 nodup:=.nil
 objs:=.nil
 gens:=.of_eq hg
 os:=rfl
 inv:=by
  have e5:=X.Y 115 Kz ((I7 (b:=115) (o:=Kz) (by decide) (by lk)).trans rfl);have e1:=X.Y 111 I6 ((I7 (b:=111) (o:=I6) (by decide) (by lk)).trans rfl);exact⟨#[],⟨_,_,_,_,_,_,_,_,_,e5,rfl,rfl,rfl,rfl,rfl,rfl,rfl,rfl,by decide⟩,e1,trivial⟩
theorem B6o{w:World}{s:Shared}{h':Heap}(Y:∀b o,(H1 w.params).get? b=some o->s.heap.get? b=some o)(hi:B6h h'){o:Obj}(e:s.heap.get? 111=some o):asItWas s.heap h' 111 o:=by
 have e5:=Y 115 Kz ((I7 (b:=115) (o:=Kz) (by decide) (by lk)).trans rfl);have e1:=Y 111 I6 ((I7 (b:=111) (o:=I6) (by decide) (by lk)).trans rfl);rw[e1] at e;cases e;obtain⟨ps,_,y,_⟩:=hi;refine .inr (.inl ⟨⟨115,_,_,e5,rfl,rfl,rfl⟩,rfl,#[],ps,rfl,?_⟩);rw[y];simp[tabObj,I6]
theorem D4n{w:World}{s s':Shared}{C:Cx}(Y:∀b o,(H1 w.params).get? b=some o->s.heap.get? b=some o)(ht:C.tabs=[111])(hi:B6h s'.heap){α':List Addr}(x:Ext C [] [] s α' s'):OldK s.heap s'.heap where
 old:=fun b o e=>by
  by_cases q:b=111
  ·subst q;exact B6o Y hi e
  ·exact .inl (x.keep b o e (fun h=>nomatch h) (fun h=>nomatch h) (by rw[ht];simpa using q))
 there:=fun b o e=>x.live b o e
theorem D17(args ds:List WData):lw.row.toRowW.claim.post args (.bool true) ds=true:=by
 show (WShape.has [] (.bool true) .bool&&WTm.holds [] (.eq .res (.lit (.bool true))) {args:=args,res:=some (.bool true),after:=ds})=true;rw[Bool.and_eq_true];refine⟨by kd_p,?_⟩
 first |rfl|lk|(simp[WTm.holds,WTm.value];done)
theorem D18:WalkO vq lse (fun zz zz=>True) (fun w h=>∀b o,(H1 w.params).get? b=some o->h.get? b=some o) lw.row.toRowW D0d [] fun f vs=>PySem.call f vs:=by
 intro w s₀ sA mg mb Gr Y a o pm cd doc dV kV ho hd hcr hdf hmg hg args vals as hpre hlay hr hwell hsys;obtain⟨xs,rfl,hl⟩:=A8r hpre;cases hr with
 | cons r1 r2=>
 cases r2;cases r1 with
 | list e hc hdt ra=>
 rename_i b ob vs nn as';have z302:sA.heap.get? 302=some Q9:=Y 302 _ ((I7 (b:=302) (o:=Q9) (by decide) (by lk)).trans rfl);have z111:sA.heap.get? 111=some I6:=Y 111 _ ((I7 (b:=111) (o:=I6) (by decide) (by lk)).trans rfl);have s302:=Heap.lt_size z302;have sb:=Heap.lt_size e;have hb1:b≠111:=fun q=>by
  rw[q,z111] at e;cases e;cases hc
 obtain⟨n,h3,hbn,hn,hlast⟩:∃n,303<=n∧b<n∧n<=sA.heap.objs.size∧(n=303∨n=b+1):=by
  by_cases q:b<303
  ·exact⟨303,Nat.le_refl _,q,s302,.inl rfl⟩
  ·exact⟨b+1,Nat.le_succ_of_le (Nat.not_lt.mp q),Nat.lt_succ_self b,sb,.inr rfl⟩
 have X:Wld w sA n mg mb:=⟨Y,hn,h3,Gr.T.g,Gr.T.b,Gr.T.nolimit,Gr.T.nodigits,Gr.T.builtins,Gr.T.bmain⟩;have h5:((B8 sA.heap n).get? 115).isSome=true:=by rw[X.obj (b:=115) (o:=Kz) (by decide) (by lk) rfl];rfl
 have h1:((B8 sA.heap n).get? 111).isSome=true:=by rw[X.obj (b:=111) (o:=I6) (by decide) (by lk) rfl];rfl
 have la:∃o,(B8 sA.heap n).get? (n-1)=some o:=by
  rw[I3 hn,if_pos (Nat.sub_lt (Nat.lt_of_lt_of_le (by decide) h3) (by decide))];rcases hlast with q|q
  ·rw[q];exact⟨_,z302⟩
  ·rw[q];exact⟨_,e⟩
 have hls:∀c ys,(fun c=>if c=b then some (xs.map MV.int) else T0.lst c) c=some ys->∃us,(B8 sA.heap n).IsList c us∧VRels [] ys us.toList∧c ∉ [111]:=fun c ys h=>by
  by_cases q:c=b
  ·simp only[q,if_true] at h;cases h;subst q;exact⟨vs,⟨ob,by rw[I3 hn,if_pos hbn];exact e,hc,nn,hdt⟩,Xp ra,by simpa using hb1⟩
  ·simp only[q,if_false] at h;exact A6k X c ys h
 have G:=A91 (h5:=h5) (h1:=h1) (T':=⟨fun c=>if c=b then some (xs.map MV.int) else T0.lst c,T0.tup⟩) X hls (A6l X) la;have G0:=A91 (h5:=h5) (h1:=h1) (T':=T0) X (A6k X) (A6l X) la;have ha:a=302:=by
  have:=hmg.symm.trans (X.gv (v:=some (.ref 302)) (by lk));cases this;rfl
 subst ha;obtain⟨r,H',hf,hv⟩:=B6g (H:=[]) tp0 (T:=⟨fun c=>if c=b then some (xs.map MV.int) else T0.lst c,T0.tup⟩) (v:=.val (.ref b)) (xs:=xs) (fun zz=>if_pos rfl) (C9v hl);refine D0s G (A92 (h5:=h5) (h1:=h1) X) (U:=T0) G0 (A92 (h5:=h5) (h1:=h1) X) callerA [] [] sA _ _ [.val (.ref b)] [.ref b] r H' ⟨rfl,by decide,by decide⟩ (hr0 X hg) (.cons rfl .nil) hf fun α' s' v hr' x w'=>?_;subst hv;obtain rfl:=w';exact⟨.inl ⟨_,.bool true,[],rfl,fun zz=>rfl,.bool true,D17 _ _,fun zz=>⟨.nil,fun zz h=>nomatch h⟩⟩,D4n Y rfl hr'.inv x,hr'.os,hr'.gens⟩
theorem fin:lw.Holds:=B4u D18
end Mine.Internal
end
theorem PySem.Challenge.cw_in0171_01_holds : PySem.Challenge.rw_in0171_01.Holds :=
  Mine.Internal.fin
