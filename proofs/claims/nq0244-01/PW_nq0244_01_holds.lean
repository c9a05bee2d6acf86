import PyProof.Rows.All
import Wide.All
import OpenK.AllK
import Wide.FinOn
import KE.KFromBytes
import KE.KDictOf
import KE.KStopIter
import KE.KOwnIter
import PySem.Challenge.RW_nq0244_01
open PySem PySem.W PySem.Calls PyProof.Rows PySem.Spec
set_option Elab.async false
set_option linter.all false
set_option maxRecDepth 10000
namespace Mine
theorem cO {α:Type u} {a:α} {P:Prop} (h:none=some a):P:=nomatch h
@[elab_as_elim] theorem rl {α:Sort u} {a b:α} {motive:α→Prop} (h:a=b) (p:motive b):motive a:=h.symm ▸ p
@[elab_as_elim] theorem rr {α:Sort u} {a b:α} {motive:α→Prop} (h:a=b) (p:motive a):motive b:=h ▸ p
theorem bg {n b:Nat} (k:Nat) (h1:16777216=b) (h:n≤k) (hk:Nat.ble k 16777216=true):n≤b:=rr h1 (Nat.le_trans h (Nat.le_of_ble_eq_true hk))
theorem EY {a b c d e K:Nat} (h1:a≤d+K*c) (h2:d≤b+e) (h3:e≤K):a≤b+K*(c+1):=Nat.le_trans h1 (Nat.le_trans (Nat.add_le_add_right (Nat.le_trans h2 (Nat.add_le_add_left h3 b)) _) (Nat.le_of_eq (by rw [Nat.mul_succ,Nat.add_assoc,Nat.add_comm K])))
theorem rm {a n d e:Nat} (hn:n≤10) (h:a+10*(e+1) < d):a+n < d:=Nat.lt_of_le_of_lt (Nat.add_le_add_left (Nat.le_trans hn (Nat.le_add_left 10 (10*e))) a) h
theorem F7 {a k b c:Nat} (hk:k≤10) (h:a+10*(b+1) < c):a+k+10*b < c:=Nat.lt_of_le_of_lt (by rw [Nat.add_assoc,Nat.add_comm k]; exact Nat.add_le_add_left (Nat.add_le_add_left hk _) a) h
theorem zp:(-(1000:Int))≤(0:Int):=by exact Int.neg_ofNat_le_ofNat 1000 0
theorem zo:(0:Int)≤(1000:Int):=by exact Int.zero_le_ofNat 1000
theorem G5 {a b c:Nat} (h1:a≤c) (h2:c≤b):a≤b:=by exact Nat.le_trans h1 h2
theorem AO {a b:Nat} (h1:16777216=b) (h2:a≤1000):a≤b:=bg 1000 h1 h2 rfl
theorem Bp {a:Nat} (h1:a≤100000):(a+1)≤16777216:=Nat.le_trans (Nat.succ_le_succ h1) (by decide)
theorem GS {a:Nat}:a≤a:=by simp +arith [*]
theorem Bf {a b:Nat} (h1:b=a):a≤b:=by simp +arith [*]
theorem Be {a b:Nat} (h1:a=b):a≤b:=by simp +arith [*]
theorem x9 {a:Nat}:a≤(a+1):=by simp +arith [*]
theorem x8:(3:Int)≤(1000:Int):=by simp +arith [*]
theorem xZ {a:Nat} (h1:a≤1000):a≤10000:=Nat.le_trans h1 (by decide)
theorem xY {a b:Nat} (h1:a < b):(a+1)≤b:=h1
theorem xX {a b c:Nat} (h1:b=c) (h2:c=a):a≤b:=by simp +arith [*]
theorem xW {a b c:Nat} (h1:a=c) (h2:c=b):a≤b:=Nat.le_of_eq (h1.trans h2)
theorem Aa {a:Nat} (h1:a≤9):a≤1000:=Nat.le_trans h1 (by decide)
theorem z9 {a:Nat}:(2+(2*a))=(2*(a+1)):=by simp +arith [*]
theorem z8 {a b:Nat} (h1:16777216=b) (h2:a≤10000):a≤b:=bg 10000 h1 h2 rfl
theorem z7 {a b c:Nat} (h1:(a+(b+1))≤c):((a+1)+b)≤c:=rl (Nat.add_right_comm a 1 b) h1
theorem z6 {a b:Nat} (h1:a < b):a≤b:=Nat.le_of_lt h1
theorem BA {a b c:Nat} (h1:(c+(b+1))≤100000) (h2:a≤(c+1)):(a+b)≤100000:=Nat.le_trans (Nat.add_le_add_right h2 b) (rl (Nat.succ_add_eq_add_succ c b) h1)
theorem By {a:Nat} (h1:a≤4):a≤1000:=by lia
theorem Bx {a b:Nat} (h1:16777216=b) (h2:a≤2):(0+a)≤b:=bg 2 h1 (rl (Nat.zero_add a) h2) rfl
theorem Bw {a:Nat} (h1:a≤4):a≤100:=Nat.le_trans h1 (by decide)
theorem Bv {a:Nat} (h1:a≤9):a≤10000:=Nat.le_trans h1 (by decide)
theorem Bu {a b c:Nat} (h1:16777216=b) (h2:a≤c) (h3:c≤6005):(1+a)≤b:=bg 6006 h1 (Nat.add_le_add_left (Nat.le_trans h2 h3) 1) rfl
theorem Bt {a b c:Nat} (h1:16777216=b) (h2:a≤c) (h3:c≤6005):((1+a)+1)≤b:=bg 6007 h1 (Nat.succ_le_succ (Nat.add_le_add_left (Nat.le_trans h2 h3) 1)) rfl
theorem Bs {a b:Nat} (h1:16777216=b) (h2:a≤6000):a < b:=(bg 6001 h1 (Nat.succ_le_succ h2) rfl:a+1≤b)
theorem Br {a b:Nat} (h1:12=(a+(b+1))):a < 12:=by simp +arith [*]
theorem Bq {a:Nat}:a≤(0+((a+1) - 0)):=by simp +arith [*]
theorem Bo {a b c d:Nat} (h1:a≤c) (h2:b=(c+1)) (h3:d=(c+2)):a≤b:=rl h2 (Nat.le_succ_of_le h1)
theorem Bm {a:Nat}:(1:Int)≤(((a:Nat):Int)+(1:Int)):=by grind
theorem Bl {a:Nat}:(Int.toNat ((-(1:Int))+(((a:Nat):Int)+(1:Int))))=a:=by simp +arith [*]
theorem Gp {a b c d:Nat} (h1:(c+1) < b) (h2:a≤d) (h3:d < c):(a+1) < b:=Nat.lt_trans (Nat.succ_lt_succ (Nat.lt_of_le_of_lt h2 h3)) h1
theorem Bk {a b c d e:Nat} (h1:a=d) (h2:(d+e)≤c) (h3:b=e):(a+b)≤c:=rl h1 (rl h3 h2)
theorem Bj {a b c:Nat} (h1:16777216=b) (h2:a≤c) (h3:c≤10000):a≤b:=bg 10000 h1 (Nat.le_trans h2 h3) rfl
theorem Bh {a b:Nat} (h1:16777216=b) (h2:a≤10):a≤b:=bg 10 h1 h2 rfl
theorem Bg {a b:Nat} (h1:16777216=b) (h2:a≤10):a≤(b+1):=Nat.le_succ_of_le (bg 10 h1 h2 rfl)
theorem Gn {a b c:Nat} (h1:16777216=b) (h2:(¬ ((63:Nat):Int) < ((c:Nat):Int))) (h3:a=c):a≤b:=bg 63 h1 (rl h3 (Nat.le_of_not_lt fun h=>h2 (Int.ofNat_lt.mpr h))) rfl
theorem Gm {a b:Nat} (h1:b < a):(¬ ((a:Nat):Int)≤((b:Nat):Int)):=by simp +arith [*]
theorem Gl {a b:Nat} (h1:(¬ (a+1) < b)) (h2:a < b):(¬ (((a:Nat):Int)+(1:Int)) < ((b:Nat):Int)):=fun h=>h1 (Int.ofNat_lt.mp (show ((a+1:Nat):Int) < b from h))
theorem Gk {a b:Nat} (h1:(¬ (b+1) < a)) (h2:b < a):a=(b+1):=Nat.le_antisymm (Nat.le_of_not_lt h1) h2
theorem Gj {a b:Nat} (h1:b < a):a=(b+(a - b)):=(Nat.add_sub_cancel' (Nat.le_of_lt h1)).symm
theorem Gi {a:Int} (h1:(0:Int)≤a) (h2:a < (55296:Int)):(Int.toNat a) < 55296:=by simp +arith [*]
theorem Gh {a:Nat} (h1:a < 55296):a < 1114112:=Nat.lt_trans h1 (by decide)
theorem Gg {a:Int} (h1:(0:Int)≤a):(0:Int)≤(a / (2:Int)):=Int.ediv_nonneg h1 (by decide)
theorem Bd {a:Int} (h1:a < (10:Int)):(a / (2:Int))≤(4:Int):=Int.ediv_le_ediv (b:=9) (by decide) (Int.le_of_lt_add_one h1)
theorem Gf {a:Int} (h1:(0:Int)≤a) (h2:a≤(4:Int)):(-(1000:Int))≤((1:Int)+a):=Int.le_trans (by decide:(-1000:Int)≤1+0) (Int.add_le_add_left h1 1)
theorem Ge {a:Int} (h1:(0:Int)≤a) (h2:a≤(4:Int)):((1:Int)+a)≤(1000:Int):=Int.le_trans (Int.add_le_add_left h2 1) (by decide)
theorem Gd {a:Int} (h1:(0:Int)≤a) (h2:a≤(4:Int)):(Int.toNat (((1:Int)+a) - (1:Int)))=(Int.toNat a):=by simp +arith [*]
theorem Gb {b:Nat} {a:Int} (h1:(0:Int)≤a) (h2:a≤(4:Int)) (h3:b=16777216):a≤((b:Nat):Int):=Int.le_trans h2 (rl h3 (by decide))
theorem EJ {a:Nat} {b:Int} (h1:(0:Int)≤b) (h2:a < (Int.toNat b)) (h3:b≤(4:Int)):((1:Int)+((a:Nat):Int))≤(1000:Int):=Int.le_trans (Int.add_le_add_left (Int.ofNat_le.mpr (Nat.le_of_lt (Nat.lt_of_lt_of_le h2 (Int.toNat_le.mpr h3))):(a:Int)≤((4:Nat):Int)) 1) (by decide)
theorem EI {a:Nat}:(Int.toNat ((1:Int)+((a:Nat):Int)))=(1+a):=by rfl
theorem EH {a:Nat} {b:Int} (h1:(Int.toNat ((1:Int)+((a:Nat):Int)))=(1+a)) (h2:(0:Int)≤b) (h3:a < (Int.toNat b)) (h4:b≤(4:Int)):(1+a) < 5:=Nat.add_lt_add_left (Nat.lt_of_lt_of_le h3 (Int.toNat_le.mpr h4)) 1
theorem EG {a b:Nat} (h1:a=b) (h2:b≤4):a≤16777216:=rl h1 (Nat.le_trans h2 (by decide))
theorem EF {a b c:Nat} (h1:16777216=b) (h2:a≤4) (h3:c=a):a≤b:=bg 4 h1 h2 rfl
theorem EE {a:Nat} (h1:a≤50000):a≤100000:=Nat.le_trans h1 (by decide)
theorem ED {a b:Nat} (h1:(a+(b+1))≤1000000):a < 1000000:=Nat.lt_of_lt_of_le (Nat.lt_add_of_pos_right (Nat.succ_pos b)) h1
theorem EC {a b:Nat} (h1:(a+(b+1))≤1000000):((a+1)+b)≤1000000:=rl (Nat.add_right_comm a 1 b) h1
theorem EB {a:Nat} (h1:a=3):a≤90:=by simp +arith [*]
theorem EA {a:Nat} (h1:a=3):a≤100:=by simp +arith [*]
theorem Ez {a:Nat} (h1:a < 3):((0:Int)+((a:Nat):Int))≤(1000:Int):=rl (Int.zero_add _) (Int.ofNat_le.mpr (Nat.le_trans (Nat.le_of_lt h1) (by decide)):(a:Int)≤((1000:Nat):Int))
theorem Ey {a:Nat} (h1:a < 12):(0:Int)≤((0:Int)+((a:Nat):Int)):=rl (Int.zero_add _) (Int.natCast_nonneg a)
theorem Ex {a:Nat} (h1:a < 12):((0:Int)+((a:Nat):Int))≤(1000:Int):=rl (Int.zero_add _) (Int.ofNat_le.mpr (Nat.le_trans (Nat.le_of_lt h1) (by decide)):(a:Int)≤((1000:Nat):Int))
theorem Ew {a:Nat} (h1:a≤1000):a≤16777216:=Nat.le_trans h1 (by decide)
theorem Eu {a b:Nat} (h1:16777216=b) (h2:a≤30000):(0+a)≤b:=bg 30000 h1 (rl (Nat.zero_add a) h2) rfl
theorem Et {a b c:Nat} (h1:16777216=b) (h2:a≤(5*c)) (h3:c≤2):(0+a)≤b:=bg 10 h1 (rl (Nat.zero_add a) (Nat.le_trans h2 (Nat.mul_le_mul_left 5 h3))) rfl
theorem Es {a:Nat} (h1:a≤100):a≤10000:=Nat.le_trans h1 (by decide)
theorem Er {a b c:Nat} (h1:(a+b)=(c+1)) (h2:c≤1000):(a+(b*5))≤6005:=Nat.le_trans (Nat.add_le_add_right (Nat.le_mul_of_pos_right a (Nat.succ_pos 4)) (b*5)) (rr (Nat.add_mul a b 5) (rl h1 (Nat.le_trans (Nat.mul_le_mul_right 5 (Nat.succ_le_succ h2)) (by decide))))
theorem Ep {a:Nat} (h1:a≤6005):a≤16777216:=Nat.le_trans h1 (by decide)
theorem Eo {a b:Nat} (h1:16777216=b) (h2:a≤1000):(1+a)≤b:=bg 1001 h1 (Nat.add_le_add_left h2 1) rfl
theorem En {a b c d:Nat}:((a+(b+c))+(d+1))≤((((a+b)+(d+1))+c)+1):=by simp +arith [*]
theorem Em {a b c:Nat}:((a+b)+(c+1))≤(((a+c)+b)+1):=Nat.le_of_eq (congrArg Nat.succ (Nat.add_right_comm a b c))
theorem El {a b c d e:Nat} (h1:a≤(e+d)) (h2:e≤((b+c)+1)):a≤(b+((c+1)+d)):=Nat.le_trans h1 (Nat.le_trans (Nat.add_le_add_right h2 d) (Nat.le_of_eq (Nat.add_assoc b (c+1) d)))
theorem Ek {a b:Nat} (h1:a=(2*b)):(((0+1)+1)+a)=(2*(b+1)):=rl h1 (Nat.add_comm 2 (2*b))
theorem Ej {a:Nat}:(2*a)≤((2*a)+1):=by simp +arith [*]
theorem Ei {a:Nat}:a≤(2*a):=by simp +arith [*]
theorem Eh {a b c d e f:Nat} (h1:a≤(d+(201*c))) (h2:d≤(b+e)) (h3:e≤((2*f)+1)) (h4:f≤100):a≤(b+(201*(c+1))):=EY h1 h2 (Nat.le_trans h3 (Nat.succ_le_succ (Nat.mul_le_mul_left 2 h4)))
theorem Eg {a b:Nat} (h1:16777216=b) (h2:a≤10):(2*a)≤b:=bg 20 h1 (Nat.mul_le_mul_left 2 h2) rfl
theorem Ef {a:Nat} (h1:a≤10):((2*a) - 1)≤20:=Nat.le_trans (Nat.sub_le _ _) (Nat.mul_le_mul_left 2 h1)
theorem Ed {a b c:Nat} (h1:b≤20) (h2:b=(a+(c+1))):a≤20:=Nat.le_trans (Nat.le_add_right a (c+1)) (rr h2 h1)
theorem Ec {a b c:Nat} (h1:(((b+a)+c)+1)≤6000):a≤6000:=Nat.le_trans (Nat.le_trans (Nat.le_add_left a b) (Nat.le_add_right _ (c+1))) h1
theorem Eb {a b c d:Nat} (h1:(((c+a)+(d+1))+b)≤5999):(a+b)≤6000:=Nat.le_trans (Nat.add_le_add_right (Nat.le_trans (Nat.le_add_left a c) (Nat.le_add_right _ (d+1))) b) (Nat.le_succ_of_le h1)
theorem Ea {a b c:Nat} (h1:(a+b)≤6000) (h2:16777216=c):(a+b)≤c:=bg 6000 h2 h1 rfl
theorem D9 {a b c d e f g:Nat} (h1:f=(e+1)) (h2:(a≤(g+c)∧d=(f+c))) (h3:g≤(b+1)):(a≤(b+(c+1))∧d=(e+(c+1))):=⟨Nat.le_trans h2.1 (Nat.le_trans (Nat.add_le_add_right h3 c) (Nat.le_of_eq (Nat.succ_add_eq_add_succ b c))),h2.2.trans (rl h1 (Nat.succ_add_eq_add_succ e c))⟩
theorem D8 {a b c d:Nat} (h1:16777216=b) (h2:c < 12) (h3:(d≤((0+1)+c)∧a=(0+c))):a < b:=(bg 12 h1 (rl h3.2 (rl (Nat.zero_add c) h2)) rfl:a+1≤b)
theorem D7 {a b c:Nat} (h1:b < 12) (h2:(a≤((0+1)+b)∧c=(0+b))):a≤100:=Nat.le_trans (Nat.le_trans h2.1 (Nat.add_le_add_left (Nat.le_of_lt h1) _)) (by decide)
theorem D6 {a b:Nat} (h1:16777216=b) (h2:a≤100):a≤b:=bg 100 h1 h2 rfl
theorem D5 {a b c:Nat} (h1:b < 12) (h2:(a≤((0+1)+b)∧c=(0+b))):(a+1)≤100:=Nat.le_trans (Nat.succ_le_succ (Nat.le_trans h2.1 (Nat.add_le_add_left (Nat.le_of_lt h1) _))) (by decide)
theorem D4 {a b c d:Nat} (h1:16777216=b) (h2:c < 12) (h3:(a≤((0+1)+c)∧d=(0+c))):a≤b:=bg (0+1+12) h1 (Nat.le_trans h3.1 (Nat.add_le_add_left (Nat.le_of_lt h2) _)) rfl
theorem D0 {a b c:Nat} (h1:16777216=b) (h2:(a≤((0+1)+12)∧c=(0+12))):a≤b:=bg _ h1 h2.1 rfl
theorem DZ {a:Nat} (h1:a≤100):(a+1) < 4096:=Nat.lt_of_le_of_lt (Nat.succ_le_succ h1) (by decide)
theorem DY {a:Nat} (h1:a≤1000):(a+((a+1)*5))≤16777216:=Nat.le_trans (Nat.add_le_add h1 (Nat.mul_le_mul_right 5 (Nat.succ_le_succ h1))) (by decide)
theorem DX {a b c:Nat} (h1:16777216=b) (h2:a≤c) (h3:c≤6005):a≤b:=bg 6005 h1 (Nat.le_trans h2 h3) rfl
theorem DW {a b:Nat} (h1:16777216=b) (h2:a≤10000):(a+1)≤b:=bg 10001 h1 (Nat.succ_le_succ h2) rfl
theorem DV {a b:Nat} (h1:a≤(1+b)):a≤(1+(b+1)):=Nat.le_succ_of_le h1
theorem DU {a b:Nat} (h1:a≤(1+b)):(a+1)≤(1+(b+1)):=Nat.succ_le_succ h1
theorem DT {a:Nat} (h1:16777216=a):12≤a:=rr h1 (by decide)
theorem DS {a b:Nat} (h1:a≤(1+b)) (h2:b < 12):a≤1000:=Nat.le_trans h1 (Nat.le_trans (Nat.add_le_add_left (Nat.le_of_lt h2) 1) (by decide))
theorem DQ {a b:Nat} (h1:16777216=b) (h2:a≤(1+12)):a≤b:=bg _ h1 h2 rfl
theorem DP {a:Nat} (h1:a≤1000):(a+1)≤5000:=Nat.le_trans (Nat.succ_le_succ h1) (by decide)
theorem DO {a b:Nat} (h1:((b+1)+1)≤a) (h2:(b+1)≤1000):a=((a - 1)+1):=(Nat.sub_add_cancel (Nat.le_trans (Nat.succ_le_succ (Nat.zero_le _)) h1)).symm
theorem DN {a:Nat} (h1:(a+1)≤1000):a≤1000:=Nat.le_of_succ_le h1
theorem DM {a b c:Nat} (h1:(b+1)≤a) (h2:c≤b):a=((a - 1)+1):=(Nat.sub_add_cancel (Nat.le_trans (Nat.succ_le_succ (Nat.zero_le _)) h1)).symm
theorem DL {a b:Nat} (h1:(b+1)≤a):a=((a - 1)+1):=(Nat.sub_add_cancel (Nat.le_trans (Nat.succ_le_succ (Nat.zero_le _)) h1)).symm
theorem DK {a b:Nat} (h1:a≤b) (h2:b≤1000):a≤1000:=Nat.le_trans h1 h2
theorem DJ {a:Nat} (h1:(0+1)≤a):a=((a - 1)+1):=by simp +arith [*]
theorem DI {a b:Nat} (h1:((b+1)+1)≤a):a=((a - 1)+1):=(Nat.sub_add_cancel (Nat.le_trans (Nat.succ_le_succ (Nat.zero_le _)) h1)).symm
theorem DG {a:Int} (h1:(0:Int)≤a) (h2:a < (12:Int)):(Int.toNat a) < 12:=by exact (Int.toNat_lt h1).mpr h2
theorem DF {a b c d e f:Nat} (h1:a≤(d+(9*c))) (h2:d≤(b+e)) (h3:e≤((2*f)+1)) (h4:f≤4):a≤(b+(9*(c+1))):=EY h1 h2 (Nat.le_trans h3 (Nat.succ_le_succ (Nat.mul_le_mul_left 2 h4)))
theorem DE {a:Nat} (h1:a≤2):((2*a) - 1)≤4:=Nat.le_trans (Nat.sub_le _ _) (Nat.mul_le_mul_left 2 h1)
theorem DC {a b c:Nat} (h1:b≤4) (h2:(c+a)≤(0+(9*b))):a≤36:=Nat.le_trans (Nat.le_trans (Nat.le_add_left a c) h2) (rl (Nat.zero_add _) (Nat.mul_le_mul_left 9 h1))
theorem DB {a:Nat} (h1:a≤100):a≤(101*(0+1)):=Nat.le_trans h1 (by decide)
theorem DA {a b c:Nat} (h1:a≤100) (h2:b≤(101*(c+1))):(a+((0+1)+b))≤(101*((c+1)+1)):=Nat.le_trans (Nat.add_le_add h1 (Nat.add_le_add_left h2 _)) (Nat.le_of_eq (rr (Nat.add_assoc 100 (0+1) (101*(c+1))) (Nat.add_comm 101 _)))
theorem Dz {a b c:Nat} (h1:a≤36) (h2:b≤(36*c)):(a+b)≤(36*(c+1)):=Nat.le_trans (Nat.add_le_add h1 h2) (Nat.le_of_eq (Nat.add_comm 36 (36*c)))
theorem Dy {a:Nat} (h1:a≤(101*3)):a≤1000:=Nat.le_trans h1 (by decide)
theorem Dw {a b c d e f g:Nat} (h1:c≤((d+e)+(f+b))) (h2:g=(f+b)):(a+(b+c))≤((a+(d+e))+((f+b)+b)):=Nat.le_trans (Nat.add_le_add_left (Nat.add_le_add_left h1 b) a) (Nat.le_of_eq (by rw [Nat.add_comm b,Nat.add_assoc (d+e),← Nat.add_assoc a]))
theorem Dv {a:Nat}:a≤((6*a)+7):=by simp +arith [*]
theorem Du {a b:Nat} (h1:a≤((6*b)+7)) (h2:b≤4):a≤40:=Nat.le_trans h1 (Nat.le_trans (Nat.add_le_add_right (Nat.mul_le_mul_left 6 h2) 7) (by decide))
theorem Dt {a b c:Nat} (h1:(c+a)=(b+1)):a≤(b+1):=rr h1 (Nat.le_add_left a c)
theorem Ds {a b c d:Nat} (h1:a≤d) (h2:b≤c):(a+b)≤(c+d):=Nat.le_trans (Nat.add_le_add h1 h2) (Nat.le_of_eq (Nat.add_comm d c))
theorem Dr {a:Int} (h1:((0:Int)≤a∧a < (12:Int))):(Int.toNat a) < 12:=by simp +arith [*]
theorem Dq {a:Nat} (h1:a≤4):a≤9:=Nat.le_trans h1 (by decide)
theorem Dp {a:Nat} (h1:a≤((100+1)*3)):a≤1000:=by lia
theorem Dn {a b:Nat} (h1:a≤(2*b)) (h2:b≤2):(a - 1)≤4:=Nat.le_trans (Nat.sub_le _ _) (Nat.le_trans h1 (Nat.mul_le_mul_left 2 h2))
theorem Dm {a b c:Nat} (h1:b≤4) (h2:(c+a)≤(0+(201*b))):a≤10000:=Nat.le_trans (Nat.le_trans (Nat.le_add_left a c) h2) (rl (Nat.zero_add _) (Nat.le_trans (Nat.mul_le_mul_left 201 h1) (by decide)))
theorem Dl {a b:Nat} (h1:a≤(5*b)) (h2:b≤2):a≤10000:=Nat.le_trans h1 (Nat.le_trans (Nat.mul_le_mul_left 5 h2) (by decide))
theorem Dk {a:Nat}:(6+(1+(a / 32)))=(7+(a / 32)):=by simp +arith [*]
theorem Dj {a b:Nat} (h1:(¬ a ≥ b)):a < b:=Nat.lt_of_not_ge h1
theorem Di {a b c:Nat} (h1:a≤(b+(c+1))):a≤((b+1)+c):=rl (Nat.add_right_comm b 1 c) h1
theorem Dh {a b:Nat} (h1:b≤a) (h2:b ≥ a):a=b:=Nat.le_antisymm h2 h1
theorem Dg {a:Nat} (h1:a < 256):(a / 32) < 8:=Nat.div_lt_of_lt_mul (show a < 32*8 from h1)
theorem Df {a b:Nat} (h1:a < b):(¬ a ≥ b):=Nat.not_le.mpr h1
theorem De {a:Nat} (h1:1≤a):(¬ (0 > a ∨ (a - 0) < 1)):=fun h=>h.elim (Nat.not_lt_zero a) (Nat.not_lt.mpr h1)
theorem Dd {a b:Nat} (h1:b < a):(¬ (0 > a ∨ (a - 0) < 1)):=fun h=>h.elim (Nat.not_lt_zero a) fun h=>Nat.not_lt.mpr (Nat.succ_le_of_lt (Nat.lt_of_le_of_lt (Nat.zero_le b) h1)) h
theorem Dc {a:Nat} (h1:256≤a):(¬ a≤90):=Nat.not_le.mpr (Nat.lt_of_lt_of_le (by decide) h1)
theorem C9 {a:Nat} (h1:256≤a):(¬ a≤122):=Nat.not_le.mpr (Nat.lt_of_lt_of_le (by decide) h1)
theorem C8 {a:Nat} (h1:256≤a):a≠95:=fun h=>absurd (rr h h1:256≤95) (by decide)
theorem C7 {a:Nat} (h1:256≤a):(¬ a≤57):=Nat.not_le.mpr (Nat.lt_of_lt_of_le (by decide) h1)
theorem C6 {a:Nat} (h1:(¬ a < 256)):256≤a:=Nat.le_of_not_lt h1
theorem C5 {a b c:Nat} (h1:(a+(10*(b+1))) < c):((a+3)+(10*b)) < c:=F7 (by decide) h1
theorem C4 {a b c:Nat} (h1:(a+(10*(b+1))) < c):((a+1)+(10*b)) < c:=F7 (by decide) h1
theorem C3 {a b:Nat} (h1:b < a):((a+1) - (b+1)) < ((a+1) - b):=Nat.sub_lt_sub_left (Nat.lt_succ_of_lt h1) (Nat.lt_succ_self b)
theorem C2 {a b:Nat} (h1:b < a):(0:Int) < (((a:Nat):Int) - ((b:Nat):Int)):=Int.sub_pos_of_lt (Int.ofNat_lt.mpr h1)
theorem C1 {b:Nat} {a:Int}:(a+(((b:Nat):Int)+(1:Int)))=((a+((b:Nat):Int))+(1:Int)):=by simp +arith [*]
theorem C0 {a b:Nat}:(((a:Nat):Int) - (((b:Nat):Int)+(1:Int)))=((((a:Nat):Int) - ((b:Nat):Int)) - (1:Int)):=by simp +arith [*]
theorem CZ {a b c:Nat} (h1:b=a) (h2:b=c):(((a:Nat):Int) - ((b:Nat):Int))≤(0:Int):=rr h1 (Int.le_of_eq (Int.sub_self _))
theorem CY {a b:Nat} (h1:(a - b)=0):a≤b:=Nat.le_of_sub_eq_zero h1
theorem CX {a b:Nat} (h1:a≤b) (h2:b≤a):a=b:=Nat.le_antisymm h1 h2
theorem CW {a b c:Nat} (h1:a≤b) (h2:(b - a)=(c+1)):a < b:=Nat.lt_of_sub_ne_zero (rl h2 (Nat.succ_ne_zero c))
theorem CV {a b:Nat} (h1:(a - (b+1))=0):a≤(b+1):=Nat.le_of_sub_eq_zero h1
theorem CU {a b:Nat} (h1:b=(a+2)):a≤b:=by simp +arith [*]
theorem CT {a b c:Nat} (h1:b=(a+1)) (h2:c=(a+2)):a≤b:=by simp +arith [*]
theorem CS {a b c:Nat} (h1:a=(c+1)) (h2:b=(c+2)):a < b:=by simp +arith [*]
theorem CQ {a b:Nat} (h1:b=(a+2)):a < b:=by simp +arith [*]
theorem CP {a b c:Nat} (h1:b=(a+1)) (h2:c=(a+2)):a≠b:=fun h=>Nat.succ_ne_self a (h.trans h1).symm
theorem CO {a b c d:Nat} (h1:a < b) (h2:a=(c+1)) (h3:b≤c) (h4:d=(c+2)):False:=Nat.lt_irrefl c (Nat.lt_of_lt_of_le (Nat.lt_of_succ_lt (show c+1 < b from rr h2 h1)) h3)
theorem CN {a b c:Nat} (h1:a < b) (h2:b≤a) (h3:c=(a+2)):False:=Nat.lt_irrefl _ (Nat.lt_of_lt_of_le h1 h2)
theorem CM {a b c:Nat} (h1:a=(b+1)) (h2:b=a) (h3:c=(b+2)):False:=Nat.succ_ne_self b (h1.symm.trans h2.symm)
theorem CL {a b c d e:Nat} (h1:a≤c) (h2:b=(d+1)) (h3:c≤d) (h4:e=(d+2)):a≤b:=rl h2 (Nat.le_succ_of_le (Nat.le_trans h1 h3))
theorem CK {a:Nat} (h1:a≤1000):a≤(16777216+1):=Nat.le_trans h1 (by decide)
theorem CJ {a b:Nat} (h1:a≤(b+1)):(a+1)≤((b+1)+1):=by simp +arith [*]
theorem CI {a b c:Nat} (h1:a≤(b+1)) (h2:b≤c) (h3:c≤900):a≤1000:=Nat.le_trans h1 (Nat.le_trans (Nat.succ_le_succ (Nat.le_trans h2 h3)) (by decide))
theorem CH {a b c:Nat} (h1:a≤c) (h2:b=c):a≤b:=by simp +arith [*]
theorem CF {a b c d:Nat} (h1:a≤(c+1)) (h2:b=(d+1)) (h3:c≤d):a≤b:=rl h2 (Nat.le_trans h1 (Nat.succ_le_succ h3))
theorem CE {a:Nat}:(a+1) < (a+2):=by simp +arith [*]
theorem CD {a:Nat}:a < (a+2):=by simp +arith [*]
theorem CC {a:Nat}:(((a:Nat):Int)≠(0:Int)↔a≠0):=by simp +arith [*]
theorem CB {a b c d e:Nat} (h1:(min b c)≤b) (h2:b≤8) (h3:(a+(10*(e+1))) < d):(a+(min b c)) < d:=rm (Nat.le_trans (Nat.le_trans h1 h2) (by decide)) h3
theorem CA {a b c d e:Nat} (h1:(min b c)≤b) (h2:b≤8) (h3:(a+(10*(e+1))) < d):((a+1)+(min b c)) < d:=rl (Nat.add_assoc a 1 _) (rm (Nat.le_trans (Nat.add_le_add_left (Nat.le_trans h1 h2) 1) (by decide)) h3)
theorem Cz {a:Nat}:(a - 0)=(a - 0):=by simp +arith [*]
theorem Cy {a:Nat}:(a≤(a+1)∧(a+1) < ((a+1)+1)):=by simp +arith [*]
theorem Cw {a:Nat}:(a≤a∧a < ((a+1)+1)):=by simp +arith [*]
theorem Cv {a:Nat}:a≤((a+1)+1):=by simp +arith [*]
theorem Cu {a:Nat} (h1:(¬ a > 1)) (h2:1≤a):a=1:=Nat.le_antisymm (Nat.le_of_not_lt h1) h2
theorem Ct (h1:1≤0):(¬ 1≤0):=by decide
theorem Cs {a b:Nat} (h1:a=b) (h2:b=1):a=1:=by simp +arith [*]
theorem Cr {a:Nat}:1≤(a+1):=by simp +arith [*]
theorem Cq {c d:Nat} {a b:Int} (h1:((c:Nat):Int) < b) (h2:(Int.toNat a) < c) (h3:c=d):a < b:=Int.lt_of_le_of_lt (Int.self_le_toNat a) (Int.lt_trans (Int.ofNat_lt.mpr h2) h1)
theorem Cp {a:Int} (h1:(¬ (0:Int)≤a)):a < (0:Int):=Int.not_le.mp h1
theorem Co {a c:Nat} {b:Int} (h1:(-((c:Nat):Int))≤b) (h2:a=c):(-((a:Nat):Int))≤b:=rl h2 h1
theorem Cn {c d:Nat} {a b:Int} (h1:((c:Nat):Int) < a) (h2:(-((d:Nat):Int))≤b) (h3:c=d):(-a)≤b:=Int.le_trans (Int.neg_le_neg (Int.le_of_lt h1)) (rl h3 h2)
theorem Cm {a:Nat} (h1:0 < a):1≤a:=h1
theorem Ck {a b:Nat} (h1:1≤a) (h2:a < 4096) (h3:b=16777216):a≤b:=bg 4096 h3.symm (Nat.le_of_lt h2) rfl
theorem Cj {a c:Nat} {b:Int} (h1:((a:Nat):Int) < b) (h2:(c - 2)=a):(¬ ((a:Nat):Int) < (0:Int)):=Int.not_lt.mpr (Int.natCast_nonneg a)
theorem Ci {a c:Nat} {b:Int} (h1:((a:Nat):Int) < b) (h2:(c - 2)=a):(¬ ((a:Nat):Int) ≥ b):=Int.not_le.mpr h1
theorem Cg {a:Nat}:(¬ (((a:Nat):Int)+(1:Int))=(0:Int)):=fun h=>Nat.succ_ne_zero a (Int.ofNat_inj.mp (show ((a+1:Nat):Int)=((0:Nat):Int) from h))
theorem Ce {a b c:Nat} (h1:a≤b) (h2:(b - a)=c) (h3:b≤c):a=0:=Nat.eq_zero_of_le_zero (Nat.le_of_add_le_add_right (show a+b≤0+b from rl (Nat.zero_add b) (Nat.le_trans (Nat.add_le_add_left (Nat.le_trans h3 (Nat.le_of_eq h2.symm)) a) (Nat.le_of_eq (Nat.add_sub_cancel' h1)))))
theorem Cd {a b:Nat} (h1:(b - 0)=a):a≤(b - 0):=by simp +arith [*]
theorem Cc {a b:Nat} (h1:b=(a+1)):a≠b:=fun h=>Nat.succ_ne_self a (h.trans h1).symm
theorem Cb {a:Nat} (h1:a≠46):(¬ (46:Int)=((a:Nat):Int)):=fun h=>h1 (Int.ofNat_inj.mp (show ((46:Nat):Int)=a from h)).symm
theorem B9 {a b:Nat} (h1:(a+(b+1))≤20000):a≤20000:=Nat.le_trans (Nat.le_add_right a (b+1)) h1
theorem B8 {a b:Nat} (h1:(a+(b+1))≤20000):(a+b)≤20000:=Nat.le_of_succ_le h1
theorem B7 {a b:Nat} (h1:(a+(b+1))≤20000):((a+1)+b)≤20000:=rl (Nat.add_right_comm a 1 b) h1
theorem B6 {a b:Nat} (h1:16777216=b) (h2:a≤20000):(¬ a > b):=Nat.not_lt.mpr (bg 20000 h1 h2 rfl)
theorem B5 {a:Nat} (h1:a≤10000):(0+a)≤20000:=rl (Nat.zero_add a) (Nat.le_trans h1 (by decide))
theorem B4 {a:Nat}:3 < ((((((0+1)+1)+1)+1)+1)+a):=Nat.lt_of_lt_of_le (by decide) (Nat.le_add_right 5 a)
theorem B3 {a b c d:Nat} (h1:(d+(b+1)) < c) (h2:a=d):(a+b) < c:=rl h2 (Nat.lt_of_succ_lt h1)
theorem B0 {a b c d:Nat} (h1:(d+(10*(b+1))) < c) (h2:a≤(d+9)):(a+(10*b)) < c:=Nat.lt_of_le_of_lt (Nat.add_le_add_right h2 _) (F7 (by decide) h1)
theorem BZ {a b c:Nat} (h1:16777216=b) (h2:a=c) (h3:c < 1000000) (h4:c≤1000000):a≤b:=bg 1000000 h1 (rl h2 h4) rfl
theorem BY {a b c:Nat} (h1:16777216=b) (h2:a=c) (h3:c < 1000000) (h4:c≤1000000):(a+1)≤(b+1):=Nat.succ_le_succ (bg 1000000 h1 (rl h2 h4) rfl)
theorem BX {a b:Nat} (h1:a < 1000000) (h2:a≤1000000) (h3:b=a):(a+1)≤1000000:=h1
theorem BW {a:Nat}:((a+1)+1)≤(a+9):=by simp +arith [*]
theorem BV {a b c:Nat} (h1:16777216=b) (h2:a=c) (h3:c≤1000000):a≤b:=bg 1000000 h1 (rl h2 h3) rfl
theorem BU {a b c:Nat} (h1:(a+b)=(c+1)):((0+a)+(b+1))=((c+1)+1):=rl (Nat.zero_add a) (congrArg Nat.succ h1)
theorem BS {a b c d:Nat} (h1:((a+b)+(c+1))=(d+1)):(((a+1)+b)+(c+1))=((d+1)+1):=rl (Nat.add_right_comm a 1 b) (rl (Nat.add_right_comm (a+b) 1 (c+1)) (congrArg Nat.succ h1))
theorem BR {a b:Nat}:a≤(a+b):=by simp +arith [*]
theorem BQ {a b c:Nat} (h1:a≤c):a≤(b+c):=Nat.le_trans h1 (Nat.le_add_left c b)
theorem BP {a b c:Nat} (h1:16777216=b) (h2:a≤c) (h3:c≤16777216):a≤b:=bg _ h1 (Nat.le_trans h2 h3) rfl
theorem BO {a b c d e:Nat} (h1:16777216=b) (h2:a≤c) (h3:d≤10000) (h4:(c+e)=(d+1)):a≤b:=bg 10001 h1 (Nat.le_trans h2 (Nat.le_trans (Nat.le_add_right c e) (rl h4 (Nat.succ_le_succ h3)))) rfl
theorem BN {a b c d:Nat} (h1:16777216=b) (h2:c≤10000) (h3:(d+a)=(c+1)):a≤b:=bg 10001 h1 (Nat.le_trans (Nat.le_add_left a d) (rl h3 (Nat.succ_le_succ h2))) rfl
theorem BL {a b c d e:Nat} (h1:16777216=b) (h2:a≤(c+1)) (h3:c≤10000) (h4:(d+e)=(c+1)):(a+1)≤b:=bg 10002 h1 (Nat.succ_le_succ (Nat.le_trans h2 (Nat.succ_le_succ h3))) rfl
theorem BK {a b:Nat} (h1:((a:Nat):Int) < (((a+b):Nat):Int)):(Int.toNat ((((((a+b):Nat):Int) - ((a:Nat):Int))+(1:Int)) - (1:Int)))=b:=by simp +arith [*]
theorem BJ {a b:Nat} (h1:(¬ ((b:Nat):Int) < (((b+a):Nat):Int))):(Int.toNat (0:Int))=a:=(Nat.le_zero.mp (Nat.le_of_not_lt fun h=>h1 (Int.ofNat_lt.mpr (Nat.lt_add_of_pos_right h)))).symm
theorem BI {a b:Nat}:(Int.toNat (((a:Nat):Int)+((1:Int)*((b:Nat):Int))))=(a+b):=rl (Int.one_mul _) (Int.toNat_natCast (a+b))
theorem zm {a b:Nat} (h1:a≤b):(max (0:Int) (min ((a:Nat):Int) ((b:Nat):Int)))=((a:Nat):Int):=rl (Int.min_eq_left (Int.ofNat_le.mpr h1)) (Int.max_eq_right (Int.natCast_nonneg _))
theorem BH {a b:Nat} (h1:(max (0:Int) (min ((b:Nat):Int) ((a:Nat):Int)))=((b:Nat):Int)) (h2:b≤a):((a:Nat):Int)=(((b+(a - b)):Nat):Int):=by simp +arith [*]
theorem BG {a b:Nat} (h1:((b:Nat):Int)=(((a+(b - a)):Nat):Int)) (h2:(max (0:Int) (min ((a:Nat):Int) ((b:Nat):Int)))=((a:Nat):Int)):(a+(b - a))≤b:=Nat.le_of_eq (Int.ofNat_inj.mp h1).symm
theorem zl {a b:Nat} (h1:b≤a):(max (0:Int) (min ((a:Nat):Int) ((b:Nat):Int)))=((b:Nat):Int):=rl (Int.min_eq_right (Int.ofNat_le.mpr h1)) (Int.max_eq_right (Int.natCast_nonneg _))
theorem BE {a b:Nat}:(0+(min a b))≤b:=rl (Nat.zero_add _) (Nat.min_le_right a b)
theorem BD {a b c d:Nat} (h1:(a+(b+d))≤c):(a+b)≤c:=Nat.le_trans (Nat.add_le_add_left (Nat.le_add_right b d) a) h1
theorem BC {a b c d:Nat} (h1:(a+(b+c))≤d):((a+b)+c)≤d:=rl (Nat.add_assoc a b c) h1
theorem BB {a b c:Nat} (h1:(a+(b+1))≤c):(a+b)≤c:=Nat.le_of_succ_le h1
theorem DH {a:Int} (h1:(0:Int)≤a) (h2:a < (10:Int)):(Int.toNat (a / (2:Int)))≤4:=Int.toNat_le.mpr (Bd h2)
theorem BF {a b:Nat}:(max (0:Int) (min ((a:Nat):Int) ((b:Nat):Int)))=(((0+(min a b)):Nat):Int):=rl (Nat.zero_add _) ((Nat.le_total a b).elim (fun h=>rl (Nat.min_eq_left h) (zm h)) fun h=>rl (Nat.min_eq_right h) (zl h))
section
variable {M:Model} {A:Around} {s:Shared} {Q E:Value→Shared→Prop} {R:Result→Shared→Prop}
theorem uL {α:Type} {M:Model} {A:Around} {E:Value→Shared→Prop} {s:Shared} {Q:α→Shared→Prop} {p:Prop} [Decidable p] {a b:Sem α} (hp:p) (h:wpAny M A a Q E s):wpAny M A (if p then a else b) Q E s:=rl (if_pos hp) h
theorem uM {α:Type} {M:Model} {A:Around} {E:Value→Shared→Prop} {s:Shared} {Q:α→Shared→Prop} {p:Prop} [Decidable p] {a b:Sem α} (hp:¬ p) (h:wpAny M A b Q E s):wpAny M A (if p then a else b) Q E s:=rl (if_neg hp) h
noncomputable def CR (Q E:Value→Shared→Prop) (r:Result) (s':Shared):Prop:=match r with
  | .ok (.ret v)=>Q v s'
  | .ok _=>False
  | .error e=>E e s'
noncomputable def XR (E:Value→Shared→Prop) (r:Result) (s':Shared):Prop:=match r with
  | .ok _=>False
  | .error e=>E e s'
noncomputable def DR (M:Model) (A:Around) (R:Result→Shared→Prop) (fin:Fin) (s':Shared):Prop:=match fin with
  | .done f=>R (.ok f) s'
  | .again c'=>c'.quiet=true∧codeAny M A c' R s'
noncomputable def ER (R:Result→Shared→Prop) (e:Value) (s':Shared):Prop:=R (.error e) s'
theorem qa {f:Value} {pos:List Value} {kw:List (Str × Value)} (h:codeAny M A (.call f ⟨pos,kw⟩) (CR Q E) s):wpAny M A (call f pos kw) Q E s:=wpAny_call h
theorem rT {c:Code} (h:wpAny M (A.under c) (M.den c) (DR M A R) (ER R) s):codeAny M A c R s:=codeAny_of_tree h
theorem AG {prog:Program} {w:World} {id:String} {args:Args} (hq:(Code.builtin id args).quiet=true)
    (h:wpAny (model prog w) A.in1 (checkBuiltinCall id args) (fun _ s₁=>codeAny (model prog w) A (.builtin id args) R s₁) (ER R) s):codeAny (model prog w) A (.call (.builtin id) args) R s:=codeAny_call_builtin_code hq h
theorem gZ {prog:Program} {w:World} {id:String} {args:Args} {b:Builtin} (hb:entryFor table id=some b)
    (h:wpAny (model prog w) (A.under (.builtin id args)) (b args) (DR (model prog w) A R) (ER R) s):codeAny (model prog w) A (.builtin id args) R s:=codeAny_builtin hb h
theorem wW {prog:Program} {w:World} {id:String} {args:Args} {b:Builtin} (hq:plainId id=true) (hb:entryFor table id=some b)
    (h:wpAny (model prog w) A.in1 (checkBuiltinCall id args) (fun _ s₁=>wpAny (model prog w) A.in1 (b args) (DR (model prog w) A R) (ER R) s₁) (ER R) s):codeAny (model prog w) A (.call (.builtin id) args) R s:=codeAny_call_builtin hq hb h
end
end Mine
namespace Mine
theorem AQ {a d n:Nat} (h:a+(d+1) < n):a+1+d < n:=by rw [Nat.add_assoc,Nat.add_comm 1]; exact h
theorem FL {a d n:Nat} (h:a+(d+1) < n):a < n:=Nat.lt_of_le_of_lt (Nat.le_add_right _ _) h
theorem Hi {a d n:Nat} (h:a+(d+1) < n):a+d < n:=Nat.lt_of_succ_lt h
theorem FN {a d n:Nat} (h:a+10*(d+1) < n):a+3+10*d < n:=by exact C5 h
theorem GY {a d n:Nat} (h:a+10*(d+1) < n):a+1+10*d < n:=by exact C4 h
theorem GW {a d n u:Nat} (hu:u=1) (h:a+10*(d+1) < n):a+u+10*d < n:=by refine rl hu ?_; exact GY h
theorem GX {K i:Nat} (h:i < K):K+1 - (i+1) < K+1 - i:=by exact C3 h
inductive D where
  | none
  | bool (b:Bool)
  | int (i:Int)
  | str (s:Str)
  | list (xs:List D)
  | tuple (xs:List D)
  | obj (i:Nat)
  | val (v:Value)
  | imm (o:Obj)
deriving Inhabited
inductive O where
  | list (xs:List D)
  | dict (kvs:List (Str × D))
  | inst (C:Addr) (fs:List (Str × D))
  | deque (xs:List D)
  | set (xs:List Str)
deriving Inhabited
noncomputable abbrev Ad:=List (List Addr)
noncomputable def br (ι:Ad):List Addr:=ι.flatten
noncomputable def bF (vs:List Value) (n:Nat):Obj:={ cls:=.type "tuple",data:=.seq vs.toArray n }
noncomputable def aA (vs:List Value) (n:Nat):Obj:={ cls:=.type "list",data:=.seq vs.toArray n }
mutual
noncomputable def VR (h:Heap) (ι:Ad) (X:List Addr):D→Value→Prop
  | .none,v=>v = .none
  | .bool b,v=>v = .bool b
  | .int i,v=>∃ t,v = .int i t
  | .str x,v=>x.length≤sizeLine∧∃ t,v = .str x t
  | .list xs,v=>∃ a vs n,v = .ref a∧a ∉ X∧a ∉ br ι∧h.get? a=some (aA vs n)∧vs.length≤sizeLine∧aE h ι X xs vs
  | .tuple xs,v=>∃ a vs n,v = .ref a∧a ∉ X∧a ∉ br ι∧h.get? a=some (bF vs n)∧vs.length≤sizeLine∧aE h ι X xs vs
  | .obj i,v=>∃ a r,ι[i]?=some (a::r)∧v = .ref a
  | .val u,v=>v=u
  | .imm o,v=>∃ a,v = .ref a∧a ∉ X∧a ∉ br ι∧h.get? a=some o∧o.cls≠.type "frame" ∧ (a=sysModules→∀ es ep,o.data = .dict es ep→es.size≠1)
noncomputable def aE (h:Heap) (ι:Ad) (X:List Addr):List D→List Value→Prop
  | [],vs=>vs=[]
  | x::xs,vs=>∃ v r,vs=v::r∧VR h ι X x v∧aE h ι X xs r
end
inductive Sq (h:Heap) (ι:Ad) (X:List Addr) (ob:List Value→Nat→Obj) (xs:List D) (v:Value):Prop
  | mk (a:Addr) (vs:List Value) (n:Nat) (hv:v = .ref a) (h1:a ∉ X) (h2:a ∉ br ι) (e:h.get? a=some (ob vs n)) (hl:vs.length≤sizeLine) (r:aE h ι X xs vs)
inductive HC (h:Heap) (ι:Ad) (X:List Addr) (x:D) (xs:List D) (vs:List Value):Prop
  | mk (v:Value) (r:List Value) (e:vs=v::r) (a:VR h ι X x v) (b:aE h ι X xs r)
inductive Ho (x:Str) (v:Value):Prop
  | mk (hl:x.length≤sizeLine) (t:Tok) (e:v = .str x t)
inductive Hq (ι:Ad) (i:Nat) (v:Value):Prop
  | mk (a:Addr) (r:List Addr) (h:ι[i]?=some (a::r)) (e:v = .ref a)
inductive HA (h:Heap) (ι:Ad) (X:List Addr) (o:Obj) (v:Value):Prop
  | mk (a:Addr) (hv:v = .ref a) (h1:a ∉ X) (h2:a ∉ br ι) (e:h.get? a=some o) (hc:o.cls≠.type "frame")
section
variable {h:Heap} {ι:Ad} {X:List Addr}
theorem VR.none_:VR h ι X .none .none:=by exact rfl
theorem VR.bq {b:Bool}:VR h ι X (.bool b) (.bool b):=by exact rfl
theorem VR.fC {i:Int} {t:Tok}:VR h ι X (.int i) (.int i t):=by exact ⟨t,rfl⟩
theorem VR.eL {x:Str} {t:Tok} (hl:x.length≤sizeLine):VR h ι X (.str x) (.str x t):=by exact ⟨hl,t,rfl⟩
theorem VR.tO {v:Value}:VR h ι X (.val v) v:=by exact rfl
theorem VR.dZ {xs:List D} {a:Addr} {vs:List Value} {n:Nat} (h1:a ∉ X) (h2:a ∉ br ι) (e:h.get? a=some (aA vs n)) (hl:vs.length≤sizeLine) (r:aE h ι X xs vs):VR h ι X (.list xs) (.ref a):=by exact ⟨a,vs,n,rfl,h1,h2,e,hl,r⟩
theorem VR.fj {xs:List D} {a:Addr} {vs:List Value} {n:Nat} (h1:a ∉ X) (h2:a ∉ br ι) (e:h.get? a=some (bF vs n)) (hl:vs.length≤sizeLine) (r:aE h ι X xs vs):VR h ι X (.tuple xs) (.ref a):=by exact ⟨a,vs,n,rfl,h1,h2,e,hl,r⟩
theorem VR.m6 {i:Nat} {a:Addr} {r:List Addr} (e:ι[i]?=some (a::r)):VR h ι X (.obj i) (.ref a):=by exact ⟨a,r,e,rfl⟩
theorem VR.lF {o:Obj} {a:Addr} (h1:a ∉ X) (h2:a ∉ br ι) (e:h.get? a=some o) (hc:o.cls≠.type "frame") (hs:a=sysModules→∀ es ep,o.data = .dict es ep→es.size≠1):VR h ι X (.imm o) (.ref a):=by exact ⟨a,rfl,h1,h2,e,hc,hs⟩
theorem VR.dU {v:Value} {o:Obj} (a:VR h ι X (.imm o) v):HA h ι X o v:=by obtain ⟨b,h1,h2,h3,h4,h5,_⟩:=a; exact ⟨b,h1,h2,h3,h4,h5⟩
theorem VR.jZ {a:Addr} {o:Obj} (x:VR h ι X (.imm o) (.ref a)):a=sysModules→∀ es ep,o.data = .dict es ep→es.size≠1:=by obtain ⟨b,h1,_,_,_,_,h6⟩:=x; cases h1; exact h6
theorem aE.bJ:aE h ι X [] []:=by exact rfl
theorem aE.aH {x:D} {xs:List D} {v:Value} {vs:List Value} (a:VR h ι X x v) (b:aE h ι X xs vs):aE h ι X (x::xs) (v::vs):=by exact ⟨v,vs,rfl,a,b⟩
theorem VR.none_of {v:Value} (a:VR h ι X .none v):v = .none:=a
theorem VR.dJ {v:Value} {b:Bool} (a:VR h ι X (.bool b) v):v = .bool b:=a
theorem VR.bw {v:Value} {i:Int} (a:VR h ι X (.int i) v):∃ t,v = .int i t:=a
theorem VR.aM {v:Value} {x:Str} (a:VR h ι X (.str x) v):Ho x v:=by obtain ⟨b,t,e⟩:=a; exact ⟨b,t,e⟩
theorem VR.cz {v u:Value} (a:VR h ι X (.val u) v):v=u:=a
theorem VR.bx {v:Value} {xs:List D} (a:VR h ι X (.list xs) v):Sq h ι X aA xs v:=by obtain ⟨a,vs,n,b,c,d,e,f,g⟩:=a; exact ⟨a,vs,n,b,c,d,e,f,g⟩
theorem VR.cZ {v:Value} {xs:List D} (a:VR h ι X (.tuple xs) v):Sq h ι X bF xs v:=by obtain ⟨a,vs,n,b,c,d,e,f,g⟩:=a; exact ⟨a,vs,n,b,c,d,e,f,g⟩
theorem VR.bf {v:Value} {i:Nat} (a:VR h ι X (.obj i) v):Hq ι i v:=by obtain ⟨a,r,b,c⟩:=a; exact ⟨a,r,b,c⟩
theorem aE.nil_of {vs:List Value} (a:aE h ι X [] vs):vs=[]:=a
theorem aE.cons_of {x:D} {xs:List D} {vs:List Value} (a:aE h ι X (x::xs) vs):HC h ι X x xs vs:=by obtain ⟨v,r,b,c,d⟩:=a; exact ⟨v,r,b,c,d⟩
inductive One (h:Heap) (ι:Ad) (X:List Addr) (x:D) (vs:List Value):Prop
  | mk (v:Value) (e:vs=[v]) (a:VR h ι X x v)
inductive Hl (h:Heap) (ι:Ad) (X:List Addr) (x y:D) (vs:List Value):Prop
  | mk (v w:Value) (e:vs=[v,w]) (a:VR h ι X x v) (b:VR h ι X y w)
inductive GZ (h:Heap) (ι:Ad) (X:List Addr) (x y z:D) (vs:List Value):Prop
  | mk (v w u:Value) (e:vs=[v,w,u]) (a:VR h ι X x v) (b:VR h ι X y w) (c:VR h ι X z u)
theorem aE.bL {x:D} {vs:List Value} (a:aE h ι X [x] vs):One h ι X x vs:=by
  obtain ⟨v,r,rfl,b,c⟩:=a.cons_of; refine rl c.nil_of ?_; exact ⟨v,rfl,b⟩
theorem aE.cD {x y:D} {vs:List Value} (a:aE h ι X [x,y] vs):Hl h ι X x y vs:=by
  obtain ⟨v,r,rfl,b,c⟩:=a.cons_of; obtain ⟨w,rfl,d⟩:=c.bL; exact ⟨v,w,rfl,b,d⟩
theorem aE.length:∀ {xs:List D} {vs:List Value},aE h ι X xs vs→vs.length=xs.length
  | [],_,a=>by refine rl a.nil_of ?_; rfl
  | _::_,_,a=>by obtain ⟨v,r,rfl,_,b⟩:=a.cons_of; exact rl List.length_cons (rl List.length_cons (rl b.length rfl))
theorem aE.get:∀ {xs:List D} {vs:List Value},aE h ι X xs vs→∀ {i:Nat} {x:D},xs[i]?=some x→∃ v,vs[i]?=some v∧VR h ι X x v
  | [],_,_,_,_,e=>by cases e
  | x::xs,_,a,0,y,e=>by obtain ⟨v,r,rfl,c,_⟩:=a.cons_of; cases e; exact ⟨v,rfl,c⟩
  | x::xs,_,a,i+1,y,e=>by obtain ⟨v,r,rfl,_,b⟩:=a.cons_of; exact b.get (by simpa using e)
theorem aE.append:∀ {xs ys:List D} {vs us:List Value},aE h ι X xs vs→aE h ι X ys us→aE h ι X (xs++ys) (vs++us)
  | [],_,_,_,a,b=>by refine rl a.nil_of ?_; exact b
  | _::_,_,_,_,a,b=>by obtain ⟨v,r,rfl,c,d⟩:=a.cons_of; exact .aH c (d.append b)
end
theorem fR {vs:List Value} {n:Nat}:(aA vs n).cls≠.type "frame" := by exact not_eq_of_beq_eq_false rfl
theorem qP {vs:List Value} {n:Nat}:(bF vs n).cls≠.type "frame" := by exact not_eq_of_beq_eq_false rfl
theorem bu {α:Type} {p:α→Prop}:∀ a,a∈([]:List α)→p a:=fun _ h=>absurd h List.not_mem_nil
theorem zz {α β:Type} {p:α→β→Prop}:∀ a b,False→p a b:=fun _ _ h=>h.elim
noncomputable def Sm (B:Nat) (b:Addr) (o o':Obj):Prop:=o'=o ∨ (B≤b∧o.cls = .type "frame" ∧ ∃ sl,o' = { o with slots:=sl })
theorem Sm.refl {B:Nat} {b:Addr} {o:Obj}:Sm B b o o:=.inl rfl
theorem Sm.trans {B:Nat} {b:Addr} {o o' o'':Obj} (x:Sm B b o o') (y:Sm B b o' o''):Sm B b o o'':=by
  rcases x with rfl | ⟨hb,hc,sl,rfl⟩
  · exact y
  rcases y with rfl | ⟨_,_,sl',rfl⟩
  · exact .inr ⟨hb,hc,sl,rfl⟩
  exact .inr ⟨hb,hc,sl',rfl⟩
theorem Sm.data {B:Nat} {b:Addr} {o o':Obj} (x:Sm B b o o'):o'.data=o.data∧o'.cls=o.cls∧o'.dict=o.dict:=by
  rcases x with rfl | ⟨_,_,_,rfl⟩ <;> exact ⟨rfl,rfl,rfl⟩
theorem Sm.eq {B:Nat} {b:Addr} {o o':Obj} (x:Sm B b o o') (h:o.cls≠.type "frame"):o'=o:=by
  rcases x with rfl | ⟨_,hc,_⟩
  · rfl
  exact absurd hc h
theorem Sm.low {B:Nat} {b:Addr} {o o':Obj} (x:Sm B b o o') (h:b < B):o'=o:=by
  rcases x with rfl | ⟨hb,_⟩
  · rfl
  exact absurd hb (Nat.not_le.mpr h)
structure Ext (B:Nat) (Y:List Addr) (s s':Shared):Prop where
  size:s.heap.objs.size≤s'.heap.objs.size
  keep:∀ b o,s.heap.get? b=some o→b ∉ Y→∃ o',s'.heap.get? b=some o'∧Sm B b o o'
  gens:s'.gens=s.gens
  os:s'.os=s.os
theorem Ext.refl {B:Nat} {Y:List Addr} {s:Shared}:Ext B Y s s:=⟨Nat.le_refl _,fun _ o e _=>⟨o,e,.refl⟩,rfl,rfl⟩
theorem Ext.trans {B:Nat} {Y:List Addr} {s s' s'':Shared} (x:Ext B Y s s') (y:Ext B Y s' s''):Ext B Y s s'' :=
  ⟨Nat.le_trans x.size y.size,fun b o e hb=>by
    obtain ⟨o',e',m⟩:=x.keep b o e hb; obtain ⟨o'',e'',m'⟩:=y.keep b o' e' hb
    exact ⟨o'',e'',m.trans m'⟩,y.gens.trans x.gens,y.os.trans x.os⟩
theorem Ext.mono {B:Nat} {Y Y':List Addr} {s s':Shared} (x:Ext B Y s s') (h:∀ a∈Y,a∈Y'):Ext B Y' s s' :=
  ⟨x.size,fun b o e hb=>x.keep b o e fun hy=>hb (h b hy),x.gens,x.os⟩
theorem Ext.less {B:Nat} {Y Y':List Addr} {s s':Shared} (x:Ext B Y' s s') (h:∀ a∈Y',a∈Y ∨ s.heap.objs.size≤a):Ext B Y s s' :=
  ⟨x.size,fun b o e hb=>x.keep b o e fun hy=>(h b hy).elim hb fun hz=>absurd (Heap.lt_size e) (Nat.not_lt.mpr hz),x.gens,x.os⟩
theorem Ext.of_keep {B:Nat} {Y:List Addr} {s s':Shared} (hg:s'.gens=s.gens) (ho:s'.os=s.os) (hs:s.heap.objs.size≤s'.heap.objs.size) (k:∀ b o,s.heap.get? b=some o→b ∉ Y→s'.heap.get? b=some o):Ext B Y s s' :=
  ⟨hs,fun b o e hb=>⟨o,k b o e hb,.refl⟩,hg,ho⟩
theorem Ext.toks {B:Nat} {Y:List Addr} {s:Shared} {t:Nat}:Ext B Y s { s with toks:=t }:=.of_keep rfl rfl (Nat.le_refl _) fun _ _ e _=>e
theorem Ext.get {B:Nat} {Y:List Addr} {s s':Shared} (x:Ext B Y s s') {b:Addr} {o:Obj} (e:s.heap.get? b=some o) (hb:b ∉ Y) (hc:o.cls≠.type "frame"):s'.heap.get? b=some o:=by
  obtain ⟨o',e',m⟩:=x.keep b o e hb; rw [m.eq hc] at e'; exact e'
theorem jW {ι:Ad} {a:Addr}:a∈br ι↔∃ p∈ι,a∈p:=by
  simp only [br,List.mem_flatten]
theorem bD (ι κ:Ad):br (ι++κ)=br ι++br κ:=by simp [br]
structure Gr (B:Nat) (ι:Ad) (s:Shared) (ι':Ad) (s':Shared):Prop where
  book:∃ κ,ι'=ι++κ∧∀ a∈br κ,s.heap.objs.size≤a
  ext:Ext B (br ι) s s'
theorem Gr.refl {B:Nat} {ι:Ad} {s:Shared}:Gr B ι s ι s:=⟨⟨[],by exact Eq.symm (List.append_nil ι),by simp [br]⟩,.refl⟩
theorem Gr.trans {B:Nat} {ι ι' ι'':Ad} {s s' s'':Shared} (x:Gr B ι s ι' s') (y:Gr B ι' s' ι'' s''):Gr B ι s ι'' s'':=by
  obtain ⟨⟨κ,rfl,hκ⟩,e⟩:=x; obtain ⟨⟨κ',rfl,hκ'⟩,e'⟩:=y; refine ⟨⟨κ++κ',by exact List.append_assoc ι κ κ',fun a ha=>?_⟩,⟨Nat.le_trans e.size e'.size,fun b o h hb=>?_,e'.gens.trans e.gens,e'.os.trans e.os⟩⟩
  · rw [bD] at ha
    rcases List.mem_append.mp ha with h | h
    · exact hκ a h
    exact Nat.le_trans e.size (hκ' a h)
  obtain ⟨o',h',m⟩:=e.keep b o h hb
  have:b ∉ br (ι++κ):=by
    rw [bD]; intro hm; rcases List.mem_append.mp hm with q | q
    · exact hb q
    exact absurd (Heap.lt_size h) (Nat.not_lt.mpr (hκ b q))
  obtain ⟨o'',h'',m'⟩:=e'.keep b o' h' this; exact ⟨o'',h'',m.trans m'⟩
theorem Gr.aB {B:Nat} {ι:Ad} {s s':Shared} (e:Ext B (br ι) s s'):Gr B ι s ι s':=⟨⟨[],by exact Eq.symm (List.append_nil ι),by simp [br]⟩,e⟩
theorem Gr.get? {B:Nat} {ι ι':Ad} {s s':Shared} (x:Gr B ι s ι' s') {i:Nat} {p:List Addr} (h:ι[i]?=some p):ι'[i]?=some p:=by
  obtain ⟨⟨κ,rfl,_⟩,_⟩:=x; obtain ⟨hl,_⟩:=List.getElem?_eq_some_iff.mp h; refine rl (List.getElem?_append_left hl) ?_; exact h
theorem Gr.jc {B:Nat} {ι ι':Ad} {s s':Shared} (x:Gr B ι s ι' s') {a:Addr} {o:Obj} (e:s.heap.get? a=some o) (h:a ∉ br ι):a ∉ br ι':=by
  obtain ⟨⟨κ,rfl,hκ⟩,_⟩:=x; rw [bD]; intro hm; rcases List.mem_append.mp hm with q | q
  · exact h q
  exact absurd (Heap.lt_size e) (Nat.not_lt.mpr (hκ a q))
mutual
theorem VR.gr {B:Nat} {ι ι':Ad} {X:List Addr} {s s':Shared} (g:Gr B ι s ι' s'):∀ {x:D} {v:Value},VR s.heap ι X x v→VR s'.heap ι' X x v
  | .none,_,h=>h
  | .bool _,_,h=>h
  | .int _,_,h=>h
  | .str _,_,h=>h
  | .list xs,v,h=>by
    obtain ⟨a,vs,n,rfl,hX,hi,e,hl,r⟩:=h.bx; exact .dZ hX (g.jc e hi) (g.ext.get e hi fR) hl (aE.gr g r)
  | .tuple xs,v,h=>by
    obtain ⟨a,vs,n,rfl,hX,hi,e,hl,r⟩:=h.cZ; exact .fj hX (g.jc e hi) (g.ext.get e hi qP) hl (aE.gr g r)
  | .obj i,v,h=>by
    obtain ⟨a,r,hp,rfl⟩:=h.bf; exact .m6 (g.get? hp)
  | .val _,_,h=>h
  | .imm o,v,h=>by
    obtain ⟨a,rfl,hX,hi,e,hc⟩:=h.dU; exact .lF hX (g.jc e hi) (g.ext.get e hi hc) hc h.jZ
theorem aE.gr {B:Nat} {ι ι':Ad} {X:List Addr} {s s':Shared} (g:Gr B ι s ι' s'):∀ {xs:List D} {vs:List Value},aE s.heap ι X xs vs→aE s'.heap ι' X xs vs
  | [],_,h=>h
  | _::_,_,h=>by
    obtain ⟨v,r,rfl,a,b⟩:=h.cons_of; exact .aH (VR.gr g a) (aE.gr g b)
end
noncomputable def Ld (env:Env) (h:Heap) (X:List Addr) (x:Str) (v:Value):Prop :=
  (env.kindOf x=some .local∧env.locals∈X∧∃ m,h.Ns env.locals m∧m x=some v) ∨
  ((env.kindOf x=some .cell ∨ (env.kindOf x=some .free∧(x==("__classdict__" : Str))=false))∧∃ c,env.cells.lookup x=some c∧c∈X∧h.IsCell c (some v))
noncomputable abbrev Loc:=List (Str × D)
noncomputable def ez (h:Heap) (ι:Ad) (X:List Addr) (fs:List (Str × D)) (es:List DictEntry):Prop :=
  ∀ name,match fs.lookup name with
    | none=>getL name es=some none
    | some d=>∃ v,getL name es=some (some v)∧VR h ι X d v
noncomputable def bW (vs:List Value) (n:Int):Obj:={ cls:=.type "collections.deque",data:=.fields (#[.none,rawInt n]++vs.toArray) }
theorem vF {vs:List Value} {n:Int}:(bW vs n).cls≠.type "frame" := by exact not_eq_of_beq_eq_false rfl
structure Cx where
  prog:Program
  w:World
  h₀:Heap
  os:OsState
  K:Frag
  mg:Str→Option Value
  mb:Str→Option Value
  t0:Nat
noncomputable abbrev Cx.B (C:Cx):Nat:=C.h₀.objs.size
noncomputable abbrev Cx.M (C:Cx):Model:=model C.prog C.w
structure Cx.Ok (C:Cx):Prop where
  K:C.K.In C.h₀
  g:C.h₀.Ns mainGlobals C.mg
  b:C.h₀.Ns builtinsNs C.mb
  nolimit:C.h₀.NoLimit
  nodigits:∃ mc,C.h₀.Ns cStatics mc∧mc "sys.int_max_str_digits" = none
  low:sysModules < C.h₀.objs.size
  booked:NoneBooked C.h₀
inductive Ht (h:Heap) (ι:Ad) (X:List Addr) (p:List Addr) (xs:List D):Prop
  | mk (a:Addr) (vs:List Value) (n:Nat) (hp:p=[a]) (e:h.get? a=some (aA vs n)) (hl:vs.length≤sizeLine) (r:aE h ι X xs vs)
inductive Hv (C:Cx) (h:Heap) (ι:Ad) (X:List Addr) (p:List Addr) (kvs:List (Str × D)):Prop
  | mk (a:Addr) (us:List (Str × Value)) (hp:p=[a]) (e:h.DictOf (strKind C.prog C.w) a us) (hk:us.map (·.1)=kvs.map (·.1)) (hv:aE h ι X (kvs.map (·.2)) (us.map (·.2)))
inductive Hu (h:Heap) (ι:Ad) (X:List Addr) (p:List Addr) (K:Addr) (fs:List (Str × D)):Prop
  | mk (x dx:Addr) (es:List DictEntry) (n:Nat) (hp:p=[x,dx]) (e:h.get? x=some ⟨.ref K,some dx,.plain,#[]⟩) (e':h.get? dx=some (dictOf es n)) (hl:es.length≤fs.length) (r:ez h ι X fs es)
inductive Hs (h:Heap) (ι:Ad) (X:List Addr) (p:List Addr) (xs:List D):Prop
  | mk (a:Addr) (vs:List Value) (n:Int) (hp:p=[a]) (e:h.get? a=some (bW vs n)) (r:aE h ι X xs vs)
inductive Hr (h:Heap) (p:List Addr) (xs:List Str):Prop
  | mk (a:Addr) (es:Array (Int × Value)) (n:Nat) (t:SetTable) (hp:p=[a]) (e:h.get? a=some { cls:=.type "set",data:=.set es n t }) (hl:xs.length=es.size)
noncomputable def OR (C:Cx) (h:Heap) (ι:Ad) (X:List Addr) (p:List Addr):O→Prop
  | .list xs=>Ht h ι X p xs
  | .dict kvs=>Hv C h ι X p kvs
  | .inst K fs=>Hu h ι X p K fs
  | .deque xs=>Hs h ι X p xs
  | .set xs=>Hr h p xs
noncomputable def Fx (C:Cx) (h:Heap) (ι:Ad) (X:List Addr) (H:List O):Prop:=ι.length=H.length∧∀ (i:Nat) (p:List Addr) (o:O),ι[i]?=some p→H[i]?=some o→OR C h ι X p o
structure iX (d:Nat) (A:Around):Prop where
  depth:A.depth+d < recursionLimit
  units:A.units+10*d < cLine
  handled:A.handled=none
  guards:A.guards=some []
structure FE (env:Env):Prop where
  kind:env.scope.kind = .function
  globals:env.globals=mainGlobals
  builtins:env.builtins=builtinsNs
  apart:env.cells.Pairwise fun x y=>x.2≠y.2
inductive HB (X:List Addr) (h:Heap) (fe:Env):Prop
  | mk (k:fe.scope.kind≠.module) (L:Addr) (o:Obj) (es:Array DictEntry) (n:Nat) (hf:fe.frame=some L) (hL:L∈X) (e:h.get? L=some o) (hc:o.cls = .type "frame") (hd:o.data = .dict es n)
noncomputable def lN (X:List Addr) (h:Heap) (fr:List Env):Prop:=∀ fe∈fr,HB X h fe
structure St (C:Cx) (d:Nat) (A:Around) (env:Env) (ρ:Loc) (H:List O) (ι:Ad) (X:List Addr) (s:Shared):Prop where
  room:iX d A
  bR:FE env
  base:∀ b o,C.h₀.get? b=some o→s.heap.get? b=some o
  big:C.B≤s.heap.objs.size
  gens:s.gens=#[]
  os:s.os=C.os
  xs:∀ a∈X,C.B≤a∧a < s.heap.objs.size
  is:∀ a∈br ι,C.B≤a∧a < s.heap.objs.size
  nd:(br ι).Nodup
  iR:∀ a∈br ι,a ∉ X
  loc:∀ x e,ρ.lookup x=some e→∃ v,Ld env s.heap X x v∧VR s.heap ι X e v
  objs:Fx C s.heap ι X H
  ns:env.locals∈X∧∃ m,s.heap.Ns env.locals m
  cells:∀ x c,env.cells.lookup x=some c→c∈X∧∃ v,s.heap.IsCell c v
  frs:∃ fr,A.frames=some fr∧lN X s.heap fr
  toks:C.t0≤s.toks
theorem lN.sm {B:Nat} {X Y:List Addr} {s s':Shared} (x:Ext B Y s s') {fr:List Env} (h:lN X s.heap fr) (hX:∀ a∈X,a ∉ Y):lN X s'.heap fr:=fun fe hfe=>by
  obtain ⟨k,L,o,es,n,hf,hL,e,hc,hd⟩:=h fe hfe; obtain ⟨o',e',m⟩:=x.keep L o e (hX L hL); exact ⟨k,L,o',es,n,hf,hL,e',m.data.2.1.trans hc,m.data.1.trans hd⟩
theorem Ns.sm {B:Nat} {Y:List Addr} {s s':Shared} (x:Ext B Y s s') {a:Addr} {m:Str→Option Value} (h:s.heap.Ns a m) (ha:a ∉ Y):s'.heap.Ns a m:=by
  obtain ⟨o,es,ep,e,hd,r⟩:=h; obtain ⟨o',e',q⟩:=x.keep a o e ha; exact ⟨o',es,ep,e',q.data.1.trans hd,r⟩
theorem Cell.sm {B:Nat} {Y:List Addr} {s s':Shared} (x:Ext B Y s s') {a:Addr} {v:Option Value} (h:s.heap.IsCell a v) (ha:a ∉ Y):s'.heap.IsCell a v:=by
  obtain ⟨o,e,hd⟩:=h; obtain ⟨o',e',q⟩:=x.keep a o e ha; exact ⟨o',e',q.data.1.trans hd⟩
theorem Ld.sm {B:Nat} {Y X:List Addr} {s s':Shared} (x:Ext B Y s s') {env:Env} {n:Str} {v:Value} (h:Ld env s.heap X n v) (hX:∀ a∈X,a ∉ Y):Ld env s'.heap X n v:=by
  rcases h with ⟨k,hl,m,hm,hv⟩ | ⟨k,c,hc,hx,hv⟩
  · exact .inl ⟨k,hl,m,Ns.sm x hm (hX _ hl),hv⟩
  exact .inr ⟨k,c,hc,hx,Cell.sm x hv (hX _ hx)⟩
theorem ez.gr {B:Nat} {ι ι':Ad} {X:List Addr} {s s':Shared} (g:Gr B ι s ι' s') {fs:List (Str × D)} {es:List DictEntry} (h:ez s.heap ι X fs es):ez s'.heap ι' X fs es:=by
  intro name; have:=h name
  cases e:fs.lookup name with
  | none=>rw [e] at this; exact this
  | some d =>
    rw [e] at this; obtain ⟨v,a,b⟩:=this; exact ⟨v,a,VR.gr g b⟩
theorem OR.gr {C:Cx} {ι ι':Ad} {X Y:List Addr} {s s':Shared} (g:Gr C.B ι s ι' s') (x:Ext C.B Y s s') {p:List Addr} (hp:∀ a∈p,a ∉ Y):∀ {o:O},OR C s.heap ι X p o→OR C s'.heap ι' X p o
  | .list xs,h=>by
    obtain ⟨a,vs,n,rfl,e,hl,r⟩:=h; exact ⟨a,vs,n,rfl,x.get e (hp a (.head _)) fR,hl,aE.gr g r⟩
  | .dict kvs,h=>by
    obtain ⟨a,us,rfl,⟨o,es,ep,e,ex,r⟩,hk,hv⟩:=h; exact ⟨a,us,rfl,⟨o,es,ep,x.get e (hp a (.head _)) (by refine rl ex.1 ?_; exact not_eq_of_beq_eq_false rfl),ex,r⟩,hk,aE.gr g hv⟩
  | .inst K fs,h=>by
    obtain ⟨a,dx,es,n,rfl,e,e',hl,r⟩:=h; exact ⟨a,dx,es,n,rfl,x.get e (hp a (.head _)) (by simp),x.get e' (hp dx (.tail _ (.head _))) (by simp),hl,ez.gr g r⟩
  | .deque xs,h=>by
    obtain ⟨a,vs,n,rfl,e,r⟩:=h; exact ⟨a,vs,n,rfl,x.get e (hp a (.head _)) vF,aE.gr g r⟩
  | .set xs,h=>by
    obtain ⟨a,es,n,t,rfl,e,r⟩:=h; exact ⟨a,es,n,t,rfl,x.get e (hp a (.head _)) (by simp),r⟩
theorem St.quiet {C:Cx} {d:Nat} {A:Around} {env:Env} {ρ:Loc} {H:List O} {ι:Ad} {X:List Addr} {s s':Shared} (S:St C d A env ρ H ι X s) (x:Ext C.B [] s s') (ht:C.t0≤s'.toks):St C d A env ρ H ι X s':=by
  have g:Gr C.B ι s ι s':=.aB (x.mono bu)
  exact ⟨S.room,S.bR,fun b o e=>by
      obtain ⟨o',e',m⟩:=x.keep b o (S.base b o e) (by exact List.not_mem_nil)
      rw [m.low (Heap.lt_size e)] at e'; exact e',
    Nat.le_trans S.big x.size,x.gens.trans S.gens,x.os.trans S.os,fun a ha=>⟨(S.xs a ha).1,Nat.lt_of_lt_of_le (S.xs a ha).2 x.size⟩,fun a ha=>⟨(S.is a ha).1,Nat.lt_of_lt_of_le (S.is a ha).2 x.size⟩,S.nd,S.iR,
    fun n e h=>by
      obtain ⟨v,a,b⟩:=S.loc n e h
      exact ⟨v,a.sm x (by exact fun a a_2=>List.not_mem_nil),VR.gr g b⟩,
    ⟨S.objs.1,fun i p o hp ho=>OR.gr g x (by exact fun a a_1=>List.not_mem_nil) (S.objs.2 i p o hp ho)⟩,
    ⟨S.ns.1,let ⟨m,hm⟩:=S.ns.2; ⟨m,Ns.sm x hm (by exact List.not_mem_nil)⟩⟩,fun n c hc=>⟨(S.cells n c hc).1,let ⟨v,hv⟩:=(S.cells n c hc).2; ⟨v,Cell.sm x hv (by exact List.not_mem_nil)⟩⟩,
    (let ⟨fr,a,b⟩:=S.frs; ⟨fr,a,b.sm x (by simp)⟩),ht⟩
inductive PR {α β:Type} (rel:Heap→Ad→List Addr→β→α→Prop) (C:Cx) (d:Nat) (A:Around) (env:Env) (ρ:Loc) (ι:Ad) (X:List Addr) (s:Shared) (Q:β→List O→Prop) (v:α) (s':Shared):Prop
  | mk (x:β) (H':List O) (ι':Ad) (hq:Q x H') (S:St C d A env ρ H' ι' X s') (hv:rel s'.heap ι' X x v) (g:Gr C.B ι s ι' s')
noncomputable abbrev Post:=PR VR
noncomputable def GQ (_:Heap) (_:Ad) (_:List Addr) (b:Bool) (b':Bool):Prop:=b'=b
noncomputable abbrev xq:=PR GQ
noncomputable def Hj (_:Heap) (_:Ad) (_:List Addr) (_:Unit) (_:Unit):Prop:=True
noncomputable def EV (C:Cx) (d:Nat) (env:Env) (ρ:Loc) (H:List O) (e:Expr) (Q:D→List O→Prop):Prop :=
  ∀ A s ι X,St C d A env ρ H ι X s→wpAny C.M A (eval e env) (Post C d A env ρ ι X s Q) (fun _ _=>False) s
noncomputable def TV (C:Cx) (d:Nat) (env:Env) (ρ:Loc) (H:List O) (e:Expr) (Q:Bool→List O→Prop):Prop :=
  ∀ A s ι X,St C d A env ρ H ι X s→wpAny C.M A (isTrue e env (eval e env)) (xq C d A env ρ ι X s Q) (fun _ _=>False) s
noncomputable def az (C:Cx) (d:Nat) (env:Env) (ρ:Loc):List Expr→List O→(List D→List O→Prop)→Prop
  | [],H,Q=>Q [] H
  | e::es,H,Q=>EV C d env ρ H e fun x H'=>az C d env ρ es H' fun xs H''=>Q (x::xs) H''
noncomputable def Fy (C:Cx) (d:Nat) (H:List O) (x:D) (t:Value→Sem Value) (Q:D→List O→Prop):Prop :=
  ∀ A env ρ s ι X v,St C d A env ρ H ι X s→VR s.heap ι X x v→wpAny C.M A (t v) (Post C d A env ρ ι X s Q) (fun _ _=>False) s
noncomputable def aO (C:Cx) (d:Nat) (H:List O) (x y:D) (t:Value→Value→Sem Value) (Q:D→List O→Prop):Prop :=
  ∀ A env ρ s ι X u v,St C d A env ρ H ι X s→VR s.heap ι X x u→VR s.heap ι X y v→wpAny C.M A (t u v) (Post C d A env ρ ι X s Q) (fun _ _=>False) s
noncomputable def HD (C:Cx) (d:Nat) (H:List O) (xs:List D) (t:List Value→Sem Value) (Q:D→List O→Prop):Prop :=
  ∀ A env ρ s ι X vs,St C d A env ρ H ι X s→aE s.heap ι X xs vs→wpAny C.M A (t vs) (Post C d A env ρ ι X s Q) (fun _ _=>False) s
noncomputable def TR (C:Cx) (d:Nat) (H:List O) (x:D) (Q:Bool→List O→Prop):Prop :=
  ∀ A env ρ s ι X v,St C d A env ρ H ι X s→VR s.heap ι X x v→wpAny C.M A (truthy v) (xq C d A env ρ ι X s Q) (fun _ _=>False) s
theorem PR.quiet {α β:Type} {rel:Heap→Ad→List Addr→β→α→Prop} {C:Cx} {d:Nat} {A:Around} {env:Env} {ρ:Loc} {H:List O} {ι:Ad} {X:List Addr} {s s':Shared} {Q:β→List O→Prop} {v:α}
    (S:St C d A env ρ H ι X s) (x:Ext C.B [] s s') {e:β} (hv:rel s'.heap ι X e v) (hq:Q e H) :
    C.t0≤s'.toks→PR rel C d A env ρ ι X s Q v s':=fun ht=>⟨e,H,ι,hq,S.quiet x ht,hv,.aB (x.mono bu)⟩
noncomputable def UP {α β:Type} (rel:Heap→Ad→List Addr→β→α→Prop) (C:Cx) (d:Nat) (A:Around) (env:Env) (ρ:Loc) (ι:Ad) (X:List Addr) (s:Shared) (Q:β→List O→Prop) (v:α) (s':Shared):Prop:=C.t0≤s'.toks→PR rel C d A env ρ ι X s Q v s'
noncomputable def UE (C:Cx) (_:Value) (s':Shared):Prop:=C.t0≤s'.toks→False
theorem up {α β:Type} {rel:Heap→Ad→List Addr→β→α→Prop} {C:Cx} {d:Nat} {A:Around} {env:Env} {ρ:Loc} {H:List O} {ι:Ad} {X:List Addr} {s:Shared} {Q:β→List O→Prop} {t:Sem α}
    (S:St C d A env ρ H ι X s) (h:wpAny C.M A t (UP rel C d A env ρ ι X s Q) (UE C) s):wpAny C.M A t (PR rel C d A env ρ ι X s Q) (fun _ _=>False) s :=
  wpAny_with_toks S.toks h
theorem PR.step {α β γ δ:Type} {rel:Heap→Ad→List Addr→β→α→Prop} {rel':Heap→Ad→List Addr→δ→γ→Prop} {C:Cx} {d:Nat} {A:Around} {env:Env} {ρ:Loc} {ι:Ad} {X:List Addr} {s:Shared} {Q:β→List O→Prop} {Q':δ→List O→Prop}
    {t:Sem γ} {v:α} {s':Shared} (p:PR rel C d A env ρ ι X s Q v s')
    (h:∀ x H' ι',Q x H'→St C d A env ρ H' ι' X s'→rel s'.heap ι' X x v→Gr C.B ι s ι' s'→wpAny C.M A t (PR rel' C d A env ρ ι' X s' Q') (fun _ _=>False) s') :
    wpAny C.M A t (PR rel' C d A env ρ ι X s Q') (fun _ _=>False) s':=by
  obtain ⟨x,H',ι',hq,S,hv,g⟩:=p; refine wpAny_mono (h x H' ι' hq S hv g) (fun v' s'' p'=>?_) zz; obtain ⟨x',H'',ι'',hq',S',hv',g'⟩:=p'; exact ⟨x',H'',ι'',hq',S',hv',g.trans g'⟩
theorem PR.back {α β:Type} {rel:Heap→Ad→List Addr→β→α→Prop} {C:Cx} {d:Nat} {A:Around} {env:Env} {ρ:Loc} {ι ι':Ad} {X:List Addr} {s s' s'':Shared} {Q:β→List O→Prop} {v:α}
    (g:Gr C.B ι s ι' s') (p:PR rel C d A env ρ ι' X s' Q v s''):PR rel C d A env ρ ι X s Q v s'':=by
  obtain ⟨x,H',κ,hq,S,hv,g'⟩:=p; exact ⟨x,H',κ,hq,S,hv,g.trans g'⟩
theorem PR.mono {α β:Type} {rel:Heap→Ad→List Addr→β→α→Prop} {C:Cx} {d:Nat} {A:Around} {env:Env} {ρ:Loc} {ι:Ad} {X:List Addr} {s s':Shared} {Q Q':β→List O→Prop} {v:α}
    (p:PR rel C d A env ρ ι X s Q v s') (h:∀ x H',Q x H'→Q' x H'):PR rel C d A env ρ ι X s Q' v s' :=
  let ⟨x,H',κ,hq,a,b,c⟩:=p; ⟨x,H',κ,h _ _ hq,a,b,c⟩
theorem aC {α β:Type} {rel:Heap→Ad→List Addr→β→α→Prop} {C:Cx} {d:Nat} {A:Around} {env:Env} {ρ:Loc} {ι:Ad} {X:List Addr} {s:Shared} {Q:β→List O→Prop} {M:Model} {A':Around} {t:Sem α} {P:α→Shared→Prop} {E:Value→Shared→Prop} {s0:Shared}
    (h:wpAny M A' t (PR rel C d A env ρ ι X s Q) (fun _ _=>False) s0) (k:∀ v s' x H' ι',Q x H'→St C d A env ρ H' ι' X s'→rel s'.heap ι' X x v→Gr C.B ι s ι' s'→P v s') (he:∀ e s',False→E e s'):wpAny M A' t P E s0 :=
  wpAny_mono h (fun v s' p=>let ⟨x,H',κ,a,b,c,e⟩:=p; k v s' x H' κ a b c e) he
section
variable {C:Cx} {d:Nat} {env:Env} {ρ:Loc} {H:List O} {Q:D→List O→Prop}
theorem EV.mono {e:Expr} {Q':D→List O→Prop} (h:EV C d env ρ H e Q) (hq:∀ x H',Q x H'→Q' x H'):EV C d env ρ H e Q':=fun A s ι X S =>
  wpAny_mono (h A s ι X S) (fun _ _ p=>p.mono hq) zz
theorem EV.name {x:Str} {pos:Pos} {e:D} (hd:(x==("__debug__" : Str))=false) (h:ρ.lookup x=some e) (hq:Q e H):EV C d env ρ H (.Name x pos) Q:=fun A s ι X S=>by
  obtain ⟨v,l,r⟩:=S.loc x e h; refine wpAny_Name ?_ hd; have p:Post C d A env ρ ι X s Q v s:=PR.quiet S .refl r hq S.toks; rcases l with ⟨k,_,m,hm,hv⟩ | ⟨k | ⟨k,hc⟩,c,hl,_,hv⟩
  · exact wpAny_loadName_local S.bR.kind k hm hv p
  · exact wpAny_loadName_cell S.bR.kind k hl hv p
  exact wpAny_loadName_free S.bR.kind k hl hv p hc
theorem EV.glob {x:Str} {pos:Pos} {v:Value} (hd:(x==("__debug__" : Str))=false) (O:C.Ok) (k:env.kindOf x=some .globalImplicit) (h:C.mg x=some v) (hq:Q (.val v) H):EV C d env ρ H (.Name x pos) Q:=fun A s ι X S =>
  up S <| Name_function_global S.bR.kind k (loadGlobal_global (env:=env) (by refine rl S.bR.globals ?_; exact O.g.keeps S.base) h (PR.quiet S .refl .tO hq)) hd
theorem EV.blt {x:Str} {pos:Pos} {v:Value} (hd:(x==("__debug__" : Str))=false) (O:C.Ok) (k:env.kindOf x=some .globalImplicit) (h:C.mg x=none) (h':C.mb x=some v) (hq:Q (.val v) H):EV C d env ρ H (.Name x pos) Q:=fun A s ι X S =>
  up S <| Name_function_global S.bR.kind k (loadGlobal_builtin (env:=env) (by refine rl S.bR.globals ?_; exact O.g.keeps S.base) h (by refine rl S.bR.builtins ?_; exact O.b.keeps S.base) h' (PR.quiet S .refl .tO hq)) hd
theorem EV.int {i:Int} {k:Nat} {pos:Pos} (hq:Q (.int i) H):EV C d env ρ H (.Constant (.int i) k pos) Q:=fun A s ι X S=>up S <| wpAny_Constant_int (PR.quiet S .toks .fC hq)
theorem EV.str {x:Str} {k:Nat} {pos:Pos} (hl:x.length≤sizeLine) (hq:Q (.str x) H):EV C d env ρ H (.Constant (.str x) k pos) Q:=fun A s ι X S=>up S <| Constant_str (PR.quiet S .toks (.eL hl) hq)
theorem EV.none {k:Nat} {pos:Pos} (hq:Q .none H):EV C d env ρ H (.Constant .none k pos) Q:=fun A s ι X S=>up S <| wpAny_pure (PR.quiet S .refl .none_ hq)
theorem EV.bool {b:Bool} {k:Nat} {pos:Pos} (hq:Q (.bool b) H):EV C d env ρ H (.Constant (.bool b) k pos) Q:=fun A s ι X S=>up S <| wpAny_pure (PR.quiet S .refl .bq hq)
end
end Mine
namespace Mine
section
variable {C:Cx} {d:Nat} {env:Env} {ρ:Loc} {H:List O} {Q:D→List O→Prop} {T:Bool→List O→Prop}
theorem GD {γ δ:Type} {rel:Heap→Ad→List Addr→δ→γ→Prop} {R:δ→List O→Prop} {l r:Expr} {t:Value→Value→Sem γ} {A:Around} {s:Shared} {ι:Ad} {X:List Addr} (S:St C d A env ρ H ι X s)
    (h:EV C d env ρ H l fun a H₁=>EV C d env ρ H₁ r fun b H₂=>∀ s ι u v,St C d A env ρ H₂ ι X s→VR s.heap ι X a u→VR s.heap ι X b v→wpAny C.M A (t u v) (PR rel C d A env ρ ι X s R) (fun _ _=>False) s) :
    wpAny C.M A (eval l env) (fun u s₁=>wpAny C.M A (eval r env) (fun v s₂=>wpAny C.M A (t u v) (PR rel C d A env ρ ι X s R) (fun _ _=>False) s₂) (fun _ _=>False) s₁) (fun _ _=>False) s:=by
  refine aC (h A s ι X S) (fun u s₁ a H₁ ι₁ h₁ S₁ v₁ g₁=>?_) zz; refine aC (h₁ A s₁ ι₁ X S₁) (fun v s₂ b H₂ ι₂ h₂ S₂ v₂ g₂=>?_) zz; exact wpAny_mono (h₂ s₂ ι₂ u v S₂ (VR.gr g₂ v₁) v₂) (fun _ _ p=>(p.back g₂).back g₁) zz
theorem EV.binop {l r:Expr} {op:Operator} {pos:Pos} (h:EV C d env ρ H l fun a H₁=>EV C d env ρ H₁ r fun b H₂=>aO C d H₂ a b (binaryOp op) Q):EV C d env ρ H (.BinOp l op r pos) Q:=fun A s ι X S =>
  wpAny_BinOp (GD S (h.mono fun _ _ h₁=>h₁.mono fun _ _ h₂ s ι u v S a b=>h₂ A env ρ s ι X u v S a b))
theorem EV.cmp {l r:Expr} {op:CmpOp} {pos:Pos} (h:EV C d env ρ H l fun a H₁=>EV C d env ρ H₁ r fun b H₂=>aO C d H₂ a b (compareOp op) Q) (hm:behindInMarks op r=false):EV C d env ρ H (.Compare l [op] [r] pos) Q:=fun A s ι X S =>
  wpAny_Compare1 (GD S (h.mono fun _ _ h₁=>h₁.mono fun _ _ h₂ s ι u v S a b=>h₂ A env ρ s ι X u v S a b)) hm
theorem EV.unary {e:Expr} {op:UnaryOp} {pos:Pos} (h:EV C d env ρ H e fun a H₁=>Fy C d H₁ a (unaryOp op) Q):EV C d env ρ H (.UnaryOp op e pos) Q:=fun A s ι X S =>
  UnaryOp_ (wpAny_mono (h A s ι X S) (fun u s₁ p=>p.step fun a H₁ ι₁ h₁ S₁ v₁ _=>h₁ A env ρ s₁ ι₁ X u S₁ v₁) zz)
theorem EV.jI {t b o:Expr} {pos:Pos} (h:TV C d env ρ H t fun c H₁=>if c=true then EV C d env ρ H₁ b Q else EV C d env ρ H₁ o Q):EV C d env ρ H (.IfExp t b o pos) Q:=fun A s ι X S =>
  IfExp_ (aC (h A s ι X S) (fun c s₁ c' H' κ hq S' hb g=>by
    cases (show c=c' from hb)
    cases c with
    | true=>exact wpAny_mono (hq A s₁ κ X S') (fun _ _ p'=>p'.back g) zz
    | false=>exact wpAny_mono (hq A s₁ κ X S') (fun _ _ p'=>p'.back g) zz) zz)
theorem EV.GN {e:Expr} {op:BoolOp} {pos:Pos} (h:EV C d env ρ H e Q):EV C d env ρ H (.BoolOp op [e] pos) Q:=fun A s ι X S=>BoolOp_one (h A s ι X S)
theorem EV.and {e₁ e₂:Expr} {rest:List Expr} {pos:Pos} (h:EV C d env ρ H e₁ fun x H₁=>TR C d H₁ x fun c H₂=>if c=true then EV C d env ρ H₂ (.BoolOp .And (e₂::rest) pos) Q else Q x H₂):EV C d env ρ H (.BoolOp .And (e₁::e₂::rest) pos) Q:=fun A s ι X S =>
  BoolOp_and (aC (h A s ι X S) (fun v s₁ x H₁ κ hq S₁ hv g=>by
    refine aC (hq A env ρ s₁ κ X v S₁ hv) (fun c s₂ c' H₂ κ₂ hq₂ S₂ hb g₂=>?_) zz; cases (show c=c' from hb)
    cases c with
    | true=>exact wpAny_mono (hq₂ A s₂ κ₂ X S₂) (fun _ _ p'=>(p'.back g₂).back g) zz
    | false=>exact ⟨x,H₂,κ₂,hq₂,S₂,VR.gr g₂ hv,g.trans g₂⟩) zz)
theorem TV.plain {e:Expr} (h:EV C d env ρ H e fun x H₁=>TR C d H₁ x T) (he:∀ whole,isTrue e env whole=(do let v ← whole; standAt e.pos; holding [v] (truthy v))):TV C d env ρ H e T:=fun A s ι X S =>
  isTrue_plain (wpAny_mono (h A s ι X S) (fun u s₁ p=>p.step fun a H₁ ι₁ h₁ S₁ v₁ _=>h₁ A env ρ s₁ ι₁ X u S₁ v₁) zz) (he _)
theorem TV.cmp {l r:Expr} {op:CmpOp} {pos:Pos} (h:EV C d env ρ H l fun a H₁=>EV C d env ρ H₁ r fun b H₂=>aO C d H₂ a b (compareOp op) fun c H₃=>TR C d H₃ c T) (hm:behindInMarks op r=false):TV C d env ρ H (.Compare l [op] [r] pos) T:=fun A s ι X S =>
  wpAny_isTrue_Compare1 (by
    refine aC (h A s ι X S) (fun u s₁ a H₁ ι₁ h₁ S₁ v₁ g₁=>?_) zz; refine aC (h₁ A s₁ ι₁ X S₁) (fun v s₂ b H₂ ι₂ h₂ S₂ v₂ g₂=>?_) zz; refine aC (h₂ A env ρ s₂ ι₂ X u v S₂ (VR.gr g₂ v₁) v₂) (fun c s₃ x H₃ ι₃ h₃ S₃ v₃ g₃=>?_) zz
    exact wpAny_mono (h₃ A env ρ s₃ ι₃ X c S₃ v₃) (fun _ _ p=>((p.back g₃).back g₂).back g₁) zz) hm
theorem TV.not {e:Expr} {pos:Pos} (h:TV C d env ρ H e fun b H₁=>T (!b) H₁):TV C d env ρ H (.UnaryOp .Not e pos) T:=fun A s ι X S =>
  isTrue_not (wpAny_mono (h A s ι X S) (fun b s' p=>let ⟨x,H',κ,hq,S',hb,g⟩:=p; ⟨!x,H',κ,hq,S',by refine rl (show b=x from hb) ?_; rfl,g⟩) zz)
theorem TV.qc {pos:Pos} (h:T true H):TV C d env ρ H (.BoolOp .And [] pos) T:=fun A s ι X S=>up S <| isTrue_and_nil (PR.quiet S .refl rfl h)
theorem TV.Bc {pos:Pos} (h:T false H):TV C d env ρ H (.BoolOp .Or [] pos) T:=fun A s ι X S=>up S <| isTrue_or_nil (PR.quiet S .refl rfl h)
theorem TV.and {e:Expr} {rest:List Expr} {pos:Pos} (h:TV C d env ρ H e fun b H₁=>if b=true then TV C d env ρ H₁ (.BoolOp .And rest pos) T else T false H₁):TV C d env ρ H (.BoolOp .And (e::rest) pos) T:=fun A s ι X S =>
  isTrue_and (aC (h A s ι X S) (fun c s₁ c' H' κ hq S' hb g=>by
    cases (show c=c' from hb)
    cases c with
    | true=>exact wpAny_mono (hq A s₁ κ X S') (fun _ _ p'=>p'.back g) zz
    | false=>exact ⟨false,H',κ,hq,S',rfl,g⟩) zz)
theorem TV.or {e:Expr} {rest:List Expr} {pos:Pos} (h:TV C d env ρ H e fun b H₁=>if b=true then T true H₁ else TV C d env ρ H₁ (.BoolOp .Or rest pos) T):TV C d env ρ H (.BoolOp .Or (e::rest) pos) T:=fun A s ι X S =>
  isTrue_or (aC (h A s ι X S) (fun c s₁ c' H' κ hq S' hb g=>by
    cases (show c=c' from hb)
    cases c with
    | true=>exact ⟨true,H',κ,hq,S',rfl,g⟩
    | false=>exact wpAny_mono (hq A s₁ κ X S') (fun _ _ p'=>p'.back g) zz) zz)
end
end Mine
namespace Mine
mutual
noncomputable def D.pd:D→PyData
  | .none=>.none
  | .bool b=>.bool b
  | .int i=>.int i
  | .str x=>.str x
  | .list xs=>.list (D.mW xs)
  | .tuple xs=>.tuple (D.mW xs)
  | .obj _=>.none
  | .val _=>.none
  | .imm _=>.none
noncomputable def D.mW:List D→List PyData
  | []=>[]
  | x::xs=>x.pd::D.mW xs
end
noncomputable def FJ (f:List D→Bool) (x:D):Bool:=D.casesOn (motive_1:=fun _=>Bool) x true (fun _=>true) (fun _=>true) PyData.strOk f f (fun _=>false) (fun _=>false) fun _=>false
noncomputable def FH (n:Nat):List D→Bool:=Nat.rec (fun _=>false) (fun _ g xs=>xs.all (FJ g)) n
noncomputable def D.ok (n:Nat) (x:D):Bool:=FJ (FH n) x
theorem jV {n:Nat} {xs:List D}:FH (n+1) xs=true↔∀ x∈xs,D.ok n x=true:=List.all_eq_true
theorem fQ {n:Nat} {xs:List D} (h:FH (n+1) xs=true):∀ x∈xs,D.ok n x=true:=jV.mp h
theorem fu {n:Nat} {xs:List D} (h:∀ x∈xs,D.ok n x=true):D.ok (n+1) (.list xs)=true:=jV.mpr h
theorem mY {n:Nat} {x y:D} (h:D.ok n x=true∧D.ok n y=true):D.ok (n+1) (.tuple [x,y])=true:=jV.mpr fun z hz=>(List.mem_cons.mp hz).elim (fun e=>e ▸ h.1) fun hz=>List.mem_singleton.mp hz ▸ h.2
mutual
theorem VR.reads {h:Heap} {ι:Ad} {X:List Addr}:∀ (n:Nat) {x:D} {v:Value},D.ok n x=true→VR h ι X x v→∃ as,Reads h v x.pd as
  | _,.none,_,_,a=>by refine rl a.none_of ?_; exact ⟨_,.none⟩
  | _,.bool _,_,_,a=>by refine rl a.dJ ?_; exact ⟨_,.bool _⟩
  | _,.int _,_,_,a=>by obtain ⟨t,rfl⟩:=a.bw; exact ⟨_,.int _ _⟩
  | _,.str _,_,_,a=>by obtain ⟨_,t,rfl⟩:=a.aM; exact ⟨_,.str _ _⟩
  | 0,.list _,_,e,_=>(Bool.false_ne_true e).elim
  | 0,.tuple _,_,e,_=>(Bool.false_ne_true e).elim
  | n+1,.list xs,_,e,a=>by
    obtain ⟨a,vs,k,rfl,_,_,he,_,r⟩:=a.bx; obtain ⟨as,q⟩:=aE.reads n (fQ e) r; exact ⟨_,reads_list_at he rfl rfl q⟩
  | n+1,.tuple xs,_,e,a=>by
    obtain ⟨a,vs,k,rfl,_,_,he,_,r⟩:=a.cZ; obtain ⟨as,q⟩:=aE.reads n (fQ e) r; exact ⟨_,reads_tuple_at he rfl rfl q⟩
  | n,.obj _,_,e,_=>(Bool.false_ne_true e).elim
  | n,.val _,_,e,_=>(Bool.false_ne_true e).elim
  | n,.imm _,_,e,_=>(Bool.false_ne_true e).elim
theorem aE.reads {h:Heap} {ι:Ad} {X:List Addr}:∀ (n:Nat) {xs:List D} {vs:List Value},(∀ x∈xs,D.ok n x=true)→aE h ι X xs vs→∃ as,ReadsAll h vs (D.mW xs) as
  | _,[],_,_,a=>by refine rl a.nil_of ?_; exact ⟨_,.nil⟩
  | n,x::xs,_,e,a=>by
    obtain ⟨v,r,rfl,b,c⟩:=a.cons_of; obtain ⟨as,q⟩:=VR.reads n (e x (.head _)) b; obtain ⟨bs,p⟩:=aE.reads n (fun y hy=>e y (.tail _ hy)) c; exact ⟨_,.cons q p⟩
end
noncomputable abbrev zb (n:Nat) (p:PyData):Prop:=p.canLay0=true∧p.depth≤n
noncomputable abbrev ql (n:Nat) (p:List PyData):Prop:=PyData.canLayAll0 p=true∧PyData.depthAll p≤n
theorem vV {n:Nat} {p:PyData} {ps:List PyData} (a:zb n p) (b:ql n ps):ql n (p::ps):=⟨(Bool.and_eq_true _ _).mpr ⟨a.1,b.1⟩,Nat.max_le.mpr ⟨a.2,b.2⟩⟩
theorem oU {n:Nat} (ih:∀ x,D.ok n x=true→zb n x.pd) (xs:List D):(∀ x∈xs,D.ok n x=true)→ql n (D.mW xs):=by
  induction xs with
  | nil=>exact fun _=>⟨rfl,Nat.zero_le _⟩
  | cons x xs hi=>exact fun h=>vV (ih x (h x (.head _))) (hi fun e he=>h e (.tail _ he))
theorem r7 (n:Nat) (f:List D→Bool) (g:∀ xs,f xs=true→∃ m,n=m+1∧ql m (D.mW xs)) (x:D) (h:FJ f x=true):zb n x.pd:=by
  have lt:∀ xs,f xs=true→PyData.canLayAll0 (D.mW xs)=true∧PyData.depthAll (D.mW xs)+1≤n:=fun xs h=>by
    obtain ⟨m,rfl,q⟩:=g xs h; exact ⟨q.1,Nat.succ_le_succ q.2⟩
  cases x with
  | str _=>exact ⟨h,Nat.zero_le _⟩
  | list xs=>exact lt xs h
  | tuple xs=>exact lt xs h
  | _=>exact ⟨rfl,Nat.zero_le _⟩
theorem eE (n:Nat):∀ x:D,D.ok n x=true→zb n x.pd:=by
  induction n with
  | zero=>exact r7 0 _ fun _ h=>(Bool.false_ne_true h).elim
  | succ n ih=>exact r7 (n+1) _ fun xs h=>⟨n,rfl,oU ih xs (fQ h)⟩
theorem gm (n:Nat) (xs:List D) (h:∀ x∈xs,D.ok n x=true):ql n (D.mW xs):=oU (eE n) xs h
theorem G8 {b:Int} (h:0 < b∧b < 1000000000):b.natAbs < 1073741824:=by omega
theorem bK {n:Nat} (h:n≤sizeLine):(n:Int) < 2 ^ 63:=by
  have:sizeLine=16777216:=rfl; omega
section
variable {C:Cx} {d:Nat} {H:List O} {Q:D→List O→Prop} {T:Bool→List O→Prop}
noncomputable def FZ:D→Option Bool
  | .none=>some false
  | .bool b=>some b
  | .int i=>some (i != 0)
  | .str x=>some (x.length != 0)
  | .list xs=>some (!xs.isEmpty)
  | _=>none
theorem TR.plain {x:D} {b:Bool} (e:FZ x=some b) (h:T b H):TR C d H x T:=fun A env ρ s ι X v S hv=>up S <| by
  cases x with
  | none=>refine rl hv.none_of ?_; cases e; exact truthy_none (PR.quiet S .refl rfl h)
  | bool c=>refine rl hv.dJ ?_; cases e; exact wpAny_truthy_bool (PR.quiet S .refl rfl h)
  | int i=>obtain ⟨t,rfl⟩:=hv.bw; cases e; exact P.truthy_int (PR.quiet S .refl rfl h)
  | str x =>
    obtain ⟨hl,t,rfl⟩:=hv.aM; cases e; refine P.truthy_str (by have:=bK hl; exact Int.not_le.mpr this) (PR.quiet S .toks ?_ h); show ((x.length:Int) != 0)=(x.length != 0); rw [Bool.eq_iff_iff]; simp only [bne_iff_ne]; exact CC
  | list xs =>
    obtain ⟨a,vs,n,rfl,_,_,he,hl,r⟩:=hv.bx; cases e; refine wpAny_truthy_list ⟨_,he,rfl,n,rfl⟩ (by refine rl List.size_toArray ?_; exact bK hl) (PR.quiet S .toks ?_ h); show (!vs.toArray.isEmpty) = !xs.isEmpty; have:=r.length; cases vs <;> cases xs <;> simp_all
  | _=>cases e
noncomputable def yP (x:D):Option Int:=D.casesOn (motive_1:=fun _=>Option Int) x none (fun _=>none) some (fun _=>none) (fun _=>none) (fun _=>none) (fun _=>none) (fun _=>none) fun _=>none
noncomputable def pW (x:D):Option Str:=D.casesOn (motive_1:=fun _=>Option Str) x none (fun _=>none) (fun _=>none) some (fun _=>none) (fun _=>none) (fun _=>none) (fun _=>none) fun _=>none
theorem nO {x:D} {a:Int} (h:(yP x)=some a):x = .int a:=by
  cases x with
  | int=>exact congrArg D.int (Option.some.inj h)
  | _=>exact cO h
theorem d9 {x:D} {a:Str} (h:(pW x)=some a):x = .str a:=by
  cases x with
  | str=>exact congrArg D.str (Option.some.inj h)
  | _=>exact cO h
noncomputable def jN (x y:D) (E:Prop) (p:Int→Int→Prop):Prop:=(yP x).elim E fun a=>(yP y).elim E (p a)
noncomputable def zT (x y:D) (E:Prop) (p:Str→Str→Prop):Prop:=(pW x).elim E fun a=>(pW y).elim E (p a)
inductive FA (u v:Value) (p:Int→Int→Prop):Prop
  | mk (a b:Int) (t t':Tok) (e:u = .int a t) (e':v = .int b t') (h:p a b)
inductive Fv (u v:Value) (p:Str→Str→Prop):Prop
  | mk (a b:Str) (t t':Tok) (e:u = .str a t) (e':v = .str b t') (h:p a b)
theorem cY {α:Type} {o:Option α} {E:Prop} {p:α→Prop} (h:o.elim E p):(∃ a,o=some a∧p a) ∨ E:=by
  cases o with
  | none=>exact .inr h
  | some a=>exact .inl ⟨a,rfl,h⟩
section
variable {h:Heap} {ι:Ad} {X:List Addr} {x y:D} {E:Prop} {u v:Value}
theorem ni {p:Int→Int→Prop} (q:jN x y E p) (hu:VR h ι X x u) (hv:VR h ι X y v):FA u v p ∨ E:=by
  rcases cY q with ⟨a,ha,q⟩ | q
  · rcases cY q with ⟨b,hb,q⟩ | q
    · rw [nO ha] at hu
      rw [nO hb] at hv; obtain ⟨t,hu⟩:=hu.bw; obtain ⟨t',hv⟩:=hv.bw; exact .inl ⟨a,b,t,t',hu,hv,q⟩
    exact .inr q
  exact .inr q
theorem xH {p:Str→Str→Prop} (q:zT x y E p) (hu:VR h ι X x u) (hv:VR h ι X y v):Fv u v p ∨ E:=by
  rcases cY q with ⟨a,ha,q⟩ | q
  · rcases cY q with ⟨b,hb,q⟩ | q
    · rw [d9 ha] at hu
      rw [d9 hb] at hv; obtain ⟨_,t,hu⟩:=hu.aM; obtain ⟨_,t',hv⟩:=hv.aM; exact .inl ⟨a,b,t,t',hu,hv,q⟩
    exact .inr q
  exact .inr q
theorem d8 {p:Int→Int→Prop} (q:jN x y False p) (hu:VR h ι X x u) (hv:VR h ι X y v):FA u v p:=(ni q hu hv).resolve_right id
theorem xJ {p:Str→Str→Prop} (q:zT x y False p) (hu:VR h ι X x u) (hv:VR h ι X y v):Fv u v p:=(xH q hu hv).resolve_right id
end
noncomputable def GJ (op:Operator) (x y:D) (H:List O) (Q:D→List O→Prop):Prop:=match op with
  | .Add=>jN x y (zT x y False fun a b=>(a.length+b.length≤sizeLine)∧Q (.str (a++b)) H) fun a b=>Q (.int (a+b)) H
  | .Sub=>jN x y False fun a b=>Q (.int (a - b)) H
  | .FloorDiv=>jN x y False fun a b=>(0 < b∧b < 1000000000)∧Q (.int (a.fdiv b)) H
  | .Mod=>jN x y False fun a b=>(0 < b)∧Q (.int (a.fmod b)) H
  | .Pow=>jN x y False fun a b=>(0≤b∧b≤1000∧a.natAbs < 2 ^ 64)∧Q (.int (a ^ b.toNat)) H
  | _=>False
theorem aO.bin {op:Operator} {x y:D} (h:GJ op x y H Q):aO C d H x y (binaryOp op) Q:=fun A env ρ s ι X u v S hu hv=>up S <| by
  cases op with
  | Add =>
    rcases ni h hu hv with ⟨a,b,t,t',rfl,rfl,h⟩ | h
    · exact PyProof.Rows.add_int (PR.quiet S .toks .fC h)
    obtain ⟨a,b,t,t',rfl,rfl,h⟩:=xJ h hu hv; exact PyProof.Rows.add_str (fun _ _=>PR.quiet S .toks (.eL (by rw [strLen_append]; exact h.1)) h.2) h.1
  | Sub=>obtain ⟨a,b,t,t',rfl,rfl,h⟩:=d8 h hu hv; exact PyProof.Rows.sub_int (PR.quiet S .toks .fC h)
  | Mod=>obtain ⟨a,b,t,t',rfl,rfl,h⟩:=d8 h hu hv; exact PyProof.Rows.mod_int (Int.ne_of_gt h.1) (PR.quiet S .toks .fC h.2)
  | Pow=>obtain ⟨a,b,t,t',rfl,rfl,h⟩:=d8 h hu hv; exact PyProof.Rows.pow_int_small h.1.1 (Int.le_trans h.1.2.1 (by decide)) h.1.2.2 (PR.quiet S .toks .fC h.2)
  | FloorDiv=>obtain ⟨a,b,t,t',rfl,rfl,h⟩:=d8 h hu hv; exact PyProof.Rows.floordiv_int (Int.ne_of_gt h.1.1) (PR.quiet S .toks .fC h.2) (.inl (PyProof.noPylong_small (G8 h.1)))
  | _=>exact h.elim
noncomputable def GG (n:Bool) (x y:D) (H:List O) (Q:D→List O→Prop):Prop:=(D.ok 8 x=true∧D.ok 8 y=true)∧Q (.bool (if n=true then !PyData.eqv x.pd y.pd else PyData.eqv x.pd y.pd)) H
noncomputable def GH (x:D):Bool:=D.casesOn (motive_1:=fun _=>Bool) x true (fun _=>false) (fun _=>false) (fun _=>false) (fun _=>false) (fun _=>false) (fun _=>false) (fun _=>false) fun _=>false
noncomputable def GF (n:Bool) (x y:D) (H:List O) (Q:D→List O→Prop):Prop :=
  jN x y ((pW x).elim (GG n x y H Q) fun a=>(pW y).elim (if GH y=true then Q (.bool n) H else GG n x y H Q) fun b=>Q (.bool (if n=true then a != b else a==b)) H)
    fun a b=>Q (.bool (if n=true then a != b else a==b)) H
noncomputable def inD (n:Bool) (x:D) (ys:List D) (H:List O) (Q:D→List O→Prop):Prop:=(D.ok 8 x=true∧∀ y∈ys,D.ok 8 y=true)∧Q (.bool (if n=true then !((D.mW ys).any fun y=>PyData.eqv y x.pd) else (D.mW ys).any fun y=>PyData.eqv y x.pd)) H
noncomputable def Gx (n:Bool) (x y:D) (H:List O) (Q:D→List O→Prop):Prop:=D.casesOn (motive_1:=fun _=>Prop) y False (fun _=>False) (fun _=>False)
  (fun b=>(pW x).elim False fun a=>Q (.bool (if n=true then !(!(Builtin.Str.occurrences b a 0 b.length 1).isEmpty) else !(Builtin.Str.occurrences b a 0 b.length 1).isEmpty)) H)
  (fun ys=>inD n x ys H Q) (fun ys=>n=false∧inD n x ys H Q) (fun _=>False) (fun _=>False) fun _=>False
noncomputable def isRef (v:Value):Bool:=match v with
  | .ref _=>true
  | _=>false
noncomputable def Gw (n:Bool) (x y:D) (H:List O) (Q:D→List O→Prop):Prop :=
  let q (r:Bool):Prop:=Q (.bool (if n=true then !r else r)) H
  D.casesOn (motive_1:=fun _=>Prop) y (D.casesOn (motive_1:=fun _=>Prop) x (q true) (fun _=>False) (fun _=>q false) (fun _=>q false) (fun _=>False) (fun _=>False) (fun _=>q false) (fun v=>if isRef v=true then q false else False) fun _=>False)
    (fun _=>(pW x).elim False fun _=>q false) (fun _=>False) (fun _=>False) (fun _=>False) (fun _=>False) (fun _=>False)
    (fun b=>D.casesOn (motive_1:=fun _=>Prop) x False (fun _=>False) (fun _=>False) (fun _=>False) (fun _=>False) (fun _=>False) (fun _=>False) (fun a=>plainIs a b=true∧q (a==b)) fun _=>False) fun _=>False
noncomputable def GI (op:CmpOp) (x y:D) (H:List O) (Q:D→List O→Prop):Prop:=match op with
  | .Eq=>GF false x y H Q
  | .NotEq=>GF true x y H Q
  | .Lt=>jN x y False fun a b=>Q (.bool (decide (a < b))) H
  | .Gt=>jN x y False fun a b=>Q (.bool (decide (b < a))) H
  | .LtE=>jN x y False fun a b=>Q (.bool (decide (a≤b))) H
  | .GtE=>jN x y False fun a b=>Q (.bool (decide (b≤a))) H
  | .In=>Gx false x y H Q
  | .NotIn=>Gx true x y H Q
  | .Is=>Gw false x y H Q
  | .IsNot=>Gw true x y H Q
theorem room_eq {A:Around} {n m:Nat} (R:iX (d+1) A) (h:n≤8):A.units+min n m < cLine:=by
  have:=R.units; have:min n m≤n:=Nat.min_le_left ..; exact CB this h ‹_›
theorem kD {A:Around} {n m:Nat} (R:iX (d+1) A) (h:n≤8):A.units+1+min n m < cLine:=by
  have:=R.units; have:min n m≤n:=Nat.min_le_left ..; exact CA this h ‹_›
theorem wL {n:Bool} {x y:D} {A:Around} {env:Env} {ρ:Loc} {s:Shared} {ι:Ad} {X:List Addr} {u v:Value} (h:GG n x y H Q) (S:St C (d+1) A env ρ H ι X s) (hu:VR s.heap ι X x u) (hv:VR s.heap ι X y v) :
    wpAny C.M A (compareOp (if n=true then .NotEq else .Eq) u v) (UP VR C (d+1) A env ρ ι X s Q) (UE C) s:=by
  obtain ⟨⟨h1,h2⟩,h3⟩:=h; obtain ⟨as,r1⟩:=VR.reads 8 h1 hu; obtain ⟨bs,r2⟩:=VR.reads 8 h2 hv
  cases n with
  | false=>exact SeqAt.compareEq_reads r1 r2 (eE 8 _ h1).1 (eE 8 _ h2).1 (room_eq S.room (eE 8 _ h1).2) (PR.quiet S .refl .bq h3)
  | true=>exact SeqAt.compareNe_reads r1 r2 (eE 8 _ h1).1 (eE 8 _ h2).1 (room_eq S.room (eE 8 _ h1).2) (PR.quiet S .refl .bq h3)
inductive Hz (n:Bool) (u v:Value) (H:List O) (Q:D→List O→Prop):Prop
  | mk (r:Bool) (hp:plainIs u v=true) (e:(u==v)=r) (h:Q (.bool (if n=true then !r else r)) H)
theorem vZ {n:Bool} {x y:D} {h:Heap} {ι:Ad} {X:List Addr} {u v:Value} (q:Gw n x y H Q) (hu:VR h ι X x u) (hv:VR h ι X y v):Hz n u v H Q:=by
  cases y with
  | none =>
    obtain rfl:=hv.none_of
    cases x with
    | none=>obtain rfl:=hu.none_of; exact ⟨true,rfl,rfl,q⟩
    | int=>obtain ⟨t,rfl⟩:=hu.bw; exact ⟨false,rfl,rfl,q⟩
    | str=>obtain ⟨_,t,rfl⟩:=hu.aM; exact ⟨false,rfl,rfl,q⟩
    | obj=>obtain ⟨a,r,_,rfl⟩:=hu.bf; exact ⟨false,rfl,rfl,q⟩
    | val w =>
      obtain rfl:=hu.cz
      cases u with
      | ref=>exact ⟨false,rfl,rfl,q⟩
      | _=>exact q.elim
    | _=>exact q.elim
  | bool =>
    obtain rfl:=hv.dJ; rcases cY q with ⟨a,ha,q⟩ | q
    · rw [d9 ha] at hu
      obtain ⟨_,t,rfl⟩:=hu.aM; exact ⟨false,rfl,rfl,q⟩
    exact q.elim
  | val =>
    obtain rfl:=hv.cz
    cases x with
    | val=>obtain rfl:=hu.cz; exact ⟨_,q.1,rfl,q.2⟩
    | _=>exact q.elim
  | _=>exact q.elim
theorem wK {n:Bool} {x y:D} {A:Around} {env:Env} {ρ:Loc} {s:Shared} {ι:Ad} {X:List Addr} {u v:Value} (h:GF n x y H Q) (S:St C (d+1) A env ρ H ι X s) (hu:VR s.heap ι X x u) (hv:VR s.heap ι X y v) :
    wpAny C.M A (compareOp (if n=true then .NotEq else .Eq) u v) (UP VR C (d+1) A env ρ ι X s Q) (UE C) s:=by
  rcases ni h hu hv with ⟨a,b,t,t',rfl,rfl,h⟩ | h
  · cases n with
    | false=>exact PyProof.Rows.eq_int (PR.quiet S .refl .bq h)
    | true=>exact PyProof.Rows.ne_int (PR.quiet S .refl .bq h)
  rcases cY h with ⟨a,ha,h⟩ | h
  · rcases cY h with ⟨b,hb,h⟩ | h
    · rw [d9 ha] at hu
      rw [d9 hb] at hv; obtain ⟨_,t,rfl⟩:=hu.aM; obtain ⟨_,t',rfl⟩:=hv.aM
      cases n with
      | false=>exact PyProof.Rows.eq_str (PR.quiet S .refl .bq h)
      | true=>exact PyProof.Rows.ne_str (PR.quiet S .refl .bq h)
    cases y with
    | none =>
      rw [d9 ha] at hu; obtain ⟨_,t,rfl⟩:=hu.aM; obtain rfl:=hv.none_of
      cases n with
      | false=>exact EqNone.eq_str_none (PR.quiet S .refl .bq h)
      | true=>exact EqNone.ne_str_none (PR.quiet S .refl .bq h)
    | _=>exact wL h S hu hv
  exact wL h S hu hv
theorem v5 {n:Bool} {x y:D} {A:Around} {env:Env} {ρ:Loc} {s:Shared} {ι:Ad} {X:List Addr} {u v:Value} (h:Gx n x y H Q) (S:St C (d+1) A env ρ H ι X s) (hu:VR s.heap ι X x u) (hv:VR s.heap ι X y v) :
    wpAny C.M A (compareOp (if n=true then .NotIn else .In) u v) (UP VR C (d+1) A env ρ ι X s Q) (UE C) s:=by
  have l {ys:List D} (h2:∀ y∈ys,D.ok 8 y=true):FH 9 ys=true:=jV.mpr h2
  cases y with
  | str =>
    rcases cY h with ⟨a,ha,h⟩ | h
    · rw [d9 ha] at hu
      obtain ⟨_,t,rfl⟩:=hu.aM; obtain ⟨_,t',rfl⟩:=hv.aM
      cases n with
      | false=>exact PyProof.Rows.in_str (PR.quiet S .refl .bq h)
      | true=>exact PyProof.Rows.notIn_str (PR.quiet S .refl .bq h)
    exact h.elim
  | list ys =>
    obtain ⟨⟨h1,h2⟩,h3⟩:=h; obtain ⟨as,r1⟩:=VR.reads 8 h1 hu; obtain ⟨bs,r2⟩:=VR.reads (x:=.list ys) 9 (l h2) hv
    cases n with
    | false=>exact SeqAt.in_list_reads r2 r1 (gm 8 _ h2).1 (eE 8 _ h1).1 (kD S.room (gm 8 _ h2).2) (PR.quiet S .refl .bq h3)
    | true=>exact SeqAt.notIn_list_reads r2 r1 (gm 8 _ h2).1 (eE 8 _ h1).1 (kD S.room (gm 8 _ h2).2) (PR.quiet S .refl .bq h3)
  | tuple ys =>
    obtain ⟨rfl,⟨h1,h2⟩,h3⟩:=h; obtain ⟨as,r1⟩:=VR.reads 8 h1 hu; obtain ⟨bs,r2⟩:=VR.reads (x:=.tuple ys) 9 (l h2) hv; exact SeqAt.in_tuple_reads r2 r1 (gm 8 _ h2).1 (eE 8 _ h1).1 (kD S.room (gm 8 _ h2).2) (PR.quiet S .refl .bq h3)
  | _=>exact h.elim
theorem aO.cmp {op:CmpOp} {x y:D} (h:GI op x y H Q):aO C (d+1) H x y (compareOp op) Q:=fun A env ρ s ι X u v S hu hv=>up S <| by
  cases op with
  | Eq=>exact wK (n:=false) h S hu hv
  | NotEq=>exact wK (n:=true) h S hu hv
  | Lt=>obtain ⟨a,b,t,t',rfl,rfl,h⟩:=d8 h hu hv; exact PyProof.Rows.lt_int (PR.quiet S .refl .bq h)
  | LtE=>obtain ⟨a,b,t,t',rfl,rfl,h⟩:=d8 h hu hv; exact PyProof.Rows.le_int (PR.quiet S .refl .bq h)
  | Gt=>obtain ⟨a,b,t,t',rfl,rfl,h⟩:=d8 h hu hv; exact PyProof.Rows.gt_int (PR.quiet S .refl .bq h)
  | GtE=>obtain ⟨a,b,t,t',rfl,rfl,h⟩:=d8 h hu hv; exact PyProof.Rows.ge_int (PR.quiet S .refl .bq h)
  | In=>exact v5 (n:=false) h S hu hv
  | NotIn=>exact v5 (n:=true) h S hu hv
  | Is=>obtain ⟨r,hp,rfl,h⟩:=vZ (n:=false) h hu hv; exact wpAny_is_plain hp (PR.quiet S .refl .bq h)
  | IsNot=>obtain ⟨r,hp,rfl,h⟩:=vZ (n:=true) h hu hv; exact wpAny_isNot_plain hp (PR.quiet S .refl .bq h)
end
end Mine
namespace Mine
theorem Ext.push {B:Nat} {Y:List Addr} {s:Shared} {o:Obj}:Ext B Y s { s with heap:=s.heap.push o } :=
  .of_keep rfl rfl (by show _≤(s.heap.push o).objs.size; rw [Heap.size_push]; exact Nat.le_succ _) fun _ _ e _=>Heap.get?_push_of_some _ e
theorem Ext.vq {B:Nat} {Y:List Addr} {s:Shared} {o:Obj} {t:Nat}:Ext B Y s { s with heap:=s.heap.push o,toks:=t } :=
  .of_keep rfl rfl (by show _≤(s.heap.push o).objs.size; rw [Heap.size_push]; exact Nat.le_succ _) fun _ _ e _=>Heap.get?_push_of_some _ e
theorem bA {e:Expr} {es:List Expr} {env:Env} (h:isStarred e=false):starEach (e::es) env=(false,eval e env)::starEach es env:=by
  cases e <;> first | rfl | exact absurd (show true=false from h) (by decide)
theorem kr {es:List Expr} {env:Env} (h:es.all (fun e=>!isStarred e)=true):(starEach es env).any (·.1)=false:=by
  induction es with
  | nil=>rfl
  | cons e es ih =>
    simp only [List.all_cons,Bool.and_eq_true,Bool.not_eq_true'] at h; refine rl (bA h.1) (rl List.any_cons (rl (ih h.2) ?_)); rfl
theorem b9 {es:List Expr} {env:Env} {pos:Pos} (h:es.all (fun e=>!isStarred e)=true):(backTo pos (starEach es env)).any (·.1)=false:=by
  unfold backTo; refine rl List.any_map ?_; exact kr h
section
variable {C:Cx} {d:Nat} {env:Env} {ρ:Loc} {H:List O} {Q:D→List O→Prop} {T:Bool→List O→Prop} {A:Around} {s:Shared} {ι:Ad} {X:List Addr}
theorem St.b3 (S:St C d A env ρ H ι X s):s.heap.objs.size ∉ X∧s.heap.objs.size ∉ br ι :=
  ⟨fun h=>absurd (S.xs _ h).2 (Nat.lt_irrefl _),fun h=>absurd (S.is _ h).2 (Nat.lt_irrefl _)⟩
theorem az.spliced:∀ {es:List Expr} {H:List O} {s:Shared} {ι:Ad} {R:List D→List O→Prop} {pos:Pos},es.all (fun e=>!isStarred e)=true→az C d env ρ es H R→St C d A env ρ H ι X s →
    wpAny C.M A (PySem.spliced (backTo pos (starEach es env))) (PR aE C d A env ρ ι X s R) (fun _ _=>False) s
  | [],H,s,ι,R,pos,_,h,S=>spliced_nil (PR.quiet S .refl aE.bJ h S.toks)
  | e::es,H,s,ι,R,pos,hs,h,S=>by
    simp only [List.all_cons,Bool.and_eq_true,Bool.not_eq_true'] at hs; refine rl (bA hs.1) ?_; show wpAny C.M A (PySem.spliced ((false,eval e env)::backTo pos (starEach es env))) _ _ s; refine spliced_cons (aC (h A s ι X S) (fun v s₁ x H₁ ι₁ h₁ S₁ v₁ g₁=>?_) zz); refine aC (az.spliced hs.2 h₁ S₁) (fun vs s₂ xs H₂ ι₂ h₂ S₂ v₂ g₂=>?_) zz; exact ⟨x::xs,H₂,ι₂,h₂,S₂,aE.aH (VR.gr g₂ v₁) v₂,g₁.trans g₂⟩
theorem qQ {xs:List D} {vs:List Value} (S:St C d A env ρ H ι X s) (hv:aE s.heap ι X xs vs) (hsz:vs.length≤sizeLine) (hq:Q (.list xs) H):wpAny C.M A (newList vs) (Post C d A env ρ ι X s Q) (fun _ _=>False) s:=by
  refine up S (wpAny_newObj_type ?_ (by show vs.toArray.size≤sizeLine; refine rl List.size_toArray ?_; exact hsz)); have x:Ext C.B [] s { s with heap:=s.heap.push (aA vs 0) }:=.push; exact PR.quiet S x (VR.dZ S.b3.1 S.b3.2 (Heap.get?_push_size _ rfl) hsz (aE.gr (.aB (x.mono bu)) hv)) hq
theorem oX {xs:List D} {vs:List Value} (S:St C d A env ρ H ι X s) (hv:aE s.heap ι X xs vs) (hsz:vs.length≤sizeLine) (hq:Q (.tuple xs) H):wpAny C.M A (newTuple vs) (Post C d A env ρ ι X s Q) (fun _ _=>False) s:=by
  refine up S (wpAny_newObj_type ?_ (by show vs.toArray.size≤sizeLine; refine rl List.size_toArray ?_; exact hsz)); have x:Ext C.B [] s { s with heap:=s.heap.push (bF vs 0) }:=.push; exact PR.quiet S x (VR.fj S.b3.1 S.b3.2 (Heap.get?_push_size _ rfl) hsz (aE.gr (.aB (x.mono bu)) hv)) hq
theorem EV.list {es:List Expr} {pos:Pos} (hs:es.all (fun e=>!isStarred e)=true) (h:az C d env ρ es H fun xs H'=>xs.length≤sizeLine∧Q (.list xs) H'):EV C d env ρ H (.List es pos) Q:=fun A s ι X S =>
  List_ (wpAny_mono (az.spliced hs h S) (fun vs s₁ p=>p.step fun xs H' ι' hq S' hv _=>qQ S' hv (by refine rl hv.length ?_; exact hq.1) hq.2) zz)
theorem EV.tuple {es:List Expr} {k:Nat} {pos:Pos} (hs:es.all (fun e=>!isStarred e)=true) (h:az C d env ρ es H fun xs H'=>xs.length≤sizeLine∧Q (.tuple xs) H'):EV C d env ρ H (.Tuple es k pos) Q:=fun A s ι X S =>
  Tuple_ (wpAny_mono (az.spliced hs h S) (fun vs s₁ p=>p.step fun xs H' ι' hq S' hv _=>oX S' hv (by refine rl hv.length ?_; exact hq.1) hq.2) zz)
noncomputable def d7 (xs:List D) (i:Int):Option D:=if 0≤i then xs[i.toNat]? else if -(xs.length:Int)≤i then xs[(i+xs.length).toNat]? else none
theorem gV {xs:List D} {a:Addr} {vs:List Value} {n:Nat} {i:Int} {t:Tok} {x:D} (S:St C d A env ρ H ι X s) (he:s.heap.get? a=some (aA vs n)) (hl:vs.length≤sizeLine) (hv:aE s.heap ι X xs vs)
    (hx:d7 xs i=some x) (hq:Q x H):wpAny C.M A (getItem (.ref a) (.int i t)) (Post C d A env ρ ι X s Q) (fun _ _=>False) s:=by
  have hi:s.heap.IsList a vs.toArray:=⟨_,he,rfl,n,rfl⟩; have hlen:=hv.length; unfold d7 at hx; split at hx
  · rename_i h0
    obtain ⟨v,hv',hr⟩:=hv.get hx; obtain ⟨hlt,_⟩:=List.getElem?_eq_some_iff.mp hv'; have:=bK hl; exact wpAny_getItem_list hi h0 (by exact Cq this hlt hlen) (by simpa using hv') (PR.quiet S .refl hr hq S.toks)
  split at hx
  · rename_i h0 h1
    obtain ⟨v,hv',hr⟩:=hv.get hx; have:=bK hl; exact wpAny_getItem_list_neg hi (by exact Cp h0) (by refine rl List.size_toArray ?_; exact Co h1 hlen) (by exact Cn this h1 hlen) (by refine rl List.size_toArray (rl hlen ?_); simpa using hv') (PR.quiet S .refl hr hq S.toks)
  cases hx
noncomputable def F1 (x:D) (i:Int) (H:List O) (Q:D→List O→Prop):Prop:=D.casesOn (motive_1:=fun _=>Prop) x False (fun _=>False) (fun _=>False) (fun _=>False) (fun xs=>∃ e,d7 xs i=some e∧Q e H) (fun _=>False) (fun k=>∃ xs e,H[k]?=some (.list xs)∧d7 xs i=some e∧Q e H) (fun _=>False) fun _=>False
noncomputable def F0 (x:D) (n:Str) (H:List O) (Q:D→List O→Prop):Prop:=D.casesOn (motive_1:=fun _=>Prop) x False (fun _=>False) (fun _=>False) (fun _=>False) (fun _=>False) (fun _=>False) (fun k=>∃ kvs e,H[k]?=some (.dict kvs)∧kvs.lookup n=some e∧Q e H) (fun _=>False) fun _=>False
noncomputable def zS (x y:D) (H:List O) (Q:D→List O→Prop):Prop:=(yP y).elim ((pW y).elim False fun n=>F0 x n H Q) fun i=>F1 x i H Q
theorem Fx.get {C:Cx} {h:Heap} (R:Fx C h ι X H) {k:Nat} {a:Addr} {r:List Addr} {o:O} (hi:ι[k]?=some (a::r)) (ho:H[k]?=some o):OR C h ι X (a::r) o:=R.2 k _ _ hi ho
theorem k6:∀ {kvs:List (Str × D)} {us:List (Str × Value)} {h:Heap} {n:Str} {e:D},us.map (·.1)=kvs.map (·.1)→aE h ι X (kvs.map (·.2)) (us.map (·.2))→kvs.lookup n=some e →
    ∃ v,valueAt us n=some v∧VR h ι X e v
  | [],_,_,_,_,_,_,h=>by cases h
  | (k,x)::kvs,[],_,_,_,h,_,_=>by cases h
  | (k,x)::kvs,(k',v)::us,h,n,e,hk,hv,hl=>by
    simp only [List.map_cons,List.cons.injEq] at hk hv; obtain ⟨rfl,hk⟩:=hk; obtain ⟨v',r,e1,b,c⟩:=hv.cons_of; cases e1; unfold valueAt; rw [List.lookup_cons] at hl; refine rl List.find?_cons ?_
    by_cases hn:n=k'
    · subst hn
      simp only [beq_self_eq_true] at hl; cases hl; exact ⟨v,by simp,b⟩
    have:(n==k')=false:=by simpa using hn
    rw [this] at hl; have:decide (k'=n)=false:=by simpa using fun z=>hn z.symm
    refine rl this ?_; exact k6 hk c hl
theorem low_ne (S:St C d A env ρ H ι X s) (O:C.Ok) {a:Addr} (h:a∈br ι):(a==sysModules)=false:=by
  have:a≠sysModules:=Nat.ne_of_gt (Nat.lt_of_lt_of_le O.low ((S.is a h).1)); exact beq_false_of_ne this
theorem jY {n:Str} {t:Tok}:(strKind C.prog C.w).is n (.str n t)=true:=by
  show Value.isStrOf n (.str n t)=true; exact isStrOf_self n t
theorem bU {k:Nat} {a:Addr} {r:List Addr} (h:ι[k]?=some (a::r)):a∈br ι:=jW.mpr ⟨_,List.mem_of_getElem? h,.head _⟩
theorem EV.sub {v i:Expr} {pos:Pos} (hs:∀ o j,subscripted i false o j=operate [o,j] (getItem o j)) (h:EV C d env ρ H v fun x H₁=>EV C d env ρ H₁ i fun y H₂=>zS x y H₂ Q):EV C d env ρ H (.Subscript v i pos) Q:=fun A s ι X S =>
  Subscript_ (GD S (h.mono fun x _ h₁=>h₁.mono fun y H₂ h₂ s ι u w S a b=>by
    rcases cY h₂ with ⟨i,hi,h₂⟩ | h₂
    · rw [nO hi] at b
      obtain ⟨t,rfl⟩:=b.bw
      cases x with
      | list =>
        obtain ⟨e,he,hq⟩:=h₂; obtain ⟨l,vs,n,rfl,_,_,hg,hl,hv⟩:=a.bx; exact tail_any (Heap.IsList.typeIs (items:=vs.toArray) ⟨_,hg,rfl,n,rfl⟩) slot_list_getitem.lookup (gV S hg hl hv he hq) (hs _ _)
      | obj =>
        obtain ⟨xs,e,ho,he,hq⟩:=h₂; obtain ⟨l,r,hi,rfl⟩:=a.bf; obtain ⟨l',vs,n,e1,hg,hl,hv⟩:=S.objs.get hi ho; cases e1; exact tail_any (Heap.IsList.typeIs (items:=vs.toArray) ⟨_,hg,rfl,n,rfl⟩) slot_list_getitem.lookup (gV S hg hl hv he hq) (hs _ _)
      | _=>exact h₂.elim
    rcases cY h₂ with ⟨i,hi,h₂⟩ | h₂
    · rw [d9 hi] at b
      obtain ⟨_,t,rfl⟩:=b.aM
      cases x with
      | obj =>
        obtain ⟨kvs,e,ho,he,hq⟩:=h₂; obtain ⟨l,r,hi,rfl⟩:=a.bf; obtain ⟨l',us,e1,hd,hk,hv⟩:=S.objs.get hi ho; cases e1; obtain ⟨z,hz,hr⟩:=k6 hk hv he; exact tail_any hd.typeIs slot_dict_getitem.lookup (up S (wpAny_getItem_of (knd:=strKind C.prog C.w) jY hd.mapOf hz (PR.quiet S .toks hr hq))) (hs _ _)
      | _=>exact h₂.elim
    exact h₂.elim))
end
noncomputable def Kp (C:Cx) (f:Value):Prop:=∀ h:Heap,(∀ b o,C.h₀.get? b=some o→h.get? b=some o)→∃ k,(k=Keeper.frame ∨ k=Keeper.machine ∨ k=Keeper.boundFrame)∧Looks C.M h (keeperOf f) k
theorem Kp.builtin {C:Cx} {id:String}:Kp C (.builtin id):=fun _ _=>⟨.machine,.inr (.inl rfl),.of_pure rfl⟩
theorem Kp.type {C:Cx} {n:String}:Kp C (.type n):=fun _ _=>⟨.machine,.inr (.inl rfl),.of_pure rfl⟩
theorem Kp.AP {C:Cx} {f:Value} (O:C.Ok) (h:keepIn C.K f=true):Kp C f:=fun h' k=>keeps_K h h' (O.K.keeps k)
section
variable {C:Cx} {d:Nat} {env:Env} {ρ:Loc} {H:List O} {Q:D→List O→Prop}
noncomputable def aj (C:Cx) (d:Nat) (H:List O) (f:Value) (xs:List D) (Q:D→List O→Prop):Prop :=
  ∀ A env ρ s ι X vs,St C d A env ρ H ι X s→aE s.heap ι X xs vs→wpAny C.M A (call f vs) (Post C d A env ρ ι X s Q) (fun _ _=>False) s
theorem nF {A:Around} {s:Shared} {ι:Ad} {X:List Addr} {f:Value} {args:List Expr} {pos:Pos} {R:List D→List O→Prop} (hs:args.all (fun e=>!isStarred e)=true) (h:az C d env ρ args H R) (S:St C d A env ρ H ι X s) :
    wpAny C.M A (evalArgs f true (backTo pos (starEach args env)) []) (fun a s₁=>a.kw=[]∧PR aE C d A env ρ ι X s R a.pos s₁) (fun _ _=>False) s:=by
  cases args with
  | nil =>
    refine evalArgs_nil3 ?_; exact ⟨rfl,PR.quiet S .refl aE.bJ h S.toks⟩
  | cons e es =>
    have:=az.spliced (pos:=pos) hs h S; simp only [List.all_cons,Bool.and_eq_true,Bool.not_eq_true'] at hs; rw [bA hs.1] at this ⊢; exact evalArgs_plain (wpAny_mono this (fun vs s₁ p=>⟨rfl,p⟩) zz)
theorem fE {A:Around} {s:Shared} {ι:Ad} {X:List Addr} {f:Value} {first:List Value} {fs:List D} {args:List Expr} {pos:Pos} (hs:args.all (fun e=>!isStarred e)=true) (hk:Kp C f)
    (hf:aE s.heap ι X fs first) (h:az C d env ρ args H fun xs H'=>aj C d H' f (fs++xs) Q) (S:St C d A env ρ H ι X s) :
    wpAny C.M A (callWith pos f first (backTo pos (starEach args env)) []) (Post C d A env ρ ι X s Q) (fun _ _=>False) s:=by
  refine callWith_of (P:=fun h=>∀ b o,C.h₀.get? b=some o→h.get? b=some o) (by refine rl (b9 hs) ?_; rfl) hk ?_; refine wpAny_mono (nF (f:=f) hs h S) (fun a s₁ p=>?_) zz; obtain ⟨e,xs,H₁,ι₁,h₁,S₁,v₁,g₁⟩:=p; refine ⟨S₁.base,?_⟩; refine rl e ?_; exact wpAny_mono (h₁ A env ρ s₁ ι₁ X _ S₁ ((aE.gr g₁ hf).append v₁)) (fun _ _ p=>p.back g₁) zz
theorem EV.call {f:Str} {p pos:Pos} {args:List Expr} {v:Value} (hs:args.all (fun e=>!isStarred e)=true) (hk:Kp C v)
    (h:EV C d env ρ H (.Name f p) fun x H₁=>x = .val v∧az C d env ρ args H₁ fun xs H₂=>aj C d H₂ v xs Q):EV C d env ρ H (.Call (.Name f p) args [] pos) Q:=fun A s ι X S=>by
  refine wpAny_Call_Name_kw (aC (h A s ι X S) (fun u s₁ x H₁ ι₁ q3_ S₁ v₁ g₁=>?_) zz); obtain ⟨rfl,h₁⟩:=q3_; obtain rfl:=v₁.cz; exact wpAny_mono (fE (first:=[]) (fs:=[]) hs hk aE.bJ h₁ S₁) (fun _ _ p=>p.back g₁) zz
noncomputable def bY (C:Cx) (d:Nat) (H:List O) (x:D) (name:Str) (f:Value):Prop :=
  ∀ A env ρ s ι X v pl (Q:Value × List Value→Shared→Prop),St C d A env ρ H ι X s→VR s.heap ι X x v→Q (f,[v]) s→wpAny C.M A (getMethod v name pl) Q (fun _ _=>False) s
noncomputable def c9 (o:Expr):Bool:=if h:o.ctorIdx=16 then Expr.Call.elim (motive_1:=fun _=>Bool) o h (fun _ a k _=>!(a.isEmpty && k.isEmpty)) else true
theorem fF {o:Expr} {name:Str} {w:Sem Value} (h:c9 o=true):attributeBase o name env w=w:=by
  cases o with
  | Call f a k p =>
    cases f with
    | Name =>
      cases a with
      | nil =>
        cases k with
        | nil=>exact absurd h Bool.false_ne_true
        | cons=>rfl
      | cons=>rfl
    | _=>rfl
  | _=>rfl
theorem nW {es:List Expr} {pos:Pos} (h:es.all (fun e=>!isStarred e)=true):(backTo pos (starEach es env)).all (fun x=>!x.1)=true:=by
  have:=b9 (env:=env) (pos:=pos) h; rw [List.all_eq_true]; intro x hx; rw [List.any_eq_false] at this; exact bi_not.mpr (this x hx)
theorem iO {args:List Expr} {pos:Pos} (hs:args.all (fun e=>!isStarred e)=true) (hn:args.length < 30):methodCallForm (args.length+([]:List Keyword).length) (backTo pos (starEach args env)) (backToKw pos (keywordEach [] env))=true:=by
  unfold methodCallForm; refine rl (nW hs) ?_; simp [backToKw,arm_keywordEach_nil,hn]
theorem kG {o:Expr} {apos pos:Pos} (hl:(apos.endLine==pos.line)=true):methodCallPos true o env apos pos=pure pos:=by unfold methodCallPos; refine rl hl ?_; rfl
inductive ET (C:Cx) (d:Nat) (env:Env) (ρ:Loc) (args:List Expr) (name:Str) (Q:D→List O→Prop) (x:D) (H':List O):Prop
  | mk (f:Value) (m:bY C d H' x name f) (k:Kp C f) (h:az C d env ρ args H' fun xs H₂=>aj C d H₂ f (x::xs) Q)
theorem EV.meth {o:Expr} {name:Str} {apos pos:Pos} {args:List Expr} (hs:args.all (fun e=>!isStarred e)=true) (hb:c9 o=true) (hn:args.length < 30) (hl:(apos.endLine==pos.line)=true)
    (h:EV C d env ρ H o (ET C d env ρ args name Q)):EV C d env ρ H (.Call (.Attribute o name apos) args [] pos) Q:=fun A s ι X S=>by
  rw [arm_eval_Call,fF hb]; refine wpAny_bind (aC (h A s ι X S) (fun u s₁ x H₁ ι₁ q3_ S₁ v₁ g₁=>?_) zz); obtain ⟨f,hm,hk,h₁⟩:=q3_; refine wpAny_bind (wpAny_standAt ?_); unfold methodCall; refine rl (iO hs hn) ?_; refine wpAny_bind (wpAny_holding ?_); refine uL rfl ?_; refine hm A env ρ s₁ ι₁ X u _ _ S₁ v₁ ?_; refine wpAny_bind (wpAny_of_eq (kG hl) ?_); exact wpAny_mono (fE (first:=[u]) (fs:=[x]) hs hk (aE.aH v₁ aE.bJ) h₁ S₁) (fun _ _ p=>p.back g₁) zz
theorem bY.str {x name:Str} {id:String} (slot:Slot "str" name id) (ty:typeOf (.builtin id)=pure (.type "method_descriptor")):bY C d H (.str x) name (.builtin id):=fun A env ρ s ι X v pl Q S hv hq=>by
  obtain ⟨_,t,rfl⟩:=hv.aM
  with_reducible exact GM.of (.str x t) (typeIs_str _ _ _) slot ty GM.noRef hq
theorem bY.dict {k:Nat} {kvs:List (Str × D)} {name:Str} {id:String} (ho:H[k]?=some (.dict kvs)) (slot:Slot "dict" name id) (ty:typeOf (.builtin id)=pure (.type "method_descriptor")):bY C d H (.obj k) name (.builtin id):=fun A env ρ s ι X v pl Q S hv hq=>by
  obtain ⟨l,r,hi,rfl⟩:=hv.bf; obtain ⟨l',us,e1,hd,_⟩:=S.objs.get hi ho; cases e1; exact getMethod_builtin hd.typeIs PySem.F.plainAttrs_dict slot ty hd.mapOf.noDict hq
theorem bY.list {k:Nat} {xs:List D} {name:Str} {id:String} (ho:H[k]?=some (.list xs)) (slot:Slot "list" name id) (ty:typeOf (.builtin id)=pure (.type "method_descriptor")):bY C d H (.obj k) name (.builtin id):=fun A env ρ s ι X v pl Q S hv hq=>by
  obtain ⟨l,r,hi,rfl⟩:=hv.bf; obtain ⟨l',vs,n,e1,hg,_⟩:=S.objs.get hi ho; cases e1; exact getMethod_builtin (T := "list") ⟨_,hg,rfl⟩ PySem.F.plainAttrs_list slot ty (fun b e=>by cases e; exact ⟨_,hg,rfl⟩) hq
theorem aO.nY {xs ys:List D} (hz:xs.length+ys.length≤sizeLine) (hq:Q (.list (xs++ys)) H):aO C d H (.list xs) (.list ys) (binaryOp .Add) Q:=fun A env ρ s ι X u v S hu hv=>up S <| by
  obtain ⟨a,vs,n,rfl,_,_,e,_,r⟩:=hu.bx; obtain ⟨b,us,m,rfl,_,_,e',_,r'⟩:=hv.bx; have h1:=r.length; have h2:=r'.length; refine P.add_list (items:=vs.toArray) (items2:=us.toArray) (n:=n) (n2:=m) e e' ?_ (by refine rl List.size_toArray (rl List.size_toArray ?_); exact Bk h1 hz h2); have x:Ext C.B [] s { s with heap:=s.heap.push (aA (vs++us) 0) }:=.push; have q:=PR.quiet (rel:=VR) S x (VR.dZ S.b3.1 S.b3.2 (Heap.get?_push_size _ rfl) (by refine rl List.length_append ?_; exact Bk h1 hz h2) (aE.gr (.aB (x.mono bu)) (r.append r'))) hq; refine rl (show vs.toArray++us.toArray=(vs++us).toArray by exact List.append_toArray vs us) ?_; exact q
inductive lq:D→Option Int→Prop
  | none:lq .none none
  | int (i:Int):lq (.int i) (some i)
theorem lq.part {h:Heap} {ι:Ad} {X:List Addr} {x:D} {k:Option Int} {v:Value} (p:lq x k) (hv:VR h ι X x v):IsPart v k:=by
  cases p with
  | none=>refine rl hv.none_of ?_; exact .none
  | int i=>obtain ⟨t,rfl⟩:=hv.bw; exact .int _ _
noncomputable def jC (xs:List D) (lo hi st:Option Int):List D :=
  (sliceRange (sliceBounds lo hi st xs.length).1 (sliceBounds lo hi st xs.length).2.1 (sliceBounds lo hi st xs.length).2.2).filterMap (xs[·]?)
theorem aE.pick {h:Heap} {ι:Ad} {X:List Addr} {xs:List D} {vs:List Value} (r:aE h ι X xs vs):∀ l:List Nat,aE h ι X (l.filterMap (xs[·]?)) (l.filterMap (vs[·]?))
  | []=>aE.bJ
  | i::l=>by
    have ih:=aE.pick r l; refine rl List.filterMap_cons (rl List.filterMap_cons ?_)
    cases hx:xs[i]? with
    | none =>
      have:vs[i]?=none:=by
        rw [List.getElem?_eq_none_iff] at hx ⊢; refine rl r.length ?_; exact hx
      refine rl this ?_; exact ih
    | some x =>
      obtain ⟨v,hv,hr⟩:=r.get hx; refine rl hv ?_; exact aE.aH hr ih
noncomputable def kW (C:Cx) (d:Nat) (env:Env) (ρ:Loc) (H:List O) (e:Option Expr) (Q:D→List O→Prop):Prop:=match e with
  | none=>Q .none H
  | some e=>EV C d env ρ H e Q
theorem kW.run {A:Around} {s:Shared} {ι:Ad} {X:List Addr} {e:Option Expr} (h:kW C d env ρ H e Q) (S:St C d A env ρ H ι X s):wpAny C.M A (evalPart e env) (Post C d A env ρ ι X s Q) (fun _ _=>False) s:=by
  cases e with
  | none=>exact wpAny_pure (PR.quiet S .refl .none_ h S.toks)
  | some e=>exact h A s ι X S
noncomputable def A2 (sl:Expr):Bool:=sl.ctorIdx==26
theorem EV.slice {v:Expr} {lo hi st:Option Expr} {p pos:Pos}
    (h:EV C d env ρ H v fun x H₁=>kW C d env ρ H₁ lo fun a H₂=>kW C d env ρ H₂ hi fun b H₃=>kW C d env ρ H₃ st fun c H₄=>∃ xs la hb sc,x = .list xs∧lq a la∧lq b hb∧lq c sc∧sc≠some 0∧Q (.list (jC xs la hb sc)) H₄) :
    EV C d env ρ H (.Subscript v (.Slice lo hi st p) pos) Q:=fun A s ι X S=>by
  refine Subscript_ (aC (h A s ι X S) (fun u s₁ x H₁ ι₁ h₁ S₁ v₁ g₁=>?_) zz); refine wpAny_Slice (aC (h₁.run S₁) (fun va s₂ a H₂ ι₂ h₂ S₂ v₂ g₂=>?_) zz); refine aC (h₂.run S₂) (fun vb s₃ b H₃ ι₃ h₃ S₃ v₃ g₃=>?_) zz; refine aC (h₃.run S₃) (fun vc s₄ c H₄ ι₄ q3_ S₄ v₄ g₄=>?_) zz; obtain ⟨xs,la,hb,sc,rfl,pa,pb,pc,h0,hq⟩:=q3_; have g:=((g₂.trans g₃).trans g₄); obtain ⟨l,vs,n,rfl,hX,hι,he,hl,r⟩:=(VR.gr g v₁).bx; have x5:Ext C.B [] s₄ { s₄ with heap:=s₄.heap.push { cls:=.type "slice",data:=.fields #[va,vb,vc] } }:=.push; have S5:=S₄.quiet x5 S₄.toks; have hi5:(s₄.heap.push { cls:=.type "slice",data:=.fields #[va,vb,vc] }).IsList l vs.toArray:=⟨_,(Heap.get?_push_of_some { cls:=.type "slice",data:=.fields #[va,vb,vc] } he),rfl,n,rfl⟩
  refine wpAny_mono (tail_any (s:={ s₄ with heap:=s₄.heap.push { cls:=.type "slice",data:=.fields #[va,vb,vc] } }) (ops:=if st.isNone then [.ref s₄.heap.objs.size,.ref l] else [.ref l,.ref s₄.heap.objs.size]) hi5.typeIs slot_list_getitem.lookup
    (up S5 (wpAny_getItem_list_slice (lo:=la) (hi:=hb) (st:=sc) hi5 (Heap.IsSliceOf.new ..) (pa.part (VR.gr (g₃.trans g₄) v₂)) (pb.part (VR.gr g₄ v₃)) (pc.part v₄) h0 ?_ (by refine rl List.size_toArray ?_; exact hl))) ?_)
    (fun _ _ p=>p.back (((g₁.trans g).trans (.aB (x5.mono bu))))) zz
  · have hp:slicePick vs.toArray la hb sc=((sliceRange (sliceBounds la hb sc xs.length).1 (sliceBounds la hb sc xs.length).2.1 (sliceBounds la hb sc xs.length).2.2).filterMap (vs[·]?)).toArray:=by
      unfold slicePick; simp [r.length]
    have hsz:((sliceRange (sliceBounds la hb sc xs.length).1 (sliceBounds la hb sc xs.length).2.1 (sliceBounds la hb sc xs.length).2.2).filterMap (vs[·]?)).length≤sizeLine:=by
      have:=slicePick_size_le vs.toArray la hb sc; rw [hp,List.size_toArray,List.size_toArray] at this; exact G5 this hl
    refine rl hp ?_
    have x6:Ext C.B [] { s₄ with heap:=s₄.heap.push { cls:=.type "slice",data:=.fields #[va,vb,vc] } } { s₄ with heap:=(s₄.heap.push { cls:=.type "slice",data:=.fields #[va,vb,vc] }).push (aA ((sliceRange (sliceBounds la hb sc xs.length).1 (sliceBounds la hb sc xs.length).2.1 (sliceBounds la hb sc xs.length).2.2).filterMap (vs[·]?)) 0) } :=
      Ext.push (s:={ s₄ with heap:=s₄.heap.push { cls:=.type "slice",data:=.fields #[va,vb,vc] } })
    refine PR.quiet (rel:=VR) S5 x6 (VR.dZ S5.b3.1 S5.b3.2 (Heap.get?_push_size _ rfl) hsz ?_) hq; exact aE.gr (.aB (x6.mono bu)) ((aE.gr (.aB (x5.mono bu)) r).pick _)
  cases st <;> rfl
end
end Mine
open Sem (wp)
namespace Mine
theorem vo {name:Str} {h:Int} {k v:Value} {x:Obj}:(Obj.putName name h k v x).cls=x.cls:=by
  refine rl Obj.putName_eq ?_; obtain ⟨c,d,dt,sl⟩:=x; cases dt <;> first | rfl | (unfold Obj.putNameByArray; dsimp only; split <;> rfl)
theorem vp {name:Str} {h:Int} {t:Tok} {v:Value} {x:Obj} {es:Array DictEntry} {n:Nat} (hd:x.data = .dict es n) (hk:StrKeys es) :
    ∃ es' n',(Obj.putName name h (.str name t) v x).data = .dict es' n'∧StrKeys es'∧∀ y,nsFind es' y=if y=name then some v else nsFind es y:=by
  obtain ⟨c,d,dt,sl⟩:=x; cases hd; refine rl Obj.putName_eq ?_; unfold Obj.putNameByArray; dsimp only
  cases hi:es.findIdx? (·.key.isStr name) with
  | some i=>exact ⟨_,_,rfl,hk.modify _ _,fun y=>findBy_modify (fun n v=>v.isStr n) Value.isStr_inj es name y v i hi⟩
  | none =>
    refine ⟨_,_,rfl,hk.push _ _ _ _,fun y=>findBy_push (fun n v=>v.isStr n) es name y _ _ v (fun z=>?_) hi⟩; show (name==z)=decide (z=name)
    by_cases e:z=name
    · subst e; rfl
    have:¬ name=z:=fun q=>e q.symm; simp [e,this]
theorem qN {M:Model} {A:Around} {E:Value→Shared→Prop} {s:Shared} {a:Addr} {m:Str→Option Value} {o:Obj} {name:Str} {v:Value} {Q:Unit→Shared→Prop} (hn:s.heap.Ns a m) (ho:s.heap.get? a=some o)
    (h:∀ h' o',h'.Ns a (fun x=>if x=name then some v else m x)→Heap.SameBut a s.heap h'→h'.get? a=some o'→o'.cls=o.cls→Q () { s with heap:=h',toks:=s.toks+1 }):wpAny M A (nsSet a name v) Q E s:=by
  obtain ⟨o₁,es,ep,ho₁,hd,hk,hm⟩:=hn; rw [ho] at ho₁; cases ho₁
  have hany:es.any (·.refKey)=false:=by
    rw [Array.any_eq_false']; intro e he; obtain ⟨n,t,h⟩:=hk e he; simp [DictEntry.refKey,h]
  refine wpAny_bind (wpAny_bind (wpAny_askSetting (wpAny_pure ?_))); refine wpAny_bind (wpAny_mkText (wpAny_bind (wpAny_loadPart (s:={ s with toks:=s.toks+1 }) ho ?_))); rw [hd]; dsimp only; rw [aRefKeyMayBeTheName_eq,aRefKeyMayBeTheNameByArray,hany,Bool.and_false,if_neg Bool.false_ne_true]; refine wpAny_updatePart (s:={ s with toks:=s.toks+1 }) ho ?_; obtain ⟨es',n',hd',hk',hf'⟩:=vp (h:=if name.cps.isEmpty then 0 else reduceHash (M.w.params.strHash name.cps)) (name:=name) (t:=s.toks) (v:=v) hd hk
  have hnf:(Obj.putName name (if name.cps.isEmpty then 0 else reduceHash (M.w.params.strHash name.cps)) (.str name s.toks) v o).isFreed=false:=by
    generalize Obj.putName _ _ _ _ _=z at hd'; obtain ⟨c,d,dt,sl⟩:=z; cases hd'; rfl
  have ge:=Heap.get?_update_self (Obj.putName name (if name.cps.isEmpty then 0 else reduceHash (M.w.params.strHash name.cps)) (.str name s.toks) v) ho hnf; exact h _ _ ⟨_,es',n',ge,hd',hk',fun y=>by rw [hf',hm]⟩ (Heap.SameBut.update ..) ge vo
noncomputable def b7 (env:Env):List Addr:=env.locals::env.cells.filterMap fun p=>env.cells.lookup p.1
theorem dg {env:Env} {a:Addr} (h:a∈b7 env):a=env.locals ∨ ∃ n,env.cells.lookup n=some a:=by
  rcases List.mem_cons.mp h with h | h
  · exact .inl h
  obtain ⟨p,_,hp⟩:=List.mem_filterMap.mp h; exact .inr ⟨p.1,hp⟩
mutual
theorem VR.eF {B:Nat} {ι ι':Ad} {X Y:List Addr} {s s':Shared} (b:∃ κ,ι'=ι++κ∧∀ a∈br κ,s.heap.objs.size≤a) (x:Ext B Y s s') (hY:∀ a∈Y,a∈br ι ∨ a∈X):∀ {e:D} {v:Value},VR s.heap ι X e v→VR s'.heap ι' X e v
  | .none,_,h=>h
  | .bool _,_,h=>h
  | .int _,_,h=>h
  | .str _,_,h=>h
  | .list xs,v,h=>by
    obtain ⟨a,vs,n,rfl,hX,hi,e,hl,r⟩:=h.bx; have g:Gr B ι s ι' { s with heap:=s.heap }:=⟨b,.refl⟩; exact .dZ hX (g.jc e hi) (x.get e (fun hy=>(hY a hy).elim hi hX) fR) hl (aE.eF b x hY r)
  | .tuple xs,v,h=>by
    obtain ⟨a,vs,n,rfl,hX,hi,e,hl,r⟩:=h.cZ; have g:Gr B ι s ι' { s with heap:=s.heap }:=⟨b,.refl⟩; exact .fj hX (g.jc e hi) (x.get e (fun hy=>(hY a hy).elim hi hX) qP) hl (aE.eF b x hY r)
  | .obj i,v,h=>by
    obtain ⟨a,r,hp,rfl⟩:=h.bf; have g:Gr B ι s ι' { s with heap:=s.heap }:=⟨b,.refl⟩; exact .m6 (g.get? hp)
  | .val _,_,h=>h
  | .imm o,v,h=>by
    obtain ⟨a,rfl,hX,hi,e,hc⟩:=h.dU; have g:Gr B ι s ι' { s with heap:=s.heap }:=⟨b,.refl⟩; exact .lF hX (g.jc e hi) (x.get e (fun hy=>(hY a hy).elim hi hX) hc) hc h.jZ
theorem aE.eF {B:Nat} {ι ι':Ad} {X Y:List Addr} {s s':Shared} (b:∃ κ,ι'=ι++κ∧∀ a∈br κ,s.heap.objs.size≤a) (x:Ext B Y s s') (hY:∀ a∈Y,a∈br ι ∨ a∈X):∀ {es:List D} {vs:List Value},aE s.heap ι X es vs→aE s'.heap ι' X es vs
  | [],_,h=>h
  | _::_,_,h=>by
    obtain ⟨v,r,rfl,a,c⟩:=h.cons_of; exact .aH (VR.eF b x hY a) (aE.eF b x hY c)
end
theorem aW {ι:Ad} {s:Shared}:∃ κ,ι=ι++κ∧∀ a∈br κ,s.heap.objs.size≤a:=⟨[],by exact Eq.symm (List.append_nil ι),by simp [br]⟩
theorem ez.eF {B:Nat} {ι ι':Ad} {X Y:List Addr} {s s':Shared} (b:∃ κ,ι'=ι++κ∧∀ a∈br κ,s.heap.objs.size≤a) (x:Ext B Y s s') (hY:∀ a∈Y,a∈br ι ∨ a∈X) {fs:List (Str × D)} {es:List DictEntry} (h:ez s.heap ι X fs es):ez s'.heap ι' X fs es:=by
  intro name; have:=h name
  cases e:fs.lookup name with
  | none=>rw [e] at this; exact this
  | some d =>
    rw [e] at this; obtain ⟨v,a,c⟩:=this; exact ⟨v,a,VR.eF b x hY c⟩
theorem OR.eF {C:Cx} {ι ι':Ad} {X Y:List Addr} {s s':Shared} (b:∃ κ,ι'=ι++κ∧∀ a∈br κ,s.heap.objs.size≤a) (x:Ext C.B Y s s') (hY:∀ a∈Y,a∈br ι ∨ a∈X) {p:List Addr} (hp:∀ a∈p,a ∉ Y):∀ {o:O},OR C s.heap ι X p o→OR C s'.heap ι' X p o
  | .list xs,h=>by
    obtain ⟨a,vs,n,rfl,e,hl,r⟩:=h; exact ⟨a,vs,n,rfl,x.get e (hp a (.head _)) fR,hl,aE.eF b x hY r⟩
  | .dict kvs,h=>by
    obtain ⟨a,us,rfl,⟨o,es,ep,e,ex,r⟩,hk,hv⟩:=h; exact ⟨a,us,rfl,⟨o,es,ep,x.get e (hp a (.head _)) (by refine rl ex.1 ?_; exact not_eq_of_beq_eq_false rfl),ex,r⟩,hk,aE.eF b x hY hv⟩
  | .inst K fs,h=>by
    obtain ⟨a,dx,es,n,rfl,e,e',hl,r⟩:=h; exact ⟨a,dx,es,n,rfl,x.get e (hp a (.head _)) (by simp),x.get e' (hp dx (.tail _ (.head _))) (by simp),hl,ez.eF b x hY r⟩
  | .deque xs,h=>by
    obtain ⟨a,vs,n,rfl,e,r⟩:=h; exact ⟨a,vs,n,rfl,x.get e (hp a (.head _)) vF,aE.eF b x hY r⟩
  | .set xs,h=>by
    obtain ⟨a,es,n,t,rfl,e,r⟩:=h; exact ⟨a,es,n,t,rfl,x.get e (hp a (.head _)) (by simp),r⟩
noncomputable def aQ (x:Str) (e:D):Loc→Loc
  | []=>[(x,e)]
  | (y,f)::r=>if x=y then (y,e)::r else (y,f)::aQ x e r
theorem qF {x y:Str} {e f:D} {r:Loc}:aQ x e ((y,f)::r)=if x=y then (y,e)::r else (y,f)::aQ x e r:=rfl
theorem bB (x:Str) (e:D):∀ (ρ:Loc) (y:Str),(aQ x e ρ).lookup y=if y=x then some e else ρ.lookup y
  | [],y=>by
    show ([(x,e)]:Loc).lookup y=_; simp only [List.lookup_cons,List.lookup_nil]
    by_cases h:y=x
    · simp [h]
    have:(y==x)=false:=by exact beq_false_of_ne h
    simp [this,h]
  | (z,f)::r,y=>by
    rw [qF]
    by_cases h:x=z
    · subst h
      simp only [if_true,List.lookup_cons]
      by_cases q:y=x
      · simp [q]
      have:(y==x)=false:=by simpa using q
      simp [this,q]
    simp only [h,if_false,List.lookup_cons]
    by_cases q:y=z
    · subst q
      have:¬ y=x:=fun q=>h q.symm; simp [this]
    have:(y==z)=false:=by simpa using q
    exact rl this (rl (bB x e r y) rfl)
structure ia (B:Nat) (env:Env) (ι:Ad) (s:Shared) (ι':Ad) (s':Shared):Prop where
  book:∃ κ,ι'=ι++κ∧∀ a∈br κ,s.heap.objs.size≤a
  ext:Ext B (br ι++b7 env) s s'
theorem Gr.e {B:Nat} {env:Env} {ι ι':Ad} {s s':Shared} (g:Gr B ι s ι' s'):ia B env ι s ι' s':=⟨g.book,g.ext.mono fun _ h=>List.mem_append_left _ h⟩
theorem ia.trans {B:Nat} {env:Env} {ι ι' ι'':Ad} {s s' s'':Shared} (x:ia B env ι s ι' s') (y:ia B env ι' s' ι'' s''):ia B env ι s ι'' s'':=by
  obtain ⟨⟨κ,rfl,hκ⟩,e⟩:=x; obtain ⟨⟨κ',rfl,hκ'⟩,e'⟩:=y; refine ⟨⟨κ++κ',by exact List.append_assoc ι κ κ',fun a ha=>?_⟩,⟨Nat.le_trans e.size e'.size,fun b o h hb=>?_,e'.gens.trans e.gens,e'.os.trans e.os⟩⟩
  · rw [bD] at ha
    rcases List.mem_append.mp ha with h | h
    · exact hκ a h
    exact Nat.le_trans e.size (hκ' a h)
  obtain ⟨o',h',m⟩:=e.keep b o h hb
  have:b ∉ br (ι++κ)++b7 env:=by
    rw [bD,List.append_assoc]; intro hm; rcases List.mem_append.mp hm with q | q
    · exact hb (List.mem_append_left _ q)
    rcases List.mem_append.mp q with q | q
    · exact absurd (Heap.lt_size h) (Nat.not_lt.mpr (hκ b q))
    exact hb (List.mem_append_right _ q)
  obtain ⟨o'',h'',m'⟩:=e'.keep b o' h' this; exact ⟨o'',h'',m.trans m'⟩
theorem ia.refl {B:Nat} {env:Env} {ι:Ad} {s:Shared}:ia B env ι s ι s:=Gr.refl.e
section
variable {C:Cx} {d:Nat} {A:Around} {env:Env} {ρ:Loc} {H:List O} {ι:Ad} {X:List Addr} {s:Shared}
theorem gb {x:Str} {c:Addr} (h:env.cells.lookup x=some c):c∈env.cells.filterMap fun p=>env.cells.lookup p.1:=List.mem_filterMap.mpr ⟨(x,c),mem_of_lookup h,h⟩
theorem St.own (S:St C d A env ρ H ι X s):∀ a∈b7 env,a∈X:=fun a ha=>by
  rcases dg ha with rfl | ⟨n,h⟩
  · exact S.ns.1
  exact (S.cells n a h).1
theorem St.stored {s':Shared} {ρ':Loc} (S:St C d A env ρ H ι X s) {Y:List Addr} (hY:∀ a∈Y,a∈X) (x:Ext C.B Y s s') (ht:C.t0≤s'.toks)
    (hns:∃ m,s'.heap.Ns env.locals m) (hcs:∀ n c,env.cells.lookup n=some c→∃ v,s'.heap.IsCell c v) (hfr:∃ fr,A.frames=some fr∧lN X s'.heap fr)
    (hl:∀ n e,ρ'.lookup n=some e→∃ v,Ld env s'.heap X n v∧VR s'.heap ι X e v):St C d A env ρ' H ι X s':=by
  exact ⟨S.room,S.bR,fun b o e=>by
      obtain ⟨o',e',m⟩:=x.keep b o (S.base b o e) fun hy=>by
        have:=(S.xs b (hY b hy)).1; exact absurd (Heap.lt_size e) (Nat.not_lt.mpr this)
      rw [m.low (Heap.lt_size e)] at e'; exact e',
    Nat.le_trans S.big x.size,x.gens.trans S.gens,x.os.trans S.os,fun a ha=>⟨(S.xs a ha).1,Nat.lt_of_lt_of_le (S.xs a ha).2 x.size⟩,fun a ha=>⟨(S.is a ha).1,Nat.lt_of_lt_of_le (S.is a ha).2 x.size⟩,S.nd,S.iR,hl,
    ⟨S.objs.1,fun i p o hp ho=>OR.eF aW x (fun a h=>.inr (hY a h):∀ a∈Y,a∈br ι ∨ a∈X) (fun a ha hy=>S.iR a (jW.mpr ⟨p,List.mem_of_getElem? hp,ha⟩) (hY a hy)) (S.objs.2 i p o hp ho)⟩,
    ⟨S.ns.1,hns⟩,fun n c hc=>⟨(S.cells n c hc).1,hcs n c hc⟩,hfr,ht⟩
end
end Mine
namespace Mine
theorem Ext.same {B:Nat} {a:Addr} {s:Shared} {h':Heap} {t:Nat} (hs:Heap.SameBut a s.heap h'):Ext B [a] s { s with heap:=h',toks:=t } :=
  .of_keep rfl rfl (by show s.heap.objs.size≤h'.objs.size; refine rl hs.1 ?_; exact Nat.le_refl _) fun b o e hb=>(hs.2 b (by exact List.ne_of_not_mem_cons hb)).trans e
theorem fD {h:Heap} {c a:Addr} {v:Option Value} {m:Str→Option Value} (hc:h.IsCell c v) (hn:h.Ns a m):c≠a:=by
  rintro rfl; obtain ⟨o,e,hd⟩:=hc; obtain ⟨o',es,ep,e',hd',_⟩:=hn; rw [e] at e'; cases e'; rw [hd] at hd'; cases hd'
noncomputable def binds (env:Env) (x:Str):Bool:=env.kindOf x==some .local || (env.kindOf x==some .cell && (env.cells.lookup x).isSome)
section
variable {C:Cx} {d:Nat} {A:Around} {env:Env} {ρ:Loc} {H:List O} {ι:Ad} {X:List Addr} {s:Shared}
theorem i7 {A':Around} {x:Str} {e:D} {v:Value} (S:St C d A env ρ H ι X s) (hv:VR s.heap ι X e v) (hk:binds env x=true) :
    wpAny C.M A' (storeName env x v) (fun _ s'=>St C d A env (aQ x e ρ) H ι X s'∧ia C.B env ι s ι s'∧(env.kindOf x=some .local→Ext C.B [env.locals] s s')) (fun _ _=>False) s:=by
  have hb:=(Bool.or_eq_true _ _).mp hk; obtain ⟨hL,m,hm⟩:=S.ns; rcases hb with hb | hb
  · have hl:env.kindOf x=some .local:=by simpa using hb
    rw [storeName_local hl (by rw [S.bR.kind]; rfl)]; obtain ⟨o,es,ep,ho,hd,hk',hf⟩:=id hm; refine qN hm ho fun h' o' hns hs ho' hc=>?_; have x1:Ext C.B [env.locals] s { s with heap:=h',toks:=s.toks+1 }:=.same hs; have hY:∀ a∈[env.locals],a∈X:=fun a ha=>by refine rl (List.mem_singleton.mp ha) ?_; exact hL
    refine ⟨S.stored hY x1 (Nat.le_succ_of_le S.toks) ⟨_,hns⟩ (fun n c hc'=>?_) ?_ fun n f hnf=>?_,⟨aW,x1.mono fun a ha=>List.mem_append_right _ (by refine rl (List.mem_singleton.mp ha) ?_; exact .head _)⟩,fun _=>x1⟩
    · obtain ⟨_,w,hw⟩:=S.cells n c hc'
      exact ⟨w,hw.sameBut hs (fD hw hm)⟩
    · obtain ⟨fr,hfr,hok⟩:=S.frs
      refine ⟨fr,hfr,fun fe hfe=>?_⟩; obtain ⟨k,L,o₁,es₁,n₁,h1,h2,h3,h4,h5⟩:=hok fe hfe
      by_cases hLe:L=env.locals
      · subst hLe
        rw [ho] at h3; cases h3; obtain ⟨o₂,es₂,ep₂,h6,h7,_⟩:=id hns; rw [ho'] at h6; cases h6; exact ⟨k,_,o',es₂,ep₂,h1,h2,ho',hc.trans h4,h7⟩
      exact ⟨k,L,o₁,es₁,n₁,h1,h2,(hs.2 L hLe).trans h3,h4,h5⟩
    rw [bB] at hnf
    by_cases hn:n=x
    · subst hn
      rw [if_pos rfl] at hnf; cases hnf; exact ⟨v,.inl ⟨hl,hL,_,hns,by simp⟩,VR.eF aW x1 (fun a h=>.inr (hY a h)) hv⟩
    rw [if_neg hn] at hnf; obtain ⟨u,l,r⟩:=S.loc n f hnf; refine ⟨u,?_,VR.eF aW x1 (fun a h=>.inr (hY a h)) r⟩; rcases l with ⟨k,_,m₁,hm₁,hv₁⟩ | ⟨k,c,hc',hX,hv₁⟩
    · refine .inl ⟨k,hL,_,hns,?_⟩
      simp only [hn,if_false]; obtain ⟨o₂,es₂,ep₂,e₂,d₂,_,f₂⟩:=hm₁; rw [ho] at e₂; cases e₂; rw [hd] at d₂; cases d₂; rw [← hf,f₂]; exact hv₁
    exact .inr ⟨k,c,hc',hX,hv₁.sameBut hs (fD hv₁ hm)⟩
  have hb:=Bool.and_eq_true_iff.mp hb; have hl:env.kindOf x=some .cell:=by simpa using hb.1
  obtain ⟨c,hc⟩:=Option.isSome_iff_exists.mp hb.2; obtain ⟨hcX,w,hw⟩:=S.cells x c hc; refine wpAny_storeName_cell S.bR.kind hl hc hw fun h' hcell hs=>?_; have x1:Ext C.B [c] s { s with heap:=h' }:=.same (t:=s.toks) hs; have hY:∀ a∈[c],a∈X:=fun a ha=>by refine rl (List.mem_singleton.mp ha) ?_; exact hcX
  refine ⟨S.stored hY x1 S.toks ⟨m,hm.sameBut hs (Ne.symm (fD hw hm:c≠env.locals))⟩ (fun n c' hc'=>?_) ?_ fun n f hnf=>?_,⟨aW,x1.mono fun a ha=>List.mem_append_right _ (by refine rl (List.mem_singleton.mp ha) ?_; exact .tail _ (gb hc))⟩,fun q=>by rw [hl] at q; cases q⟩
  · by_cases e':c'=c
    · subst e'; exact ⟨_,hcell⟩
    obtain ⟨_,w',hw'⟩:=S.cells n c' hc'; exact ⟨w',hw'.sameBut hs e'⟩
  · obtain ⟨fr,hfr,hok⟩:=S.frs
    refine ⟨fr,hfr,fun fe hfe=>?_⟩; obtain ⟨k,L,o₁,es₁,n₁,h1,h2,h3,h4,h5⟩:=hok fe hfe
    have:L≠c:=by
      rintro rfl; obtain ⟨o₂,e₂,d₂⟩:=hw; rw [h3] at e₂; cases e₂; rw [h5] at d₂; cases d₂
    exact ⟨k,L,o₁,es₁,n₁,h1,h2,(hs.2 L this).trans h3,h4,h5⟩
  rw [bB] at hnf
  by_cases hn:n=x
  · subst hn
    rw [if_pos rfl] at hnf; cases hnf; exact ⟨v,.inr ⟨.inl hl,c,hc,hcX,hcell⟩,VR.eF aW x1 (fun a h=>.inr (hY a h)) hv⟩
  rw [if_neg hn] at hnf; obtain ⟨u,l,r⟩:=S.loc n f hnf; refine ⟨u,?_,VR.eF aW x1 (fun a h=>.inr (hY a h)) r⟩; rcases l with ⟨k,_,m₁,hm₁,hv₁⟩ | ⟨k,c',hc',hX,hv₁⟩
  · exact .inl ⟨k,hL,m₁,hm₁.sameBut hs (Ne.symm (fD hw hm₁)),hv₁⟩
  have hcc:c'≠c:=by
    rintro rfl; exact hn (name_of_addr S.bR.apart (mem_of_lookup hc') (mem_of_lookup hc))
  exact .inr ⟨k,c',hc',hX,hv₁.sameBut hs hcc⟩
theorem fK {A':Around} {x:Str} {e:D} {v:Value} (S:St C d A env ρ H ι X s) (hv:VR s.heap ι X e v) (hk:binds env x=true) :
    wpAny C.M A' (storeName env x v) (fun _ s'=>St C d A env (aQ x e ρ) H ι X s'∧ia C.B env ι s ι s') (fun _ _=>False) s :=
  wpAny_mono (i7 S hv hk) (fun _ _ q=>⟨q.1,q.2.1⟩) zz
end
inductive Fl where
  | next | brk | cont
  | ret (x:D)
deriving Inhabited
noncomputable def FR (h:Heap) (ι:Ad) (X:List Addr):Fl→Flow→Prop
  | .next,f=>f = .next
  | .brk,f=>f = .brk
  | .cont,f=>f = .cont
  | .ret x,f=>∃ v,f = .ret v∧VR h ι X x v
inductive SP (C:Cx) (d:Nat) (A:Around) (env:Env) (ι:Ad) (X:List Addr) (s:Shared) (Q:Fl→Loc→List O→Prop) (f:Flow) (s':Shared):Prop
  | mk (x:Fl) (ρ':Loc) (H':List O) (ι':Ad) (hq:Q x ρ' H') (S:St C d A env ρ' H' ι' X s') (hv:FR s'.heap ι' X x f) (g:ia C.B env ι s ι' s')
noncomputable def EX (C:Cx) (d:Nat) (env:Env) (ρ:Loc) (H:List O) (st:Stmt) (Q:Fl→Loc→List O→Prop):Prop :=
  ∀ A s ι X,St C d A env ρ H ι X s→wpAny C.M A (exec st env) (SP C d A env ι X s Q) (fun _ _=>False) s
noncomputable def aa (C:Cx) (d:Nat) (env:Env) (ρ:Loc) (H:List O) (b:List Stmt) (Q:Fl→Loc→List O→Prop):Prop :=
  ∀ A s ι X,St C d A env ρ H ι X s→wpAny C.M A (execs b env) (SP C d A env ι X s Q) (fun _ _=>False) s
noncomputable def nx (C:Cx) (d:Nat) (env:Env) (r:List Stmt) (Q:Fl→Loc→List O→Prop) (f:Fl) (ρ:Loc) (H:List O):Prop:=match f with | .next=>aa C d env ρ H r Q | f=>Q f ρ H
noncomputable def ow (C:Cx) (d:Nat) (env:Env) (ρ:Loc) (b o:List Stmt) (Q:Fl→Loc→List O→Prop) (c:Bool) (H:List O):Prop:=if c=true then aa C d env ρ H b Q else aa C d env ρ H o Q
section
variable {C:Cx} {d:Nat} {env:Env} {ρ:Loc} {H:List O} {Q:Fl→Loc→List O→Prop}
theorem SP.back {A:Around} {ι ι':Ad} {X:List Addr} {s s' s'':Shared} {f:Flow} (g:ia C.B env ι s ι' s') (p:SP C d A env ι' X s' Q f s''):SP C d A env ι X s Q f s'':=by
  obtain ⟨x,ρ',H',κ,hq,S,hv,g'⟩:=p; exact ⟨x,ρ',H',κ,hq,S,hv,g.trans g'⟩
theorem j9 {A:Around} {ι:Ad} {X:List Addr} {s:Shared} {M:Model} {A':Around} {t:Sem Flow} {P:Flow→Shared→Prop} {E:Value→Shared→Prop} {s0:Shared}
    (h:wpAny M A' t (SP C d A env ι X s Q) (fun _ _=>False) s0) (k:∀ f s' x ρ' H' ι',Q x ρ' H'→St C d A env ρ' H' ι' X s'→FR s'.heap ι' X x f→ia C.B env ι s ι' s'→P f s') (he:∀ e s',False→E e s'):wpAny M A' t P E s0 :=
  wpAny_mono h (fun v s' p=>let ⟨x,ρ',H',κ,a,b,c,e⟩:=p; k v s' x ρ' H' κ a b c e) he
theorem SP.mono {A:Around} {ι:Ad} {X:List Addr} {s s':Shared} {Q':Fl→Loc→List O→Prop} {f:Flow} (p:SP C d A env ι X s Q f s') (h:∀ x ρ' H',Q x ρ' H'→Q' x ρ' H'):SP C d A env ι X s Q' f s' :=
  let ⟨x,ρ',H',κ,hq,a,b,c⟩:=p; ⟨x,ρ',H',κ,h _ _ _ hq,a,b,c⟩
theorem aa.mono {b:List Stmt} {Q':Fl→Loc→List O→Prop} (h:aa C d env ρ H b Q) (hq:∀ x ρ' H',Q x ρ' H'→Q' x ρ' H'):aa C d env ρ H b Q':=fun A s ι X S =>
  wpAny_mono (h A s ι X S) (fun _ _ p=>p.mono hq) zz
theorem aa.nil (h:Q .next ρ H):aa C d env ρ H [] Q:=fun A s ι X S=>wpAny_execs_nil ⟨.next,ρ,H,ι,h,S,rfl,.refl⟩
theorem aa.cons {st:Stmt} {rest:List Stmt} (h:EX C d env ρ H st (nx C d env rest Q)):aa C d env ρ H (st::rest) Q:=fun A s ι X S =>
  wpAny_execs_cons (j9 (h A s ι X S) (fun f s₁ x ρ' H' κ hq S' hv g=>by
    cases x with
    | next=>cases (show f = .next from hv); exact wpAny_mono (hq A s₁ κ X S') (fun _ _ p=>p.back g) zz
    | brk=>cases (show f = .brk from hv); exact ⟨.brk,ρ',H',κ,hq,S',rfl,g⟩
    | cont=>cases (show f = .cont from hv); exact ⟨.cont,ρ',H',κ,hq,S',rfl,g⟩
    | ret x=>obtain ⟨v,rfl,hv⟩:=hv; exact ⟨.ret x,ρ',H',κ,hq,S',⟨v,rfl,hv⟩,g⟩) zz)
theorem EX.ret {e:Expr} {pos:Pos} (h:EV C d env ρ H e fun x H'=>Q (.ret x) ρ H'):EX C d env ρ H (.Return (some e) pos) Q:=fun A s ι X S =>
  wpAny_Return_some (wpAny_mono (h A s ι X S) (fun v s₁ p=>let ⟨x,H',κ,hq,S',hv,g⟩:=p; ⟨.ret x,ρ,H',κ,hq,S',⟨v,rfl,hv⟩,g.e⟩) zz)
theorem EX.brk {pos:Pos} (h:Q .brk ρ H):EX C d env ρ H (.Break pos) Q:=fun A s ι X S=>wpAny_Break ⟨.brk,ρ,H,ι,h,S,rfl,.refl⟩
theorem EX.cont {pos:Pos} (h:Q .cont ρ H):EX C d env ρ H (.Continue pos) Q:=fun A s ι X S=>wpAny_Continue ⟨.cont,ρ,H,ι,h,S,rfl,.refl⟩
theorem EX.if {t:Expr} {b o:List Stmt} {pos:Pos} (h:TV C d env ρ H t (ow C d env ρ b o Q)):EX C d env ρ H (.If t b o pos) Q:=fun A s ι X S =>
  wpAny_If (aC (h A s ι X S) (fun c s₁ c' H' κ hq S' hb g=>by
    cases (show c=c' from hb)
    cases c with
    | true=>exact wpAny_mono (hq A s₁ κ X S') (fun _ _ p'=>p'.back g.e) zz
    | false=>exact wpAny_mono (hq A s₁ κ X S') (fun _ _ p'=>p'.back g.e) zz) zz)
theorem EX.assign {x:Str} {p pos:Pos} {e:Expr} (hk:binds env x=true) (hs:swapsWith e (some (.Name x p)) pos.line env=pure false) (h:EV C d env ρ H e fun v H'=>Q .next (aQ x v ρ) H'):EX C d env ρ H (.Assign [.Name x p] e pos) Q:=fun A s ι X S =>
  wpAny_Assign_Name (aC (h A s ι X S) (fun v s₁ y H' κ hq S' hv g=>by
    exact wpAny_mono (fK S' hv hk) (fun _ s₂ q=>⟨.next,_,H',κ,hq,q.1,rfl,g.e.trans q.2⟩) zz) zz) hs
theorem EX.expr {e:Expr} {pos:Pos} (hi:interactive env=false) (hs:swapsWith e none pos.line env=pure false) (h:EV C d env ρ H e fun v H'=>v = .none∧Q .next ρ H'):EX C d env ρ H (.Expr e pos) Q:=fun A s ι X S =>
  wpAny_Expr (aC (h A s ι X S) (fun v s₁ y H' κ q3_ S' hv g=>by
    obtain ⟨rfl,hq⟩:=q3_; obtain rfl:=hv.none_of
    exact ⟨.next,ρ,H',κ,hq,S',rfl,g.e⟩) zz) hi hs
end
end Mine
namespace Mine
mutual
theorem VR.aR {h:Heap} {ι:Ad} {X X':List Addr} (hX:∀ a∈X',a∈X ∨ h.objs.size≤a):∀ {e:D} {v:Value},VR h ι X e v→VR h ι X' e v
  | .none,_,a=>by refine rl a.none_of ?_; exact .none_
  | .bool _,_,a=>by refine rl a.dJ ?_; exact .bq
  | .int _,_,a=>by obtain ⟨t,rfl⟩:=a.bw; exact .fC
  | .str _,_,a=>by obtain ⟨hl,t,rfl⟩:=a.aM; exact .eL hl
  | .list xs,v,a=>by
    obtain ⟨b,vs,n,rfl,h1,h2,e,hl,r⟩:=a.bx; exact .dZ (fun hm=>(hX b hm).elim h1 fun hz=>absurd (Heap.lt_size e) (Nat.not_lt.mpr hz)) h2 e hl (aE.aR hX r)
  | .tuple xs,v,a=>by
    obtain ⟨b,vs,n,rfl,h1,h2,e,hl,r⟩:=a.cZ; exact .fj (fun hm=>(hX b hm).elim h1 fun hz=>absurd (Heap.lt_size e) (Nat.not_lt.mpr hz)) h2 e hl (aE.aR hX r)
  | .obj i,v,a=>by obtain ⟨b,r,hp,rfl⟩:=a.bf; exact .m6 hp
  | .val _,_,a=>by refine rl a.cz ?_; exact .tO
  | .imm o,v,a=>by
    obtain ⟨b,rfl,h1,h2,e,hc⟩:=a.dU; exact .lF (fun hm=>(hX b hm).elim h1 fun hz=>absurd (Heap.lt_size e) (Nat.not_lt.mpr hz)) h2 e hc a.jZ
theorem aE.aR {h:Heap} {ι:Ad} {X X':List Addr} (hX:∀ a∈X',a∈X ∨ h.objs.size≤a):∀ {es:List D} {vs:List Value},aE h ι X es vs→aE h ι X' es vs
  | [],_,a=>by refine rl a.nil_of ?_; exact .bJ
  | _::_,_,a=>by obtain ⟨v,r,rfl,b,c⟩:=a.cons_of; exact .aH (VR.aR hX b) (aE.aR hX c)
end
theorem ez.aR {h:Heap} {ι:Ad} {X X':List Addr} (hX:∀ a∈X',a∈X ∨ h.objs.size≤a) {fs:List (Str × D)} {es:List DictEntry} (a:ez h ι X fs es):ez h ι X' fs es:=by
  intro name; have:=a name
  cases e:fs.lookup name with
  | none=>rw [e] at this; exact this
  | some d=>rw [e] at this; obtain ⟨v,p,q⟩:=this; exact ⟨v,p,VR.aR hX q⟩
theorem OR.aR {C:Cx} {h:Heap} {ι:Ad} {X X':List Addr} (hX:∀ a∈X',a∈X ∨ h.objs.size≤a) {p:List Addr}:∀ {o:O},OR C h ι X p o→OR C h ι X' p o
  | .list xs,a=>by obtain ⟨a,vs,n,rfl,e,hl,r⟩:=a; exact ⟨a,vs,n,rfl,e,hl,aE.aR hX r⟩
  | .dict kvs,a=>by obtain ⟨a,us,rfl,hd,hk,hv⟩:=a; exact ⟨a,us,rfl,hd,hk,aE.aR hX hv⟩
  | .inst K fs,a=>by obtain ⟨a,dx,es,n,rfl,e,e',hl,r⟩:=a; exact ⟨a,dx,es,n,rfl,e,e',hl,ez.aR hX r⟩
  | .deque xs,a=>by obtain ⟨a,vs,n,rfl,e,r⟩:=a; exact ⟨a,vs,n,rfl,e,aE.aR hX r⟩
  | .set xs,a=>a
section
variable {C:Cx} {d:Nat} {A:Around} {env:Env} {ρ:Loc} {H H':List O} {ι ι':Ad} {X:List Addr} {s s':Shared}
theorem St.after (S:St C d A env ρ H ι X s) (g:Gr C.B ι s ι' s') (ht:C.t0≤s'.toks) (is':∀ a∈br ι',C.B≤a∧a < s'.heap.objs.size) (nd':(br ι').Nodup) (objs':Fx C s'.heap ι' X H'):St C d A env ρ H' ι' X s':=by
  have hX:∀ a∈X,a ∉ br ι:=fun a ha hi=>S.iR a hi ha
  exact ⟨S.room,S.bR,fun b o e=>by
      obtain ⟨o',e',m⟩:=g.ext.keep b o (S.base b o e) fun hi=>absurd (Heap.lt_size e) (Nat.not_lt.mpr (S.is b hi).1)
      rw [m.low (Heap.lt_size e)] at e'; exact e',
    Nat.le_trans S.big g.ext.size,g.ext.gens.trans S.gens,g.ext.os.trans S.os,fun a ha=>⟨(S.xs a ha).1,Nat.lt_of_lt_of_le (S.xs a ha).2 g.ext.size⟩,is',nd',fun a ha hx=>by
      obtain ⟨⟨κ,rfl,hκ⟩,_⟩:=g; rw [bD] at ha; rcases List.mem_append.mp ha with h | h
      · exact S.iR a h hx
      exact absurd (S.xs a hx).2 (Nat.not_lt.mpr (hκ a h)),
    fun n e h=>by
      obtain ⟨v,l,r⟩:=S.loc n e h
      exact ⟨v,l.sm g.ext hX,VR.gr g r⟩,
    objs',⟨S.ns.1,let ⟨m,hm⟩:=S.ns.2; ⟨m,Ns.sm g.ext hm (hX _ S.ns.1)⟩⟩,fun n c hc=>⟨(S.cells n c hc).1,let ⟨v,hv⟩:=(S.cells n c hc).2; ⟨v,Cell.sm g.ext hv (hX _ (S.cells n c hc).1)⟩⟩,
    (let ⟨fr,a,b⟩:=S.frs; ⟨fr,a,b.sm g.ext hX⟩),ht⟩
end
noncomputable def cy (ds:List (Str × D)):Loc:=ds.foldl (fun ρ p=>aQ p.1 p.2 ρ) []
noncomputable def gD:Fl→D
  | .ret x=>x
  | _=>.none
theorem iT {C:Cx} {d:Nat} {A A':Around} {env:Env} {H:List O} {ι:Ad} {X:List Addr} (f:(Str × Value)→PUnit→Sem (ForInStep PUnit)) (hf:∀ n v u,f (n,v) u=storeName env n v >>= fun _=>pure (.yield ⟨⟩)) :
    ∀ (bs:List (Str × Value)) (ds:List (Str × D)) (ρ:Loc) (s:Shared) (Q:PUnit→Shared→Prop),St C d A env ρ H ι X s→bs.map (·.1)=ds.map (·.1)→aE s.heap ι X (ds.map (·.2)) (bs.map (·.2))→(∀ p∈ds,binds env p.1=true)→(∀ a∈b7 env,a∈X) →
      (∀ s',St C d A env (ds.foldl (fun ρ p=>aQ p.1 p.2 ρ) ρ) H ι X s'→ia C.B env ι s ι s'→Q ⟨⟩ s')→wpAny C.M A' (forIn bs ⟨⟩ f) Q (fun _ _=>False) s
  | [],[],ρ,s,Q,S,_,_,_,_,h=>by refine rl List.forIn_nil ?_; exact wpAny_pure (h s S .refl)
  | [],_::_,_,_,_,_,hk,_,_,_,_=>by cases hk
  | _::_,[],_,_,_,_,hk,_,_,_,_=>by cases hk
  | (n,v)::bs,(n',e)::ds,ρ,s,Q,S,hk,hv,hb,ho,h=>by
    simp only [List.map_cons,List.cons.injEq] at hk hv; obtain ⟨rfl,hk⟩:=hk; obtain ⟨v',r,e1,b,c⟩:=hv.cons_of; cases e1; rw [List.forIn_cons,hf]; refine wpAny_bind (wpAny_bind (wpAny_mono (fK S b (hb _ (.head _))) (fun _ s₁ q=>wpAny_pure ?_) zz)); refine iT f hf bs ds _ s₁ Q q.1 hk (aE.eF q.2.book q.2.ext (fun a ha=>?_) c) (fun p hp=>hb p (.tail _ hp)) ho fun s' S' g'=>h s' S' (q.2.trans g'); rcases List.mem_append.mp ha with h | h
    · exact .inl h
    exact .inr (ho a h)
theorem bO:∀ (names:List (Str × NameKind)) (h:Heap),h.objs.size≤(pushCells h names).objs.size
  | [],h=>Nat.le_refl _
  | (_,k)::r,h=>by
    unfold pushCells; split
    · exact Nat.le_trans (by rw [Heap.size_push]; exact Nat.le_succ _) (bO r _)
    exact bO r h
section
variable {C:Cx} {d:Nat} {H:List O} {Q:D→List O→Prop}
theorem tB {A:Around} {envc:Env} {ρc:Loc} {s:Shared} {ι:Ad} {X:List Addr} {f:Addr} {o:Obj} {fd:FuncData} {body:List Stmt} {args:Args} {bs:List (Str × Value)} {ds:List (Str × D)}
    (O:C.Ok) (S:St C (d+1) A envc ρc H ι X s) (ho:C.h₀.get? f=some o) (hd:o.data = .func fd) (hcd:C.h₀.CodeRec fd.code fd.qualname) (hbody:fd.body = .stmts body) (hclo:fd.closure=[])
    (hg:fd.globals=mainGlobals) (hbl:fd.builtins=builtinsNs) (hco:fd.scope.isCoroutine=false) (hgen:fd.scope.isGenerator=false) (hk:fd.scope.kind = .function)
    (hbind:BindsTo s fd args bs) (hbs:bs.map (·.1)=ds.map (·.1)) (hv:aE s.heap ι X (ds.map (·.2)) (bs.map (·.2))) (hb:∀ L,∀ p∈ds,binds (callEnvC fd L f) p.1=true)
    (h:∀ L,aa C d (callEnvC fd L f) (cy ds) H body fun fl _ H'=>Q (gD fl) H') :
    codeAny C.M A (.call (.ref f) args) (CR (Post C (d+1) A envc ρc ι X s Q) fun _ _=>False) s:=by
  have hlim:=O.nolimit.keeps S.base; refine codeAny_call_function (FL S.room.depth) (S.base _ _ ho) hd hco hgen hbody (hcd.keeps S.base) (hbind _ _ _ _ ?_); refine rl hclo ?_; simp only [newFunctionEnv,Option.isSome_none,Bool.false_eq_true,if_false]; refine wpAny_bind (wpAny_alloc ?_); refine wpAny_bind (wpAny_layCells _ (fun name kind cells=>by cases hkc:kind==NameKind.cell <;> rfl) _ _ _ _ ?_); have ok:=cellsFrom_ok fd.scope.names (s.heap.push { cls:=.type "frame",data:=.dict #[] }) (s.heap.objs.size+1) [] ⟨fun _ _ hm=>(nomatch hm),List.Pairwise.nil⟩ (by rw [Heap.size_push]; exact Nat.le_refl _); rw [Heap.size_push] at ok; refine rl (show ({ s with heap:=s.heap.push { cls:=.type "frame",data:=.dict #[] } }:Shared).heap.objs.size=s.heap.objs.size+1 from Heap.size_push ..) ?_; generalize hh1:pushCells (s.heap.push { cls:=.type "frame",data:=.dict #[] }) fd.scope.names=h1 at ok; have keep1:∀ b o,s.heap.get? b=some o→h1.get? b=some o:=fun b o e=>hh1 ▸ pushCells_keeps _ _ b o (Heap.get?_push_of_some _ e)
  have size1:s.heap.objs.size+1≤h1.objs.size:=by
    have:=bO fd.scope.names (s.heap.push { cls:=.type "frame",data:=.dict #[] }); rw [hh1,Heap.size_push] at this; exact this
  have x1:Ext C.B [] s { s with heap:=h1 }:=.of_keep rfl rfl (by show _≤h1.objs.size; exact Nat.le_of_succ_le size1) fun b o e _=>keep1 b o e; have gL:h1.get? s.heap.objs.size=some { cls:=.type "frame",data:=.dict #[] }:=hh1 ▸ pushCells_keeps _ _ _ _ (Heap.get?_push_size _ rfl)
  have S1:St C d (A.deeper (callEnvC fd s.heap.objs.size f)) (callEnvC fd s.heap.objs.size f) [] H ι (b7 (callEnvC fd s.heap.objs.size f)++X) { s with heap:=h1 }:=by
    have own:∀ a∈b7 (callEnvC fd s.heap.objs.size f),s.heap.objs.size≤a∧a < h1.objs.size:=fun a ha=>by
      rcases dg ha with rfl | ⟨n,hm⟩
      · exact ⟨Nat.le_refl _,Heap.lt_size gL⟩
      have:=ok.empty n a (mem_of_lookup hm); exact ⟨Nat.le_of_succ_le this.2,this.1.lt⟩
    have hX:∀ a∈b7 (callEnvC fd s.heap.objs.size f)++X,a∈X ∨ s.heap.objs.size≤a:=fun a ha=>by
      rcases List.mem_append.mp ha with h | h
      · exact .inr (own a h).1
      exact .inl h
    refine ⟨⟨?_,?_,S.room.handled,S.room.guards⟩,⟨hk,hg,hbl,ok.apart⟩,fun b o e=>keep1 b o (S.base b o e),Nat.le_trans S.big x1.size,S.gens,S.os,fun a ha=>?_,fun a ha=>?_,S.nd,fun a ha hm=>?_,(fun _ _ e=>by cases e),?_,?_,?_,?_,S.toks⟩
    · exact AQ S.room.depth
    · exact FN S.room.units
    · rcases List.mem_append.mp ha with h | h
      · exact ⟨Nat.le_trans S.big (own a h).1,(own a h).2⟩
      exact ⟨(S.xs a h).1,Nat.lt_of_lt_of_le (S.xs a h).2 x1.size⟩
    · exact ⟨(S.is a ha).1,Nat.lt_of_lt_of_le (S.is a ha).2 x1.size⟩
    · rcases List.mem_append.mp hm with h | h
      · exact absurd (S.is a ha).2 (Nat.not_lt.mpr (own a h).1)
      exact S.iR a ha h
    · exact ⟨S.objs.1,fun i p o hp ho=>OR.gr (.aB (x1.mono bu)) x1 (by simp) (OR.aR hX (S.objs.2 i p o hp ho))⟩
    · exact ⟨List.mem_append_left _ (.head _),_,(hh1 ▸ (Heap.Ns.new s.heap (.type "frame")).keeps (pushCells_keeps _ _):h1.Ns s.heap.objs.size fun _=>none)⟩
    · intro n c hc
      exact ⟨List.mem_append_left _ (.tail _ (gb hc)),none,(ok.empty n c (mem_of_lookup hc)).1⟩
    obtain ⟨fr,hfr,hok⟩:=S.frs; refine ⟨callEnvC fd s.heap.objs.size f::fr,Around.frames_deeper hfr,fun fe hfe=>?_⟩; rcases List.mem_cons.mp hfe with rfl | hfe
    · exact ⟨by show fd.scope.kind≠_; refine rl hk ?_; simp,_,_,_,_,rfl,List.mem_append_left _ (.head _),gL,rfl,rfl⟩
    obtain ⟨k,L,o₁,es,n,a1,a2,a3,a4,a5⟩:=hok fe hfe; exact ⟨k,L,o₁,es,n,a1,List.mem_append_right _ a2,keep1 _ _ a3,a4,a5⟩
  have own:∀ a∈b7 (callEnvC fd s.heap.objs.size f),s.heap.objs.size≤a:=fun a ha=>by
    rcases dg ha with rfl | ⟨n,hm⟩
    · exact Nat.le_refl _
    exact Nat.le_of_succ_le (ok.empty n a (mem_of_lookup hm)).2
  have hX:∀ a∈b7 (callEnvC fd s.heap.objs.size f)++X,a∈X ∨ s.heap.objs.size≤a:=fun a ha=>by
    rcases List.mem_append.mp ha with h | h
    · exact .inr (own a h)
    exact .inl h
  refine wpAny_bind (iT (env:=callEnvC fd s.heap.objs.size f) _ (fun _ _ _=>rfl) bs ds [] { s with heap:=h1 } _ S1 hbs (aE.gr (.aB (x1.mono bu)) (aE.aR hX hv)) (hb _) (fun a ha=>List.mem_append_left _ ha) fun s2 S2 g2=>wpAny_pure ?_); refine ⟨O.nolimit.keeps S2.base,codeAny_func (j9 (h _ _ s2 ι _ S2) (fun fl s3 x ρ' H' ι' hq S3 hr g3=>?_) zz)⟩
  have gx:Gr C.B ι s ι' s3:=by
    obtain ⟨⟨κ,e1,hκ⟩,ex⟩:=(g2.trans g3); refine ⟨⟨κ,e1,fun a ha=>Nat.le_trans x1.size (hκ a ha)⟩,⟨Nat.le_trans x1.size ex.size,fun b o e hb=>?_,ex.gens,ex.os⟩⟩; refine ex.keep b o (keep1 b o e) fun hm=>?_; rcases List.mem_append.mp hm with h | h
    · exact hb h
    exact absurd (Heap.lt_size e) (Nat.not_lt.mpr (own b h))
  have wide:∀ a∈X,a∈b7 (callEnvC fd s.heap.objs.size f)++X ∨ s3.heap.objs.size≤a:=fun a ha=>.inl (List.mem_append_right _ ha); refine ⟨gD x,H',ι',hq,S.after gx S3.toks S3.is S3.nd ⟨S3.objs.1,fun i p o hp ho=>OR.aR wide (S3.objs.2 i p o hp ho)⟩,?_,gx⟩
  cases x with
  | ret y=>obtain ⟨v,rfl,hv⟩:=hr; exact VR.aR wide hv
  | next=>cases (show fl = .next from hr); exact .none_
  | brk=>cases (show fl = .brk from hr); exact .none_
  | cont=>cases (show fl = .cont from hr); exact .none_
end
end Mine
namespace Mine
theorem lX {M:Model} {Γ:PySem.Ctx} {p:Pos} {t:Sem Fin} {fs:List Frame} {s s':Shared} {e:End} (h:Runs M Γ p t fs s e s'):s.heap.objs.size≤s'.heap.objs.size:=by
  induction h <;> (try simp only [Shared.setGen,Heap.size_push,Heap.size_update] at *) <;> omega
theorem qp {M:Model} {Γ:PySem.Ctx} {p:Pos} {g:Nat} {r:Resume} {s s':Shared} {res:GenResult} (h:Wakes M Γ p g r s res s'):s.heap.objs.size≤s'.heap.objs.size:=by
  have run:∀ {M:Model} {Γ:PySem.Ctx} {p:Pos} {t:Sem Fin} {fs:List Frame} {e:End} {s₁:Shared},Runs M Γ p t fs (s.setGen g .running) e s₁→s.heap.objs.size≤s₁.heap.objs.size:=fun hr=>(lX hr:(s.setGen g .running).heap.objs.size≤_); unfold Wakes at h
  cases hg:s.gens[g]? with
  | none=>rw [hg] at h; exact h.elim
  | some st =>
    rw [hg] at h
    cases st with
    | fresh c =>
      cases r with
      | send v =>
        cases v with
        | none=>obtain ⟨e₁,s₁,hr,_,_,rfl⟩:=h; exact (run hr:s.heap.objs.size≤s₁.heap.objs.size)
        | _=>exact h.2 ▸ Nat.le_refl _
      | throw x=>exact h.2 ▸ Nat.le_refl _
    | suspended=>obtain ⟨e₁,s₁,hr,_,_,rfl⟩:=h; exact (run hr:s.heap.objs.size≤s₁.heap.objs.size)
    | running=>exact h.2 ▸ Nat.le_refl _
    | finished=>exact h.2 ▸ Nat.le_refl _
open Sem (wp)
theorem rQ {α:Type} (M:Model) (Γ:PySem.Ctx) (n:Nat) (t:Sem α):∀ (Q:α→Pos→Shared→Prop) (E:Value→Pos→Shared→Prop) (p:Pos) (s:Shared),n≤s.heap.objs.size→wp M Γ t Q E p s →
    wp M Γ t (fun a p' s'=>n≤s'.heap.objs.size∧Q a p' s') (fun e p' s'=>n≤s'.heap.objs.size∧E e p' s') p s:=by
  induction t with
  | pure a=>intro Q E p s hn h; exact ⟨hn,h⟩
  | raise e=>intro Q E p s hn h; exact ⟨hn,h⟩
  | unsupported _=>intro Q E p s _ h; exact h
  | finish _=>intro Q E p s _ h; exact h
  | rule _ k ih=>intro Q E p s hn h; exact ih () Q E p s hn h
  | «at» p' k ih=>intro Q E p s hn h; exact ih () Q E p' s hn h
  | load a _ k ih=>intro Q E p s hn h; obtain ⟨o,ho,h⟩:=h; exact ⟨o,ho,ih o Q E p s hn h⟩
  | update a _ f k ih=>intro Q E p s hn h; exact ⟨h.1,ih () Q E p _ (by simpa [Heap.size_update] using hn) h.2⟩
  | loadIfAlive a k ih=>intro Q E p s hn h; exact ih _ Q E p s hn h
  | point _ k ih=>intro Q E p s hn h; exact ih () Q E p s hn h
  | register _ _=>intro Q E p s _ h; exact h
  | alloc o k ih=>intro Q E p s hn h; exact ih _ Q E p _ (by simp only [Heap.size_push]; exact Nat.le_add_right_of_le hn) h
  | fresh k ih=>intro Q E p s hn h; exact ih _ Q E p _ hn h
  | ask k ih=>intro Q E p s hn h; exact ih _ Q E p s hn h
  | choose src m k ih=>intro Q E p s hn h; exact ⟨h.1,ih _ Q E p _ hn h.2⟩
  | os q _ k ih=>intro Q E p s hn h; exact ih _ Q E p _ hn h
  | call c hd _ _ k ih=>intro Q E p s hn h; obtain ⟨r,s',hr,h⟩:=h; exact ⟨r,s',hr,ih r Q E p s' (Nat.le_trans hn (lX hr)) h⟩
  | handled own k ih=>intro Q E p s hn h; exact ih _ Q E p s hn h
  | genState g k ih=>intro Q E p s hn h; obtain ⟨st,hs,h⟩:=h; exact ⟨st,hs,ih _ Q E p s hn h⟩
  | newGen c k ih=>intro Q E p s hn h; exact ih _ Q E p _ hn h
  | resume g r _ k ih=>intro Q E p s hn h; obtain ⟨res,s',hw,h⟩:=h; exact ⟨res,s',hw,ih res Q E p s' (Nat.le_trans hn (qp hw)) h⟩
  | yield _ _ _ _=>intro Q E p s _ h; exact h
  | stack k ih=>intro Q E p s hn h; exact ih _ Q E p s hn h
  | fork _ _=>intro Q E p s _ h; exact h
  | thread k ih=>intro Q E p s hn h; exact ih _ Q E p s hn h
  | await _ _ _ _ _=>intro Q E p s _ h; exact h
theorem bI {α:Type} {M:Model} {A:Around} {s:Shared} {t:Sem α} {Q:α→Shared→Prop} {E:Value→Shared→Prop}
    (h:wpAny M A t (fun a s'=>s.heap.objs.size≤s'.heap.objs.size→s.toks≤s'.toks→Q a s') E s):wpAny M A t Q E s :=
  wpAny_mono (wpAny_toks (fun Γ p hΓ=>rQ M Γ _ t _ _ p s (Nat.le_refl _) (h Γ p hΓ):wpAny M A t (fun a s'=>s.heap.objs.size≤s'.heap.objs.size∧(s.heap.objs.size≤s'.heap.objs.size→s.toks≤s'.toks→Q a s')) (fun e s'=>s.heap.objs.size≤s'.heap.objs.size∧E e s') s))
    (fun _ _ x=>x.2.2 x.2.1 x.1) fun _ _ x=>x.2.2
end Mine
namespace Mine
section
variable {C:Cx} {d:Nat} {A:Around} {env:Env} {ρ:Loc} {H:List O} {ι:Ad} {X:List Addr} {s:Shared}
noncomputable def AK (o:Obj):Prop:=(∀ es n,o.data≠.dict es n)∧∀ v,o.data≠.cell v
theorem AK.fields {o:Obj} {fs:Array Value} (h:o.data = .fields fs):AK o:=⟨(fun _ _ e=>by rw [h] at e; cases e),(fun _ e=>by rw [h] at e; cases e)⟩
theorem AK.seq {o:Obj} {fs:Array Value} {n:Nat} (h:o.data = .seq fs n):AK o:=⟨(fun _ _ e=>by rw [h] at e; cases e),(fun _ e=>by rw [h] at e; cases e)⟩
theorem se {h:Heap} {a I:Addr} {m:Str→Option Value} {o:Obj} (hn:h.Ns a m) (ho:h.get? I=some o) (od:AK o):a≠I:=by
  rintro rfl; obtain ⟨o',es,ep,e,hd,_⟩:=hn; rw [ho] at e; cases e; exact od.1 _ _ hd
theorem tw {h:Heap} {a I:Addr} {v:Option Value} {o:Obj} (hn:h.IsCell a v) (ho:h.get? I=some o) (od:AK o):a≠I:=by
  rintro rfl; obtain ⟨o',e,hd⟩:=hn; rw [ho] at e; cases e; exact od.2 _ hd
theorem St.turn {s':Shared} {I:Addr} {o:Obj} (S:St C d A env ρ H ι X s) (hI:I∈X) (ho:s.heap.get? I=some o) (od:AK o) (x:Ext C.B [I] s s') (ht:C.t0≤s'.toks):St C d A env ρ H ι X s':=by
  have hY:∀ a∈[I],a∈X:=fun a h=>by refine rl (List.mem_singleton.mp h) ?_; exact hI
  have nI:∀ {a:Addr},a≠I→a ∉ [I]:=fun h hm=>h (List.mem_singleton.mp hm); refine S.stored hY x ht ?_ ?_ ?_ ?_
  · obtain ⟨m,hm⟩:=S.ns.2
    exact ⟨m,Ns.sm x hm (nI (se hm ho od))⟩
  · intro n c hc
    obtain ⟨_,v,hv⟩:=S.cells n c hc; exact ⟨v,Cell.sm x hv (nI (tw hv ho od))⟩
  · obtain ⟨fr,hfr,hok⟩:=S.frs
    refine ⟨fr,hfr,fun fe hfe=>?_⟩; obtain ⟨k,L,o₁,es,n,h1,h2,h3,h4,h5⟩:=hok fe hfe
    have:L≠I:=by
      rintro rfl; rw [ho] at h3; cases h3; exact od.1 _ _ h5
    obtain ⟨o',e',q⟩:=x.keep L o₁ h3 (nI this); exact ⟨k,L,o',es,n,h1,h2,e',q.data.2.1.trans h4,q.data.1.trans h5⟩
  intro n e h; obtain ⟨v,l,r⟩:=S.loc n e h; refine ⟨v,?_,VR.eF aW x (fun a h=>.inr (hY a h)) r⟩; rcases l with ⟨k,hl,m,hm,hv⟩ | ⟨k,c,hc,hx,hv⟩
  · exact .inl ⟨k,hl,m,Ns.sm x hm (nI (se hm ho od)),hv⟩
  exact .inr ⟨k,c,hc,hx,Cell.sm x hv (nI (tw hv ho od))⟩
theorem Ld.aR {X':List Addr} {h:Heap} {x:Str} {v:Value} (hX:∀ a∈X,a∈X') (l:Ld env h X x v):Ld env h X' x v:=by
  rcases l with ⟨k,hl,r⟩ | ⟨k,c,hc,hx,hv⟩
  · exact .inl ⟨k,hX _ hl,r⟩
  exact .inr ⟨k,c,hc,hX _ hx,hv⟩
theorem lN.aR {X':List Addr} {h:Heap} {fr:List Env} (hX:∀ a∈X,a∈X') (f:lN X h fr):lN X' h fr:=fun fe hfe=>by
  obtain ⟨k,L,o₁,es,n,h1,h2,r1,r2,r3⟩:=f fe hfe; exact ⟨k,L,o₁,es,n,h1,hX _ h2,r1,r2,r3⟩
theorem St.widen {s':Shared} {N:List Addr} (S:St C d A env ρ H ι X s) (x:Ext C.B [] s s') (ht:C.t0≤s'.toks) (hN:∀ a∈N,s.heap.objs.size≤a∧a < s'.heap.objs.size):St C d A env ρ H ι (N++X) s':=by
  have hX:∀ a∈N++X,a∈X ∨ s.heap.objs.size≤a:=fun a ha=>by
    rcases List.mem_append.mp ha with h | h
    · exact .inr (hN a h).1
    exact .inl h
  have hX':∀ a∈X,a∈N++X:=fun a h=>List.mem_append_right _ h; have S1:=S.quiet x ht; have g:Gr C.B ι s ι s':=.aB (x.mono bu); refine ⟨S.room,S.bR,S1.base,S1.big,S1.gens,S1.os,fun a ha=>?_,S1.is,S1.nd,fun a ha hm=>?_,fun n e h=>?_,?_,⟨hX' _ S.ns.1,S1.ns.2⟩,fun n c hc=>⟨hX' _ (S1.cells n c hc).1,(S1.cells n c hc).2⟩,?_,ht⟩
  · rcases List.mem_append.mp ha with h | h
    · exact ⟨Nat.le_trans S.big (hN a h).1,(hN a h).2⟩
    exact S1.xs a h
  · rcases List.mem_append.mp hm with h | h
    · exact absurd (S.is a ha).2 (Nat.not_lt.mpr (hN a h).1)
    exact S.iR a ha h
  · obtain ⟨v,l,r⟩:=S.loc n e h
    exact ⟨v,(l.sm x (by exact fun a a_1=>List.not_mem_nil)).aR hX',VR.gr g (VR.aR hX r)⟩
  · exact ⟨S.objs.1,fun i p o hp ho=>OR.gr g x (by simp) (OR.aR hX (S.objs.2 i p o hp ho))⟩
  obtain ⟨fr,a,b⟩:=S1.frs; exact ⟨fr,a,b.aR hX'⟩
theorem St.narrow {X':List Addr} {ρ':Loc} {H':List O} {ι':Ad} {s':Shared} (S0:St C d A env ρ H ι X s) (S:St C d A env ρ' H' ι' X' s') (hs:∀ a∈X,a∈X'):St C d A env ρ' H' ι' X s':=by
  have hw:∀ a∈X,a∈X' ∨ s'.heap.objs.size≤a:=fun a h=>.inl (hs a h); refine ⟨S.room,S.bR,S.base,S.big,S.gens,S.os,fun a ha=>S.xs a (hs a ha),S.is,S.nd,fun a ha hx=>S.iR a ha (hs a hx),fun n e h=>?_,⟨S.objs.1,fun i p o hp ho=>OR.aR hw (S.objs.2 i p o hp ho)⟩,⟨S0.ns.1,S.ns.2⟩,fun n c hc=>⟨(S0.cells n c hc).1,(S.cells n c hc).2⟩,?_,S.toks⟩
  · obtain ⟨v,l,r⟩:=S.loc n e h
    refine ⟨v,?_,VR.aR hw r⟩; rcases l with ⟨k,hl,q⟩ | ⟨k,c,hc,hx,hv⟩
    · exact .inl ⟨k,S0.ns.1,q⟩
    exact .inr ⟨k,c,hc,(S0.cells n c hc).1,hv⟩
  obtain ⟨fr,a,b⟩:=S.frs; obtain ⟨fr0,a0,b0⟩:=S0.frs; rw [a] at a0; cases a0; refine ⟨fr,a,fun fe hfe=>?_⟩; obtain ⟨k,L,o₁,es,n,h1,h2,r1,r2,r3⟩:=b fe hfe; obtain ⟨_,L',_,_,_,h1',h2',_⟩:=b0 fe hfe; rw [h1] at h1'; cases h1'; exact ⟨k,L,o₁,es,n,h1,h2',r1,r2,r3⟩
noncomputable def chars (x:Str):List D:=x.cps.toList.map fun c=>.str ⟨#[c]⟩
noncomputable def fJ (a:Int) (n:Nat):List D:=(List.range n).map fun i=>.int (a+(i:Nat))
noncomputable def gP (a b:Int) (t u v:Tok):Obj:={ cls:=.type "range",dict:=none,data:=.fields #[.int a t,.int b u,.int 1 v],slots:=#[] }
inductive dm:D→List D→Prop
  | list {xs:List D}:dm (.list xs) xs
  | obj {k:Nat} {xs:List D}:dm (.obj k) xs
  | str {x:Str}:dm (.str x) (chars x)
  | range {a b:Int} {n:Nat} {t u v:Tok}:Builtin.Range.small a b 1=true→Builtin.Range.rangeSize a b 1=n→dm (.imm (gP a b t u v)) (fJ a n)
noncomputable def lE (x:D) (all:List D) (H:List O):Prop:=match x with
  | .obj k=>H[k]?=some (.list all)
  | _=>True
noncomputable def dD (x:D) (v:Value) (i:Nat) (I:Addr) (h:Heap):Prop:=match x with
  | .list _=>∃ a,v = .ref a∧h.IsListIter I a i
  | .obj _=>∃ a,v = .ref a∧h.IsListIter I a i
  | .str x=>∃ ty t,v = .str x t∧(ty = "str_ascii_iterator" ∨ ty = "str_iterator")∧h.IsStrIter I ty x t i
  | .imm o=>∃ a b n t u v,o=gP a b t u v∧Builtin.Range.rangeSize a b 1=(n:Nat)∧IsRangeIter h I (a+(i:Nat)) ((n:Int) - (i:Nat)) 1
  | _=>False
theorem dD.keep {x:D} {v:Value} {i:Nat} {I:Addr} {h h':Heap} (a:dD x v i I h) (k:∀ o,h.get? I=some o→h'.get? I=some o):dD x v i I h':=by
  cases x with
  | list _=>obtain ⟨a,rfl,o,ho,r⟩:=a; exact ⟨a,rfl,o,k o ho,r⟩
  | obj _=>obtain ⟨a,rfl,o,ho,r⟩:=a; exact ⟨a,rfl,o,k o ho,r⟩
  | str _=>obtain ⟨ty,t,rfl,ht,o,ho,r⟩:=a; exact ⟨ty,t,rfl,ht,o,k o ho,r⟩
  | imm _=>obtain ⟨a,b,n,t,u,v,rfl,hn,hr⟩:=a; exact ⟨a,b,n,t,u,v,rfl,hn,k _ hr⟩
  | _=>exact a
noncomputable def eY (o:Obj):Prop:=(∃ fs,o.data = .fields fs)∧(o.cls = .type "list_iterator" ∨ o.cls = .type "str_ascii_iterator" ∨ o.cls = .type "str_iterator" ∨ o.cls = .type "range_iterator" ∨ o.cls = .type "set_iterator")
theorem dD.odd {x:D} {v:Value} {i:Nat} {I:Addr} {h:Heap} (a:dD x v i I h):∃ o,h.get? I=some o∧eY o:=by
  cases x with
  | list _=>obtain ⟨a,rfl,o,ho,hc,hd⟩:=a; exact ⟨o,ho,⟨_,hd⟩,.inl hc⟩
  | obj _=>obtain ⟨a,rfl,o,ho,hc,hd⟩:=a; exact ⟨o,ho,⟨_,hd⟩,.inl hc⟩
  | str _ =>
    obtain ⟨ty,t,rfl,ht,o,ho,hc,hd⟩:=a; refine ⟨o,ho,⟨_,hd⟩,?_⟩; rcases ht with rfl | rfl
    · exact .inr (.inl hc)
    exact .inr (.inr (.inl hc))
  | imm _=>obtain ⟨a,b,n,t,u,v,rfl,hn,hr⟩:=a; exact ⟨_,hr,⟨_,rfl⟩,.inr (.inr (.inr (.inl rfl)))⟩
  | _=>exact a.elim
theorem src_list {x:D} {all:List D} {v:Value} {a:Addr} (it:dm x all) (k:lE x all H) (S:St C d A env ρ H ι X s) (hv:VR s.heap ι X x v) (e:v = .ref a) (hx:(∃ xs,x = .list xs) ∨ ∃ k,x = .obj k) :
    ∃ vs n,s.heap.get? a=some (aA vs n)∧vs.length≤sizeLine∧aE s.heap ι X all vs:=by
  subst e; rcases hx with ⟨xs,rfl⟩ | ⟨k,rfl⟩
  · cases it
    obtain ⟨b,vs,n,e,_,_,he,hl,r⟩:=hv.bx; cases e; exact ⟨vs,n,he,hl,r⟩
  obtain ⟨b,r,hb,e⟩:=hv.bf; cases e; obtain ⟨b,vs,n,e,he,hl,r⟩:=S.objs.get hb k; cases e; exact ⟨vs,n,he,hl,r⟩
theorem kO {A':Around} {x:D} {all:List D} {v:Value} (it:dm x all) (k:lE x all H) (S:St C d A env ρ H ι X s) (hv:VR s.heap ι X x v) :
    wpAny C.M A' (pyIter v) (fun w s'=>∃ o,w = .ref s.heap.objs.size∧s' = { s with heap:=s.heap.push o }∧dD x v 0 s.heap.objs.size s'.heap) (fun _ _=>False) s:=by
  cases it with
  | list =>
    obtain ⟨a,vs,n,rfl,_,_,he,hl,r⟩:=hv.bx; exact wpAny_pyIter_list ⟨_,he,rfl,n,rfl⟩ ⟨_,rfl,rfl,a,rfl,_,Heap.get?_push_size _ rfl,rfl,rfl⟩
  | obj =>
    obtain ⟨a,r,hb,rfl⟩:=hv.bf; obtain ⟨vs,n,he,hl,r⟩:=src_list .obj k S hv rfl (.inr ⟨_,rfl⟩); exact wpAny_pyIter_list ⟨_,he,rfl,n,rfl⟩ ⟨_,rfl,rfl,a,rfl,_,Heap.get?_push_size _ rfl,rfl,rfl⟩
  | @str x =>
    obtain ⟨hl,t,rfl⟩:=hv.aM; refine wpAny_pyIter_strU ⟨_,rfl,rfl,strIterType x,t,rfl,?_,_,Heap.get?_push_size _ rfl,rfl,rfl⟩; unfold strIterType; split
    · exact .inl rfl
    exact .inr rfl
  | @range a b n t u v hsm hn =>
    obtain ⟨r,rfl,_,_,e,_⟩:=hv.dU; refine wpAny_pyIter_range e hsm ⟨_,rfl,rfl,a,b,n,t,u,v,rfl,hn,?_⟩; show Heap.get? _ _=_; refine rl (Heap.get?_push_size _ rfl) (rl hn ?_); simp
theorem Ext.gI {B:Nat} {a:Addr} {s:Shared} {h':Heap} {t:Nat} (hs:Heap.SameBut a s.heap h'):Ext B [a] s { s with heap:=h',toks:=t }:=.same hs
theorem gv {x y:D} {all:List D} {v:Value} {i:Nat} {I:Addr} (it:dm x all) (k:lE x all H) (S:St C d A env ρ H ι X s) (hv:VR s.heap ι X x v) (hI:I∈X) (ha:dD x v i I s.heap) (hy:all[i]?=some y) :
    wpAny C.M A (pyNext (.ref I)) (fun r s'=>∃ u,r=some u∧Ext C.B [I] s s'∧dD x v (i+1) I s'.heap∧VR s'.heap ι X y u) (fun _ _=>False) s:=by
  have hY:∀ a∈[I],a∈br ι ∨ a∈X:=fun a h=>by refine rl (List.mem_singleton.mp h) ?_; exact .inr hI
  have lst:∀ {a:Addr},v = .ref a→s.heap.IsListIter I a i→((∃ xs,x = .list xs) ∨ ∃ k,x = .obj k)→wpAny C.M A (pyNext (.ref I)) (fun r s'=>∃ u,r=some u∧Ext C.B [I] s s'∧s'.heap.IsListIter I a (i+1)∧VR s'.heap ι X y u) (fun _ _=>False) s:=by
    intro a e hit hx; obtain ⟨vs,n,he,hl,r⟩:=src_list it k S hv e hx; obtain ⟨u,hu,vu⟩:=r.get hy; refine wpAny_pyNext_list_item hit ⟨_,he,rfl,n,rfl⟩ (x:=u) (by simpa using hu) fun h' hit' hs'=>?_; have x1:Ext C.B [I] s { s with heap:=h' }:=Ext.gI (t:=s.toks) hs'; exact ⟨u,rfl,x1,hit',VR.eF aW x1 hY vu⟩
  cases it with
  | list =>
    obtain ⟨a,e,hit⟩:=ha; exact wpAny_mono (lst e hit (.inl ⟨_,rfl⟩)) (fun r s' h=>by obtain ⟨u,p,q,w,z⟩:=h; exact ⟨u,p,q,⟨a,e,w⟩,z⟩) zz
  | obj =>
    obtain ⟨a,e,hit⟩:=ha; exact wpAny_mono (lst e hit (.inr ⟨_,rfl⟩)) (fun r s' h=>by obtain ⟨u,p,q,w,z⟩:=h; exact ⟨u,p,q,⟨a,e,w⟩,z⟩) zz
  | @str x =>
    obtain ⟨ty,t,rfl,ht,hit⟩:=ha
    obtain ⟨c,hc,rfl⟩:∃ c,x.cps[i]?=some c∧y = .str ⟨#[c]⟩:=by
      unfold chars at hy; rw [List.getElem?_map] at hy
      cases e:x.cps.toList[i]? with
      | none=>rw [e] at hy; cases hy
      | some c=>rw [e] at hy; cases hy; exact ⟨c,by simpa using e,rfl⟩
    have fin:∀ h':Heap,h'.IsStrIter I ty x t (i+1)→Heap.SameBut I s.heap h'→∃ u,(some (Value.str ⟨#[c]⟩ s.toks))=some u∧Ext C.B [I] s { s with heap:=h',toks:=s.toks+1 }∧dD (.str x) (.str x t) (i+1) I h'∧VR h' ι X (.str ⟨#[c]⟩) u:=fun h' hit' hs' =>
      ⟨_,rfl,Ext.gI hs',⟨ty,t,rfl,ht,hit'⟩,.eL (by show 1≤sizeLine; decide)⟩
    rcases ht with rfl | rfl
    · exact wpAny_pyNext_ascii_item hit hc fin
    exact wpAny_pyNext_wide_item hit hc fin
  | @range a b n t u v hsm hn =>
    obtain ⟨a',b',n',t',u',v',e,hn',hit⟩:=ha; cases e; rw [hn] at hn'; obtain rfl:n=n':=by exact Int.ofNat_inj.mp hn'
    have hlt:i < n:=by
      unfold fJ at hy; rw [List.getElem?_map] at hy
      cases e:(List.range n)[i]? with
      | none=>rw [e] at hy; cases hy
      | some c=>have:=List.getElem?_eq_some_iff.mp e; simpa using this.1
    have:y = .int (a+(i:Nat)):=by
      unfold fJ at hy; rw [List.getElem?_map,List.getElem?_range hlt] at hy; cases hy; rfl
    subst this; refine wpAny_pyNext_range_item hit (by exact C2 hlt) fun h' hit' hs'=>⟨_,rfl,Ext.gI hs',⟨a,b,n,t,u,v,rfl,hn,?_⟩,.fC⟩; have e1:a+((i+1:Nat):Int)=a+(i:Int)+1:=by push_cast; exact C1
    have e2:(n:Int) - ((i+1:Nat):Int)=(n:Int) - (i:Int) - 1:=by push_cast; exact C0
    refine rl e1 (rl e2 ?_); exact hit'
theorem kQ {x:D} {all:List D} {v:Value} {i:Nat} {I:Addr} (it:dm x all) (k:lE x all H) (S:St C d A env ρ H ι X s) (hv:VR s.heap ι X x v) (ha:dD x v i I s.heap) (hy:i=all.length) :
    wpAny C.M A (pyNext (.ref I)) (fun r s'=>r=none∧Ext C.B [I] s s') (fun _ _=>False) s:=by
  have hh:=S.room.handled
  have fin:∀ h':Heap,Heap.ExtBut I s.heap h'→s.heap.objs.size≤h'.objs.size→s.toks≤s.toks→(none:Option Value)=none∧Ext C.B [I] s { s with heap:=h' }:=fun h' hs' hz _ =>
    ⟨rfl,.of_keep rfl rfl hz fun b o e hb=>hs' b o (fun q=>hb (by refine rl q ?_; exact .head _)) e⟩
  have lst:∀ {a:Addr},v = .ref a→s.heap.IsListIter I a i→((∃ xs,x = .list xs) ∨ ∃ k,x = .obj k)→wpAny C.M A (pyNext (.ref I)) (fun r s'=>r=none∧Ext C.B [I] s s') (fun _ _=>False) s:=by
    intro a e hit hx; obtain ⟨vs,n,he,hl,r⟩:=src_list it k S hv e hx; exact bI (wpAny_pyNext_list_end hh hit ⟨_,he,rfl,n,rfl⟩ (by simp [hy,r.length]) fun h' hs'=>fin h' hs')
  cases it with
  | list=>obtain ⟨a,e,hit⟩:=ha; exact lst e hit (.inl ⟨_,rfl⟩)
  | obj=>obtain ⟨a,e,hit⟩:=ha; exact lst e hit (.inr ⟨_,rfl⟩)
  | @str x =>
    obtain ⟨ty,t,rfl,ht,hit⟩:=ha; have hn:x.cps[i]?=none:=by refine rl hy ?_; simp [chars]
    rcases ht with rfl | rfl
    · exact bI (wpAny_pyNext_ascii_end hh hit hn fun h' hs'=>fin h' hs')
    exact bI (wpAny_pyNext_wide_end hh hit hn fun h' hs'=>fin h' hs')
  | @range a b n t u v hsm hn =>
    obtain ⟨a',b',n',t',u',v',e,hn',hit⟩:=ha; cases e; rw [hn] at hn'; obtain rfl:n=n':=by exact Int.ofNat_inj.mp hn'
    have:i=n:=by refine rl hy ?_; simp [fJ]
    exact bI (wpAny_pyNext_range_end hh hit (by exact CZ this hy) fun h' hs'=>fin h' hs')
end
theorem letGo {M:Model} {A:Around} {E:Value→Shared→Prop} {s:Shared} {t:Expr} {I:Addr} {v:Value} {o:Obj} {Q:Unit→Shared→Prop} (ho:s.heap.get? I=some o) (g:eY o) (h:Q () s):wpAny M A (letOwnedTupleGo t (.ref I) v) Q E s:=by
  obtain ⟨⟨fs,hd⟩,hc⟩:=g
  have go:∀ a,wpAny M A (do
      let o ← load I
      match o.cls,o.data with
      | .type n,.fields vs =>
        if ["enumerate", "zip", "dict_itemiterator", "dict_reverseitemiterator", "odict_iterator", "itertools.zip_longest", "itertools.pairwise"].contains n && vs[0]?==some (rawInt a) then
          rule "for.unpacks-the-owned-tuple"
          updateField I 0 .none
      | _,_=>pure ()) Q E s:=fun a=>by
    refine wpAny_bind (wpAny_load ho ?_); refine rl hd ?_; rcases hc with hc | hc | hc | hc | hc <;> rw [hc] <;> exact wpAny_pure h
  cases t with
  | Tuple=>cases v with
    | ref a=>exact go a
    | _=>exact wpAny_pure h
  | List=>cases v with
    | ref a=>exact go a
    | _=>exact wpAny_pure h
  | _=>exact wpAny_pure h
section
variable {C:Cx} {d:Nat} {A:Around} {env:Env} {ρ:Loc} {H:List O} {ι:Ad} {X:List Addr} {s:Shared}
theorem pH {R:Result→Shared→Prop} {t:Expr} {I:Addr} {body:List Stmt} (Inv:Nat→Shared→Prop)
    (turn:∀ n s,Inv n s→wpAny C.M A (pyNext (.ref I)) (fun r s₁=>match r with
      | none=>R (.ok .next) s₁
      | some v=>(∃ o,s₁.heap.get? I=some o∧eY o)∧wpAny C.M A (assign t env v) (fun _ s₂=>wpAny C.M A (execs body env) (fun f s₃=>match f with
          | .next | .cont=>∃ m,m < n∧Inv m s₃
          | .brk=>R (.ok .next) s₃
          | .ret v=>R (.ok (.ret v)) s₃) (fun _ _=>False) s₂) (fun _ _=>False) s₁) (fun _ _=>False) s)
    (n:Nat) (h:Inv n s):codeAny C.M A (.forLoop t (.ref I) body [] env) R s:=by
  refine codeAny_loop' rfl Inv (fun n s hI=>?_) n h; show wpAny _ _ ((forTurn t (.ref I) body [] env).onRaise (fun x=>do noteFrame x env; theTreesLotGoes x)) _ _ s; refine wpAny_noted ?_; simp only [forTurn]; refine wpAny_bind (wpAny_standAt (wpAny_bind (wpAny_onRaise (wpAny_mono (turn n s hI) (fun r s₁ h₁=>?_) fun _ _ h'=>h'.elim))))
  cases r with
  | none=>exact wpAny_pure (.inr ⟨rfl,codeAny_block (wpAny_execs_nil h₁)⟩)
  | some v =>
    obtain ⟨⟨o,ho,g⟩,h₁⟩:=h₁; refine wpAny_bind (letGo ho g ?_); refine wpAny_bind (wpAny_mono h₁ (fun _ s₂ h₂=>wpAny_bind (wpAny_mono h₂ (fun f s₃ h₃=>?_) fun _ _ h'=>h'.elim)) fun _ _ h'=>h'.elim)
    cases f with
    | next=>exact wpAny_pure (.inl ⟨rfl,h₃⟩)
    | cont=>exact wpAny_pure (.inl ⟨rfl,h₃⟩)
    | brk=>exact wpAny_pure h₃
    | ret v=>exact wpAny_pure h₃
noncomputable def AS (C:Cx) (d:Nat) (env:Env) (t:Expr) (x:D) (ρ:Loc) (H:List O) (Q:Loc→Prop):Prop :=
  ∀ A s ι X v,St C d A env ρ H ι X s→VR s.heap ι X x v→wpAny C.M A (assign t env v) (fun _ s'=>∃ ρ',Q ρ'∧St C d A env ρ' H ι X s'∧ia C.B env ι s ι s') (fun _ _=>False) s
theorem AS.name {x:Str} {p:Pos} {e:D} {Q:Loc→Prop} (hk:binds env x=true) (h:Q (aQ x e ρ)):AS C d env (.Name x p) e ρ H Q:=fun A s ι X v S hv =>
  wpAny_assign_Name (wpAny_mono (fK S hv hk) (fun _ s' q=>⟨_,h,q⟩) zz)
noncomputable def GU (N:Loc→List O→Prop) (Q:Fl→Loc→List O→Prop) (fl:Fl) (ρ:Loc) (H:List O):Prop:=match fl with
  | .next=>N ρ H
  | .cont=>N ρ H
  | .brk=>Q .next ρ H
  | .ret z=>Q (.ret z) ρ H
noncomputable def EZ (Inv:Nat→Loc→List O→Prop) (n:Nat) (ρ:Loc) (H:List O):Prop:=∃ m,m < n∧Inv m ρ H
noncomputable def FT (C:Cx) (d:Nat) (env:Env) (x:D) (all:List D) (t:Expr) (b:List Stmt) (Q:Fl→Loc→List O→Prop):List D→Loc→List O→Prop
  | [],ρ,H=>lE x all H∧Q .next ρ H
  | y::r,ρ,H=>lE x all H∧AS C d env t y ρ H fun ρ'=>aa C d env ρ' H b (GU (FT C d env x all t b Q r) Q)
theorem ia.less {B:Nat} {Y:List Addr} {ι':Ad} {s' s'':Shared} (g:ia B env ι s ι' s') (x:Ext B Y s' s'') (h:∀ a∈Y,s.heap.objs.size≤a):ia B env ι s ι' s'' :=
  ⟨g.book,⟨Nat.le_trans g.ext.size x.size,fun b o e hb=>by
    obtain ⟨o',e',m⟩:=g.ext.keep b o e hb; obtain ⟨o'',e'',m'⟩:=x.keep b o' e' fun hy=>absurd (Heap.lt_size e) (Nat.not_lt.mpr (h b hy))
    exact ⟨o'',e'',m.trans m'⟩,x.gens.trans g.ext.gens,x.os.trans g.ext.os⟩⟩
theorem Gr.less {B:Nat} {Y:List Addr} {ι':Ad} {s' s'':Shared} (g:Gr B ι s ι' s') (x:Ext B Y s' s'') (h:∀ a∈Y,s.heap.objs.size≤a):Gr B ι s ι' s'' :=
  ⟨g.book,⟨Nat.le_trans g.ext.size x.size,fun b o e hb=>by
    obtain ⟨o',e',m⟩:=g.ext.keep b o e hb; obtain ⟨o'',e'',m'⟩:=x.keep b o' e' fun hy=>absurd (Heap.lt_size e) (Nat.not_lt.mpr (h b hy))
    exact ⟨o'',e'',m.trans m'⟩,x.gens.trans g.ext.gens,x.os.trans g.ext.os⟩⟩
theorem ia.at {B:Nat} {ι':Ad} {s':Shared} (g:ia B env ι s ι' s') {I:Addr} {o:Obj} (h1:I ∉ br ι) (h2:I ∉ b7 env) (e:s.heap.get? I=some o) (hc:o.cls≠.type "frame"):s'.heap.get? I=some o :=
  g.ext.get e (fun hm=>(List.mem_append.mp hm).elim h1 h2) hc
theorem eY.dY {o:Obj} (g:eY o):o.cls≠.type "frame" := by
  obtain ⟨_,h | h | h | h | h⟩:=g <;> rw [h] <;> exact not_eq_of_beq_eq_false rfl
theorem dD.moved {ι':Ad} {s':Shared} {x:D} {v:Value} {i:Nat} {I:Addr} {B:Nat} (a:dD x v i I s.heap) (g:ia B env ι s ι' s') (h1:I ∉ br ι) (h2:I ∉ b7 env):dD x v i I s'.heap:=by
  obtain ⟨o,ho,gd⟩:=a.odd; exact a.keep fun o' e=>g.at h1 h2 e (by rw [ho] at e; cases e; exact gd.dY)
theorem VR.Gy {ι':Ad} {s':Shared} {x:D} {v:Value} {B:Nat} (h:VR s.heap ι X x v) (g:ia B env ι s ι' s') (ho:∀ a∈b7 env,a∈X):VR s'.heap ι' X x v :=
  VR.eF g.book g.ext (fun a ha=>(List.mem_append.mp ha).elim .inl fun h=>.inr (ho a h)) h
noncomputable def LR (C:Cx) (d:Nat) (A:Around) (env:Env) (ι:Ad) (X:List Addr) (s:Shared) (Q:Fl→Loc→List O→Prop) (r:Result) (s':Shared):Prop:=match r with
  | .ok f=>SP C d A env ι X s Q f s'
  | .error e=>cameBackBy C.M A env (fun _ _=>False) e s'
inductive FI (C:Cx) (d:Nat) (A:Around) (env:Env) (N X:List Addr) (ι:Ad) (s:Shared) (K:List D) (F:List D→Loc→List O→Prop) (T:Ad→Nat→Heap→Prop) (n:Nat) (s':Shared):Prop
  | mk (i:Nat) (ρ':Loc) (H':List O) (ι':Ad) (hn:n=K.length+1 - i) (hi:i≤K.length) (hf:F (K.drop i) ρ' H') (S:St C d A env ρ' H' ι' (N++X) s') (ha:T ι' i s'.heap) (g:ia C.B env ι s ι' s')
inductive Hw (C:Cx) (K:List D) (N X:List Addr) (I:Addr) (T:Ad→Nat→Heap→Prop) (i:Nat) (ι':Ad) (s':Shared) (r:Option Value) (s₃:Shared):Prop
  | stop (hr:r=none) (hi:i=K.length) (x:Ext C.B [I] s' s₃) (ht:C.t0≤s₃.toks)
  | item (u:Value) (y:D) (hr:r=some u) (hy:K[i]?=some y) (x:Ext C.B [I] s' s₃) (ht:C.t0≤s₃.toks) (ha:T ι' (i+1) s₃.heap) (hv:VR s₃.heap ι' (N++X) y u)
theorem EX.vU {t:Expr} {b:List Stmt} {Q:Fl→Loc→List O→Prop} {src:D} {a0 K:List D} {N:List Addr} {I:Addr} {T:Ad→Nat→Heap→Prop} (S:St C d A env ρ H ι X s) (hIN:I∈N) (hN:∀ b∈N,s.heap.objs.size≤b)
    (good:∀ {ι' i h},T ι' i h→∃ o,h.get? I=some o∧eY o)
    (step:∀ {i ρ' H' ι' s'},i≤K.length→FT C d env src a0 t b Q (K.drop i) ρ' H'→St C d A env ρ' H' ι' (N++X) s'→T ι' i s'.heap→wpAny C.M A (pyNext (.ref I)) (fun r s₃=>C.t0≤s₃.toks→Hw C K N X I T i ι' s' r s₃) (fun _ s₃=>C.t0≤s₃.toks→False) s')
    (keep:∀ {i ι' s₃ ι₅ s₅},T ι' i s₃.heap→ia C.B env ι' s₃ ι₅ s₅→(∀ b∈N,b ∉ br ι')→(∀ b∈N,b ∉ b7 env)→(∀ a∈b7 env,a∈N++X)→T ι₅ i s₅.heap)
    {ρ₁:Loc} {H₁:List O} {ι₁:Ad} {s₁:Shared} (ft:FT C d env src a0 t b Q K ρ₁ H₁) (S₁:St C d A env ρ₁ H₁ ι₁ (N++X) s₁) (h0:T ι₁ 0 s₁.heap) (g₁:ia C.B env ι s ι₁ s₁):codeAny C.M A (.forLoop t (.ref I) b [] env) (LR C d A env ι X s Q) s₁:=by
  refine pH (FI C d A env N X ι s K (FT C d env src a0 t b Q) T) ?_ (K.length+1) ⟨0,ρ₁,H₁,ι₁,rfl,Nat.zero_le _,ft,S₁,h0,g₁⟩; rintro n s' ⟨i,ρ',H',ι',rfl,hi,ft',S',ha',g'⟩; obtain ⟨oI,hoI,gdI⟩:=good ha'; have hIX:I∈N++X:=List.mem_append_left _ hIN; have hfresh:∀ a∈[I],s.heap.objs.size≤a:=fun a h=>by refine rl (List.mem_singleton.mp h) ?_; exact hN I hIN
  have hsub:∀ a∈X,a∈N++X:=fun a h=>List.mem_append_right _ h; refine wpAny_mono (wpAny_with_toks S'.toks (step hi ft' S' ha')) (fun r s₃ q=>?_) zz
  cases q with
  | stop hr hil x3 ht =>
    rw [hil,List.drop_length] at ft'; refine rl hr ?_; exact ⟨.next,ρ',H',ι',ft'.2,S.narrow (S'.turn hIX hoI (.fields gdI.1.choose_spec) x3 ht) hsub,rfl,g'.less x3 hfresh⟩
  | item u y hr hy x3 ht ha3 vu =>
    refine rl hr ?_; have hlt:i < K.length:=(List.getElem?_eq_some_iff.mp hy).1; rw [List.drop_eq_getElem_cons hlt,(List.getElem?_eq_some_iff.mp hy).2] at ft'; have S3:=S'.turn hIX hoI (.fields gdI.1.choose_spec) x3 ht; refine ⟨good ha3,wpAny_mono (ft'.2 A s₃ ι' (N++X) u S3 vu) (fun _ s₄ q=>?_) zz⟩; obtain ⟨ρ₄,hb,S4,g4⟩:=q; refine j9 (hb A s₄ ι' (N++X) S4) (fun f s₅ fl ρ₅ H₅ ι₅ hq S5 hr g5=>?_) zz; have g45:=g4.trans g5; have gall:ia C.B env ι s ι₅ s₅:=(g'.less x3 hfresh).trans g45; have hm:=GX hlt; have hnx:FT C d env src a0 t b Q (K.drop (i+1)) ρ₅ H₅→∃ m,m < K.length+1 - i∧FI C d A env N X ι s K (FT C d env src a0 t b Q) T m s₅:=fun hft=>⟨_,hm,i+1,ρ₅,H₅,ι₅,rfl,hlt,hft,S5,keep ha3 g45 (fun b hb hm=>S3.iR b hm (List.mem_append_left _ hb)) (fun b hb hm=>absurd (S.xs b (S.own b hm)).2 (Nat.not_lt.mpr (hN b hb)):∀ b∈N,b ∉ b7 env) S4.own,gall⟩
    cases fl with
    | next=>cases (show f = .next from hr); exact hnx hq
    | cont=>cases (show f = .cont from hr); exact hnx hq
    | brk=>cases (show f = .brk from hr); exact ⟨.next,ρ₅,H₅,ι₅,hq,S.narrow S5 hsub,rfl,gall⟩
    | ret z=>obtain ⟨w,rfl,hw⟩:=hr; exact ⟨.ret z,ρ₅,H₅,ι₅,hq,S.narrow S5 hsub,⟨w,rfl,VR.aR (fun a h=>.inl (hsub a h)) hw⟩,gall⟩
inductive forR (C:Cx) (d:Nat) (env:Env) (t:Expr) (b:List Stmt) (Q:Fl→Loc→List O→Prop) (ρ:Loc) (x:D) (H':List O):Prop
  | mk (all:List D) (i:dm x all) (h:FT C d env x all t b Q all ρ H')
theorem EX.for {t iter:Expr} {b:List Stmt} {pos:Pos} {Q:Fl→Loc→List O→Prop} (hs:∀ x,foldedSetIterable iter env x=pure x)
    (h:EV C d env ρ H iter (forR C d env t b Q ρ)):EX C d env ρ H (.For t iter b [] pos) Q:=fun A s ι X S=>by
  refine wpAny_For (aC (h A s ι X S) (fun v s₁ x H₁ ι₁ q3_ S₁ v₁ g₁=>?_) zz) hs; obtain ⟨all,it,ft⟩:=q3_; have k:lE x all H₁:=by cases all <;> exact ft.1
  refine wpAny_mono (kO it k S₁ v₁) (fun w s₂ q=>?_) zz; obtain ⟨o,rfl,rfl,ha⟩:=q; have hIlt:s₁.heap.objs.size < (s₁.heap.push o).objs.size:=by rw [Heap.size_push]; exact Nat.lt_succ_self _
  have hN:∀ a∈[s₁.heap.objs.size],s₁.heap.objs.size≤a∧a < (s₁.heap.push o).objs.size:=fun a h=>by refine rl (List.mem_singleton.mp h) ?_; exact ⟨Nat.le_refl _,hIlt⟩
  have S₂:St C d A env ρ H₁ ι₁ ([s₁.heap.objs.size]++X) { s₁ with heap:=s₁.heap.push o }:=S₁.widen .push S₁.toks hN
  have v₂:VR (s₁.heap.push o) ι₁ ([s₁.heap.objs.size]++X) x v:=by
    have g:Gr C.B ι₁ s₁ ι₁ { s₁ with heap:=s₁.heap.push o }:=.aB .push; refine VR.gr g (VR.aR (fun a ha=>?_) v₁); rcases List.mem_append.mp ha with h | h
    · exact .inr (hN a h).1
    exact .inl h
  refine EX.vU (T:=fun ι' i h=>VR h ι' ([s₁.heap.objs.size]++X) x v∧dD x v i s₁.heap.objs.size h) S (.head _) (fun b hb=>by refine rl (List.mem_singleton.mp hb) ?_; exact g₁.ext.size) (fun h=>h.2.odd) (fun {i ρ' H' ι' s'} hi ft' S' ha'=>?_)
    (fun ha g h1 h2 h3=>⟨VR.Gy ha.1 g h3,ha.2.moved g (h1 _ (.head _)) (h2 _ (.head _))⟩) ft S₂ ⟨v₂,ha⟩ (g₁.e.less (Y:=[]) .push bu)
  have k:lE x all H':=by cases hd:all.drop i <;> rw [hd] at ft' <;> exact ft'.1
  cases hd:all[i]? with
  | none =>
    have hil:i=all.length:=Nat.le_antisymm hi (List.getElem?_eq_none_iff.mp hd); refine wpAny_mono (kQ it k S' ha'.1 ha'.2 hil) (fun r s₃ q ht=>?_) fun _ _ z _=>z; exact .stop q.1 hil q.2 ht
  | some y =>
    refine wpAny_mono (gv it k S' ha'.1 (.head _) ha'.2 hd) (fun rr s₃ q ht=>?_) fun _ _ z _=>z; obtain ⟨u,rfl,x3,ha3,vu⟩:=q; exact .item u y rfl hd x3 ht ⟨VR.eF aW x3 (fun a h=>.inr (List.mem_append_left _ h):∀ a∈[s₁.heap.objs.size],a∈br ι' ∨ a∈[s₁.heap.objs.size]++X) ha'.1,ha3⟩ vu
inductive WI (C:Cx) (d:Nat) (A:Around) (env:Env) (X:List Addr) (ι:Ad) (s:Shared) (Inv:Nat→Loc→List O→Prop) (n:Nat) (s':Shared):Prop
  | mk (ρ':Loc) (H':List O) (ι':Ad) (hI:Inv n ρ' H') (S:St C d A env ρ' H' ι' X s') (g:ia C.B env ι s ι' s')
theorem EX.while {t:Expr} {b:List Stmt} {pos:Pos} {Q:Fl→Loc→List O→Prop} (Inv:Nat→Loc→List O→Prop)
    (turn:∀ n ρ H,Inv n ρ H→TV C d env ρ H t fun c H₁=>if c=true then aa C d env ρ H₁ b (GU (EZ Inv n) Q) else Q .next ρ H₁)
    (n:Nat) (h:Inv n ρ H):EX C d env ρ H (.While t b [] pos) Q:=fun A s ι X S=>by
  refine wpAny_While (codeAny_whileLoop (R:=LR C d A env ι X s Q) (WI C d A env X ι s Inv) ?_ n ⟨ρ,H,ι,h,S,.refl⟩); rintro n s' ⟨ρ',H',ι',hI,S',g'⟩; refine aC (turn n ρ' H' hI A s' ι' X S') (fun c s₂ c' H₂ ι₂ hq S₂ hb g₂=>?_) zz; cases (show c=c' from hb); have g2:=g'.trans (g₂.e (env:=env))
  cases c with
  | true =>
    refine j9 (hq A s₂ ι₂ X S₂) (fun f s₃ fl ρ₃ H₃ ι₃ hq₃ S₃ hr g₃=>?_) zz; have g3:=g2.trans g₃
    cases fl with
    | next=>cases (show f = .next from hr); obtain ⟨m,hm,hI'⟩:=hq₃; exact ⟨m,hm,ρ₃,H₃,ι₃,hI',S₃,g3⟩
    | cont=>cases (show f = .cont from hr); obtain ⟨m,hm,hI'⟩:=hq₃; exact ⟨m,hm,ρ₃,H₃,ι₃,hI',S₃,g3⟩
    | brk=>cases (show f = .brk from hr); exact ⟨.next,ρ₃,H₃,ι₃,hq₃,S₃,rfl,g3⟩
    | ret z=>obtain ⟨w,rfl,hw⟩:=hr; exact ⟨.ret z,ρ₃,H₃,ι₃,hq₃,S₃,⟨w,rfl,hw⟩,g3⟩
  | false=>exact wpAny_execs_nil ⟨.next,ρ',H₂,ι₂,hq,S₂,rfl,g2⟩
end
section
variable {C:Cx} {d:Nat} {A:Around} {env:Env} {ρ:Loc} {H:List O} {ι:Ad} {X:List Addr} {s:Shared}
noncomputable def ir (t iter:Expr) (ifs:List Expr) (it:Value) (env:Env) (rest nx:Sem Fin):Sem Fin:=do
  standAt iter.pos
  match ← pyNext it with
  | none=>pure (.done .next)
  | some v =>
    letOwnedTupleGo t it v
    assign t env v
    let ok ← forIn ifs true (fun c r=>if r=true then do let ok ← isTrue c env (eval c env); pure (ForInStep.yield ok) else pure (ForInStep.yield r))
    if ok then rest else nx
theorem lJ {elt:Expr} {gens:List Comprehension} {scope:Scope} {pos:Pos} {k:Nat} {it acc:Value} {env:Env} {t iter:Expr} {ifs:List Expr} (hk:gens[k]?=some ⟨t,iter,ifs,0⟩) (hk':gens[k+1]?=none) :
    compTurn (.ListComp elt gens scope pos) k it acc env=ir t iter ifs it env
      (do
        (do let _ ← call (.builtin "list.append") [acc,← eval elt env])
        again (.compLoop (.ListComp elt gens scope pos) k it acc env))
      (again (.compLoop (.ListComp elt gens scope pos) k it acc env)):=by
  unfold compTurn; simp only [hk,hk']; rfl
theorem lI {elt:Expr} {gens:List Comprehension} {scope:Scope} {pos:Pos} {k:Nat} {it acc:Value} {env:Env} {t iter t' iter':Expr} {ifs ifs':List Expr} (hk:gens[k]?=some ⟨t,iter,ifs,0⟩) (hk':gens[k+1]?=some ⟨t',iter',ifs',0⟩) :
    compTurn (.ListComp elt gens scope pos) k it acc env=ir t iter ifs it env
      (do
        let x ← eval iter' env
        standAt iter'.pos
        let x ← foldedSetIterable iter' env x
        let _ ← runOwn (.compStart (.ListComp elt gens scope pos) (k+1) (← holding [x] (pyIter x)) acc env) env
        again (.compLoop (.ListComp elt gens scope pos) k it acc env))
      (again (.compLoop (.ListComp elt gens scope pos) k it acc env)):=by
  unfold compTurn; simp only [hk,hk']; rfl
theorem iS {R:Result→Shared→Prop} {elt:Expr} {gens:List Comprehension} {scope:Scope} {pos:Pos} {k:Nat} {I:Addr} {acc:Value} {env:Env} {t iter:Expr} {ifs:List Expr} (hk:gens[k]?=some ⟨t,iter,ifs,0⟩)
    (hit:∀ (E:Value→Shared→Prop) (Q:Value→Shared→Prop),Q (.ref I) s→wpAny C.M A (pyIter (.ref I)) Q E s)
    (h:codeAny C.M A (.compLoop (.ListComp elt gens scope pos) k (.ref I) acc env) R s):codeAny C.M A (.compStart (.ListComp elt gens scope pos) k (.ref I) acc env) R s:=by
  refine codeAny_of_tree ?_; show wpAny _ _ ((compStart (.ListComp elt gens scope pos) k (.ref I) acc env).onRaise (fun x=>do noteFrame x env; standAt theWindowsPlace)) _ _ s; refine wpAny_notedAt ?_; unfold compStart; refine rl (show clausesOf (.ListComp elt gens scope pos)=gens from rfl) ?_; simp only [hk]; refine wpAny_bind (wpAny_askSetting (wpAny_ite ?_)); split
  · first
      | exact wpAny_bind (wpAny_pure (wpAny_pure (And.intro rfl h)))
      | exact wpAny_pure (And.intro rfl h)
  first
    | exact wpAny_bind (wpAny_rule (wpAny_bind (wpAny_standAt (wpAny_bind (hit _ _ (wpAny_pure (And.intro rfl h)))))))
    | (refine wpAny_bind (wpAny_rule ?_); show wpAny _ _ (standAt iter.pos >>= _) _ _ s; exact wpAny_bind (wpAny_standAt (wpAny_bind (hit _ _ (wpAny_pure (And.intro rfl h))))))
end
structure eK (B:Nat) (Y:List Addr) (ι:Ad) (s:Shared) (ι':Ad) (s':Shared):Prop where
  book:∃ κ,ι'=ι++κ∧∀ a∈br κ,s.heap.objs.size≤a
  ext:Ext B (br ι++Y) s s'
section
variable {B:Nat} {Y Z:List Addr} {ι ι' ι'':Ad} {s s' s'':Shared}
theorem Gr.y (g:Gr B ι s ι' s'):eK B Y ι s ι' s':=⟨g.book,g.ext.mono fun _ h=>List.mem_append_left _ h⟩
theorem eK.refl:eK B Y ι s ι s:=Gr.refl.y
theorem eK.mono (g:eK B Y ι s ι' s') (h:∀ a∈Y,a∈Z):eK B Z ι s ι' s':=⟨g.book,g.ext.mono fun a ha=>by
  rcases List.mem_append.mp ha with q | q
  · exact List.mem_append_left _ q
  exact List.mem_append_right _ (h a q)⟩
theorem eK.aB (x:Ext B Y s s'):eK B Y ι s ι s':=⟨aW,x.mono fun _ h=>List.mem_append_right _ h⟩
theorem eK.trans (x:eK B Y ι s ι' s') (y:eK B Y ι' s' ι'' s''):eK B Y ι s ι'' s'':=by
  obtain ⟨⟨κ,rfl,hκ⟩,e⟩:=x; obtain ⟨⟨κ',rfl,hκ'⟩,e'⟩:=y; refine ⟨⟨κ++κ',by exact List.append_assoc ι κ κ',fun a ha=>?_⟩,⟨Nat.le_trans e.size e'.size,fun b o h hb=>?_,e'.gens.trans e.gens,e'.os.trans e.os⟩⟩
  · rw [bD] at ha
    rcases List.mem_append.mp ha with h | h
    · exact hκ a h
    exact Nat.le_trans e.size (hκ' a h)
  obtain ⟨o',h',m⟩:=e.keep b o h hb
  have:b ∉ br (ι++κ)++Y:=by
    rw [bD,List.append_assoc]; intro hm; rcases List.mem_append.mp hm with q | q
    · exact hb (List.mem_append_left _ q)
    rcases List.mem_append.mp q with q | q
    · exact absurd (Heap.lt_size h) (Nat.not_lt.mpr (hκ b q))
    exact hb (List.mem_append_right _ q)
  obtain ⟨o'',h'',m'⟩:=e'.keep b o' h' this; exact ⟨o'',h'',m.trans m'⟩
theorem eK.less (g:eK B Y ι s ι' s') (h:∀ a∈Y,a∈Z ∨ s.heap.objs.size≤a):eK B Z ι s ι' s':=⟨g.book,g.ext.less fun a ha=>by
  rcases List.mem_append.mp ha with q | q
  · exact .inl (List.mem_append_left _ q)
  rcases h a q with q | q
  · exact .inl (List.mem_append_right _ q)
  exact .inr q⟩
theorem eK.gr (g:eK B Y ι s ι' s') (h:∀ a∈Y,s.heap.objs.size≤a):Gr B ι s ι' s':=by
  have:=g.less (Z:=[]) fun a ha=>.inr (h a ha); exact ⟨this.book,this.ext.mono fun a ha=>by simpa using ha⟩
theorem eK.at {Y:List Addr} (g:eK B Y ι s ι' s') {I:Addr} {o:Obj} (h1:I ∉ br ι) (h2:I ∉ Y) (e:s.heap.get? I=some o) (hc:o.cls≠.type "frame"):s'.heap.get? I=some o :=
  g.ext.get e (fun hm=>(List.mem_append.mp hm).elim h1 h2) hc
theorem VR.yx {X:List Addr} {x:D} {v:Value} (h:VR s.heap ι X x v) (g:eK B Y ι s ι' s') (hY:∀ a∈Y,a∈X):VR s'.heap ι' X x v :=
  VR.eF g.book g.ext (fun a ha=>(List.mem_append.mp ha).elim .inl fun h=>.inr (hY a h)) h
theorem aE.yx {X:List Addr} {x:List D} {v:List Value} (h:aE s.heap ι X x v) (g:eK B Y ι s ι' s') (hY:∀ a∈Y,a∈X):aE s'.heap ι' X x v :=
  aE.eF g.book g.ext (fun a ha=>(List.mem_append.mp ha).elim .inl fun h=>.inr (hY a h)) h
end
noncomputable def AccAt (h:Heap) (ι:Ad) (X:List Addr) (a:Addr) (acc:List D):Prop:=∃ vs n,h.get? a=some (aA vs n)∧vs.length≤sizeLine∧aE h ι X acc vs
section
variable {C:Cx} {d:Nat} {A:Around} {env:Env} {ρ:Loc} {H:List O} {ι:Ad} {X:List Addr} {s:Shared}
theorem St.sub {ρ':Loc} (S:St C d A env ρ H ι X s) (h:∀ x e,ρ'.lookup x=some e→ρ.lookup x=some e):St C d A env ρ' H ι X s :=
  ⟨S.room,S.bR,S.base,S.big,S.gens,S.os,S.xs,S.is,S.nd,S.iR,fun x e hx=>S.loc x e (h x e hx),S.objs,S.ns,S.cells,S.frs,S.toks⟩
theorem St.unset {x:Str} {e:D} (S:St C d A env (aQ x e ρ) H ι X s) (h:ρ.lookup x=none):St C d A env ρ H ι X s :=
  S.sub fun y f hy=>by
    rw [bB]
    by_cases q:y=x
    · subst q; rw [h] at hy; cases hy
    rw [if_neg q]; exact hy
noncomputable def tests (C:Cx) (d:Nat) (env:Env) (ρ:Loc):List Expr→List O→(Bool→List O→Prop)→Prop
  | [],H,Q=>Q true H
  | c::r,H,Q=>TV C d env ρ H c fun b H'=>if b=true then tests C d env ρ r H' Q else Q false H'
theorem jT {C:Cx} {d:Nat} {env:Env} {ρ:Loc} {H:List O} {Q:Bool→List O→Prop}:tests C d env ρ [] H Q=Q true H:=rfl
theorem xF {C:Cx} {d:Nat} {env:Env} {ρ:Loc} {c:Expr} {r:List Expr} {H:List O} {Q:Bool→List O→Prop}:tests C d env ρ (c::r) H Q=TV C d env ρ H c fun b H'=>if b=true then tests C d env ρ r H' Q else Q false H':=rfl
noncomputable def rY (env:Env) (c:Expr) (r:Bool):Sem (ForInStep Bool):=if r=true then do let ok ← isTrue c env (eval c env); pure (ForInStep.yield ok) else pure (ForInStep.yield r)
theorem jr {M:Model} {E:Value→Shared→Prop} {Q:Bool→Shared→Prop} (h:Q false s):∀ ifs:List Expr,wpAny M A (forIn ifs false (rY env)) Q E s
  | []=>by refine rl List.forIn_nil ?_; exact wpAny_pure h
  | c::r=>by rw [List.forIn_cons]; exact wpAny_bind (wpAny_pure (jr h r))
theorem lV:∀ (ifs:List Expr) (H:List O) (s:Shared) (ι:Ad) (T:Bool→List O→Prop),St C d A env ρ H ι X s→tests C d env ρ ifs H T →
    wpAny C.M A (forIn ifs true (rY env)) (xq C d A env ρ ι X s T) (fun _ _=>False) s
  | [],H,s,ι,T,S,h=>by refine rl List.forIn_nil ?_; exact wpAny_pure ⟨true,H,ι,h,S,rfl,.refl⟩
  | c::r,H,s,ι,T,S,h=>by
    rw [List.forIn_cons]; refine wpAny_bind ?_; refine wpAny_bind (wpAny_mono (h A s ι X S) (fun b s₁ p=>wpAny_pure ?_) zz); obtain ⟨b',H₁,ι₁,hq,S₁,hb,g₁⟩:=p; cases (show b=b' from hb)
    cases b with
    | true=>exact wpAny_mono (lV r H₁ s₁ ι₁ T S₁ hq) (fun _ _ p=>p.back g₁) zz
    | false=>exact jr ⟨false,H₁,ι₁,hq,S₁,rfl,g₁⟩ r
noncomputable def turns (C:Cx) (d:Nat) (env:Env) (x:Str) (ifs:List Expr) (body:Loc→List D→List O→(List D→List O→Prop)→Prop) (ρ:Loc) (src:D) (all:List D):List D→List D→List O→(List D→List O→Prop)→Prop
  | [],acc,H,Q=>lE src all H∧Q acc H
  | y::r,acc,H,Q=>lE src all H∧tests C d env (aQ x y ρ) ifs H fun ok H'=>if ok=true then body (aQ x y ρ) acc H' fun acc' H''=>turns C d env x ifs body ρ src all r acc' H'' Q else turns C d env x ifs body ρ src all r acc H' Q
noncomputable def gH (e:Expr):Str:=if h:e.ctorIdx=23 then Expr.Name.elim (motive_1:=fun _=>Str) e h (fun x _=>x) else ""
noncomputable def CG (C:Cx) (d:Nat) (env:Env) (elt:Expr):List Comprehension→Loc→List D→List O→(List D→List O→Prop)→Prop
  | [],ρ,acc,H,Q=>EV C d env ρ H elt fun y H'=>acc.length < sizeLine∧Q (acc++[y]) H'
  | g::gs,ρ,acc,H,Q=>EV C d env ρ H g.iter fun src H'=>∃ all,dm src all∧turns C d env (gH g.target) g.ifs (CG C d env elt gs) ρ src all all acc H' Q
theorem AL {C:Cx} {d:Nat} {env:Env} {elt:Expr} {ρ:Loc} {acc:List D} {H:List O} {Q:List D→List O→Prop}:CG C d env elt [] ρ acc H Q=EV C d env ρ H elt fun y H'=>acc.length < sizeLine∧Q (acc++[y]) H':=rfl
noncomputable def G7 (env:Env) (g:Comprehension):Prop:=(∃ x p iter ifs,g=⟨.Name x p,iter,ifs,0⟩∧env.kindOf x=some .local)∧∀ v,foldedSetIterable g.iter env v=pure v
theorem rK {Da:Addr} {acc:List D} {y:D} {u:Value} {Q:Value→Shared→Prop} (S:St C d A env ρ H ι X s) (hD:Da∈X) (ac:AccAt s.heap ι X Da acc) (hv:VR s.heap ι X y u) (hl:acc.length < sizeLine)
    (h:∀ s',St C d A env ρ H ι X s'→Ext C.B [Da] s s'→AccAt s'.heap ι X Da (acc++[y])→Q .none s'):wpAny C.M A (call (.builtin "list.append") [.ref Da,u]) Q (fun _ _=>False) s:=by
  obtain ⟨vs,n,e,hvl,r⟩:=ac; refine wpAny_list_append_plain (hsz:=by refine rl List.size_toArray (rl r.length ?_); exact z6 hl) ⟨n,e⟩ fun h' hp hs=>?_; have x1:Ext C.B [Da] s { s with heap:=h' }:=Ext.gI (t:=s.toks) hs; obtain ⟨n',e'⟩:=hp; have hY:∀ a∈[Da],a∈br ι ∨ a∈X:=fun a h=>by refine rl (List.mem_singleton.mp h) ?_; exact .inr hD
  exact h _ (S.turn hD e (.seq rfl) x1 S.toks) x1 ⟨vs++[u],n',by simpa [aA] using e',by refine rl List.length_append (rl List.length_singleton (rl r.length ?_)); exact xY hl,aE.eF aW x1 hY (r.append (.aH hv .bJ))⟩
theorem AccAt.yx {B:Nat} {Y:List Addr} {ι':Ad} {s':Shared} {Da:Addr} {acc:List D} (a:AccAt s.heap ι X Da acc) (g:eK B Y ι s ι' s') (h1:Da ∉ br ι) (h2:Da ∉ Y) (hY:∀ a∈Y,a∈X):AccAt s'.heap ι' X Da acc:=by
  obtain ⟨vs,n,e,hvl,r⟩:=a; exact ⟨vs,n,g.at h1 h2 e fR,hvl,aE.yx r g hY⟩
theorem dD.again {A':Around} {x:D} {v:Value} {i:Nat} {I:Addr} (a:dD x v i I s.heap) (E:Value→Shared→Prop) (Q:Value→Shared→Prop) (h:Q (.ref I) s):wpAny C.M A' (pyIter (.ref I)) Q E s:=by
  cases x with
  | list _=>obtain ⟨a,_,hit⟩:=a; exact wpAny_pyIter_listiter hit h
  | obj _=>obtain ⟨a,_,hit⟩:=a; exact wpAny_pyIter_listiter hit h
  | str _ =>
    obtain ⟨ty,t,_,ht,hit⟩:=a; rcases ht with rfl | rfl
    · exact wpAny_pyIter_striter_ascii hit h
    exact wpAny_pyIter_striter_wide hit h
  | imm _=>obtain ⟨a,b,n,t,u,w,_,_,hit⟩:=a; exact wpAny_pyIter_rangeiter hit h
  | _=>exact a.elim
theorem kP {A':Around} {x:D} {all:List D} {v:Value} {Q:Value→Shared→Prop} (it:dm x all) (k:lE x all H) (S:St C d A env ρ H ι X s) (hv:VR s.heap ι X x v)
    (h:∀ I s',s.heap.objs.size≤I→Ext C.B [] s s'→St C d A env ρ H ι ([I]++X) s'→VR s'.heap ι ([I]++X) x v→dD x v 0 I s'.heap→Q (.ref I) s'):wpAny C.M A' (pyIter v) Q (fun _ _=>False) s:=by
  refine wpAny_mono (kO it k S hv) (fun w s₂ q=>?_) zz; obtain ⟨o,rfl,rfl,ha⟩:=q; have hN:∀ a∈[s.heap.objs.size],s.heap.objs.size≤a∧a < (s.heap.push o).objs.size:=fun a h=>by rw [List.mem_singleton.mp h,Heap.size_push]; exact ⟨Nat.le_refl _,Nat.lt_succ_self _⟩
  refine h _ _ (Nat.le_refl _) .push (S.widen .push S.toks hN) ?_ ha; have g:Gr C.B ι s ι { s with heap:=s.heap.push o }:=.aB .push; refine VR.gr g (VR.aR (fun a ha=>?_) hv); rcases List.mem_append.mp ha with h | h
  · exact .inr (hN a h).1
  exact .inl h
theorem uQ {t iter:Expr} {ifs:List Expr} {I:Addr} {rest nx:Sem Fin} {F:Fin→Shared→Prop} {x:Str} {p:Pos} {src:D} {all:List D} {v:Value} {i:Nat}
    (ht:t = .Name x p) (hx:env.kindOf x=some .local) (it:dm src all) (k:lE src all H) (S:St C d A env ρ H ι X s) (hI:I∈X) (hv:VR s.heap ι X src v) (ha:dD src v i I s.heap) (hIl:I≠env.locals) (hi:i≤all.length)
    (hd:∀ s',all.drop i=[]→St C d A env ρ H ι X s'→Ext C.B [I] s s'→F (.done .next) s')
    (hr:∀ y r,all.drop i=y::r→∃ T,tests C d env (aQ x y ρ) ifs H T∧∀ ok H' ι' s',T ok H'→St C d A env (aQ x y ρ) H' ι' X s'→dD src v (i+1) I s'.heap→eK C.B [env.locals,I] ι s ι' s' →
      if ok=true then wpAny C.M A rest F (fun _ _=>False) s' else wpAny C.M A nx F (fun _ _=>False) s'):wpAny C.M A (ir t iter ifs (.ref I) env rest nx) F (fun _ _=>False) s:=by
  subst ht; obtain ⟨oI,hoI,gdI⟩:=ha.odd; refine wpAny_bind (wpAny_standAt (wpAny_bind ?_))
  cases hdr:all.drop i with
  | nil =>
    have hil:all.length≤i:=by
      have:=congrArg List.length hdr; simp at this; exact CY this
    refine wpAny_mono (wpAny_toks_of S.toks (kQ it k S hv ha (by exact CX hi hil))) (fun r s₃ q=>?_) fun _ _ z=>z.2; obtain ⟨ht,rfl,x3⟩:=q; exact wpAny_pure (hd _ hdr (S.turn hI hoI (.fields gdI.1.choose_spec) x3 ht) x3)
  | cons y r =>
    have hy:all[i]?=some y:=by
      have:(all.drop i)[0]?=some y:=by refine rl hdr ?_; rfl
      rw [List.getElem?_drop] at this; simpa using this
    obtain ⟨T,ht,hr⟩:=hr y r hdr; refine wpAny_mono (wpAny_toks_of S.toks (gv it k S hv hI ha hy)) (fun rr s₃ q=>?_) fun _ _ z=>z.2; obtain ⟨htk,u,rfl,x3,ha3,vu⟩:=q; obtain ⟨o3,ho3,gd3⟩:=ha3.odd; refine wpAny_bind (letGo ho3 gd3 (wpAny_bind (wpAny_assign_Name (wpAny_mono (i7 (S.turn hI hoI (.fields gdI.1.choose_spec) x3 htk) vu (by unfold binds; refine rl hx ?_; rfl)) (fun _ s₄ q=>?_) zz)))); obtain ⟨S4,_,x4⟩:=q; have x4:=x4 hx; refine wpAny_bind (aC (lV ifs H s₄ ι T S4 ht) (fun ok s₅ ok' H₅ ι₅ hq S5 hb g5=>?_) zz); cases (show ok=ok' from hb); have ha4:dD src v (i+1) I s₄.heap:=ha3.keep fun o e=>x4.get e (by simpa using hIl) (by rw [ho3] at e; cases e; exact gd3.dY)
    have ha5:dD src v (i+1) I s₅.heap:=by
      obtain ⟨o4,ho4,gd4⟩:=ha4.odd; exact ha4.keep fun o e=>g5.ext.get e (fun hm=>S4.iR I hm hI) (by rw [ho4] at e; cases e; exact gd4.dY)
    have:=hr ok H₅ ι₅ s₅ hq S5 ha5 (((eK.aB x3).mono (by simp)).trans (((eK.aB x4).mono (by simp)).trans g5.y)); cases ok <;> exact this
end
section
variable {C:Cx} {d:Nat} {A:Around} {env:Env}
inductive G0 (C:Cx) (d:Nat) (A:Around) (env:Env) (ρ:Loc) (Da:Addr) (Y X:List Addr) (ι:Ad) (s:Shared) (Q:List D→List O→Prop) (f:Flow) (s':Shared):Prop
  | mk (hf:f = .next) (acc:List D) (H:List O) (ι':Ad) (hq:Q acc H) (S:St C d A env ρ H ι' X s') (ac:AccAt s'.heap ι' X Da acc) (g:eK C.B Y ι s ι' s')
noncomputable def LP (C:Cx) (d:Nat) (A:Around) (env:Env) (ρ:Loc) (Da:Addr) (Y X:List Addr) (ι:Ad) (s:Shared) (Q:List D→List O→Prop) (r:Result) (s':Shared):Prop :=
  match r with
  | .ok f=>G0 C d A env ρ Da Y X ι s Q f s'
  | .error _=>False
inductive LI (C:Cx) (d:Nat) (A:Around) (env:Env) (x:Str) (ifs:List Expr) (cg:Loc→List D→List O→(List D→List O→Prop)→Prop) (ρ:Loc) (src:D) (all:List D) (v:Value) (I Da:Addr) (X:List Addr) (ι:Ad) (s:Shared) (Q:List D→List O→Prop) (n:Nat) (s':Shared):Prop
  | mk (i:Nat) (acc:List D) (H:List O) (ι':Ad) (hn:n=all.length+1 - i) (hi:i≤all.length) (ht:turns C d env x ifs cg ρ src all (all.drop i) acc H Q) (S:St C d A env ρ H ι' X s') (hv:VR s'.heap ι' X src v) (ha:dD src v i I s'.heap) (ac:AccAt s'.heap ι' X Da acc) (g:eK C.B [env.locals,Da,I] ι s ι' s')
noncomputable def LF (c:Code) (L:Flow→Shared→Prop) (J:Nat→Shared→Prop) (n:Nat) (fin:Fin) (s':Shared):Prop:=match fin with
  | .done f=>L f s'
  | .again c'=>c'=c∧∃ m,m < n∧J m s'
theorem F2 {a b c:Addr} {X:List Addr} (ha:a∈X) (hb:b∈X) (hc:c∈X):∀ z∈[a,b,c],z∈X:=fun z h=>by
  rcases List.mem_cons.mp h with rfl | h
  · exact ha
  rcases List.mem_cons.mp h with rfl | h
  · exact hb
  refine rl (List.mem_singleton.mp h) ?_; exact hc
theorem A0 {a b:Addr} {X:List Addr} (ha:a∈X) (hb:b∈X):∀ z∈[a,b],z∈X:=fun z h=>F2 ha hb hb z (by rcases List.mem_cons.mp h with rfl | h; exact .head _; exact .tail _ (.tail _ h))
theorem pX {elt:Expr} {gens:List Comprehension} {scope:Scope} {pos:Pos} {k:Nat} {x:Str} {p:Pos} {iter:Expr} {ifs:List Expr} {cg:Loc→List D→List O→(List D→List O→Prop)→Prop} {rest:Sem Fin} {I Da:Addr} {v:Value} {src:D} {all:List D}
    (hturn:compTurn (.ListComp elt gens scope pos) k (.ref I) (.ref Da) env=ir (.Name x p) iter ifs (.ref I) env rest (again (.compLoop (.ListComp elt gens scope pos) k (.ref I) (.ref Da) env))) (hx:env.kindOf x=some .local) (it:dm src all) {ρ:Loc} (hρx:ρ.lookup x=none) {X:List Addr} (hI:I∈X) (hD:Da∈X)
    (hbody:∀ (y:D) (acc:List D) (H:List O) (ι:Ad) (s:Shared) (Q:List D→List O→Prop) (F:Fin→Shared→Prop),cg (aQ x y ρ) acc H Q→St C d A env (aQ x y ρ) H ι X s→AccAt s.heap ι X Da acc →
      (∀ acc' H' ι' s',Q acc' H'→St C d A env (aQ x y ρ) H' ι' X s'→AccAt s'.heap ι' X Da acc'→eK C.B [env.locals,Da] ι s ι' s'→F (.again (.compLoop (.ListComp elt gens scope pos) k (.ref I) (.ref Da) env)) s')→wpAny C.M A rest F (fun _ _=>False) s)
    {Q:List D→List O→Prop} {s:Shared} {i:Nat} {acc:List D} {H:List O} {ι:Ad} (S:St C d A env ρ H ι X s) (hv:VR s.heap ι X src v) (ha:dD src v i I s.heap) (hi:i≤all.length) (ac:AccAt s.heap ι X Da acc)
    (ht:turns C d env x ifs cg ρ src all (all.drop i) acc H Q):codeAny C.M A (.compLoop (.ListComp elt gens scope pos) k (.ref I) (.ref Da) env) (LP C d A env ρ Da [env.locals,Da,I] X ι s Q) s:=by
  refine codeAny_loop rfl (LI C d A env x ifs cg ρ src all v I Da X ι s Q) ?_ (all.length+1 - i) ⟨i,acc,H,ι,rfl,hi,ht,S,hv,ha,ac,.refl⟩; rintro n s' ⟨i,acc,H,ι',rfl,hi,ht,S',hv',ha',ac',g'⟩; show wpAny _ A ((compTurn (.ListComp elt gens scope pos) k (.ref I) (.ref Da) env).onRaise (fun x=>do noteFrame x env; theTreesLotGoes x)) _ _ s'; refine wpAny_noted ?_; refine rl hturn ?_; obtain ⟨m,hm⟩:=S'.ns.2; obtain ⟨oI,hoI,gdI⟩:=ha'.odd; obtain ⟨vsD,nD,eD,_⟩:=id ac'; have hIl:I≠env.locals:=Ne.symm (se hm hoI (.fields gdI.1.choose_spec)); have hDI:Da≠I:=by rintro rfl; rw [hoI] at eD; cases eD; obtain ⟨⟨fs,hd⟩,_⟩:=gdI; cases hd
  have hY:∀ a∈[env.locals,I],a∈X:=A0 S'.ns.1 hI; have hDY:Da ∉ [env.locals,I]:=by simp [(Ne.symm (se hm eD (.seq rfl)):Da≠env.locals),hDI]
  have k':lE src all H:=by cases hd:all.drop i <;> rw [hd] at ht <;> exact ht.1
  refine wpAny_mono (uQ (F:=LF (.compLoop (.ListComp elt gens scope pos) k (.ref I) (.ref Da) env) (G0 C d A env ρ Da [env.locals,Da,I] X ι s Q) (LI C d A env x ifs cg ρ src all v I Da X ι s Q) (all.length+1 - i)) rfl hx it k' S' hI hv' ha' hIl hi ?_ ?_) (fun _ _ h=>h) zz
  · intro s₃ hd S3 x3
    rw [hd] at ht; have g3:eK C.B [env.locals,I] ι' s' ι' s₃:=(eK.aB x3).mono (by simp); exact ⟨rfl,acc,H,ι',ht.2,S3,ac'.yx g3 (fun hm=>S'.iR Da hm hD) hDY hY,g'.trans (g3.mono (by simp))⟩
  intro y r hd; rw [hd] at ht
  have hlt:i < all.length:=by
    have:=congrArg List.length hd; simp at this; exact CW hi this
  have hr:all.drop (i+1)=r:=by refine rr List.drop_drop (rl hd ?_); rfl
  refine ⟨_,ht.2,fun ok H₅ ι₅ s₅ hq S5 ha5 g5=>?_⟩; have ac5:=ac'.yx g5 (fun hm=>S'.iR Da hm hD) hDY hY; have hv5:=VR.yx hv' g5 hY; have gg:=g'.trans (g5.mono (Z:=[env.locals,Da,I]) (by simp)); have hmm:=GX hlt
  cases ok with
  | false=>exact wpAny_pure ⟨rfl,_,hmm,i+1,acc,H₅,ι₅,rfl,hlt,hr ▸ hq,S5.unset hρx,hv5,ha5,ac5,gg⟩
  | true =>
    refine hbody y acc H₅ ι₅ s₅ _ _ hq S5 ac5 fun acc₈ H₈ ι₈ s₈ hq8 S8 ac8 g8=>⟨rfl,_,hmm,i+1,acc₈,H₈,ι₈,rfl,hlt,hr ▸ hq8,S8.unset hρx,VR.yx hv5 g8 (A0 S'.ns.1 hD:∀ a∈[env.locals,Da],a∈X),?_,ac8,gg.trans (g8.mono (by simp))⟩; obtain ⟨o4,ho4,gd4⟩:=ha5.odd; exact ha5.keep fun o e=>g8.at (fun hm=>S5.iR I hm hI) (by simp [hIl,Ne.symm hDI]) e (by rw [ho4] at e; cases e; exact gd4.dY)
theorem uE {elt:Expr} {gens:List Comprehension} {scope:Scope} {pos:Pos} {Da:Addr}:∀ (gs:List Comprehension) (k:Nat) (x:Str) (p:Pos) (iter:Expr) (ifs:List Expr),gens[k]?=some ⟨.Name x p,iter,ifs,0⟩→gens.drop (k+1)=gs →
    env.kindOf x=some .local→(∀ g∈gs,G7 env g)→((x::gs.map (gH ·.target)).Nodup)→∀ (ρ:Loc) (Q:List D→List O→Prop) (src:D) (all:List D) (v:Value) (I:Addr) (X:List Addr) (s:Shared) (i:Nat) (acc:List D) (H:List O) (ι:Ad),
    dm src all→ρ.lookup x=none→(∀ g∈gs,ρ.lookup (gH g.target)=none)→St C d A env ρ H ι X s→I∈X→Da∈X→VR s.heap ι X src v→dD src v i I s.heap→i≤all.length→AccAt s.heap ι X Da acc →
    turns C d env x ifs (CG C d env elt gs) ρ src all (all.drop i) acc H Q →
    codeAny C.M A (.compLoop (.ListComp elt gens scope pos) k (.ref I) (.ref Da) env) (LP C d A env ρ Da [env.locals,Da,I] X ι s Q) s:=by
  intro gs
  induction gs with
  | nil =>
    intro k x p iter ifs hk hdrop hx _ hnd ρ Q src all v I X s i acc H ι it hρx _ S hI hD hv ha hi ac ht
    have hk':gens[k+1]?=none:=by
      have:=congrArg List.length hdrop; simp at this; simp; exact CV this
    refine pX (lJ hk hk') hx it hρx hI hD (fun y acc H ι s Q F hq S ac kk=>?_) S hv ha hi ac ht; refine wpAny_bind (wpAny_bind (aC (hq A s ι X S) (fun u s₆ z H₆ ι₆ q3_ S6 vz g6=>?_) zz)); obtain ⟨hlen,hq6⟩:=q3_; refine wpAny_bind (rK S6 hD (ac.yx (g6.y (Y:=[])) (fun hm=>S.iR Da hm hD) (by exact List.not_mem_nil) (by simp)) vz hlen fun s₇ S7 x7 ac7=>wpAny_pure (wpAny_pure ?_)); exact kk _ _ _ _ hq6 S7 ac7 (g6.y.trans ((eK.aB x7).mono (by simp)))
  | cons g' gs ih =>
    intro k x p iter ifs hk hdrop hx hgs hnd ρ Q src all v I X s i acc H ι it hρx hρs S hI hD hv ha hi ac ht; obtain ⟨⟨x',p',iter',ifs',rfl,hx'⟩,hfold⟩:=hgs _ (.head _)
    have hk':gens[k+1]?=some ⟨.Name x' p',iter',ifs',0⟩:=by
      have:(gens.drop (k+1))[0]?=some ⟨.Name x' p',iter',ifs',0⟩:=by refine rl hdrop ?_; rfl
      rw [List.getElem?_drop] at this; simpa using this
    have hdrop':gens.drop (k+1+1)=gs:=by refine rr List.drop_drop (rl hdrop ?_); rfl
    refine pX (lI hk hk') hx it hρx hI hD (fun y acc H₅ ι₅ s₅ Q F hq S5 ac5 kk=>?_) S hv ha hi ac ht; refine wpAny_bind (aC (hq A s₅ ι₅ X S5) (fun u s₆ src₂ H₆ ι₆ q3_ S6 v6 g6=>?_) zz); obtain ⟨all₂,it₂,ht₂⟩:=q3_; have k₂:lE src₂ all₂ H₆:=by cases all₂ <;> exact ht₂.1
    refine wpAny_bind (wpAny_standAt (wpAny_bind (wpAny_of_eq (hfold u) (wpAny_bind (wpAny_holding (kP it₂ k₂ S6 v6 fun I₂ s₇ hI₂ x7 S7 v7 ha7=>?_)))))); have hX2:∀ a∈X,a∈[I₂]++X:=fun a h=>List.mem_append_right _ h
    have ac7:AccAt s₇.heap ι₆ ([I₂]++X) Da acc:=by
      obtain ⟨vs,n,e,hvl,r⟩:=(ac5.yx (g6.y (Y:=[])) (fun hm=>S5.iR Da hm hD) (by simp) (by simp)); refine ⟨vs,n,x7.get e (by simp) fR,hvl,aE.gr (.aB (x7.mono bu)) (aE.aR (fun a ha=>?_) r)⟩; rcases List.mem_append.mp ha with h | h
      · rw [List.mem_singleton.mp h]; exact .inr hI₂
      exact .inl h
    have nd2:=List.nodup_cons.mp hnd
    have look:∀ z,z∈(x'::gs.map (gH ·.target))→ρ.lookup z=none→(aQ x y ρ).lookup z=none:=fun z hz hn=>by
      have hne:¬ z=x:=by rintro rfl; exact nd2.1 hz
      rw [bB,if_neg hne,hn]
    have loop:=ih (k+1) x' p' iter' ifs' hk' hdrop' hx' (fun g hg=>hgs g (.tail _ hg)) nd2.2 (aQ x y ρ) _ src₂ all₂ u I₂ ([I₂]++X) s₇ 0 acc H₆ ι₆ it₂ (look x' (.head _) (hρs _ (.head _)))
      (fun g hg=>look _ (.tail _ (List.mem_map_of_mem (f:=fun g:Comprehension=>gH g.target) hg)) (hρs g (.tail _ hg))) S7 (.head _) (hX2 _ hD) v7 ha7 (Nat.zero_le _) ac7 ht₂
    refine wpAny_bind (wpAny_runOwn (codeAny_mono (iS hk' (fun E Q h=>ha7.again E Q h) loop) fun r s₈ hr8=>?_))
    cases r with
    | error e=>exact hr8.elim
    | ok f =>
      obtain ⟨_,acc₈,H₈,ι₈,hq8,S8,ac8,g8⟩:=hr8
      have g68:eK C.B [env.locals,Da] ι₆ s₆ ι₈ s₈:=((eK.aB (x7.mono bu)).trans g8).less fun a ha=>by
        rcases List.mem_cons.mp ha with rfl | ha
        · exact .inl (.head _)
        rcases List.mem_cons.mp ha with rfl | ha
        · exact .inl (.tail _ (.head _))
        refine rl (List.mem_singleton.mp ha) ?_; exact .inr hI₂
      refine wpAny_pure (kk acc₈ H₈ ι₈ s₈ hq8 (S5.narrow S8 hX2) ?_ (g6.y.trans g68)); obtain ⟨vs,n,e,hvl,r⟩:=ac8; exact ⟨vs,n,e,hvl,aE.aR (fun a h=>.inl (hX2 a h):∀ a∈X,a∈[I₂]++X ∨ s₈.heap.objs.size≤a) r⟩
end
noncomputable def dI (env:Env):List (Str × NameKind)→List (Str × Addr)→List (Str × Addr)
  | [],cs=>cs
  | (n,k)::r,cs=>dI env r (if k == .free then (match env.cells.lookup n with | some a=>(n,a)::cs | none=>cs) else cs)
theorem e8 {env:Env} {n:Str} {k:NameKind} {r:List (Str × NameKind)} {cs:List (Str × Addr)}:dI env ((n,k)::r) cs=dI env r (if k == .free then (match env.cells.lookup n with | some a=>(n,a)::cs | none=>cs) else cs):=rfl
noncomputable def gT:List Str→Bool
  | []=>true
  | x::r=>!r.contains x && gT r
theorem fB:∀ {l:List Str},gT l=true→l.Nodup
  | [],_=>List.nodup_nil
  | x::r,h=>by
    have h:=Bool.and_eq_true_iff.mp h; exact List.nodup_cons.mpr ⟨by simpa using h.1,fB h.2⟩
noncomputable def jk (scope:Scope) (env:Env):Bool :=
  scope.kind == .function && gT (scope.names.map (·.1)) && scope.names.all fun p=>p.2 != .cell && (p.2 != .free || ((env.cells.lookup p.1).isSome && (env.kindOf p.1==some .cell || env.kindOf p.1==some .free)))
noncomputable abbrev zF (scope:Scope) (env:Env):List (Str × Addr):=dI env scope.names []
theorem jh {env:Env} (f:(Str × NameKind)→List (Str × Addr)→Sem (ForInStep (List (Str × Addr))))
    (hf:∀ n k cs,f (n,k) cs=if (k == .free)=true then (cellOf env n >>= fun a=>pure (.yield ((n,a)::cs))) else pure (.yield cs)):∀ (names:List (Str × NameKind)) (cs:List (Str × Addr)),(∀ p∈names,p.2 = .free→(env.cells.lookup p.1).isSome=true)→forIn names cs f=pure (dI env names cs)
  | [],cs,_=>by rw [List.forIn_nil]; rfl
  | (n,k)::r,cs,h=>by
    rw [List.forIn_cons,hf,e8]
    by_cases hk:(k == .free)=true
    · rw [if_pos hk,if_pos hk]
      obtain ⟨a,ha⟩:=Option.isSome_iff_exists.mp (h (n,k) (.head _) (by exact of_decide_eq_true hk)); simp only [ha]; refine rl (show cellOf env n=pure a by unfold cellOf; rw [show env.cells.lookup n=some a from ha]) ?_; exact jh f hf r _ fun p hp=>h p (.tail _ hp)
    rw [if_neg hk,if_neg hk]; exact jh f hf r _ fun p hp=>h p (.tail _ hp)
theorem f9 {scope:Scope} {env:Env} (h:∀ p∈scope.names,p.2 = .free→(env.cells.lookup p.1).isSome=true):closureFor scope env=pure (zF scope env):=by
  unfold closureFor; dsimp only; refine rl (jh (env:=env) _ (fun n k cs=>by cases hk:k==NameKind.free <;> simp [hk]) scope.names [] h) ?_; rfl
theorem s8 {env:Env}:∀ {names:List (Str × NameKind)} {cs:List (Str × Addr)},(∀ p∈cs,env.cells.lookup p.1=some p.2)→∀ p∈dI env names cs,env.cells.lookup p.1=some p.2
  | [],_,h=>h
  | (n,k)::r,cs,h=>by
    rw [e8]; refine s8 ?_; split
    · split
      · rename_i a ha
        intro p hp; rcases List.mem_cons.mp hp with rfl | hp
        · exact ha
        exact h p hp
      exact h
    exact h
theorem pZ {env:Env}:∀ {names:List (Str × NameKind)} {cs:List (Str × Addr)} {p:Str × Addr},p∈cs→p∈dI env names cs
  | [],_,_,h=>h
  | (n,k)::r,cs,p,h=>by
    rw [e8]; refine pZ ?_; split
    · split
      · exact .tail _ h
      exact h
    exact h
theorem s9 {env:Env} {n:Str} {c:Addr} (hc:env.cells.lookup n=some c):∀ {names:List (Str × NameKind)} {cs:List (Str × Addr)},(n,NameKind.free)∈names→(n,c)∈dI env names cs
  | [],_,h=>nomatch h
  | (m,k)::r,cs,h=>by
    rw [e8]; rcases List.mem_cons.mp h with h | h
    · cases h
      refine pZ ?_; refine rl (if_pos (by rfl)) (rl hc ?_); exact .head _
    exact s9 hc h
theorem lookup_mem {n:Str} {c:Addr}:∀ {l:List (Str × Addr)},(n,c)∈l→∃ c',l.lookup n=some c'
  | [],h=>nomatch h
  | (m,e)::r,h=>by
    by_cases q:n=m
    · subst q; exact ⟨e,by exact List.lookup_cons_self⟩
    have:(n==m)=false:=by exact beq_false_of_ne q
    refine rl List.lookup_cons (rl this ?_); rcases List.mem_cons.mp h with h | h
    · cases h; exact absurd rfl q
    exact lookup_mem h
theorem gz {env:Env} (ap:env.cells.Pairwise fun x y=>x.2≠y.2):∀ {names:List (Str × NameKind)} {cs:List (Str × Addr)},(names.map (·.1)).Nodup→(∀ p∈cs,env.cells.lookup p.1=some p.2)→(∀ p∈cs,p.1 ∉ names.map (·.1))→cs.Pairwise (fun x y=>x.2≠y.2)→(dI env names cs).Pairwise fun x y=>x.2≠y.2
  | [],_,_,_,_,h=>h
  | (n,k)::r,cs,hn,hl,hd,h=>by
    rw [e8]; have hn:=List.nodup_cons.mp hn; have hd':∀ p∈cs,p.1 ∉ r.map (·.1):=fun p hp hm=>hd p hp (.tail _ hm); split
    · split
      · rename_i a ha
        refine gz ap hn.2 (fun p hp=>?_) (fun p hp=>?_) (List.pairwise_cons.mpr ⟨fun p hp e=>?_,h⟩)
        · rcases List.mem_cons.mp hp with rfl | hp
          · exact ha
          exact hl p hp
        · rcases List.mem_cons.mp hp with rfl | hp
          · exact hn.1
          exact hd' p hp
        have h1:=mem_of_lookup ha; have e:a=p.2:=e; rw [e] at h1; have:=name_of_addr ap h1 (mem_of_lookup (hl p hp)); exact hd p hp (by refine rr this ?_; exact .head _)
      exact gz ap hn.2 hl hd' h
    exact gz ap hn.2 hl hd' h
theorem dz {n:Str} {k:NameKind}:∀ {l:List (Str × NameKind)},(l.map (·.1)).Nodup→(n,k)∈l→l.lookup n=some k
  | [],_,h=>nomatch h
  | (m,e)::r,hn,h=>by
    have hn:=List.nodup_cons.mp hn; rcases List.mem_cons.mp h with h | h'
    · cases h; exact List.lookup_cons_self
    have:(n==m)=false:=by
      have:n≠m:=by rintro rfl; exact hn.1 (List.mem_map_of_mem (f:=(·.1)) h')
      exact beq_false_of_ne this
    refine rl List.lookup_cons (rl this ?_); exact dz hn.2 h'
theorem iG {env:Env} {n:Str}:∀ {names:List (Str × NameKind)},names.lookup n=some .free →
    (names.map fun (n,k)=>if (k==NameKind.free && env.scope.kind == .function && env.kindOf n==some .cell) then (n,NameKind.cell) else (n,k)).lookup n=some (if (env.scope.kind == .function && env.kindOf n==some .cell)=true then .cell else .free)
  | [],h=>by contradiction
  | (m,k)::r,h=>by
    have ih:=@iG env n r; show List.lookup n ((if (k==NameKind.free && env.scope.kind == .function && env.kindOf m==some .cell)=true then (m,NameKind.cell) else (m,k))::_)=_
    cases hx:n==m with
    | true =>
      simp only [List.lookup_cons,hx] at h; cases h; obtain rfl:n=m:=by simpa using hx
      by_cases hc:(env.scope.kind == .function && env.kindOf n==some .cell)=true
      · simp only [Bool.true_and,beq_self_eq_true,hc,if_true,List.lookup_cons]
      simp only [Bool.true_and,beq_self_eq_true,hc,if_false,List.lookup_cons]; simp
    | false =>
      simp only [List.lookup_cons,hx] at h
      by_cases hc:(k==NameKind.free && env.scope.kind == .function && env.kindOf m==some .cell)=true
      · refine rl (if_pos hc) ?_; simp only [List.lookup_cons,hx]; exact ih h
      refine rl (if_neg hc) ?_; simp only [List.lookup_cons,hx]; exact ih h
noncomputable def rB (scope:Scope) (ρ:Loc):Loc:=ρ.filter fun p=>scope.names.lookup p.1==some .free
theorem eu {scope:Scope} {x:Str}:∀ {ρ:Loc},(rB scope ρ).lookup x=if (scope.names.lookup x==some .free)=true then ρ.lookup x else none
  | []=>by exact left_eq_ite_iff.mpr (congrFun rfl)
  | (y,e)::r=>by
    have ih:=@eu scope x r; unfold rB at ih ⊢; refine rl List.filter_cons ?_
    by_cases q:x=y
    · subst q
      cases h:(scope.names.lookup x==some .free)
      · simp only [h,Bool.false_eq_true,if_false] at ih ⊢; exact ih
      simp
    have:(x==y)=false:=by simpa using q
    refine rl List.lookup_cons (rl this ?_); split
    · refine rl List.lookup_cons (rl this ?_); exact ih
    exact ih
section
variable {C:Cx} {d:Nat} {A:Around} {env:Env} {ρ:Loc} {H:List O} {ι:Ad} {X:List Addr} {s:Shared}
theorem St.AI {H':List O} {ι':Ad} {s':Shared} {N:List Addr} (S:St C d A env ρ H ι X s) (g:Gr C.B ι s ι' s') (ht:C.t0≤s'.toks) (hN:∀ a∈N,s.heap.objs.size≤a∧a < s'.heap.objs.size) (hN':∀ a∈N,a ∉ br ι')
    (is':∀ a∈br ι',C.B≤a∧a < s'.heap.objs.size) (nd':(br ι').Nodup) (objs':Fx C s'.heap ι' (N++X) H'):St C d A env ρ H' ι' (N++X) s':=by
  have hX:∀ a∈X,a ∉ br ι:=fun a ha hi=>S.iR a hi ha
  have hw:∀ a∈N++X,a∈X ∨ s.heap.objs.size≤a:=fun a ha=>by
    rcases List.mem_append.mp ha with h | h
    · exact .inr (hN a h).1
    exact .inl h
  have hX':∀ a∈X,a∈N++X:=fun a h=>List.mem_append_right _ h
  refine ⟨S.room,S.bR,fun b o e=>?_,Nat.le_trans S.big g.ext.size,g.ext.gens.trans S.gens,g.ext.os.trans S.os,fun a ha=>?_,is',nd',fun a ha hx=>?_,fun n e h=>?_,objs',⟨hX' _ S.ns.1,let ⟨m,hm⟩:=S.ns.2; ⟨m,Ns.sm g.ext hm (hX _ S.ns.1)⟩⟩,
    fun n c hc=>⟨hX' _ (S.cells n c hc).1,let ⟨v,hv⟩:=(S.cells n c hc).2; ⟨v,Cell.sm g.ext hv (hX _ (S.cells n c hc).1)⟩⟩,(let ⟨fr,a,b⟩:=S.frs; ⟨fr,a,(b.sm g.ext hX).aR hX'⟩),ht⟩
  · obtain ⟨o',e',m⟩:=g.ext.keep b o (S.base b o e) fun hi=>absurd (Heap.lt_size e) (Nat.not_lt.mpr (S.is b hi).1)
    rw [m.low (Heap.lt_size e)] at e'; exact e'
  · rcases List.mem_append.mp ha with h | h
    · exact ⟨Nat.le_trans S.big (hN a h).1,(hN a h).2⟩
    exact ⟨(S.xs a h).1,Nat.lt_of_lt_of_le (S.xs a h).2 g.ext.size⟩
  · rcases List.mem_append.mp hx with h | h
    · exact hN' a h ha
    obtain ⟨⟨κ,rfl,hκ⟩,_⟩:=g; rw [bD] at ha; rcases List.mem_append.mp ha with q | q
    · exact S.iR a q h
    exact absurd (S.xs a h).2 (Nat.not_lt.mpr (hκ a q))
  obtain ⟨v,l,r⟩:=S.loc n e h; exact ⟨v,(l.sm g.ext hX).aR hX',VR.gr g (VR.aR hw r)⟩
theorem St.zd {ρ₀:Loc} {H₀:List O} {ι₀:Ad} {X₀:List Addr} {s₀ s':Shared} {I:Addr} (S0:St C d A env ρ₀ H₀ ι₀ X₀ s₀) (S:St C d A env ρ H ι X s) (hI:I∈X) (hI0:I ∉ X₀) (x:Ext C.B [I] s s') (ht:C.t0≤s'.toks):St C d A env ρ H ι X s':=by
  have hY:∀ a∈[I],a∈X:=fun a h=>by refine rl (List.mem_singleton.mp h) ?_; exact hI
  have nI:∀ {a:Addr},a∈X₀→a ∉ [I]:=fun h hm=>hI0 (List.mem_singleton.mp hm ▸ h); refine S.stored hY x ht ?_ ?_ ?_ ?_
  · obtain ⟨m,hm⟩:=S.ns.2
    exact ⟨m,Ns.sm x hm (nI S0.ns.1)⟩
  · intro n c hc
    obtain ⟨_,v,hv⟩:=S.cells n c hc; exact ⟨v,Cell.sm x hv (nI (S0.cells n c hc).1)⟩
  · obtain ⟨fr,hfr,hok⟩:=S.frs
    obtain ⟨fr0,a0,b0⟩:=S0.frs; rw [hfr] at a0; cases a0; refine ⟨fr,hfr,fun fe hfe=>?_⟩; obtain ⟨k,L,o₁,es,n,h1,h2,h3,h4,h5⟩:=hok fe hfe; obtain ⟨_,L',_,_,_,h1',h2',_⟩:=b0 fe hfe; rw [h1] at h1'; cases h1'; obtain ⟨o',e',q⟩:=x.keep L o₁ h3 (nI h2'); exact ⟨k,L,o',es,n,h1,h2,e',q.data.2.1.trans h4,q.data.1.trans h5⟩
  intro n e h; obtain ⟨v,l,r⟩:=S.loc n e h; refine ⟨v,?_,VR.eF aW x (fun a h=>.inr (hY a h)) r⟩; rcases l with ⟨k,hl,m,hm,hv⟩ | ⟨k,c,hc,hx,hv⟩
  · exact .inl ⟨k,hl,m,Ns.sm x hm (nI S0.ns.1),hv⟩
  exact .inr ⟨k,c,hc,hx,Cell.sm x hv (nI (S0.cells n c hc).1)⟩
end
noncomputable def EL (e:Expr):Option (Str × Pos):=if h:e.ctorIdx=23 then Expr.Name.elim (motive_1:=fun _=>Option (Str × Pos)) e h (fun x p=>some (x,p)) else none
noncomputable def vD (e:Expr):Bool:=e.ctorIdx != 7
theorem EK {e:Expr} {x:Str} {p:Pos} (h:EL e=some (x,p)):e = .Name x p:=by
  by_cases hc:e.ctorIdx=23
  · refine Expr.Name.elim (motive_1:=fun e=>EL e=some (x,p)→e = .Name x p) e hc (fun y q h=>?_) h
    have h:=Prod.mk.inj (Option.some.inj h); rw [h.1,h.2]
  rw [EL,dif_neg hc] at h; exact cO h
noncomputable def gB (scope:Scope) (g:Comprehension):Bool:=match EL g.target with
  | some q=>scope.names.lookup q.1==some .local && (vD g.iter && g.is_async==0)
  | none=>false
theorem oW {e:Expr} (h:vD e=true) (env:Env) (v:Value):foldedSetIterable e env v=pure v:=by
  cases e <;> first | rfl | exact absurd h Bool.false_ne_true
theorem j0 {scope:Scope} {g:Comprehension} (h:gB scope g=true):∃ x p iter ifs,g=⟨.Name x p,iter,ifs,0⟩∧scope.names.lookup x=some .local∧∀ (env:Env) v,foldedSetIterable iter env v=pure v:=by
  obtain ⟨t,iter,ifs,a⟩:=g; unfold gB at h
  cases e:EL t with
  | none=>rw [e] at h; exact absurd h Bool.false_ne_true
  | some q =>
    rw [e] at h; have h:=Bool.and_eq_true_iff.mp h; have h2:=Bool.and_eq_true_iff.mp h.2; refine rl (EK e) (rl (eq_of_beq h2.2:a=0) ?_); exact ⟨q.1,q.2,iter,ifs,rfl,eq_of_beq h.1,oW h2.1⟩
section
variable {C:Cx} {d:Nat} {A:Around} {env:Env} {ρ:Loc} {H:List O} {ι:Ad} {X:List Addr} {s:Shared}
theorem gw {scope:Scope} (h:jk scope env=true):scope.kind = .function∧(scope.names.map (·.1)).Nodup∧(∀ p∈scope.names,p.2≠.cell) ∧
    (∀ p∈scope.names,p.2 = .free→(env.cells.lookup p.1).isSome=true∧(env.kindOf p.1=some .cell ∨ env.kindOf p.1=some .free)):=by
  have h:=Bool.and_eq_true_iff.mp h; have h1:=Bool.and_eq_true_iff.mp h.1; have h2:=List.all_eq_true.mp h.2; refine ⟨by simpa using h1.1,fB h1.2,fun p hp e=>?_,fun p hp e=>?_⟩
  · have:=(Bool.and_eq_true_iff.mp (h2 p hp)).1
    rw [e] at this; exact absurd this (by decide)
  have:=(Bool.and_eq_true_iff.mp (h2 p hp)).2; rw [e] at this; have:((env.cells.lookup p.1).isSome && (env.kindOf p.1==some .cell || env.kindOf p.1==some .free))=true:=by simpa using this
  have:=Bool.and_eq_true_iff.mp this; exact ⟨this.1,by simpa using this.2⟩
theorem St.comp {scope:Scope} {Ca:Addr} (S:St C d A env ρ H ι X s) (ok:jk scope env=true) (hC:Ca∈X) (hns:∃ m,s.heap.Ns Ca m):St C d A (compEnvC scope (zF scope env) Ca env) (rB scope ρ) H ι X s:=by
  obtain ⟨hk,hn,hc,hf⟩:=gw ok; have sub:∀ p∈zF scope env,env.cells.lookup p.1=some p.2:=s8 fun _ h=>nomatch h; refine ⟨S.room,⟨hk,S.bR.globals,S.bR.builtins,gz S.bR.apart hn (fun _ h=>nomatch h) (fun _ h=>nomatch h) .nil⟩,S.base,S.big,S.gens,S.os,S.xs,S.is,S.nd,S.iR,fun x e h=>?_,S.objs,⟨hC,hns⟩,fun n c h=>S.cells n c (sub (n,c) (mem_of_lookup h)),S.frs,S.toks⟩; rw [eu] at h; split at h
  · rename_i hfree
    have hfree:scope.names.lookup x=some .free:=by simpa using hfree
    obtain ⟨v,l,r⟩:=S.loc x e h; refine ⟨v,.inr ?_,r⟩; have hm:=mem_of_lookup hfree; obtain ⟨_,hkind⟩:=hf _ hm rfl; rcases l with ⟨k,_⟩ | ⟨k,c,hc',hx,hv⟩
    · rcases hkind with q | q <;> (rw [k] at q; cases q)
    obtain ⟨c',hl⟩:=lookup_mem (s9 (env:=env) hc' (cs:=[]) hm); have:=sub _ (mem_of_lookup hl); rw [hc'] at this; obtain rfl:c=c':=by simpa using this
    refine ⟨?_,c,hl,hx,hv⟩; have kk:Env.kindOf (compEnvC scope (zF scope env) Ca env) x=some (if (env.scope.kind == .function && env.kindOf x==some .cell)=true then .cell else .free):=iG hfree; refine rl kk ?_; rcases k with k | ⟨k,hcd⟩
    · left; refine rl S.bR.kind (rl k ?_); rfl
    right; refine rl k ?_; refine ⟨?_,hcd⟩; exact rl (if_neg (by simp)) rfl
  cases h
inductive Done (C:Cx) (d:Nat) (A:Around) (env:Env) (ρ:Loc) (ι:Ad) (X:List Addr) (s:Shared) (Qa:List D→List O→Prop) (v:Value) (Ca:Addr) (s':Shared):Prop
  | mk (acc:List D) (H':List O) (ι':Ad) (hq:Qa acc H') (S:St C d A env ρ H' ι' ([Ca]++X) s') (hv:VR s'.heap ι' ([Ca]++X) (.list acc) v) (g:Gr C.B ι s ι' s') (hX:Ca ∉ X) (hz:s.heap.objs.size≤Ca) (hn:∃ m,s'.heap.Ns Ca m)
inductive pY (C:Cx) (d:Nat) (env:Env) (ρ:Loc) (x:Str) (elt:Expr) (ifs:List Expr) (gs:List Comprehension) (scope:Scope) (QQ:List D→List O→Prop) (src:D) (H':List O):Prop
  | mk (all:List D) (i:dm src all) (h:∀ Ca,turns C d (compEnvC scope (zF scope env) Ca env) x ifs (CG C d (compEnvC scope (zF scope env) Ca env) elt gs) (rB scope ρ) src all all [] H' QQ)
theorem mu {elt:Expr} {x:Str} {p:Pos} {iter:Expr} {ifs:List Expr} {gs:List Comprehension} {scope:Scope} {pos:Pos} {Qa:List D→List O→Prop} (ok:jk scope env=true) (gk:(⟨.Name x p,iter,ifs,0⟩::gs:List Comprehension).all (gB scope)=true) (nd:gT (x::gs.map (gH ·.target))=true)
    (h:EV C d env ρ H iter (pY C d env ρ x elt ifs gs scope Qa)) (S:St C d A env ρ H ι X s) :
    wpAny C.M A (eval iter env) (fun v s₁=>wpAny C.M A (pyIter v) (fun it s₂=>wpAny C.M A (newList []) (fun acc s₃ =>
      wpAny C.M A (newFunctionEnv scope env.globals (zF scope env) [] env.qual none .none (some env)) (fun cenv s₄ =>
        codeAny C.M A (.compStart (.ListComp elt (⟨.Name x p,iter,ifs,0⟩::gs) scope pos) 0 it acc { cenv with scope:=relabel scope env })
          (fun r s'=>match r with | .ok _=>Done C d A env ρ ι X s Qa acc cenv.locals s' | .error _=>False) s₄) (fun _ _=>False) s₃) (fun _ _=>False) s₂) (fun _ _=>False) s₁) (fun _ _=>False) s:=by
  obtain ⟨hk,hn,hc,hf⟩:=gw ok; have gk':=List.all_eq_true.mp gk; refine aC (h A s ι X S) (fun v s₁ src H₁ ι₁ q3_ S₁ v₁ g₁=>?_) zz; obtain ⟨all,it,ht⟩:=q3_; have k₁:lE src all H₁:=by cases all <;> exact (ht 0).1
  refine kP it k₁ S₁ v₁ fun I s₂ hI x2 S₂ v₂ ha₂=>?_; refine wpAny_newObj_type (wpAny_newFunctionEnv hc (by intro y hy; simp at hy) (fun h₁ hns₁ hsb₁=>?_) hk); generalize hH2:s₂.heap.push { cls:=.type "list",dict:=none,data:=.seq ([]:List Value).toArray }=H2 at hns₁ hsb₁ ⊢; have hC:H2.objs.size=s₂.heap.objs.size+1:=by rw [← hH2,Heap.size_push]
  have hsz:h₁.objs.size=s₂.heap.objs.size+2:=by rw [hsb₁.1,Heap.size_push,hC]
  have old:∀ b o,s₂.heap.get? b=some o→h₁.get? b=some o:=fun b o e=>hsb₁.extBut b o (by refine rl hC ?_; exact Nat.ne_of_lt (Nat.lt_succ_of_lt (Heap.lt_size e))) (Heap.get?_push_of_some _ (hH2 ▸ Heap.get?_push_of_some _ e)); generalize hs4:({ s₂ with heap:=h₁,toks:=s₂.toks+([]:List (Str × Value)).length }:Shared)=s₄; have hs4h:s₄.heap=h₁:=by exact rr hs4 rfl
  have x4:Ext C.B [] s₂ s₄:=by refine rr hs4 ?_; exact .of_keep rfl rfl (by show _≤h₁.objs.size; exact CU hsz) fun b o e _=>old b o e
  have t4:C.t0≤s₄.toks:=by refine rr hs4 ?_; exact S₂.toks
  generalize hCa:H2.objs.size=Ca at *; generalize hDa:s₂.heap.objs.size=Da at *
  have hN:∀ a∈[Ca,Da],s₂.heap.objs.size≤a∧a < s₄.heap.objs.size:=fun a ha=>by
    refine rl hs4h (rl hDa ?_); rcases List.mem_cons.mp ha with h | ha
    · refine rl h ?_; exact ⟨by exact CT hC hsz,by exact CS hC hsz⟩
    refine rl (List.mem_singleton.mp ha) ?_; exact ⟨by exact GS,by exact CQ hsz⟩
  have eD:h₁.get? Da=some (aA [] 0):=by
    refine hsb₁.extBut _ _ (show Da≠Ca by exact CP hC hsz) (Heap.get?_push_of_some _ ?_); refine rr hH2 (rr hDa ?_); exact Heap.get?_push_size _ rfl
  have v₄:VR s₄.heap ι₁ ([Ca,Da]++([I]++X)) src v:=by
    refine VR.gr (.aB (x4.mono bu)) (VR.aR (fun a ha=>?_) v₂); rcases List.mem_append.mp ha with h | h
    · exact .inr (hN a h).1
    exact .inl h
  have ha₄:dD src v 0 I s₄.heap:=by
    obtain ⟨o,ho,gd⟩:=ha₂.odd; exact ha₂.keep fun o' e=>x4.get e (by simp) (by rw [ho] at e; cases e; exact gd.dY)
  have loc:∀ {g:Comprehension},gB scope g=true→scope.names.lookup (gH g.target)=some .local:=fun hg=>by
    obtain ⟨x',p',i',f',rfl,hl,_⟩:=j0 hg; exact hl
  have nocap:∀ {y:Str},scope.names.lookup y=some .local→(rB scope ρ).lookup y=none:=fun hy=>by refine rl eu (rl hy ?_); rfl
  have hx:=loc (gk' _ (.head _))
  have loop:=uE (C:=C) (d:=d) (A:=A) (env:=compEnvC scope (zF scope env) Ca env) (elt:=elt) (gens:=⟨.Name x p,iter,ifs,0⟩::gs) (scope:=scope) (pos:=pos) (Da:=Da) gs 0 x p iter ifs rfl rfl (lookup_relabel_local hx)
    (fun g hg=>by obtain ⟨x',p',i',f',rfl,hl,hfo⟩:=j0 (gk' g (.tail _ hg)); exact ⟨⟨x',p',i',f',rfl,lookup_relabel_local hl⟩,hfo _⟩) (fB nd) (rB scope ρ) Qa src all v I ([Ca,Da]++([I]++X)) s₄ 0 [] H₁ ι₁ it (nocap hx) (fun g hg=>nocap (loc (gk' g (.tail _ hg)))) ((S₂.widen x4 t4 hN).comp (scope:=scope) ok (Ca:=Ca) (.head _) ⟨_,hs4h ▸ hns₁⟩)
    (List.mem_append_right _ (.head _)) (.tail _ (.head _)) v₄ ha₄ (Nat.zero_le _) (⟨[],0,hs4h ▸ eD,Nat.zero_le _,.bJ⟩:AccAt s₄.heap ι₁ ([Ca,Da]++([I]++X)) Da []) (ht Ca)
  refine codeAny_mono (iS rfl (fun E Q h=>ha₄.again E Q h) loop) fun r s' hr=>?_
  cases r with
  | error e=>exact hr
  | ok f =>
    obtain ⟨_,acc,H',ι',hq,S',ac',g'⟩:=hr; have hI₁:s₁.heap.objs.size≤Da:=by refine rr hDa ?_; exact x2.size
    have g₁':Gr C.B ι₁ s₁ ι' s':=((eK.aB (x2.mono bu)).trans ((eK.aB (x4.mono bu)).trans g'):eK C.B [Ca,Da,I] ι₁ s₁ ι' s').gr fun a ha=>by
      rcases List.mem_cons.mp ha with h | ha
      · refine rl h ?_; show s₁.heap.objs.size≤Ca; exact Bo hI₁ hC hsz
      rcases List.mem_cons.mp ha with h | ha
      · refine rl h ?_; exact hI₁
      refine rl (List.mem_singleton.mp ha) ?_; exact hI
    have hCX:Ca ∉ X:=fun hm=>by have:Ca < s₁.heap.objs.size:=(S₁.xs Ca hm).2; exact CO this hC hI₁ hsz
    have hDX:Da ∉ X:=fun hm=>by have:Da < s₁.heap.objs.size:=(S₁.xs Da hm).2; exact CN this hI₁ hsz
    have hsub:∀ a∈[Ca]++X,a∈[Ca,Da]++([I]++X):=fun a ha=>by
      rcases List.mem_append.mp ha with h | h
      · refine rl (List.mem_singleton.mp h) ?_; exact .head _
      exact List.mem_append_right _ (List.mem_append_right _ h)
    have hw:∀ a∈[Ca]++X,a∈[Ca,Da]++([I]++X) ∨ s'.heap.objs.size≤a:=fun a ha=>.inl (hsub a ha); obtain ⟨vs,n,e,hvl,r⟩:=ac'; refine ⟨acc,H',ι',hq,S₁.AI g₁' S'.toks (fun a ha=>?_) (fun a ha hm=>?_) S'.is S'.nd ⟨S'.objs.1,fun i p o hp ho=>OR.aR hw (S'.objs.2 i p o hp ho)⟩,.dZ (fun hm=>?_) (fun hm=>S'.iR Da hm (.tail _ (.head _))) e hvl (aE.aR hw r),g₁.trans g₁',hCX,?_,S'.ns.2⟩
    · refine rl (List.mem_singleton.mp ha) ?_; exact ⟨(by show s₁.heap.objs.size≤Ca; exact Bo hI₁ hC hsz),((S'.xs Ca (.head _)).2:Ca < s'.heap.objs.size)⟩
    · rw [List.mem_singleton.mp ha] at hm; exact S'.iR Ca hm (.head _)
    · rcases List.mem_append.mp hm with h | h
      · have:Da=Ca:=List.mem_singleton.mp h
        exact CM hC this hsz
      exact hDX h
    have:=g₁.ext.size; exact CL this hC hI₁ hsz
theorem EV.comp {elt:Expr} {x:Str} {p:Pos} {iter:Expr} {ifs:List Expr} {gs:List Comprehension} {scope:Scope} {pos:Pos} {Q:D→List O→Prop} (ok:jk scope env=true) (gk:(⟨.Name x p,iter,ifs,0⟩::gs:List Comprehension).all (gB scope)=true) (nd:gT (x::gs.map (gH ·.target))=true)
    (h:EV C d env ρ H iter (pY C d env ρ x elt ifs gs scope (fun acc H''=>Q (.list acc) H''))) :
    EV C d env ρ H (.ListComp elt (⟨.Name x p,iter,ifs,0⟩::gs) scope pos) Q:=fun A s ι X S=>by
  obtain ⟨hk,hn,hc,hf⟩:=gw ok; rw [eval_ListComp]; obtain ⟨_,_,_,_,e,_,hfo⟩:=j0 (List.all_eq_true.mp gk _ (.head _)); cases e; refine wpAny_comprehension_free (e:=.ListComp elt (⟨.Name x p,iter,ifs,0⟩::gs) scope pos) (g:=⟨.Name x p,iter,ifs,0⟩) (gs:=gs) (use:=Option.none) rfl (hfo env) (f9 fun q hq e=>(hf q hq e).1) hk (fun q hq e=>dz hn (by refine rr e ?_; exact hq)) ?_; refine wpAny_mono (mu ok gk nd h S) (fun v s₁ q=>wpAny_mono q (fun it s₂ q=>wpAny_mono q (fun acc s₃ q=>wpAny_mono q (fun cenv s₄ q=>codeAny_mono q fun r s' hr=>?_) zz) zz) zz) zz
  cases r with
  | error e=>exact hr.elim
  | ok f =>
    obtain ⟨acc',H',ι',hq,S',v',g',hCX,hCs,m,hm⟩:=hr; refine ⟨m,hm,fun h' hs'=>?_⟩; have x1:Ext C.B [cenv.locals] s' { s' with heap:=h' }:=.same (t:=s'.toks) hs'; have hsub:∀ a∈X,a∈[cenv.locals]++X:=fun a h=>List.mem_append_right _ h; exact ⟨.list acc',H',ι',hq,S.narrow (S.zd S' (.head _) hCX x1 S'.toks) hsub,VR.aR (fun a ha=>.inl (hsub a ha)) (VR.eF aW x1 (fun a h=>.inr (List.mem_append_left _ h):∀ a∈[cenv.locals],a∈br ι' ∨ a∈[cenv.locals]++X) v'),g'.less x1 (fun a ha=>by refine rl (List.mem_singleton.mp ha) ?_; exact hCs)⟩
theorem EX.rH {y:Str} {py:Pos} {spos:Pos} {elt:Expr} {x:Str} {p:Pos} {iter:Expr} {ifs:List Expr} {gs:List Comprehension} {scope:Scope} {pos:Pos} {Q:Fl→Loc→List O→Prop} (hy:env.kindOf y=some .local)
    (hsw:swapsWith (.ListComp elt (⟨.Name x p,iter,ifs,0⟩::gs) scope pos) (some (.Name y py)) spos.line env=pure true)
    (ok:jk scope env=true) (gk:(⟨.Name x p,iter,ifs,0⟩::gs:List Comprehension).all (gB scope)=true) (nd:gT (x::gs.map (gH ·.target))=true)
    (h:EV C d env ρ H iter (pY C d env ρ x elt ifs gs scope (fun acc H''=>Q .next (aQ y (.list acc) ρ) H''))) :
    EX C d env ρ H (.Assign [.Name y py] (.ListComp elt (⟨.Name x p,iter,ifs,0⟩::gs) scope pos) spos) Q:=fun A s ι X S=>by
  have hbk:binds env y=true:=by unfold binds; refine rl hy ?_; rfl
  obtain ⟨hk,hn,hc,hf⟩:=gw ok; obtain ⟨_,_,_,_,e,_,hfo⟩:=j0 (List.all_eq_true.mp gk _ (.head _)); cases e; refine rl (exec_Assign_Name_used _ _ _ _ hsw) ?_; refine wpAny_bind (wpAny_standAt (wpAny_bind ?_)); refine wpAny_bind (wpAny_mono (wpAny_comprehension_free (e:=.ListComp elt (⟨.Name x p,iter,ifs,0⟩::gs) scope pos) (g:=⟨.Name x p,iter,ifs,0⟩) (gs:=gs) (use:=some (PySem.assign (.Name y py) env)) (Q:=fun _ s'=>SP C d A env ι X s Q .next s') rfl (hfo env) (f9 fun q hq e=>(hf q hq e).1) hk (fun q hq e=>dz hn (by refine rr e ?_; exact hq)) ?_) (fun _ s' hq=>wpAny_pure (wpAny_pure hq)) fun _ _ e=>e); refine wpAny_mono (mu ok gk nd h S) (fun v s₁ q=>wpAny_mono q (fun it s₂ q=>wpAny_mono q (fun acc s₃ q=>wpAny_mono q (fun cenv s₄ q=>codeAny_mono q fun r s' hr=>?_) zz) zz) zz) zz
  cases r with
  | error e=>exact hr.elim
  | ok f =>
    obtain ⟨acc',H',ι',hq,S',v',g',hCX,hCs,m,hm⟩:=hr; refine wpAny_assign_Name (wpAny_mono (i7 S' v' hbk) (fun _ s'' q=>?_) zz); obtain ⟨S'',ge,xl⟩:=q; refine ⟨m,Ns.sm (xl hy) hm (fun h=>hCX (by refine rl (List.mem_singleton.mp h) ?_; exact S.ns.1)),fun h' hs'=>?_⟩; have x1:Ext C.B [cenv.locals] s'' { s'' with heap:=h' }:=.same (t:=s''.toks) hs'; exact ⟨.next,_,H',ι',hq,S.narrow (S.zd S'' (.head _) hCX x1 S''.toks) (fun a h=>List.mem_append_right _ h:∀ a∈X,a∈[cenv.locals]++X),rfl,(g'.e.trans ge).less x1 (fun a ha=>by refine rl (List.mem_singleton.mp ha) ?_; exact hCs)⟩
end
noncomputable abbrev PW:Program:=PySem.Challenge.pw_nq0244_01
noncomputable def ak (n:Nat):Stmt:=PW.main.body.getD n (.Pass ⟨0,0,0,0⟩)
noncomputable def fnBody (s:Stmt):List Stmt:=if h:s.ctorIdx=0 then Stmt.FunctionDef.elim (motive_2:=fun _=>List Stmt) s h (fun _ _ body _ _ _ _ _ _ _=>body) else []
noncomputable def eG (s:Stmt):Arguments:=if h:s.ctorIdx=0 then Stmt.FunctionDef.elim (motive_2:=fun _=>Arguments) s h (fun _ args _ _ _ _ _ _ _ _=>args) else ⟨[],[],none,[],[],none,[]⟩
noncomputable def aK (s:Stmt):Scope:=if h:s.ctorIdx=0 then Stmt.FunctionDef.elim (motive_2:=fun _=>Scope) s h (fun _ _ _ _ _ _ scope _ _ _=>scope) else { kind:=.function,names:=[],isGenerator:=false,isCoroutine:=false }
noncomputable def inClass (n:Nat) (s:Stmt):Stmt:=if h:s.ctorIdx=2 then Stmt.ClassDef.elim (motive_2:=fun _=>Stmt) s h (fun _ _ _ body _ _ _ _ _ _ _=>body.getD n (.Pass ⟨0,0,0,0⟩)) else s
noncomputable def j3 (s:Stmt):List Stmt:=if h:s.ctorIdx=9 then Stmt.For.elim (motive_2:=fun _=>List Stmt) s h (fun _ _ b _ _=>b) else []
noncomputable def tN (s:Stmt):List Stmt:=if h:s.ctorIdx=11 then Stmt.While.elim (motive_2:=fun _=>List Stmt) s h (fun _ b _ _=>b) else []
noncomputable def Ar (s:Stmt):List Stmt:=if h:s.ctorIdx=12 then Stmt.If.elim (motive_2:=fun _=>List Stmt) s h (fun _ _ o _=>o) else []
noncomputable def b8 (st:Stmt) (q:Str) (cd:Value) (L a:Addr):Env:=newEnv (aK st) L mainGlobals (cellsFrom (L+1) (aK st).names []) (q ++ ".<locals>.") (some a) cd none builtinsNs
theorem ym {n:Nat} {P:List Value→Prop} (h:∀ a r,r.length=n→P (a::r)) (vs:List Value) (e:vs.length=n+1):P vs:=by
  cases vs with
  | nil=>exact absurd e.symm (Nat.succ_ne_zero n)
  | cons a r=>exact h a r (Nat.succ.inj e)
theorem len0 {P:List Value→Prop} (h:P []) (vs:List Value) (e:vs.length=0):P vs:=List.eq_nil_of_length_eq_zero e ▸ h
theorem gU {P:List Value→Prop} (h:∀ a,P [a]):∀ vs:List Value,vs.length=1→P vs:=ym fun a=>len0 (h a)
theorem Am {P:List Value→Prop} (h:∀ a b,P [a,b]):∀ vs:List Value,vs.length=2→P vs:=ym fun a=>gU (h a)
theorem Al {P:List Value→Prop} (h:∀ a b c,P [a,b,c]):∀ vs:List Value,vs.length=3→P vs:=ym fun a=>Am (h a)
theorem Gv {P:List Value→Prop} (h:∀ a b c d,P [a,b,c,d]):∀ vs:List Value,vs.length=4→P vs:=ym fun a=>Al (h a)
inductive GP (C:Cx) (a:Addr) (st:Stmt) (dv:Value):Prop
  | mk (o:Obj) (name qual:Str) (kwd doc pm:Value) (ann:Option Addr) (cd ct:Value) (ho:C.h₀.get? a=some o) (hd:o.data = .func ⟨name,qual,eG st,.stmts (fnBody st),aK st,mainGlobals,[],dv,kwd,doc,pm,ann,cd,ct,builtinsNs⟩) (hcd:C.h₀.CodeRec cd qual)
structure FnAt (C:Cx) (a:Addr) (st:Stmt) (dv:Value):Prop where
  kp:Kp C (.ref a)
  ex:GP C a st dv
section
variable {C:Cx} {d:Nat} {H:List O} {Q:D→List O→Prop}
theorem aj.yE {a:Addr} {st:Stmt} {dv:Value} {xs:List D} {ds:List (Str × D)} (O:C.Ok) (F:FnAt C a st dv) (hk:(aK st).kind = .function) (hco:(aK st).isCoroutine=false) (hgen:(aK st).isGenerator=false)
    (hbind:∀ name qual kwd doc pm ann cd ct (vs:List Value) (s:Shared) (ι:Ad) (X:List Addr),(∀ b o,C.h₀.get? b=some o→s.heap.get? b=some o)→aE s.heap ι X xs vs →
      ∃ bs,BindsTo s ⟨name,qual,eG st,.stmts (fnBody st),aK st,mainGlobals,[],dv,kwd,doc,pm,ann,cd,ct,builtinsNs⟩ ⟨vs,[]⟩ bs∧bs.map (·.1)=ds.map (·.1)∧aE s.heap ι X (ds.map (·.2)) (bs.map (·.2)))
    (hb:∀ q cd L,ds.all (fun p=>binds (b8 st q cd L a) p.1)=true)
    (h:∀ q cd L,aa C d (b8 st q cd L a) (cy ds) H (fnBody st) fun fl _ H'=>Q (gD fl) H'):aj C (d+1) H (.ref a) xs Q:=fun A env ρ s ι X vs S hv=>by
  obtain ⟨o,name,qual,kwd,doc,pm,ann,cd,ct,ho,hd,hcd⟩:=F.ex; obtain ⟨bs,hbt,hbs,hbv⟩:=hbind name qual kwd doc pm ann cd ct vs s ι X S.base hv; exact wpAny_call (tB O S ho hd hcd rfl rfl rfl rfl hco hgen hk hbt hbs hbv (fun L p hp=>List.all_eq_true.mp (hb qual cd L) p hp) fun L=>h qual cd L)
theorem aj.fn {a:Addr} {st:Stmt} {dv:Value} {xs:List D} {ns:List Str} (O:C.Ok) (F:FnAt C a st dv) (hk:(aK st).kind = .function) (hco:(aK st).isCoroutine=false) (hgen:(aK st).isGenerator=false) (hl:xs.length=ns.length)
    (hbind:∀ name qual kwd doc pm ann cd ct (vs:List Value),vs.length=ns.length→bindArgs ⟨name,qual,eG st,.stmts (fnBody st),aK st,mainGlobals,[],dv,kwd,doc,pm,ann,cd,ct,builtinsNs⟩ ⟨vs,[]⟩=pure (ns.zip vs))
    (hb:∀ q cd L,ns.all (fun p=>binds (b8 st q cd L a) p)=true)
    (h:∀ q cd L,aa C d (b8 st q cd L a) (cy (ns.zip xs)) H (fnBody st) fun fl _ H'=>Q (gD fl) H'):aj C (d+1) H (.ref a) xs Q:=by
  refine aj.yE O F hk hco hgen (fun name qual kwd doc pm ann cd ct vs s ι X _ hv=>⟨ns.zip vs,.of_eq (hbind name qual kwd doc pm ann cd ct vs (by exact rl hv.length (rl hl rfl))),?_,?_⟩) (fun q cd L=>?_) h
  · have:=hv.length
    exact rl (List.map_fst_zip (by exact xX this hl)) (rl (List.map_fst_zip (by exact Bf hl)) rfl)
  · have:=hv.length
    refine rl (List.map_snd_zip (by exact Be hl)) (rl (List.map_snd_zip (by exact xW this hl)) ?_); exact hv
  have:=hb q cd L; rw [List.all_eq_true] at this ⊢; intro p hp; exact this p.1 (List.of_mem_zip hp).1
end
section
variable {C:Cx} {d:Nat} {A:Around} {env:Env} {ρ:Loc} {H:List O} {ι:Ad} {X:List Addr} {s:Shared} {Q:D→List O→Prop}
theorem AM {α β:Type} {rel:Heap→Ad→List Addr→β→α→Prop} {Q:β→List O→Prop} {t:Sem α}
    (S:St C d A env ρ H ι X s) (h:wpAny C.M A t (fun v s'=>s.heap.objs.size≤s'.heap.objs.size→C.t0≤s'.toks→PR rel C d A env ρ ι X s Q v s') (fun _ _=>False) s):wpAny C.M A t (PR rel C d A env ρ ι X s Q) (fun _ _=>False) s :=
  bI (wpAny_mono h (fun _ _ h hs ht=>h hs (Nat.le_trans S.toks ht)) zz)
theorem Ext.kept {B:Nat} {s:Shared} {h':Heap} {t:Nat} (hs:s.heap.objs.size≤h'.objs.size) (k:∀ b o,s.heap.get? b=some o→h'.get? b=some o):Ext B [] s { s with heap:=h',toks:=t }:=.of_keep rfl rfl hs fun b o e _=>k b o e
theorem PR.newList {h':Heap} {t:Nat} {a:Addr} {xs:List D} {vs:List Value} {n:Nat} (S:St C d A env ρ H ι X s) (hs:s.heap.objs.size≤h'.objs.size) (k:∀ b o,s.heap.get? b=some o→h'.get? b=some o) (ha:s.heap.objs.size≤a) (e:h'.get? a=some (aA vs n)) (hl:vs.length≤sizeLine)
    (hv:∀ X,aE h' ι X xs vs) (hq:Q (.list xs) H) (ht:C.t0≤t):Post C d A env ρ ι X s Q (.ref a) { s with heap:=h',toks:=t } :=
  PR.quiet S (.kept hs k) (.dZ (fun hm=>absurd (S.xs a hm).2 (Nat.not_lt.mpr ha)) (fun hm=>absurd (S.is a hm).2 (Nat.not_lt.mpr ha)) e hl (hv X)) hq ht
theorem aj.len_list {xs:List D} (hq:Q (.int xs.length) H):aj C d H (.builtin "len") [.list xs] Q:=fun A env ρ s ι X vs S hv=>up S <| by
  obtain ⟨v,rfl,hw⟩:=hv.bL; obtain ⟨a,us,n,rfl,_,_,e,hl,r⟩:=hw.bx; refine call_len_list ⟨_,e,rfl,n,rfl⟩ (by refine rl List.size_toArray ?_; exact bK hl) (PR.quiet S .toks ?_ hq); refine rl List.size_toArray (rl r.length ?_); exact .fC
theorem aj.len_str {x:Str} (hq:Q (.int x.length) H):aj C d H (.builtin "len") [.str x] Q:=fun A env ρ s ι X vs S hv=>up S <| by
  obtain ⟨v,rfl,hw⟩:=hv.bL; obtain ⟨hl,t,rfl⟩:=hw.aM; exact P.len_str (by have:=bK hl; exact Int.not_le.mpr this) (PR.quiet S .toks .fC hq)
theorem aj.chr {i:Int} (h0:0≤i) (h1:i≤1114111) (hq:Q (.str ⟨#[i.toNat]⟩) H):aj C d H (.builtin "chr") [.int i] Q:=fun A env ρ s ι X vs S hv=>up S <| by
  obtain ⟨v,rfl,hw⟩:=hv.bL; obtain ⟨t,rfl⟩:=hw.bw; exact chr_of_range h0 h1 (PR.quiet S .toks (.eL (by show 1≤sizeLine; decide)) hq)
theorem aj.abs {i:Int} (hq:Q (.int (if i < 0 then -i else i)) H):aj C d H (.builtin "abs") [.int i] Q:=fun A env ρ s ι X vs S hv=>up S <| by
  obtain ⟨v,rfl,hw⟩:=hv.bL; obtain ⟨t,rfl⟩:=hw.bw; exact call_abs_int fun u tk=>PR.quiet S .toks .fC hq
theorem aj.fP {n:Int} (hq:∀ t u v,Q (.imm (gP 0 n t u v)) H):aj C d H (.type "range") [.int n] Q:=fun A env ρ s ι X vs S hv=>up S <| by
  obtain ⟨v,rfl,hw⟩:=hv.bL; obtain ⟨t,rfl⟩:=hw.bw; exact call_range_1 (PR.quiet S .vq (.lF S.b3.1 S.b3.2 (Heap.get?_push_size _ rfl) (by exact not_eq_of_beq_eq_false rfl) (fun _ _ _ h=>by simp [gP] at h)) (hq _ _ _))
theorem aj.z3 {m n:Int} (hq:∀ t u v,Q (.imm (gP m n t u v)) H):aj C d H (.type "range") [.int m,.int n] Q:=fun A env ρ s ι X vs S hv=>up S <| by
  obtain ⟨v,v',rfl,hw,hw'⟩:=hv.cD; obtain ⟨t,rfl⟩:=hw.bw; obtain ⟨t',rfl⟩:=hw'.bw; exact call_range_2 (PR.quiet S .vq (.lF S.b3.1 S.b3.2 (Heap.get?_push_size _ rfl) (by exact not_eq_of_beq_eq_false rfl) (fun _ _ _ h=>by simp [gP] at h)) (hq _ _ _))
theorem aj.str_int {i:Int} (hi:i.natAbs.log2 < 1920) (hq:Q (.str (toString i)) H):aj C d H (.type "str") [.int i] Q:=fun A env ρ s ι X vs S hv=>up S <| by
  obtain ⟨v,rfl,hw⟩:=hv.bL; obtain ⟨t,rfl⟩:=hw.bw; exact P.str_of_int hi (PR.quiet S .toks (.eL (int_text_fits hi)) hq)
theorem aj.list_str {x:Str} (hq:Q (.list (chars x)) H):aj C d H (.type "list") [.str x] Q:=fun A env ρ s ι X vs S hv=>AM S <| by
  obtain ⟨v,rfl,hw⟩:=hv.bL; obtain ⟨hl,t,rfl⟩:=hw.aM; refine call_list_str S.room.handled x t (hn:=hl) fun h' tk acc c' hk hS hacc hs ht=>?_; refine PR.newList S hs hk (Nat.le_refl _) (vs:=acc.toList) (n:=c') (by assumption) (by simp [hacc.1]; exact hl) (fun X=>?_) hq ht
  have go:∀ (vs:List Value) (cs:List Nat),vs.length=cs.length→(∀ (j:Nat) (v:Value),vs[j]?=some v→∃ c u,cs[j]?=some c∧v=Value.str ⟨#[c]⟩ u)→aE h' ι X (cs.map fun c=>D.str ⟨#[c]⟩) vs:=by
    intro vs
    induction vs with
    | nil=>intro cs hl _; cases cs with
      | nil=>exact .bJ
      | cons=>cases hl
    | cons v vs ih=>intro cs hl hj; cases cs with
      | nil=>cases hl
      | cons c cs =>
        obtain ⟨c',u,e,rfl⟩:=hj 0 v rfl; cases e; exact .aH (.eL (by show 1≤sizeLine; decide)) (ih cs (by simpa using hl) fun j w hw=>by simpa using hj (j+1) w (by simpa using hw))
  refine go acc.toList x.cps.toList (by simp [hacc.1]) fun j v hjv=>?_; obtain ⟨c,u,hc,rfl⟩:=hacc.2 j v (by simpa using hjv); exact ⟨c,u,by simpa using hc,rfl⟩
theorem aE.bools {h:Heap}:∀ {bs:List Bool} {vs:List Value},aE h ι X (bs.map .bool) vs→vs=bs.map .bool
  | [],_,a=>a.nil_of
  | b::bs,_,a=>by obtain ⟨v,r,rfl,c,e⟩:=a.cons_of; refine rl c.dJ (rl (aE.bools e) ?_); rfl
theorem aj.all {bs:List Bool} (hq:Q (.bool (bs.all id)) H):aj C d H (.builtin "all") [.list (bs.map .bool)] Q:=fun A env ρ s ι X vs S hv=>AM S <| by
  obtain ⟨v,rfl,hw⟩:=hv.bL; obtain ⟨a,us,n,rfl,_,_,e,hl,r⟩:=hw.bx; obtain rfl:=r.bools; have hlist:s.heap.IsList a (bs.map Value.bool).toArray:=⟨_,e,rfl,n,rfl⟩; refine call_all_walk (wpAny_pyIter_list hlist ⟨_,_,_,_,_,_,fun i=>bs.getD i true,rfl,Walks.list (A:=A.in1) S.room.handled _ a (Nat.ne_of_lt (Heap.lt_size e)) _,⟨⟨_,Heap.get?_push_size _ rfl,rfl,rfl⟩,hlist.push _⟩,?_,fun h' tk hk hs ht=>?_⟩)
  · intro i v s' Q E hP hQ
    have:∃ b,bs[i]?=some b∧v = .bool b:=by
      have hP:(bs.map Value.bool)[i]?=some v:=by simpa using hP
      rw [List.getElem?_map] at hP
      cases q:bs[i]? with
      | none=>rw [q] at hP; cases hP
      | some b=>rw [q] at hP; cases hP; exact ⟨b,rfl,rfl⟩
    obtain ⟨b,hb,rfl⟩:=this; refine wpAny_truthy_bool ?_; have:bs.getD i true=b:=by refine rl List.getD_eq_getElem?_getD (rl hb ?_); rfl
    refine rr this ?_; exact hQ
  have:((List.range (bs.map Value.bool).toArray.size).all fun i=>bs.getD i true)=bs.all id:=by
    rw [List.size_toArray,List.length_map,Bool.eq_iff_iff,List.all_eq_true,List.all_eq_true]
    constructor
    · intro h b hb
      obtain ⟨i,hi,rfl⟩:=List.mem_iff_getElem.mp hb; have:=h i (List.mem_range.mpr hi)
      simpa [List.getD_eq_getElem?_getD,hi] using this
    intro h i hi; have hi:=List.mem_range.mp hi; have:=h bs[i] (List.getElem_mem hi)
    simpa [List.getD_eq_getElem?_getD,hi] using this
  refine rl this ?_; exact PR.quiet S (.kept hs fun b o e=>hk b o (fun hm=>absurd (Heap.lt_size e) (by refine rl (List.mem_singleton.mp hm) ?_; exact Nat.lt_irrefl _)) (Heap.get?_push_of_some _ e)) .bq hq ht
theorem aE.ints {h:Heap}:∀ {is:List Int} {vs:List Value},aE h ι X (is.map D.int) vs→∀ (j:Nat) (v:Value),vs[j]?=some v→∃ t,v=Value.int (is.getD j 0) t
  | [],_,a,j,v,e=>by rw [a.nil_of] at e; cases e
  | i::is,_,a,j,v,e=>by
    obtain ⟨u,r,rfl,c,f⟩:=a.cons_of
    cases j with
    | zero=>cases e; obtain ⟨t,rfl⟩:=c.bw; exact ⟨t,rfl⟩
    | succ j=>simpa using aE.ints f j v (by simpa using e)
theorem jz (i:Int) (is:List Int):∀ n,preSum (fun j=>(i::is).getD j 0) (n+1)=i+preSum (fun j=>is.getD j 0) n
  | 0=>by exact kdu_shift (fun j=>(i::is).getD j 0) 0
  | n+1=>by rw [preSum,jz i is n,preSum,Int.add_assoc]; rfl
theorem kF:∀ is:List Int,preSum (fun j=>is.getD j 0) is.length=is.sum
  | []=>rfl
  | i::is=>by rw [List.length_cons,jz,kF is,List.sum_cons]
theorem aj.sum {is:List Int} (hq:Q (.int is.sum) H):aj C d H (.builtin "sum") [.list (is.map .int)] Q:=fun A env ρ s ι X vs S hv=>AM S <| by
  obtain ⟨v,rfl,hw⟩:=hv.bL; obtain ⟨a,us,n,rfl,_,_,e,hl,r⟩:=hw.bx; have hlist:s.heap.IsList a us.toArray:=⟨_,e,rfl,n,rfl⟩; have hlt:=Heap.lt_size e; refine call_sum_walkAnyS (wpAny_pyIter_list hlist ⟨_,_,_,_,_,_,_,fun i=>is.getD i 0,rfl,(Walks.list (A:=A.in1) S.room.handled _ a (Nat.ne_of_lt hlt) _).toS,⟨⟨_,Heap.get?_push_size _ rfl,rfl,rfl⟩,hlist.push _⟩,?_,?_,fun s' t' hm hs ht=>?_⟩)
  · intro b hb
    rw [Heap.size_push]; rcases List.mem_cons.mp hb with rfl | hb
    · exact Nat.lt_succ_self _
    rw [List.mem_singleton.mp hb]; exact Nat.lt_succ_of_lt hlt
  · intro i v hP
    exact r.ints i v (by simpa using hP)
  have:us.toArray.size=is.length:=by rw [List.size_toArray,r.length,List.length_map]
  rw [this,kF]; exact PR.quiet S (.of_keep hm.gens hm.os hs (fun b o e _=>hm.heap b o (fun hm=>absurd (Heap.lt_size e) (by rw [List.mem_singleton.mp hm]; exact Nat.lt_irrefl _)) (Heap.get?_push_of_some _ e))) .fC hq ht
theorem aE.strs {h:Heap}:∀ {xs:List Str} {vs:List Value},aE h ι X (xs.map .str) vs→∃ l:List (Str × Tok),vs=strValues l∧l.map (·.1)=xs
  | [],_,a=>⟨[],by refine rl a.nil_of ?_; rfl,rfl⟩
  | x::xs,_,a=>by
    obtain ⟨v,r,rfl,c,e⟩:=a.cons_of; obtain ⟨_,t,rfl⟩:=c.aM; obtain ⟨l,rfl,rfl⟩:=aE.strs e; exact ⟨(x,t)::l,rfl,rfl⟩
theorem aj.join {y:Str} {xs:List Str} (hok:JoinOk y xs=true) (hz:(Txt.join y xs).length≤sizeLine) (hq:Q (.str (Txt.join y xs)) H):aj C d H (.builtin "str.join") [.str y,.list (xs.map .str)] Q:=fun A env ρ s ι X vs S hv=>up S <| by
  obtain ⟨v,v',rfl,hw,hw'⟩:=hv.cD; obtain ⟨_,t,rfl⟩:=hw.aM; obtain ⟨a,us,n,rfl,_,_,e,hl,r⟩:=hw'.bx; obtain ⟨l,rfl,hx⟩:=r.strs; exact SC.join ⟨_,e,rfl,n,rfl⟩ hx hok fun t' k=>PR.quiet S .toks (.eL hz) hq
theorem aj.startswith {x y:Str} (hq:Q (.bool (Txt.startswith x y)) H):aj C d H (.builtin "str.startswith") [.str x,.str y] Q:=fun A env ρ s ι X vs S hv=>up S <| by
  obtain ⟨v,v',rfl,hw,hw'⟩:=hv.cD; obtain ⟨_,t,rfl⟩:=hw.aM; obtain ⟨_,t',rfl⟩:=hw'.aM; exact SC.startswith (PR.quiet S .refl .bq hq)
theorem aE.r9 {h:Heap}:∀ {l:List (Str × Tok)},(∀ p∈l,p.1.length≤sizeLine)→aE h ι X ((l.map (·.1)).map .str) (strValues l)
  | [],_=>.bJ
  | p::l,a=>.aH (.eL (a p (.head _))) (aE.r9 fun q hq=>a q (.tail _ hq))
theorem aj.split {x y:Str} (hy:(y.length==0)=false) (hz:∀ z∈Txt.split x y,z.length≤sizeLine) (hn:(Txt.split x y).length≤sizeLine) (hn2:(Builtin.Str.partsBetween x (Builtin.Str.occurrences x y 0 x.length (x.length+1)) y.length).length≤sizeLine) (hq:Q (.list ((Txt.split x y).map .str)) H):aj C d H (.builtin "str.split") [.str x,.str y] Q:=fun A env ρ s ι X vs S hv=>up S <| by
  obtain ⟨v,v',rfl,hw,hw'⟩:=hv.cD; obtain ⟨hx,t,rfl⟩:=hw.aM; obtain ⟨_,u,rfl⟩:=hw'.aM
  have fin:∀ (l:List (Str × Tok)) (tk:Nat),l.map (·.1)=Txt.split x y→(C.t0≤tk→Post C d A env ρ ι X s Q (.ref s.heap.objs.size) { s with heap:=s.heap.push { cls:=.type "list",data:=.seq (strValues l).toArray },toks:=tk }):=fun l tk hl ht=>by
    refine PR.newList (vs:=strValues l) (n:=0) S (by rw [Heap.size_push]; exact Nat.le_succ _) (fun b o e=>Heap.get?_push_of_some _ e) (Nat.le_refl _) (Heap.get?_push_size _ rfl) (by rw [strValues,List.length_map,← List.length_map (f:=(·.1)),hl]; exact hn) (fun X=>?_) hq ht; refine rr hl ?_; exact aE.r9 fun p hp=>hz _ (hl ▸ List.mem_map_of_mem (f:=(·.1)) hp)
  cases h1:(decide (x.length < y.length) || decide (Builtin.Str.strKind x < Builtin.Str.strKind y))
  · cases hf:(Builtin.Str.occurrences x y 0 x.length (x.length+1)).isEmpty
    · refine call_meets PySem.F.slot_str_split (typeIs_str _ _ _) PySem.F.entry_str_split (PySem.F.args_str_split_2 _ _) (meets_str_split_sep x y t u h1 hy hf hx hn2) ?_
      rw [strsFrom_eq]; exact fin (numbered s.toks _) _ ((numbered_texts _ _).trans ((if_neg (ne_true_of_eq_false h1)).trans (if_neg (ne_true_of_eq_false hf))).symm)
    exact call_meets PySem.F.slot_str_split (typeIs_str _ _ _) PySem.F.entry_str_split (PySem.F.args_str_split_2 _ _) (meets_str_split_not_found x y t u h1 hy hf) (fin [(x,t)] s.toks ((if_neg (ne_true_of_eq_false h1)).trans (if_pos hf)).symm)
  exact call_meets PySem.F.slot_str_split (typeIs_str _ _ _) PySem.F.entry_str_split (PySem.F.args_str_split_2 _ _) (meets_str_split_cannot_occur x y t u h1) (fin [(x,t)] s.toks (if_pos h1).symm)
end
theorem qO {ι:Ad} (h:(br ι).Nodup) {i k:Nat} {p q:List Addr} (hp:ι[i]?=some p) (hq:ι[k]?=some q) (hne:i≠k) {a:Addr} (h1:a∈p) (h2:a∈q):False:=by
  induction ι generalizing i k with
  | nil=>cases hp
  | cons r ι ih =>
    unfold br at h; rw [List.flatten_cons,List.nodup_append] at h; obtain ⟨_,h',hd⟩:=h
    cases i with
    | zero =>
      cases k with
      | zero=>exact hne rfl
      | succ k=>cases hp; exact hd a h1 a (List.mem_flatten.mpr ⟨q,List.mem_of_getElem? (by simpa using hq),h2⟩) rfl
    | succ i =>
      cases k with
      | zero=>cases hq; exact hd a h2 a (List.mem_flatten.mpr ⟨p,List.mem_of_getElem? (by simpa using hp),h1⟩) rfl
      | succ k=>exact ih h' (by simpa using hp) (by simpa using hq) (fun e=>hne (by exact rl e rfl))
section
variable {C:Cx} {d:Nat} {A:Around} {env:Env} {ρ:Loc} {H:List O} {ι:Ad} {X:List Addr} {s:Shared} {Q:D→List O→Prop}
theorem St.newobj {s':Shared} {p:List Addr} {o:O} (S:St C d A env ρ H ι X s) (x:Ext C.B [] s s') (ht:C.t0≤s'.toks) (hp:∀ a∈p,s.heap.objs.size≤a∧a < s'.heap.objs.size) (hn:p.Nodup) (ho:OR C s'.heap (ι++[p]) X p o) :
    St C d A env ρ (H++[o]) (ι++[p]) X s'∧Gr C.B ι s (ι++[p]) s':=by
  have g:Gr C.B ι s (ι++[p]) s':=⟨⟨[p],rfl,fun a ha=>(hp a (by simpa [br] using ha)).1⟩,x.mono bu⟩; refine ⟨S.after g ht (fun a ha=>?_) ?_ ⟨?_,fun i q o' hq ho'=>?_⟩,g⟩
  · rw [bD] at ha
    rcases List.mem_append.mp ha with h | h
    · exact ⟨(S.is a h).1,Nat.lt_of_lt_of_le (S.is a h).2 x.size⟩
    have:=hp a (by simpa [br] using h); exact ⟨Nat.le_trans S.big this.1,this.2⟩
  · rw [bD,List.nodup_append]
    refine ⟨S.nd,by simpa [br] using hn,fun a ha b hb e=>?_⟩; subst e; exact absurd (S.is a ha).2 (Nat.not_lt.mpr (hp a (by simpa [br] using hb)).1)
  · refine rl List.length_append (rl List.length_append (rl S.objs.1 ?_)); rfl
  rcases Nat.lt_trichotomy i ι.length with h | h | h
  · rw [List.getElem?_append_left h] at hq
    rw [List.getElem?_append_left (by refine rr S.objs.1 ?_; exact h)] at ho'; exact OR.gr g x (by simp) (S.objs.2 i q o' hq ho')
  · subst h
    rw [List.getElem?_append_right (Nat.le_refl _)] at hq; rw [S.objs.1,List.getElem?_append_right (Nat.le_refl _)] at ho'; simp at hq ho'; subst hq; subst ho'; exact ho
  rw [List.getElem?_eq_none (by refine rl List.length_append (rl List.length_singleton ?_); exact xY h)] at hq; cases hq
theorem St.upd {s':Shared} {p:List Addr} {k:Nat} {o':O} (S:St C d A env ρ H ι X s) (hp:ι[k]?=some p) (x:Ext C.B p s s') (ht:C.t0≤s'.toks) (ho:OR C s'.heap ι X p o') :
    St C d A env ρ (H.set k o') ι X s'∧Gr C.B ι s ι s':=by
  have g:Gr C.B ι s ι s':=.aB (x.mono fun a ha=>jW.mpr ⟨p,List.mem_of_getElem? hp,ha⟩); refine ⟨S.after g ht (fun a ha=>⟨(S.is a ha).1,Nat.lt_of_lt_of_le (S.is a ha).2 x.size⟩) S.nd ⟨by refine rl List.length_set ?_; exact S.objs.1,fun i q o'' hq ho''=>?_⟩,g⟩
  by_cases h:k=i
  · subst h
    rw [hp] at hq; cases hq; rw [List.getElem?_set_self (by refine rr S.objs.1 ?_; exact (List.getElem?_eq_some_iff.mp hp).1)] at ho''; cases ho''; exact ho
  rw [List.getElem?_set_ne h] at ho''; exact OR.gr g x (fun a h1 h2=>qO S.nd hq hp (Ne.symm h) h1 h2) (S.objs.2 i q o'' hq ho'')
theorem St.sf {s':Shared} {p:List Addr} {o:O} {a:Addr} {r:List Addr} (S:St C d A env ρ H ι X s) (x:Ext C.B [] s s') (hp:∀ a∈p,s.heap.objs.size≤a∧a < s'.heap.objs.size) (hn:p.Nodup) (ho:OR C s'.heap (ι++[p]) X p o) (e:p=a::r)
    (hq:Q (.obj H.length) (H++[o])):C.t0≤s'.toks→Post C d A env ρ ι X s Q (.ref a) s':=fun ht=>by
  obtain ⟨S',g⟩:=S.newobj x ht hp hn ho; exact ⟨.obj H.length,_,_,hq,S',.m6 (r:=r) (by refine rr S.objs.1 (rr e ?_); exact List.getElem?_concat_length),g⟩
theorem EV.sG {es:List Expr} {pos:Pos} (hs:es.all (fun e=>!isStarred e)=true) (h:az C d env ρ es H fun xs H'=>xs.length≤sizeLine∧Q (.obj H'.length) (H'++[.list xs])):EV C d env ρ H (.List es pos) Q:=fun A s ι X S=>by
  rw [arm_eval_List]; refine wpAny_bind (wpAny_standAt (wpAny_bind (aC (az.spliced (pos:=pos) hs h S) (fun vs s₁ xs H₁ ι₁ q3_ S₁ r g₁=>?_) zz))); obtain ⟨hl,hq⟩:=q3_; refine wpAny_mono (up S₁ (wpAny_newList ?_ (by refine rl r.length ?_; exact hl))) (fun _ _ p=>p.back g₁) zz; have hgr:Gr C.B ι₁ s₁ (ι₁++[[s₁.heap.objs.size]]) { s₁ with heap:=s₁.heap.push (aA vs 0) }:=⟨⟨_,rfl,fun a ha=>by simp [br] at ha; refine rl ha ?_; exact Nat.le_refl _⟩,.push⟩; refine S₁.sf (p:=[s₁.heap.objs.size]) (o:=.list xs) .push (fun a ha=>?_) (by simp) ⟨_,vs,0,rfl,Heap.get?_push_size _ rfl,by refine rl r.length ?_; exact hl,aE.gr hgr r⟩ rfl hq; refine rl (List.mem_singleton.mp ha) ?_; refine ⟨Nat.le_refl _,?_⟩; rw [Heap.size_push]; exact Nat.lt_succ_self _
theorem aj.append {k:Nat} {xs:List D} {y:D} (ho:H[k]?=some (.list xs)) (hl:xs.length < sizeLine) (hq:Q .none (H.set k (.list (xs++[y])))):aj C d H (.builtin "list.append") [.obj k,y] Q:=fun A env ρ s ι X vs S hv=>by
  obtain ⟨v,u,rfl,hw,hu⟩:=hv.cD; obtain ⟨a,q,ha,rfl⟩:=hw.bf; obtain ⟨a',us,n,e,he,hz,r⟩:=S.objs.get ha ho; cases e; refine wpAny_list_append_plain (hsz:=by refine rl List.size_toArray (rl r.length ?_); exact z6 hl) ⟨n,he⟩ fun h' hp hs=>?_; have x1:Ext C.B [a] s { s with heap:=h' }:=Ext.gI (t:=s.toks) hs; obtain ⟨n',e'⟩:=hp; have hY:∀ b∈[a],b∈br ι ∨ b∈X:=fun b h=>by refine rl (List.mem_singleton.mp h) ?_; exact .inl (bU ha)
  obtain ⟨S',g⟩:=S.upd (o':=.list (xs++[y])) ha x1 S.toks ⟨a,us++[u],n',rfl,by simpa [aA] using e',by refine rl List.length_append (rl List.length_singleton (rl r.length ?_)); exact xY hl,aE.eF aW x1 hY (r.append (.aH hu .bJ))⟩; exact ⟨.none,_,ι,hq,S',.none_,g⟩
end
theorem mS {prog:Program} {w:World} {A:Around} {E:Value→Shared→Prop} {s:Shared} {l:Addr} {us:List Value} {u v:Value} {n:Nat} {t:Tok} {Q:Unit→Shared→Prop} (he:s.heap.get? l=some (aA (us++[u]) n)) (hz:(us++[u]).length≤sizeLine)
    (hQ:∀ h' n',h'.get? l=some (aA (us++[v]) n')→Heap.SameBut l s.heap h'→Q () { s with heap:=h' }):wpAny (model prog w) A (setItem (.ref l) (.int (-1) t) v) Q E s:=by
  have hl:s.heap.IsList l (us++[u]).toArray:=⟨_,he,rfl,n,rfl⟩; have hd:(aA (us++[u]) n).data = .seq (us++[u]).toArray n:=rfl; unfold setItem
  try with_reducible refine wpAny_holding ?_
  first | refine wpAny_bind (wpAny_pure ?_) | skip
  refine wpAny_bind (wpAny_sequenceKey hl.typeIs (by decide) ?_)
  refine wpAny_bind (wpAny_callSpecial?_slot (name:=Str.ofString "__setitem__") hl.typeIs slot_list_setitem
    (wpAny_call_entry slot_list_setitem hl.typeIs entry_list_setitem ?_ (args_list_setitem _ _ _)))
  show wpAny _ _ (Builtin.List.listSubscript? (.int (-1) t) >>= _) _ _ s; refine wpAny_bind (wpAny_listSubscript_int (fitsIndex_neg (by decide) (by omega)) ?_); have hidx:=seqIndex_neg (k:=-1) (n:=(us++[u]).toArray.size) (by decide) (by simp; exact Bm); refine wpAny_bind (wpAny_bind ?_); refine wpAny_bind (wpAny_seqItems he hd (wpAny_pure (wpAny_pure ?_))); have e1:(-1+((us++[u]).toArray.size:Int)).toNat=us.length:=by simp; exact Bl
  refine rl (show (Int.negSucc 0) = -1 from rfl) (rl hidx (rl e1 ?_)); simp only [Option.bind_some,(by simp:(us++[u]).toArray[us.length]?=some u),Option.map_some]
  have e3:Obj.mapSeq (·.setIfInBounds us.length v) (aA (us++[u]) n)=aA (us++[v]) n:=by
    unfold aA Obj.mapSeq; simp only [(by simp:(us++[u]).toArray.setIfInBounds us.length v=(us++[v]).toArray)]; simp
  have hfin:(s.heap.update l (Obj.mapSeq (·.setIfInBounds us.length v))).get? l=some (aA (us++[v]) n):=by
    exact rl (Heap.get?_update_self _ he (by rw [e3]; rfl)) (rl e3 rfl)
  refine wpAny_bind (wpAny_setSeqItemAt he hd ?_)
  first
    | exact wpAny_bind (wpAny_pure (wpAny_pure ⟨.none,rfl,wpAny_pure (hQ _ n hfin (Heap.SameBut.update ..))⟩))
    | exact wpAny_pure ⟨.none,rfl,wpAny_pure (hQ _ n hfin (Heap.SameBut.update ..))⟩
section
variable {C:Cx} {d:Nat} {A:Around} {env:Env} {ρ:Loc} {H:List O} {ι:Ad} {X:List Addr} {s:Shared} {Q:D→List O→Prop}
theorem Fy.neg {i:Int} (hq:Q (.int (-i)) H):Fy C d H (.int i) (unaryOp .USub) Q:=fun A env ρ s ι X v S hv=>up S <| by
  obtain ⟨t,rfl⟩:=hv.bw; exact PyProof.Rows.neg_int (PR.quiet S .toks .fC hq)
theorem EX.yW {o i e:Expr} {tpos pos:Pos} {k:Nat} {xs:List D} {a b:Str} {R:Fl→Loc→List O→Prop} (hi:∀ ov iv new,augStore i ov iv new=(do holding [new,ov,iv] (setItem ov iv new); release [new,ov,iv] []; pure .next))
    (h:EV C d env ρ H o fun x H₁=>x = .obj k∧EV C d env ρ H₁ i fun y H₂=>y = .int (-1)∧H₂[k]?=some (.list (xs++[.str a]))∧EV C d env ρ H₂ e fun z H₃=>z = .str b∧H₃[k]?=some (.list (xs++[.str a]))∧a.length+b.length≤sizeLine∧R .next ρ (H₃.set k (.list (xs++[.str (a++b)])))) :
    EX C d env ρ H (.AugAssign (.Subscript o i tpos) .Add e pos) R:=fun A s ι X S=>by
  refine wpAny_AugAssign_SubscriptAny (aC (h A s ι X S) (fun ov s₁ x H₁ ι₁ q3_ S₁ v₁ g₁=>?_) zz) hi; obtain ⟨rfl,h₁⟩:=q3_; refine aC (h₁ A s₁ ι₁ X S₁) (fun iv s₂ y H₂ ι₂ q3_ S₂ v₂ g₂=>?_) zz; obtain ⟨rfl,ho,h₂⟩:=q3_; obtain ⟨t,rfl⟩:=v₂.bw; obtain ⟨l,q,hl,rfl⟩:=(VR.gr g₂ v₁).bf; obtain ⟨l',us,n,e1,he,hz,r⟩:=S₂.objs.get hl ho; cases e1
  have hsub:zS (.list (xs++[.str a])) (.int (-1)) H₂ (fun x H'=>x = .str a∧H'=H₂):=by
    refine ⟨.str a,?_,rfl,rfl⟩; unfold d7; refine rl (if_neg (by decide)) (rl (if_pos (by simp; exact Bm)) ?_); have e0:(-1+((xs++[D.str a]).length:Int)).toNat=xs.length:=by simp; exact Bl
    refine rl e0 ?_; exact List.getElem?_concat_length
  obtain ⟨x',hx',hx1,_⟩:=hsub; subst hx1; refine aC (gV (Q:=fun x H'=>x = .str a∧H'=H₂) S₂ he hz r hx' ⟨rfl,rfl⟩) (fun old s₃ _ H₃ ι₃ q3_ S₃ v₃ g₃=>?_) zz; obtain ⟨rfl,rfl⟩:=q3_; refine aC (h₂ A s₃ ι₃ X S₃) (fun u s₄ _ H₄ ι₄ q3_ S₄ v₄ g₄=>?_) zz; obtain ⟨rfl,ho4,hab,hq⟩:=q3_; obtain ⟨_,ta,rfl⟩:=v₃.aM; obtain ⟨_,tb,rfl⟩:=v₄.aM; refine wpAny_with_toks S₄.toks (PyProof.Rows.iadd_str (fun t' tk htk=>?_) hab); have S₅:=S₄.quiet (Ext.toks (Y:=[]) (t:=tk)) htk; have hl4:ι₄[k]?=some [l]:=g₄.get? (g₃.get? hl); obtain ⟨l',us4,n4,e4,he4,hz4,r4⟩:=S₅.objs.get hl4 ho4; cases e4
  obtain ⟨us',u',rfl,r5,_⟩:∃ us' u',us4=us'++[u']∧aE s₄.heap ι₄ X xs us'∧True:=by
    clear hq he4 hz4
    have go:∀ (xs:List D) (vs:List Value) (y:D),aE s₄.heap ι₄ X (xs++[y]) vs→∃ us' u',vs=us'++[u']∧aE s₄.heap ι₄ X xs us'∧True:=by
      intro xs
      induction xs with
      | nil=>intro vs y h; obtain ⟨v,r,rfl,_,h2⟩:=h.cons_of; refine rl h2.nil_of ?_; exact ⟨[],v,rfl,.bJ,trivial⟩
      | cons x xs ih =>
        intro vs y h; obtain ⟨v,r,rfl,hv,h2⟩:=h.cons_of; obtain ⟨us',u',rfl,h',_⟩:=ih r y h2; exact ⟨v::us',u',rfl,.aH hv h',trivial⟩
    exact go xs us4 _ r4
  refine mS (s:={ s₄ with toks:=tk }) he4 hz4 fun h' n' hn' hs'=>?_; have x1:Ext C.B [l] { s₄ with toks:=tk } { s₄ with heap:=h',toks:=tk }:=Ext.gI (s:={ s₄ with toks:=tk }) (t:=tk) hs'; have hY:∀ b∈[l],b∈br ι₄ ∨ b∈X:=fun b h=>by refine rl (List.mem_singleton.mp h) ?_; exact .inl (bU hl4)
  obtain ⟨S',g'⟩:=S₅.upd (o':=.list (xs++[.str (a++b)])) hl4 x1 htk ⟨l,us'++[.str (a++b) t'],n',rfl,hn',(by simpa using hz4:(us'++[Value.str (a++b) t']).length≤sizeLine),aE.eF aW x1 hY (r5.append (.aH (.eL (by rw [Str.length_append]; exact hab)) .bJ))⟩; exact ⟨.next,ρ,_,ι₄,hq,S',rfl,(((g₁.trans g₂).trans (g₃.trans g₄)).trans ((Gr.aB (Ext.toks (t:=tk))).trans g')).e⟩
end
end Mine
namespace Mine
mutual
theorem VR.gS {h:Heap} {ι ι':Ad} {X:List Addr} (hι:∀ a∈br ι',a∈br ι):∀ (n:Nat) {x:D} {v:Value},D.ok n x=true→VR h ι X x v→VR h ι' X x v
  | _,.none,_,_,a=>by refine rl a.none_of ?_; exact .none_
  | _,.bool _,_,_,a=>by refine rl a.dJ ?_; exact .bq
  | _,.int _,_,_,a=>by obtain ⟨t,rfl⟩:=a.bw; exact .fC
  | _,.str _,_,_,a=>by obtain ⟨hl,t,rfl⟩:=a.aM; exact .eL hl
  | 0,.list _,_,e,_=>(Bool.false_ne_true e).elim
  | 0,.tuple _,_,e,_=>(Bool.false_ne_true e).elim
  | n+1,.list xs,_,e,a=>by
    obtain ⟨b,vs,k,rfl,h1,h2,he,hl,r⟩:=a.bx; exact .dZ h1 (fun hm=>h2 (hι b hm)) he hl (aE.gS hι n (fQ e) r)
  | n+1,.tuple xs,_,e,a=>by
    obtain ⟨b,vs,k,rfl,h1,h2,he,hl,r⟩:=a.cZ; exact .fj h1 (fun hm=>h2 (hι b hm)) he hl (aE.gS hι n (fQ e) r)
  | n,.obj _,_,e,_=>(Bool.false_ne_true e).elim
  | n,.val _,_,e,_=>(Bool.false_ne_true e).elim
  | n,.imm _,_,e,_=>(Bool.false_ne_true e).elim
theorem aE.gS {h:Heap} {ι ι':Ad} {X:List Addr} (hι:∀ a∈br ι',a∈br ι):∀ (n:Nat) {xs:List D} {vs:List Value},(∀ x∈xs,D.ok n x=true)→aE h ι X xs vs→aE h ι' X xs vs
  | _,[],_,_,a=>by refine rl a.nil_of ?_; exact .bJ
  | n,x::xs,_,e,a=>by
    obtain ⟨v,r,rfl,b,c⟩:=a.cons_of; exact .aH (VR.gS hι n (e x (.head _)) b) (aE.gS hι n (fun y hy=>e y (.tail _ hy)) c)
end
inductive Fz (H:List O):D→D→Prop
  | ok {x:D}:D.ok 8 x=true→Fz H x x
  | obj {k:Nat} {ys:List D}:H[k]?=some (.list ys)→(∀ y∈ys,D.ok 8 y=true)→Fz H (.obj k) (.list ys)
  | pair {a b a' b':D}:Fz H a a'→Fz H b b'→Fz H (.tuple [a,b]) (.tuple [a',b'])
section
variable {C:Cx} {d:Nat} {A:Around} {env:Env} {ρ:Loc} {H:List O} {ι:Ad} {X:List Addr} {s:Shared} {Q:D→List O→Prop}
theorem VR.fz (S:St C d A env ρ H ι X s) {x y:D} (f:Fz H x y):∀ {v:Value},VR s.heap ι X x v→VR s.heap [] X y v:=by
  have hι:∀ a∈br ([]:Ad),a∈br ι:=fun a h=>by simp [br] at h
  induction f with
  | ok h=>intro v a; exact VR.gS hι 8 h a
  | obj ho hk =>
    intro v a; obtain ⟨l,q,hl,rfl⟩:=a.bf; obtain ⟨l',us,n,e1,he,hz,r⟩:=S.objs.get hl ho; cases e1; exact .dZ (fun hm=>S.iR l (bU hl) hm) (by simp [br]) he hz (aE.gS hι 8 hk r)
  | pair _ _ ih1 ih2 =>
    intro v a; obtain ⟨b,vs,k,rfl,h1,h2,he,hl,r⟩:=a.cZ; obtain ⟨v1,v2,rfl,c1,c2⟩:=r.cD; exact .fj h1 (by simp [br]) he hl (.aH (ih1 c1) (.aH (ih2 c2) .bJ))
theorem aj.fz {f:Value} {xs:List D} (h:aj C d [] f xs fun x H'=>∃ y,Fz H' x y∧Q y []):aj C d [] f xs Q:=fun A env ρ s ι X vs S hv=>by
  refine aC (h A env ρ s ι X vs S hv) (fun v s' x H' ι' q3_ S' v' g=>?_) zz; obtain ⟨y,hf,hq⟩:=q3_; have e:ι=[]:=List.eq_nil_of_length_eq_zero (by refine rl S.objs.1 ?_; rfl); subst e; have g':Gr C.B [] s [] s':=⟨⟨[],rfl,by simp [br]⟩,g.ext⟩; exact ⟨y,[],[],hq,S.after g' S'.toks (by simp [br]) (by simp [br]) ⟨rfl,fun i p o hp=>by simp at hp⟩,VR.fz S' hf v',g'⟩
theorem AS.pair {x y:Str} {p q pos:Pos} {k:Nat} {a b:D} {R:Loc→Prop} (hx:binds env x=true) (hy:binds env y=true) (h:R (aQ y b (aQ x a ρ))):AS C d env (.Tuple [.Name x p,.Name y q] k pos) (.list [a,b]) ρ H R:=fun A s ι X v S hv=>by
  obtain ⟨l,us,n,rfl,h1,h2,he,hl,r⟩:=id hv.bx; have hlist:s.heap.IsList l us.toArray:=⟨_,he,rfl,n,rfl⟩; rw [arm_assign_Tuple]; refine wpAny_bind (wpAny_standAt ?_); unfold unpack; refine wpAny_bind (wpAny_holding ?_); show wpAny _ _ (unpackItems (.ref l) 2 none) _ _ _; unfold unpackItems; refine wpAny_bind ?_; unfold notIterableAtAll; refine wpAny_bind (wpAny_specialOf hlist.typeIs slot_list_iter.lookup ?_); refine wpAny_pure ?_; simp only [Bool.false_eq_true,if_false]; refine wpAny_bind (wpAny_holding (kP .list trivial S hv fun I s₁ hI x1 S₁ v₁ ha₁=>?_)); have hIX:I∈[I]++X:=.head _; have fr:∀ a∈[I],s.heap.objs.size≤a:=fun a h=>by refine rl (List.mem_singleton.mp h) ?_; exact hI
  have hYX:∀ a∈[I],a∈br ι ∨ a∈[I]++X:=fun a h=>by refine rl (List.mem_singleton.mp h) ?_; exact .inr hIX
  refine wpAny_bind (wpAny_holding ?_); show wpAny _ _ (pyNext (.ref I) >>= _) _ _ _; refine wpAny_bind (wpAny_mono (wpAny_toks_of S₁.toks (gv .list trivial S₁ v₁ hIX ha₁ (y:=a) rfl)) (fun r s₂ q=>?_) fun _ _ z=>z.2); obtain ⟨t2,u1,rfl,x2,ha2,vu1⟩:=q; obtain ⟨o1,ho1,gd1⟩:=ha₁.odd; have S₂:=S₁.turn hIX ho1 (.fields gd1.1.choose_spec) x2 t2; have v₂:=VR.eF aW x2 hYX v₁; refine wpAny_bind (wpAny_holding ?_); show wpAny _ _ (pyNext (.ref I) >>= _) _ _ _; refine wpAny_bind (wpAny_mono (wpAny_toks_of S₂.toks (gv .list trivial S₂ v₂ hIX ha2 (y:=b) rfl)) (fun r s₃ q=>?_) fun _ _ z=>z.2); obtain ⟨t3,u2,rfl,x3,ha3,vu2⟩:=q; obtain ⟨o2,ho2,gd2⟩:=ha2.odd; have S₃:=S₂.turn hIX ho2 (.fields gd2.1.choose_spec) x3 t3; refine wpAny_bind (wpAny_holding ?_); show wpAny _ _ (pure _) _ _ _; refine wpAny_pure (wpAny_pure (wpAny_pure ?_)); show wpAny _ _ (if ([u1,u2].length < 2) then _ else _) _ _ _; refine rl (if_neg (by simp)) ?_; refine wpAny_bind (wpAny_holding (wpAny_mono (wpAny_toks_of S₃.toks (kQ .list trivial S₃ (VR.eF aW x3 hYX v₂) ha3 rfl)) (fun r s₄ q=>?_) fun _ _ z=>z.2)); obtain ⟨t4,rfl,x4⟩:=q; obtain ⟨o3,ho3,gd3⟩:=ha3.odd; have hsub:∀ a∈X,a∈[I]++X:=fun a h=>List.mem_append_right _ h; have hw:∀ a∈X,a∈[I]++X ∨ s₄.heap.objs.size≤a:=fun a h=>.inl (hsub a h); have S₄':=S.narrow (S₃.turn hIX ho3 (.fields gd3.1.choose_spec) x4 t4) hsub; simp only [Option.isSome_none,Bool.false_eq_true,if_false]; refine wpAny_pure ?_; show wpAny _ _ (holding [u2] (assign (.Name x p) env u1) >>= fun _=>assignInOrder [assign (.Name y q) env] [u2]) _ _ _; refine wpAny_bind (wpAny_holding (wpAny_assign_Name (wpAny_mono (fK S₄' (VR.aR hw (VR.eF aW x4 hYX (VR.eF aW x3 hYX vu1))) hx) (fun _ s₅ q=>?_) zz))); obtain ⟨S₅,g5⟩:=q; show wpAny _ _ (holding [] (assign (.Name y q) env u2) >>= fun _=>pure ()) _ _ _; refine wpAny_bind (wpAny_holding (wpAny_assign_Name (wpAny_mono (fK S₅ (VR.Gy (VR.aR hw (VR.eF aW x4 hYX vu2)) g5 S₄'.own) hy) (fun _ s₆ q=>?_) zz))); obtain ⟨S₆,g6⟩:=q; exact wpAny_pure ⟨_,h,S₆,(((((ia.refl.less (Y:=[]) x1 bu).less x2 fr).less x3 fr).less x4 fr:ia C.B env ι s ι s₄).trans g5).trans g6⟩
end
end Mine
namespace Mine
section
variable {C:Cx} {d:Nat} {A:Around} {env:Env} {ρ:Loc} {H:List O} {ι:Ad} {X:List Addr} {s:Shared} {Q:D→List O→Prop}
theorem VR.qz {n:Str} {v:Value} (a:VR s.heap ι X (.str n) v):(PySem.strKind C.prog C.w).is n v=true:=by
  obtain ⟨_,t,rfl⟩:=a.aM; exact jY
theorem dM:∀ {us:List (Str × Value)} {kvs:List (Str × D)} {n:Str},us.map (·.1)=kvs.map (·.1)→(valueAt us n).isSome=(kvs.lookup n).isSome
  | [],[],n,_=>rfl
  | [],_::_,_,h=>by cases h
  | _::_,[],_,h=>by cases h
  | (a,u)::us,(b,e)::kvs,n,h=>by
    simp only [List.map_cons,List.cons.injEq] at h; obtain ⟨rfl,h⟩:=h
    by_cases q:a=n
    · subst q; simp [valueAt]
    have q':(n==a)=false:=by simpa using fun e=>q e.symm
    refine rl List.lookup_cons (rl q' (rr (dM (n:=n) h) ?_)); simp [valueAt,List.find?_cons,q]
theorem aO.inDict {k:Nat} {n:Str} {kvs:List (Str × D)} (O:C.Ok) (ho:H[k]?=some (.dict kvs)) (hq:Q (.bool (kvs.lookup n).isSome) H):aO C d H (.str n) (.obj k) (compareOp .In) Q:=fun A env ρ s ι X u v S hu hv=>up S <| by
  obtain ⟨a,q,ha,rfl⟩:=hv.bf; obtain ⟨a',us,e1,hd,hk,hvs⟩:=S.objs.get ha ho; cases e1; refine wpAny_in_of hu.qz (low_ne S O (bU ha)) hd.mapOf (PR.quiet S .toks ?_ hq); refine rl (dM hk) ?_; exact .bq
theorem aO.ue {k:Nat} {n:Str} {kvs:List (Str × D)} (O:C.Ok) (ho:H[k]?=some (.dict kvs)) (hq:Q (.bool (!(kvs.lookup n).isSome)) H):aO C d H (.str n) (.obj k) (compareOp .NotIn) Q:=fun A env ρ s ι X u v S hu hv=>up S <| by
  obtain ⟨a,q,ha,rfl⟩:=hv.bf; obtain ⟨a',us,e1,hd,hk,hvs⟩:=S.objs.get ha ho; cases e1; refine wpAny_notIn_of hu.qz (low_ne S O (bU ha)) hd.mapOf (PR.quiet S .toks ?_ hq); refine rl (dM hk) ?_; exact .bq
noncomputable def dG (kvs:List (Str × D)) (n:Str) (e:D):List (Str × D) :=
  if kvs.any (fun p=>p.1=n) then kvs.map (fun p=>if p.1=n then (p.1,e) else p) else kvs++[(n,e)]
theorem any_keys {α β:Type} {n:Str}:∀ {us:List (Str × α)} {kvs:List (Str × β)},us.map (·.1)=kvs.map (·.1)→(us.any fun p=>p.1=n)=kvs.any fun p=>p.1=n
  | [],[],_=>rfl
  | [],_::_,h=>by cases h
  | _::_,[],h=>by cases h
  | (a,u)::us,(b,e)::kvs,h=>by
    simp only [List.map_cons,List.cons.injEq] at h; obtain ⟨rfl,h⟩:=h; exact rl List.any_cons (rl List.any_cons (rl (any_keys h) rfl))
theorem qA {h:Heap} {n:Str} {e:D} {v:Value} (hv:VR h ι X e v) {us:List (Str × Value)} {kvs:List (Str × D)} (hk:us.map (·.1)=kvs.map (·.1)) (r:aE h ι X (kvs.map (·.2)) (us.map (·.2))) :
    (stored us n v).map (·.1)=(dG kvs n e).map (·.1)∧aE h ι X ((dG kvs n e).map (·.2)) ((stored us n v).map (·.2)):=by
  unfold stored dG; refine rl (any_keys hk) ?_; split
  · have go:∀ (us:List (Str × Value)) (kvs:List (Str × D)),us.map (·.1)=kvs.map (·.1)→aE h ι X (kvs.map (·.2)) (us.map (·.2)) →
        (us.map (fun kv=>if kv.1=n then (kv.1,v) else kv)).map (·.1)=(kvs.map (fun p=>if p.1=n then (p.1,e) else p)).map (·.1)∧aE h ι X ((kvs.map (fun p=>if p.1=n then (p.1,e) else p)).map (·.2)) ((us.map (fun kv=>if kv.1=n then (kv.1,v) else kv)).map (·.2)):=by
      intro us
      induction us with
      | nil=>intro kvs hk r; cases kvs with
        | nil=>exact ⟨rfl,.bJ⟩
        | cons=>cases hk
      | cons p us ih=>intro kvs hk r; cases kvs with
        | nil=>cases hk
        | cons q kvs =>
          simp only [List.map_cons,List.cons.injEq] at hk r ⊢; obtain ⟨h0,hk⟩:=hk; obtain ⟨w,r',e',a,b⟩:=r.cons_of; cases e'; obtain ⟨i1,i2⟩:=ih kvs hk b; refine rl h0 ?_
          by_cases c:q.1=n
          · simp only [c,if_true]; exact ⟨⟨trivial,i1⟩,.aH hv i2⟩
          simp only [c,if_false]; exact ⟨⟨h0,i1⟩,.aH a i2⟩
    exact go us kvs hk r
  refine ⟨by simp [hk],?_⟩; refine rl List.map_append (rl List.map_append ?_); exact r.append (.aH hv .bJ)
theorem EX.iD {o i e:Expr} {p pos:Pos} {k:Nat} {n:Str} {kvs:List (Str × D)} {R:Fl→Loc→List O→Prop} (hs:swapsWith e (some (.Subscript o i p)) pos.line env=pure false)
    (h:EV C d env ρ H e fun x H₁=>EV C d env ρ H₁ o fun y H₂=>y = .obj k∧EV C d env ρ H₂ i fun z H₃=>z = .str n∧H₃[k]?=some (.dict kvs)∧kvs.length≤sizeLine∧R .next ρ (H₃.set k (.dict (dG kvs n x)))) :
    EX C d env ρ H (.Assign [.Subscript o i p] e pos) R:=fun A s ι X S=>by
  refine wpAny_Assign_Subscript (aC (h A s ι X S) (fun v s₁ x H₁ ι₁ h₁ S₁ v₁ g₁=>?_) zz) hs; refine aC (h₁ A s₁ ι₁ X S₁) (fun ov s₂ y H₂ ι₂ q3_ S₂ v₂ g₂=>?_) zz; obtain ⟨rfl,h₂⟩:=q3_; refine aC (h₂ A s₂ ι₂ X S₂) (fun iv s₃ z H₃ ι₃ q3_ S₃ v₃ g₃=>?_) zz; obtain ⟨rfl,ho,hz,hq⟩:=q3_; obtain ⟨a,q,ha,rfl⟩:=(VR.gr g₃ v₂).bf; obtain ⟨a',us,e1,hd,hk,hvs⟩:=S₃.objs.get ha ho; cases e1; have hlen:us.length=kvs.length:=by have:=congrArg List.length hk; simpa using this
  refine wpAny_setItem_pairs (hsz:=by refine rl hlen ?_; exact hz) v₃.qz hd fun h' hd' hs'=>?_; have x1:Ext C.B [a] s₃ { s₃ with heap:=h',toks:=s₃.toks+1 }:=Ext.gI hs'; have hY:∀ b∈[a],b∈br ι₃ ∨ b∈X:=fun b h=>by refine rl (List.mem_singleton.mp h) ?_; exact .inl (bU ha)
  obtain ⟨k1,k2⟩:=qA (n:=n) (VR.eF aW x1 hY (VR.gr g₃ (VR.gr g₂ v₁))) hk (aE.eF aW x1 hY hvs); obtain ⟨S',g'⟩:=S₃.upd (o':=.dict (dG kvs n x)) ha x1 (Nat.le_succ_of_le S₃.toks) ⟨a,_,rfl,hd',k1,k2⟩; exact ⟨.next,ρ,_,ι₃,hq,S',rfl,(((g₁.trans g₂).trans g₃).trans g').e⟩
theorem EV.zC {n:Str} {i:Int} {k1 k2:Nat} {p1 p2 pos:Pos} (hn:n.length≤sizeLine) (hq:Q (.obj H.length) (H++[.dict [(n,.int i)]])):EV C d env ρ H (.Dict [some (.Constant (.str n) k1 p1)] [.Constant (.int i) k2 p2] pos) Q:=fun A s ι X S=>up S <| by
  refine wpAny_Dict_pairs (knd:=PySem.strKind C.prog C.w) (pairs:=[(eval (.Constant (.str n) k1 p1) env,do let x ← eval (.Constant (.int i) k2 p2) env; standAt pos; pure x)]) rfl (by simp) (by simp) ?_; refine evalPairs_cons (Constant_str ?_); refine wpAny_bind (wpAny_Constant_int (wpAny_bind (wpAny_standAt (wpAny_pure ?_)))); refine evalPairs_nil ⟨[(n,_)],⟨jY,rfl,trivial⟩,?_,fun h' hd' hs'=>?_⟩
  · exact Heap.DictOf.new _
  have hne:s.heap.objs.size < h'.objs.size:=by
    refine rl hs'.1 ?_; show _ < (s.heap.push _).objs.size; rw [Heap.size_push]; exact Nat.lt_succ_self _
  refine S.sf (p:=[s.heap.objs.size]) (o:=.dict [(n,.int i)]) (.of_keep rfl rfl (Nat.le_of_lt hne) fun b o e _=>hs'.extBut b o (Nat.ne_of_lt (Heap.lt_size e)) (Heap.get?_push_of_some _ e)) (fun a ha=>?_) (by simp) ⟨_,[(n,_)],rfl,hd',rfl,.aH .fC .bJ⟩ rfl hq; refine rl (List.mem_singleton.mp ha) ?_; exact ⟨Nat.le_refl _,hne⟩
end
section
variable {C:Cx} {d:Nat} {A:Around} {env:Env} {ρ:Loc} {H:List O} {ι:Ad} {X:List Addr} {s:Shared} {Q:D→List O→Prop}
noncomputable def eX (a:Addr):Obj:={ cls:=.type "dict_items",data:=.fields #[.ref a] }
theorem EV.listItems {f:Str} {p pos apos ipos:Pos} {o:Expr} {k:Nat} {kvs:List (Str × D)} (O:C.Ok) (kf:env.kindOf f=some .globalImplicit) (hf:C.mg f=Option.none) (hf':C.mb f=some (.type "list")) (hdb:(f==("__debug__" : Str))=false)
    (hb:c9 o=true) (hl:(apos.endLine==ipos.line)=true) (hns:isStarred (.Call (.Attribute o "items" apos) [] [] ipos)=false)
    (h:EV C d env ρ H o fun x H₁=>x = .obj k∧H₁[k]?=some (.dict kvs)∧kvs.length≤sizeLine∧(∀ p∈kvs,p.1.length≤sizeLine)∧Q (.list (kvs.map fun p=>.tuple [.str p.1,p.2])) H₁) :
    EV C d env ρ H (.Call (.Name f p) [.Call (.Attribute o "items" apos) [] [] ipos] [] pos) Q:=fun A s ι X S=>by
  refine wpAny_Call_Name_kw (aC ((EV.blt (Q:=fun x H₁=>x = .val (.type "list")∧H₁=H) hdb O kf hf hf' ⟨rfl,rfl⟩:EV C d env ρ H (.Name f p) _) A s ι X S) (fun u s₁ x H₁ ι₁ q3_ S₁ v₁ g₁=>?_) zz); obtain ⟨rfl,rfl⟩:=q3_; obtain rfl:=v₁.cz; refine callWith_of (P:=fun h=>∀ b o,C.h₀.get? b=some o→h.get? b=some o) (by rw [b9 (by rfl:[Expr.Call (.Attribute o "items" apos) [] [] ipos].all (fun e=>!isStarred e)=true)]; rfl) (.type:Kp C (.type "list")) ?_; refine rl (bA hns) ?_; refine evalArgs_plain ?_; show wpAny C.M A (PySem.spliced ((false,eval _ env)::backTo pos (starEach [] env))) _ _ s₁; refine spliced_cons ?_; rw [arm_eval_Call,fF hb]; refine wpAny_bind (aC (h A s₁ ι₁ X S₁) (fun u s₂ x H₂ ι₂ q3_ S₂ v₂ g₂=>?_) zz); obtain ⟨rfl,ho,hz,hz',hq⟩:=q3_; refine wpAny_bind (wpAny_standAt ?_); unfold methodCall; refine rl (iO rfl (by decide):methodCallForm (([]:List Expr).length+([]:List Keyword).length) (backTo ipos (starEach [] env)) (backToKw ipos (keywordEach [] env))=true) ?_; refine wpAny_bind (wpAny_holding ?_); unfold calleeOf; refine rl (if_pos rfl) ?_; refine bY.dict ho PySem.F.slot_dict_items PySem.F.type_dict_items A env ρ s₂ ι₂ X u _ _ S₂ v₂ ?_; refine wpAny_bind (wpAny_of_eq (kG hl:methodCallPos true o env apos ipos=pure ipos) ?_); refine callWith_of (P:=fun h=>∀ b o,C.h₀.get? b=some o→h.get? b=some o) rfl (.builtin:Kp C (.builtin "dict.items")) (evalArgs_nil3 ⟨S₂.base,?_⟩); obtain ⟨a,r,ha,rfl⟩:=v₂.bf; obtain ⟨a',us,e1,hd,hk,hvs⟩:=S₂.objs.get ha ho; cases e1; refine call_meetsIn PySem.F.slot_dict_items hd.typeIs PySem.F.entry_dict_items (PySem.F.args_dict_items_1 _) (meets_dict_items (PySem.strKind C.prog C.w) a (low_ne S₂ O (bU ha))) ⟨⟨us,hd⟩,?_⟩; refine spliced_nil ?_; have S₃:St C d A env ρ H₂ ι₂ X { s₂ with heap:=s₂.heap.push (eX a) }:=S₂.quiet .push S₂.toks; refine ⟨S₃.base,?_⟩; obtain ⟨ep,hat⟩:=hd.dictAt; have hlen:us.length=kvs.length:=by have:=congrArg List.length hk; simpa using this
  have g12:Gr C.B ι s ι₂ { s₂ with heap:=s₂.heap.push (eX a) }:=(g₁.trans g₂).trans (.aB .push); refine wpAny_mono (AM (Q:=Q) S₃ (kdx_call (knd:=PySem.strKind C.prog C.w) S₃.room.handled ⟨eX a,Heap.get?_push_size _ rfl,rfl,rfl⟩ (hat.push _) (by rw [hlen]; exact hz) fun h' tk acc c as hkeep hS hl hG hacc hs ht=>?_)) (fun _ _ q=>q.back g12) zz; have accl:acc.toList.length=kvs.length:=by rw [hacc,List.length_map,hl,hlen]
  have hnew:∀ {b:Addr},s₂.heap.objs.size≤b→b ∉ X∧b ∉ br ι₂:=fun hb=>⟨fun hm=>absurd (S₂.xs _ hm).2 (Nat.not_lt.mpr hb),fun hm=>absurd (S₂.is _ hm).2 (Nat.not_lt.mpr hb)⟩; have hpush:s₂.heap.objs.size < (s₂.heap.push (eX a)).objs.size:=by rw [Heap.size_push]; exact Nat.lt_succ_self _
  have x5:Ext C.B [] { s₂ with heap:=s₂.heap.push (eX a) } { s₂ with heap:=h',toks:=tk }:=.of_keep rfl rfl hs fun b o e _=>hkeep b o e; have hvs':aE h' ι₂ X (kvs.map (·.2)) (us.map (·.2)):=aE.gr (s:=s₂) (s':={ s₂ with heap:=h',toks:=tk }) ((Gr.aB (B:=C.B) .push).trans (Gr.aB (x5.mono bu))) hvs
  have items:aE h' ι₂ X (kvs.map fun p=>.tuple [.str p.1,p.2]) acc.toList:=by
    refine rl hacc ?_; have pr:=hG.pairs; have ab:=hG.above; clear hG hS hacc accl hq hat hd g12 x5
    have go:∀ (as:List Addr) (us:List (Str × Value)) (kvs:List (Str × D)),as.length=us.length→us.map (·.1)=kvs.map (·.1)→aE h' ι₂ X (kvs.map (·.2)) (us.map (·.2))→(∀ p∈kvs,p.1.length≤sizeLine)→(∀ b∈as,s₂.heap.objs.size≤b) →
        (∀ (j:Nat) (a:Addr),as[j]?=some a→∃ key k x,us[j]?=some (k,x)∧(PySem.strKind C.prog C.w).is k key=true∧h'.get? a=some { cls:=.type "tuple",data:=.seq #[key,x] })→aE h' ι₂ X (kvs.map fun p=>.tuple [.str p.1,p.2]) (as.map Value.ref):=by
      intro as
      induction as with
      | nil =>
        intro us kvs hl hk _ _ _ _
        cases us with
        | nil=>cases kvs with
          | nil=>exact .bJ
          | cons=>cases hk
        | cons=>cases hl
      | cons b as ih =>
        intro us kvs hl hk r hz ha hp
        cases us with
        | nil=>cases hl
        | cons p us=>cases kvs with
          | nil=>cases hk
          | cons q kvs =>
            simp only [List.map_cons,List.cons.injEq] at hk r ⊢; obtain ⟨h0,hk⟩:=hk; obtain ⟨w,r',e',v1,v2⟩:=r.cons_of; cases e'; obtain ⟨key,k,x,hx,hkey,he⟩:=hp 0 b rfl; cases hx; obtain ⟨t,rfl⟩:=Value.isStrOf_shape hkey; have hb:=hnew (ha b (.head _)); refine .aH (.fj (vs:=[.str k t,x]) (n:=0) hb.1 hb.2 he (by show 2≤sizeLine; decide) (.aH ?_ (.aH v1 .bJ))) (ih us kvs (by simpa using hl) hk v2 (fun p hp=>hz p (.tail _ hp)) (fun b hb=>ha b (.tail _ hb)) fun j a hj=>?_)
            · have:=hz q (.head _)
              rw [← h0] at this ⊢; exact .eL this
            simpa using hp (j+1) a (by simpa using hj)
    exact go as us kvs hl hk hvs' hz' (fun b hb=>Nat.le_of_lt (Nat.lt_trans hpush (ab b hb))) pr
  have hnl:=hnew (b:=(s₂.heap.push (eX a)).objs.size) (Nat.le_of_lt hpush); exact PR.quiet S₃ (.kept hs hkeep) (.dZ (vs:=acc.toList) (n:=c) hnl.1 hnl.2 (by simpa [aA] using hS) (by refine rl accl ?_; exact hz) items) hq ht
end
theorem uo {name:Str} {o:Obj} {r:Option Value} (h:lookIn name o=some r):∃ es n,o.data = .dict es n∧(!es.any (·.key.isStr name) && es.any (·.refKey))=false:=by
  obtain ⟨_,_,dt,_⟩:=o
  cases dt with
  | dict es n =>
    refine ⟨es,n,rfl,?_⟩; have h:(match es.toList.find? (·.key.isStr name) with | some e=>some (some e.val) | none=>if es.toList.any (·.refKey) then none else some none)=some r:=h; refine rr Array.any_toList (rr Array.any_toList ?_)
    cases he:es.toList.find? (·.key.isStr name) with
    | some e=>rw [List.any_eq_true.mpr ⟨e,List.mem_of_find?_eq_some he,List.find?_some he⟩]; rfl
    | none =>
      rw [he] at h
      cases hr:es.toList.any (·.refKey) with
      | true=>rw [hr] at h; exact cO h
      | false=>exact Bool.and_false _
  | _=>exact cO h
theorem vB {prog:Program} {w:World} {A:Around} {R:Result→Shared→Prop} {s:Shared} {K:Frag} {x Cl:Addr} {ox od od':Obj} {dx:Addr} {name:Str} {tk:Tok} {v:Value} {es:List DictEntry} {n:Nat} (X:K.In s.heap)
    (I:InstAt s.heap x ox Cl (some od)) (hd:ox.dict=some dx) (hp:plainOver K Cl=true) (ht:takerIn K Cl name=some none) (hh:(clsIn K Cl).any (·.hasDict)=true)
    (hl:(lookIn name od).isSome=true) (e:Obj.putName name (PyData.keyHash w.params name) (.str name s.toks) v od=od') (e':od'.data = .dict es.toArray n) (hz:es.length≤1000)
    (h:∀ h',h'.get? dx=some od'→Heap.SameBut dx s.heap h'→R (.ok (.ret .none)) { s with heap:=h',toks:=s.toks+1 }) :
    codeAny (model prog w) A (.call (.builtin "object.__setattr__") ⟨[.ref x,.str name tk,v],[]⟩) R s:=by
  refine osa_open X I hp ht fun b=>?_; obtain ⟨cd,hc,hd'⟩:=any_some hh; have D:s.heap.get? dx=some od:=by have:=I.dict; rw [hd] at this; exact this
  have D':(s.heap.update dx (Obj.putName name (PyData.keyHash w.params name) (.str name s.toks) v)).get? dx=some od':=by
    exact rl (Heap.get?_update_self _ D (by rw [e]; obtain ⟨_,_,dd,_⟩:=od'; cases e'; rfl)) (rl e rfl)
  obtain ⟨hx,hcl,hn,-⟩:=I; obtain ⟨oc,odi,oda,osl⟩:=ox; dsimp only at hcl hd; subst hcl hd; refine wpAny_bind (wpAny_pure (wpAny_bind (wpAny_bind (wpAny_loadPart hx (wpAny_bind ((looks_clsIn X hc).here ?_)))))); refine rl hd' ?_; refine wpAny_pure (a:=some dx) (wpAny_bind (wpAny_pure (wpAny_bind ?_))); unfold nsSet; refine wpAny_bind (wpAny_bind (wpAny_askSetting (wpAny_pure (wpAny_bind (wpAny_mkText (wpAny_bind (wpAny_loadPart D ?_))))))); obtain ⟨_,hr⟩:=Option.isSome_iff_exists.mp hl; obtain ⟨es₀,n₀,q,c⟩:=uo hr; refine rl q ?_; dsimp only; rw [aRefKeyMayBeTheName_at,c]; refine wpAny_updatePart D ?_; refine wpAny_bind (wpAny_lookBehind D' (by refine rl e' ?_; exact pastItsLine_dict (by refine rl List.size_toArray (rl sizeLine_eq ?_); exact CK hz)) ?_); exact wpAny_pure (h _ D' (Heap.SameBut.update ..))
theorem uy {name y:Str} {hsh:Int} {t:Tok} {v:Value}:∀ es:List DictEntry,(getL y es).isSome=true→getL y (putL name hsh (.str name t) v es)=if y=name then some (some v) else getL y es:=by
  intro es hl
  have find:(putL name hsh (.str name t) v es).find? (·.key.isStr y)=if y=name then ((es.find? (·.key.isStr name)).map fun e=>⟨e.hash,e.key,v⟩).or (some ⟨hsh,.str name t,v⟩) else es.find? (·.key.isStr y):=by
    clear hl
    induction es with
    | nil =>
      by_cases q:y=name
      · subst q; simp [putL,Value.isStr]
      have q':¬ name=y:=fun h=>q h.symm; simp [putL,Value.isStr,q,q']
    | cons e r ih =>
      rw [putL]
      by_cases h:e.key.isStr name=true
      · rw [if_pos h]
        by_cases q:y=name
        · subst q; simp [h]
        have:e.key.isStr y=false:=by
          cases hk:e.key.isStr y with
          | false=>rfl
          | true =>
            exfalso
            cases hv:e.key with
            | str a b=>rw [hv] at h hk; exact q ((eq_of_beq (show (a==y)=true from hk)).symm.trans (eq_of_beq (show (a==name)=true from h)))
            | _=>rw [hv] at h; exact Bool.noConfusion h
        simp [this,q]
      rw [if_neg h]; have h':e.key.isStr name=false:=by simpa using h
      by_cases q:y=name
      · subst q; simp only [List.find?_cons,h',ih,if_true]
      simp only [List.find?_cons,ih,if_neg q]
  have rk:(putL name hsh (.str name t) v es).any (·.refKey)=es.any (·.refKey):=by
    clear hl find
    induction es with
    | nil=>rfl
    | cons e r ih =>
      rw [putL]; split
      · rfl
      exact rl List.any_cons (rl List.any_cons (rl ih rfl))
  unfold getL; refine rl find (rl rk ?_)
  by_cases q:y=name
  · subst q
    refine rl (if_pos rfl) (rl (if_pos rfl) ?_); cases es.find? (·.key.isStr y) <;> rfl
  exact rl (if_neg q) (rl (if_neg q) rfl)
theorem oO {name:Str} {hsh:Int} {k v:Value}:∀ es:List DictEntry,(putL name hsh k v es).length≤es.length+1
  | []=>Nat.le_refl _
  | e::r=>by
    rw [putL]; split
    · exact Nat.le_add_right ({ hash:=e.hash,key:=e.key,val:=v }::r).length 1
    have:=oO (name:=name) (hsh:=hsh) (k:=k) (v:=v) r; simp only [List.length_cons]; exact CJ this
theorem jy {name:Str} {hsh:Int} {k v:Value}:∀ es:List DictEntry,(∃ u,getL name es=some (some u))→(putL name hsh k v es).length=es.length
  | [],⟨u,h⟩=>by simp [getL] at h
  | e::r,⟨u,h⟩=>by
    rw [putL]; split
    · rfl
    rename_i hk
    have:∃ u,getL name r=some (some u):=by
      unfold getL at h ⊢; rw [List.find?_cons,(by simpa using hk:e.key.isStr name=false)] at h
      cases hf:r.find? (·.key.isStr name) with
      | some x=>exact ⟨_,rfl⟩
      | none =>
        rw [hf] at h; dsimp only at h; split at h <;> cases h
    exact rl List.length_cons (rl List.length_cons (rl (jy r this) rfl))
structure ff (K:Frag) (cl:Addr):Prop where
  pg:plainGet K cl "" = true
  hd:hasDictIn K cl=true
  sa:findIn K (.ref cl) "__setattr__" = some (some (.builtin "object.__setattr__"))
  po:plainOver K cl=true
theorem jx {x:Str} {e:D}:∀ {ρ:Loc},(∃ f,ρ.lookup x=some f)→(aQ x e ρ).length=ρ.length
  | [],⟨f,h⟩=>by cases h
  | (y,g)::r,⟨f,h⟩=>by
    rw [qF]
    by_cases q:x=y
    · rw [if_pos q]; rfl
    rw [if_neg q]; have:(x==y)=false:=by exact beq_false_of_ne q
    rw [List.lookup_cons,this] at h; exact rl List.length_cons (rl List.length_cons (rl (jx ⟨f,h⟩) rfl))
theorem iC {x:Str} {e:D}:∀ {ρ:Loc},ρ.lookup x=none→(aQ x e ρ).length=ρ.length+1
  | [],_=>rfl
  | (y,g)::r,h=>by
    rw [qF]
    by_cases q:x=y
    · subst q; simp at h
    rw [if_neg q]; have:(x==y)=false:=by simpa using q
    rw [List.lookup_cons,this] at h; exact rl List.length_cons (rl List.length_cons (rl (iC h) rfl))
noncomputable def hand:D→Bool
  | .val v=>handedIn v
  | _=>true
section
variable {C:Cx} {d:Nat} {A:Around} {env:Env} {ρ:Loc} {H:List O} {ι:Ad} {X:List Addr} {s:Shared} {Q:D→List O→Prop}
theorem VR.handed {h:Heap} {e:D} {v:Value} (a:VR h ι X e v) (hh:hand e=true):handedIn v=true:=by
  cases e with
  | none=>refine rl a.none_of ?_; rfl
  | bool=>refine rl a.dJ ?_; rfl
  | int=>obtain ⟨t,rfl⟩:=a.bw; rfl
  | str=>obtain ⟨_,t,rfl⟩:=a.aM; rfl
  | list=>obtain ⟨_,_,_,rfl,_⟩:=a.bx; rfl
  | tuple=>obtain ⟨_,_,_,rfl,_⟩:=a.cZ; rfl
  | obj=>obtain ⟨_,_,_,rfl⟩:=a.bf; rfl
  | val=>refine rl a.cz ?_; exact hh
  | imm=>obtain ⟨_,rfl,_⟩:=a.dU; rfl
inductive FD (s:Shared) (ι:Ad) (X:List Addr) (k:Nat) (cl:Addr) (fs:List (Str × D)) (v:Value):Prop
  | mk (x dx:Addr) (es:List DictEntry) (n:Nat) (hv:v = .ref x) (hi:ι[k]?=some [x,dx]) (I:InstAt s.heap x ⟨.ref cl,some dx,.plain,#[]⟩ cl (some (dictOf es n))) (h2:s.heap.get? dx=some (dictOf es n)) (h1:s.heap.get? x=some ⟨.ref cl,some dx,.plain,#[]⟩) (hl:es.length≤fs.length) (ht:ez s.heap ι X fs es)
theorem cC {k:Nat} {cl:Addr} {fs:List (Str × D)} {v:Value} (S:St C d A env ρ H ι X s) (hv:VR s.heap ι X (.obj k) v) (ho:H[k]?=some (.inst cl fs)) :
    FD s ι X k cl fs v:=by
  obtain ⟨a,r,ha,rfl⟩:=hv.bf; obtain ⟨x,dx,es,n,e,h1,h2,hl,ht⟩:=S.objs.get ha ho; cases e; exact ⟨a,dx,es,n,rfl,ha,⟨h1,rfl,rfl,h2⟩,h2,h1,hl,ht⟩
theorem kR {k:Nat} {cl:Addr} {fs:List (Str × D)} {name:Str} {e:D} {v:Value} {expr:Bool} (O:C.Ok) (c:ff C.K cl) (nf:findIn C.K (.ref cl) name=some Option.none) (S:St C d A env ρ H ι X s) (hv:VR s.heap ι X (.obj k) v)
    (ho:H[k]?=some (.inst cl fs)) (he:fs.lookup name=some e) (hh:hand e=true) (hq:Q e H):wpAny C.M A (getAttr v name expr) (Post C d A env ρ ι X s Q) (fun _ _=>False) s:=up S <| by
  obtain ⟨x,dx,es,n,rfl,hi,I,h2,h1,hl,ht⟩:=cC S hv ho; have:=ht name; rw [he] at this; obtain ⟨u,hu,vu⟩:=this; exact get_value (O.K.keeps S.base) I (plainGet_of (name := "") c.pg).1 (findObj_own c.hd nf rfl (by rw [lookIn_dict]; exact hu)) (vu.handed hh) (PR.quiet S .toks (VR.gr (B:=C.B) (.aB .toks) vu) hq)
inductive Ft (k:Nat) (cl:Addr) (fs:List (Str × D)) (name:Str) (e:D) (Q:D→List O→Prop) (x:D) (H':List O):Prop
  | mk (ex:x = .obj k) (ho:H'[k]?=some (.inst cl fs)) (hl:fs.lookup name=some e) (hh:hand e=true) (hq:Q e H')
theorem EV.attr {o:Expr} {name:Str} {pos:Pos} {k:Nat} {cl:Addr} {fs:List (Str × D)} {e:D} (O:C.Ok) (c:ff C.K cl) (nf:findIn C.K (.ref cl) name=some Option.none) (hb:c9 o=true)
    (h:EV C d env ρ H o (Ft k cl fs name e Q)):EV C d env ρ H (.Attribute o name pos) Q:=fun A s ι X S=>by
  rw [arm_eval_Attribute,fF hb]; refine wpAny_bind (aC (h A s ι X S) (fun v s₁ x H₁ ι₁ q3_ S₁ v₁ g₁=>?_) zz); obtain ⟨rfl,ho,he,hh,hq⟩:=q3_; refine wpAny_bind (wpAny_standAt (wpAny_bind (wpAny_holding (wpAny_mono (kR O c nf S₁ v₁ ho he hh hq) (fun r s₂ p=>?_) zz)))); exact wpAny_bind (wpAny_letTemporaryGo (wpAny_pure (p.back g₁)))
theorem kB {k:Nat} {cl:Addr} {fs:List (Str × D)} {name:Str} {e:D} {v u:Value} (O:C.Ok) (c:ff C.K cl) (nf:findIn C.K (.ref cl) name=some Option.none) (S:St C d A env ρ H ι X s) (hv:VR s.heap ι X (.obj k) v) (hu:VR s.heap ι X e u)
    (ho:H[k]?=some (.inst cl fs)) (hz:fs.length≤900):wpAny C.M A (setAttr v name u) (fun _ s'=>St C d A env ρ (H.set k (.inst cl (aQ name e fs))) ι X s'∧Gr C.B ι s ι s') (fun _ _=>False) s:=by
  obtain ⟨x,dx,es,n,rfl,hi,I,h2,h1,hl,ht⟩:=cC S hv ho; have hX:=O.K.keeps S.base; have hname:=ht name
  have hsome:(getL name es).isSome=true:=by
    cases hf:fs.lookup name with
    | none=>rw [hf] at hname; refine rl hname ?_; rfl
    | some f=>rw [hf] at hname; obtain ⟨w,hw,_⟩:=hname; refine rl hw ?_; rfl
  have hall:∀ y,(getL y es).isSome=true:=fun y=>by
    have:=ht y
    cases hf:fs.lookup y with
    | none=>rw [hf] at this; refine rl this ?_; rfl
    | some f=>rw [hf] at this; obtain ⟨w,hw,_⟩:=this; refine rl hw ?_; rfl
  have hlen:=oO (name:=name) (hsh:=PyData.keyHash C.w.params name) (k:=.str name (s.toks+1)) (v:=u) es; refine set_plain hX I c.sa (vB (s:={ s with toks:=s.toks+1 }) hX I rfl c.po (by unfold takerIn; refine rl nf ?_; rfl) c.hd (by rw [lookIn_dict]; exact hsome) (putName_dict ..) rfl (by show (putL name (PyData.keyHash C.w.params name) (.str name (s.toks+1)) u es).length≤1000; exact CI hlen hl hz) fun h' hd' hs'=>?_); have x1:Ext C.B [x,dx] s { s with heap:=h',toks:=s.toks+1+1 }:=(Ext.same (s:={ s with toks:=s.toks+1 }) (t:=s.toks+1+1) hs' |> fun (y:Ext C.B [dx] _ _)=>(Ext.toks (t:=s.toks+1)).trans (y.mono (Y':=[x,dx]) fun a ha=>.tail _ ha)); have hY:∀ b∈[x,dx],b∈br ι ∨ b∈X:=fun b hb=>.inl (jW.mpr ⟨_,List.mem_of_getElem? hi,hb⟩)
  have hne:x≠dx:=by
    rintro rfl; rw [h1] at h2; cases h2
  refine S.upd hi x1 (Nat.le_succ_of_le (Nat.le_succ_of_le S.toks)) ⟨x,dx,_,_,rfl,hs'.extBut x _ hne h1,hd',?_,fun y=>?_⟩
  · cases hf:fs.lookup name with
    | some f =>
      rw [hf] at hname; obtain ⟨w,hw,_⟩:=hname; rw [jy es ⟨w,hw⟩]; have:(aQ name e fs).length=fs.length:=jx ⟨f,hf⟩; exact CH hl this
    | none =>
      have:(aQ name e fs).length=fs.length+1:=iC hf; exact CF hlen this hl
  rw [bB,uy es (hall y)]
  by_cases q:y=name
  · rw [if_pos q,if_pos q]; exact ⟨u,rfl,VR.eF aW x1 hY hu⟩
  rw [if_neg q,if_neg q]; have:=ht y
  cases hf:fs.lookup y with
  | none=>rw [hf] at this; exact this
  | some f=>rw [hf] at this; obtain ⟨w,hw,vw⟩:=this; exact ⟨w,hw,VR.eF aW x1 hY vw⟩
inductive F5 (k:Nat) (cl:Addr) (fs:List (Str × D)) (name:Str) (x:D) (R:Fl→Loc→List O→Prop) (ρ:Loc) (y:D) (H':List O):Prop
  | mk (ex:y = .obj k) (ho:H'[k]?=some (.inst cl fs)) (hz:fs.length≤900) (hq:R .next ρ (H'.set k (.inst cl (aQ name x fs))))
theorem EX.setAttr {o e:Expr} {name:Str} {p pos:Pos} {k:Nat} {cl:Addr} {fs:List (Str × D)} {R:Fl→Loc→List O→Prop} (O:C.Ok) (c:ff C.K cl) (nf:findIn C.K (.ref cl) name=some Option.none) (hs:swapsWith e (some (.Attribute o name p)) pos.line env=pure false)
    (h:EV C d env ρ H e fun x H₁=>EV C d env ρ H₁ o (F5 k cl fs name x R ρ)):EX C d env ρ H (.Assign [.Attribute o name p] e pos) R:=fun A s ι X S=>by
  refine plainObj_wpAny_Assign_Attribute (aC (h A s ι X S) (fun v s₁ x H₁ ι₁ h₁ S₁ v₁ g₁=>?_) zz) hs; refine aC (h₁ A s₁ ι₁ X S₁) (fun ov s₂ y H₂ ι₂ q3_ S₂ v₂ g₂=>?_) zz; obtain ⟨rfl,ho,hz,hq⟩:=q3_; refine wpAny_mono (kB O c nf S₂ v₂ (VR.gr g₂ v₁) ho hz) (fun _ s₃ q=>?_) zz; exact ⟨.next,ρ,_,ι₂,hq,q.1,rfl,((g₁.trans g₂).trans q.2).e⟩
theorem EX.j4 {o e:Expr} {name:Str} {p pos:Pos} {k:Nat} {cl:Addr} {fs:List (Str × D)} {a:D} {R:Fl→Loc→List O→Prop} (O:C.Ok) (c:ff C.K cl) (nf:findIn C.K (.ref cl) name=some Option.none)
    (h:EV C d env ρ H o fun y H₁=>y = .obj k∧H₁[k]?=some (.inst cl fs)∧fs.lookup name=some a∧hand a=true∧EV C d env ρ H₁ e fun x H₂=>aO C d H₂ a x (inplaceOp .Add) fun z H₃=>H₃[k]?=some (.inst cl fs)∧fs.length≤900∧R .next ρ (H₃.set k (.inst cl (aQ name z fs)))) :
    EX C d env ρ H (.AugAssign (.Attribute o name p) .Add e pos) R:=fun A s ι X S=>by
  refine wpAny_AugAssign_AttributeAny (aC (h A s ι X S) (fun ov s₁ y H₁ ι₁ q3_ S₁ v₁ g₁=>?_) zz); obtain ⟨rfl,ho,hl,hh,h₁⟩:=q3_; refine aC (kR (Q:=fun z H'=>z=a∧H'=H₁) O c nf S₁ v₁ ho hl hh ⟨rfl,rfl⟩) (fun old s₂ _ H₂ ι₂ q3_ S₂ v₂ g₂=>?_) zz; obtain ⟨rfl,rfl⟩:=q3_; refine aC (h₁ A s₂ ι₂ X S₂) (fun u s₃ x H₃ ι₃ h₃ S₃ v₃ g₃=>?_) zz; refine aC (h₃ A env ρ s₃ ι₃ X old u S₃ (VR.gr g₃ v₂) v₃) (fun new s₄ z H₄ ι₄ q3_ S₄ v₄ g₄=>?_) zz; obtain ⟨ho4,hz,hq⟩:=q3_; refine wpAny_mono (kB O c nf S₄ (VR.gr g₄ (VR.gr g₃ (VR.gr g₂ v₁))) v₄ ho4 hz) (fun _ s₅ q=>?_) zz; exact ⟨.next,ρ,_,ι₄,hq,q.1,rfl,((((g₁.trans g₂).trans g₃).trans g₄).trans q.2).e⟩
theorem aO.v8 {a b:Str} (hz:a.length+b.length≤sizeLine) (hq:Q (.str (a++b)) H):aO C d H (.str a) (.str b) (inplaceOp .Add) Q:=fun A env ρ s ι X u v S hu hv=>up S <| by
  obtain ⟨_,t,rfl⟩:=hu.aM; obtain ⟨_,t',rfl⟩:=hv.aM; exact PyProof.Rows.iadd_str (fun t' tk=>PR.quiet S .toks (.eL (by rw [Str.length_append]; exact hz)) hq) hz
theorem aO.E5 {a b:Int} (hq:Q (.int (a+b)) H):aO C d H (.int a) (.int b) (inplaceOp .Add) Q:=fun A env ρ s ι X u v S hu hv=>up S <| by
  obtain ⟨t,rfl⟩:=hu.bw; obtain ⟨t',rfl⟩:=hv.bw; exact PyProof.Rows.iadd_int (PR.quiet S .toks .fC hq)
theorem bY.inst {k:Nat} {cl f:Addr} {fs:List (Str × D)} {name:Str} (O:C.Ok) (c:ff C.K cl) (hf:findIn C.K (.ref cl) name=some (some (.ref f))) (ht:isFn C.K (.ref f)=true) (ho:H[k]?=some (.inst cl fs)) (hn:fs.lookup name=Option.none):bY C d H (.obj k) name (.ref f):=fun A env ρ s ι X v pl R S hv hq=>by
  obtain ⟨x,dx,es,n,rfl,hi,I,h2,h1,hl,hat⟩:=cC S hv ho; have:=hat name; rw [hn] at this; exact method_fn (O.K.keeps S.base) I (plainGet_of (name := "") c.pg).1 (plainGet_of (name := "") c.pg).2 hf (beq_iff_eq.mp ht) (by show (lookIn name (dictOf es n)).map _=_; rw [lookIn_dict,this]; rfl) hq
end
section
variable {C:Cx} {d:Nat} {A:Around} {env:Env} {ρ:Loc} {H:List O} {ι:Ad} {X:List Addr} {s:Shared} {Q:D→List O→Prop}
theorem St.move {d':Nat} {A':Around} (S:St C d A env ρ H ι X s) (r:iX d' A') (hf:A'.frames=A.frames):St C d' A' env ρ H ι X s :=
  ⟨r,S.bR,S.base,S.big,S.gens,S.os,S.xs,S.is,S.nd,S.iR,S.loc,S.objs,S.ns,S.cells,(let ⟨fr,a,b⟩:=S.frs; ⟨fr,hf.trans a,b⟩),S.toks⟩
noncomputable def aZ (C:Cx) (d:Nat) (H:List O) (f:Value) (xs:List D) (kws:List (Str × D)) (Q:D→List O→Prop):Prop :=
  ∀ A env ρ s ι X vs ks,St C d A env ρ H ι X s→aE s.heap ι X xs vs→ks.map (·.1)=kws.map (·.1)→aE s.heap ι X (kws.map (·.2)) (ks.map (·.2)) →
    codeAny C.M A (.call f ⟨vs,ks⟩) (CR (Post C d A env ρ ι X s Q) fun _ _=>False) s
theorem aZ.mono {f:Value} {xs:List D} {kws:List (Str × D)} {Q':D→List O→Prop} (h:aZ C d H f xs kws Q) (hq:∀ x H',Q x H'→Q' x H'):aZ C d H f xs kws Q':=fun A env ρ s ι X vs ks S a b c =>
  codeAny_mono (h A env ρ s ι X vs ks S a b c) fun r s' hr=>by
    cases r with
    | error e=>exact hr
    | ok f=>cases f with
      | ret v=>exact hr.mono hq
      | _=>exact hr
theorem aZ.plain {f:Value} {xs:List D} (h:aZ C d H f xs [] Q):aj C d H f xs Q:=fun A env ρ s ι X vs S hv =>
  wpAny_call (codeAny_mono (h A env ρ s ι X vs [] S hv rfl aE.bJ) fun r s' hr=>by
    cases r with
    | error e=>exact hr
    | ok f=>cases f <;> exact hr)
theorem aZ.make {cl fI:Addr} {xs:List D} {kws:List (Str × D)} (O:C.Ok) (hm:makesIn C.K cl=true) (hi:findIn C.K (.ref cl) "__init__" = some (some (.ref fI))) (hf:typeIn C.K (.ref fI)=some (.type "function"))
    (h:aZ C d (H++[.inst cl []]) (.ref fI) (.obj H.length::xs) kws fun r H'=>r = .none∧Q (.obj H.length) H'):aZ C (d+1) H (.ref cl) xs kws Q:=fun A env ρ s ι X vs ks S hv hk hkv=>by
  have hX:=O.K.keeps S.base; obtain ⟨hh,g,dr,t,os⟩:=s; have hsz:((hh.push emptyDict).push (instObj cl hh.objs.size)).objs.size=hh.objs.size+2:=by rw [Heap.size_push,Heap.size_push]
  have x1:Ext C.B [] ⟨hh,g,dr,t,os⟩ ⟨(hh.push emptyDict).push (instObj cl hh.objs.size),g,dr,t,os⟩:=.of_keep rfl rfl (by show hh.objs.size≤_; refine rl hsz ?_; exact Nat.le_add_right _ 2) fun b o e _=>Heap.get?_push_of_some _ (Heap.get?_push_of_some _ e)
  have hx:((hh.push emptyDict).push (instObj cl hh.objs.size)).get? (hh.objs.size+1)=some (instObj cl hh.objs.size):=by
    have:((hh.push emptyDict).push (instObj cl hh.objs.size)).get? (hh.push emptyDict).objs.size=some (instObj cl hh.objs.size):=Heap.get?_push_size _ rfl; rwa [Heap.size_push] at this
  have hp:∀ a∈[hh.objs.size+1,hh.objs.size],hh.objs.size≤a∧a < ((hh.push emptyDict).push (instObj cl hh.objs.size)).objs.size:=fun a ha=>by
    refine rl hsz ?_; rcases List.mem_cons.mp ha with h | h
    · refine rl h ?_; exact ⟨by exact x9,by exact CE⟩
    refine rl (List.mem_singleton.mp h) ?_; exact ⟨by exact GS,by exact CD⟩
  obtain ⟨S1,g1⟩:=S.newobj (p:=[hh.objs.size+1,hh.objs.size]) (o:=.inst cl []) x1 S.toks hp (by simp) ⟨_,_,[],0,rfl,hx,(Heap.get?_push_of_some _ (Heap.get?_push_size _ rfl):((hh.push emptyDict).push (instObj cl hh.objs.size)).get? hh.objs.size=some emptyDict),Nat.le_refl _,fun name=>rfl⟩
  have room:iX d (A.under (.builtin "type.__call__" ⟨.ref cl::vs,ks⟩)):=by
    refine ⟨?_,?_,S.room.handled,?_⟩
    · exact AQ S.room.depth
    · exact GW (by rfl) S.room.units
    unfold Around.under; dsimp only; refine rl S.room.guards ?_; rfl
  refine make_core (makes_of hX hm) (looks_findIn hX hi) (fun self=>bind_fn hX self hf) (.inl rfl) ?_; have hix:(ι++[[hh.objs.size+1,hh.objs.size]])[H.length]?=some [hh.objs.size+1,hh.objs.size]:=by refine rr S.objs.1 ?_; simp
  refine codeAny_mono (h _ env ρ _ _ X (.ref (hh.objs.size+1)::vs) ks (S1.move room (rfl:(A.under (.builtin "type.__call__" ⟨.ref cl::vs,ks⟩)).frames=A.frames)) (.aH (.m6 hix) (aE.gr g1 hv)) hk (aE.gr g1 hkv)) fun r s' hr=>?_
  cases r with
  | error e=>exact hr
  | ok f=>cases f with
    | ret v =>
      obtain ⟨y,H',ι',⟨rfl,hq⟩,S',v',g'⟩:=hr; exact ⟨v'.none_of,.obj H.length,H',ι',hq,S'.move S.room rfl,.m6 (g'.get? hix),g1.trans g'⟩
    | _=>exact hr
end
noncomputable def AR (C:Cx) (d:Nat) (env:Env) (ρ:Loc):List Keyword→List O→(List (Str × D)→List O→Prop)→Prop
  | [],H,Q=>Q [] H
  | ⟨some n,e,_⟩::ks,H,Q=>EV C d env ρ H e fun x H'=>AR C d env ρ ks H' fun xs H''=>Q ((n,x)::xs) H''
  | ⟨none,_,_⟩::_,_,_=>False
section
variable {C:Cx} {d:Nat} {A:Around} {env:Env} {ρ:Loc} {H:List O} {ι:Ad} {X:List Addr} {s:Shared} {Q:D→List O→Prop}
noncomputable def GO (names:List Str) (h:Heap) (ι:Ad) (X:List Addr) (kws:List (Str × D)) (vs:List Value):Prop:=kws.map (·.1)=names∧aE h ι X (kws.map (·.2)) vs
theorem AR.run:∀ {ks:List Keyword} {H:List O} {s:Shared} {ι:Ad} {R:List (Str × D)→List O→Prop} {pos:Pos},AR C d env ρ ks H R→St C d A env ρ H ι X s →
    wpAny C.M A (evalAll ((backToKw pos (keywordEach ks env)).map (·.2))) (PR (GO (ks.filterMap (fun k=>k.arg))) C d A env ρ ι X s R) (fun _ _=>False) s
  | [],H,s,ι,R,pos,h,S=>kwAll_nil (PR.quiet S .refl ⟨rfl,aE.bJ⟩ h S.toks)
  | ⟨none,_,_⟩::_,_,_,_,_,_,h,_=>h.elim
  | ⟨some n,e,p⟩::ks,H,s,ι,R,pos,h,S=>by
    refine kwAll_cons (aC (h A s ι X S) (fun v s₁ x H₁ ι₁ h₁ S₁ v₁ g₁=>?_) zz); refine aC (AR.run h₁ S₁) (fun vs s₂ xs H₂ ι₂ h₂ S₂ q5_ g₂=>?_) zz; obtain ⟨e1,v₂⟩:=q5_; exact ⟨(n,x)::xs,H₂,ι₂,h₂,S₂,⟨by simp [e1],aE.aH (VR.gr g₂ v₁) v₂⟩,g₁.trans g₂⟩
theorem pn (env:Env) (pos:Pos):∀ (ks:List Keyword),ks.all (fun k=>k.arg.isSome)=true→(backToKw pos (keywordEach ks env)).all (·.1.isSome)=true∧(backToKw pos (keywordEach ks env)).filterMap (·.1)=ks.filterMap (fun k=>k.arg)
  | [],_=>⟨rfl,rfl⟩
  | ⟨none,_,_⟩::_,h=>by contradiction
  | ⟨some n,e,p⟩::ks,h=>by
    have ih:=pn env pos ks (by simpa using h)
    constructor
    · show (true && _)=true; rw [Bool.true_and]; exact ih.1
    show n::_=n::_; refine rr ih.2 ?_; rfl
theorem EV.wY {f:Str} {p pos:Pos} {e:Expr} {args:List Expr} {ks:List Keyword} {v:Value} (hs:(e::args).all (fun e=>!isStarred e)=true) (hks:ks.all (fun k=>k.arg.isSome)=true) (hk:Kp C v)
    (h:EV C d env ρ H (.Name f p) fun x H₁=>x = .val v∧az C d env ρ (e::args) H₁ fun xs H₂=>AR C d env ρ ks H₂ fun kws H₃=>aZ C d H₃ v xs kws Q):EV C d env ρ H (.Call (.Name f p) (e::args) ks pos) Q:=fun A s ι X S=>by
  refine wpAny_Call_Name_kw (aC (h A s ι X S) (fun u s₁ x H₁ ι₁ q3_ S₁ v₁ g₁=>?_) zz); obtain ⟨rfl,h₁⟩:=q3_; obtain rfl:=v₁.cz; obtain ⟨n1,n2⟩:=pn env pos ks hks; have hst:isStarred e=false:=by simp only [List.all_cons,Bool.and_eq_true,Bool.not_eq_true'] at hs; exact hs.1
  refine callWith_of (P:=fun h=>∀ b o,C.h₀.get? b=some o→h.get? b=some o) ?_ hk ?_
  · rw [b9 hs,Bool.false_or,List.any_eq_false]
    intro y hy; have:=List.all_eq_true.mp n1 y hy
    cases hq:y.1 with
    | none=>rw [hq] at this; cases this
    | some a=>exact ne_true_of_eq_false rfl
  refine evalArgs_kw2 n1 ?_ (bA hst); refine aC (az.spliced (pos:=pos) hs h₁ S₁) (fun vs s₂ xs H₂ ι₂ h₂ S₂ v₂ g₂=>?_) zz; refine aC (AR.run (pos:=pos) h₂ S₂) (fun kv s₃ kws H₃ ι₃ h₃ S₃ q5_ g₃=>?_) zz; obtain ⟨e1,v₃⟩:=q5_; refine ⟨S₃.base,?_⟩; rw [n2]; have hlen:kv.length=(ks.filterMap (fun k=>k.arg)).length:=by rw [v₃.length,List.length_map,← e1,List.length_map]
  show wpAny C.M A (PySem.call u vs ((ks.filterMap (fun k=>k.arg)).zip kv)) _ _ _; refine wpAny_call (codeAny_mono (h₃ A env ρ s₃ ι₃ X vs ((ks.filterMap (fun k=>k.arg)).zip kv) S₃ (aE.gr g₃ v₂) (by exact rl (List.map_fst_zip (by exact Bf hlen)) (rl e1 rfl)) (by refine rl (List.map_snd_zip (by exact Be hlen)) ?_; exact v₃)) fun r s' hr=>?_)
  cases r with
  | error e=>exact hr
  | ok f=>cases f with
    | ret v=>exact ((hr.back g₃).back g₂).back g₁
    | _=>exact hr
theorem aZ.yE {a:Addr} {st:Stmt} {dv:Value} {xs:List D} {kws:List (Str × D)} {ds:List (Str × D)} (O:C.Ok) (F:FnAt C a st dv) (hk:(aK st).kind = .function) (hco:(aK st).isCoroutine=false) (hgen:(aK st).isGenerator=false)
    (hbind:∀ name qual kwd doc pm ann cd ct (vs:List Value) (ks:List (Str × Value)) (s:Shared) (ι:Ad) (X:List Addr),(∀ b o,C.h₀.get? b=some o→s.heap.get? b=some o)→aE s.heap ι X xs vs→ks.map (·.1)=kws.map (·.1)→aE s.heap ι X (kws.map (·.2)) (ks.map (·.2)) →
      ∃ bs,BindsTo s ⟨name,qual,eG st,.stmts (fnBody st),aK st,mainGlobals,[],dv,kwd,doc,pm,ann,cd,ct,builtinsNs⟩ ⟨vs,ks⟩ bs∧bs.map (·.1)=ds.map (·.1)∧aE s.heap ι X (ds.map (·.2)) (bs.map (·.2)))
    (hb:∀ q cd L,ds.all (fun p=>binds (b8 st q cd L a) p.1)=true)
    (h:∀ q cd L,aa C d (b8 st q cd L a) (cy ds) H (fnBody st) fun fl _ H'=>Q (gD fl) H'):aZ C (d+1) H (.ref a) xs kws Q:=fun A env ρ s ι X vs ks S hv hkn hkv=>by
  obtain ⟨o,name,qual,kwd,doc,pm,ann,cd,ct,ho,hd,hcd⟩:=F.ex; obtain ⟨bs,hbt,hbs,hbv⟩:=hbind name qual kwd doc pm ann cd ct vs ks s ι X S.base hv hkn hkv; refine codeAny_mono (tB O S ho hd hcd rfl rfl rfl rfl hco hgen hk hbt hbs hbv (fun L p hp=>List.all_eq_true.mp (hb qual cd L) p hp) fun L=>h qual cd L) fun r s' hr=>?_
  cases r with
  | error e=>exact hr
  | ok f=>cases f <;> exact hr
end
noncomputable def oq (prog:Program) (w:World) (o:Obj) (xs:List Str):Prop :=
  o.ExactSet∧∃ es ep t,o.data = .set es ep t∧ElemsOf (PySem.strKind prog w) es.toList∧(∀ k,xs.contains k=true↔∃ e∈es.toList,(PySem.strKind prog w).is k e.2=true)∧es.size < scanBound∧t.fits es.size=true
theorem oq.setOf {prog:Program} {w:World} {h:Heap} {a:Addr} {xs:List Str} {o:Obj} (x:oq prog w o xs) (ho:h.get? a=some o):∃ n,h.SetOf (PySem.strKind prog w) a (fun k=>xs.contains k) n:=by
  obtain ⟨hx,es,ep,t,hd,he,hm,hb,hf⟩:=x; exact ⟨es.size,o,es,ep,t,ho,hx,hd,he,hm,hb,hf,rfl⟩
section
variable {prog:Program} {w:World} {A:Around} {R:Result→Shared→Prop} {I:Addr} {fp wr:List Addr} {G:Array GenState→Array GenState→Prop} {P:Nat→Value→Prop} {Stt:Nat→Shared→Prop}
theorem gO (xs:List Str) (i:Nat) (h:i < xs.length) (k:Str):(xs.take (i+1)).contains k=((xs.take i).contains k || decide (k=xs.getD i default)):=by
  refine rl List.take_add_one (rl (List.getElem?_eq_getElem h) (rl List.getD_eq_getElem?_getD (rl (List.getElem?_eq_getElem h) ?_))); simp only [Option.toList_some,Option.getD_some]; refine rl List.contains_append ?_
  congr 1
  rw [Bool.eq_iff_iff]; simp
end
section
variable {C:Cx} {d:Nat} {A:Around} {env:Env} {ρ:Loc} {H:List O} {ι:Ad} {X:List Addr} {s:Shared} {Q:D→List O→Prop}
theorem aO.inSet {o:Obj} {xs:List Str} {n:Str} (hs:oq C.prog C.w o xs) (hq:Q (.bool (xs.contains n)) H):aO C d H (.str n) (.imm o) (compareOp .In) Q:=fun A env ρ s ι X u v S hu hv=>up S <| by
  obtain ⟨a,rfl,_,_,ho,_⟩:=hv.dU; obtain ⟨m,hS⟩:=hs.setOf ho; obtain ⟨_,t,rfl⟩:=hu.aM; exact wpAny_inSet_of (knd:=PySem.strKind C.prog C.w) (k:=n) jY rfl hS (PR.quiet S .toks .bq hq)
end
section
variable {C:Cx} {d:Nat} {A:Around} {env:Env} {ρ:Loc} {H:List O} {ι:Ad} {X:List Addr} {s:Shared} {Q:D→List O→Prop}
theorem aO.E4 {o:Obj} (hq:Q (.bool false) H):aO C d H (.imm o) .none (compareOp .Is) Q:=fun A env ρ s ι X u v S hu hv=>up S <| by
  obtain ⟨a,rfl,_⟩:=hu.dU; obtain rfl:=hv.none_of; exact wpAny_is_other rfl (by exact not_eq_of_beq_eq_false rfl) (PR.quiet S .refl .bq hq)
noncomputable def FQ (C:Cx) (d:Nat) (env:Env) (ρ:Loc) (H:List O) (e:Expr) (Q:D→List O→Prop):Prop :=
  ∀ A s ι X,St C d A env ρ H ι X s→1≤s.toks→wpAny C.M A (eval e env) (Post C d A env ρ ι X s Q) (fun _ _=>False) s
theorem EV.GK {x y:Str} {k:Nat} {p pos:Pos} {op:Operator} {r:Expr} (hx:x=y) (hl:y.length≤sizeLine) (h:FQ C d env ρ H r fun b H₂=>aO C d H₂ (.str y) b (binaryOp op) Q):EV C d env ρ H (.BinOp (.Constant (.str x) k p) op r pos) Q:=fun A s ι X S=>by
  subst hx; refine wpAny_BinOp (Constant_str ?_); have S₁:St C d A env ρ H ι X { s with toks:=s.toks+1 }:=S.quiet .toks (Nat.le_succ_of_le S.toks); refine aC (h A _ ι X S₁ (Nat.le_add_left _ _)) (fun v s₂ b H₂ ι₂ h₂ S₂ v₂ g₂=>?_) zz; exact wpAny_mono (h₂ A env ρ s₂ ι₂ X _ v S₂ (.eL hl) v₂) (fun _ _ p=>p.back ((Gr.aB .toks).trans g₂)) zz
theorem FQ.replace {o:Expr} {apos pos p1 p2:Pos} {k1 k2:Nat} {x y z:Str} (O:C.Ok) (hb:c9 o=true) (hl:(apos.endLine==pos.line)=true) (hz:x.length+(x.length+1)*z.length≤16777216) (hr:(Txt.replace x y z).length≤sizeLine)
    (h:EV C d env ρ H o fun v H₁=>v = .str x∧Q (.str (Txt.replace x y z)) H₁):FQ C d env ρ H (.Call (.Attribute o "replace" apos) [.Constant (.str y) k1 p1,.Constant (.str z) k2 p2] [] pos) Q:=fun A s ι X S h1=>by
  rw [arm_eval_Call,fF hb]; refine wpAny_bind (wpAny_mono (wpAny_toks_of h1 (h A s ι X S)) (fun u s₁ q=>?_) fun _ _ z=>z.2); obtain ⟨ht,x',H₁,ι₁,⟨rfl,hq⟩,S₁,v₁,g₁⟩:=q; refine wpAny_bind (wpAny_standAt ?_); have hst:[Expr.Constant (.str y) k1 p1,.Constant (.str z) k2 p2].all (fun e=>!isStarred e)=true:=rfl; unfold methodCall; refine rl (iO hst (Nat.lt_of_sub_pos (by exact Nat.succ_pos 27)):methodCallForm ([Expr.Constant (.str y) k1 p1,.Constant (.str z) k2 p2].length+([]:List Keyword).length) (backTo pos (starEach [Expr.Constant (.str y) k1 p1,.Constant (.str z) k2 p2] env)) (backToKw pos (keywordEach [] env))=true) ?_; refine wpAny_bind (wpAny_holding ?_); unfold calleeOf; refine uL rfl ?_; refine bY.str PySem.F.slot_str_replace PySem.F.type_str_replace A env ρ s₁ ι₁ X u _ _ S₁ v₁ ?_; refine wpAny_bind (wpAny_of_eq (kG hl:methodCallPos true o env apos pos=pure pos) ?_); refine callWith_of (P:=fun h=>∀ b o,C.h₀.get? b=some o→h.get? b=some o) (by refine rl (b9 hst) ?_; rfl) (.builtin:Kp C (.builtin "str.replace")) ?_; refine rl (bA rfl) ?_; refine evalArgs_plain ?_; show wpAny C.M A (PySem.spliced ((false,eval _ env)::backTo pos (starEach [.Constant (.str z) k2 p2] env))) _ _ s₁; refine spliced_cons (Constant_str ?_); refine rl (bA rfl) ?_; show wpAny C.M A (PySem.spliced ((false,eval _ env)::backTo pos (starEach [] env))) _ _ _; refine spliced_cons (Constant_str ?_); refine spliced_nil ⟨S₁.base,?_⟩; obtain ⟨_,t,rfl⟩:=v₁.aM; have S₂:St C d A env ρ H₁ ι₁ X { s₁ with toks:=s₁.toks+1+1 }:=S₁.quiet .toks (Nat.le_succ_of_le (Nat.le_succ_of_le S₁.toks)); refine wpAny_mono (up S₂ (Q:=Q) ?_) (fun _ _ q=>q.back (g₁.trans (.aB .toks))) zz
  have hnb:NoneBooked s₁.heap:=by
    obtain ⟨mc,hn,hm⟩:=O.booked; exact ⟨mc,hn.keeps S₁.base,hm⟩
  exact SC.replaceA (s:={ s₁ with toks:=s₁.toks+1+1 }) (Nat.ne_of_gt ht) (Nat.succ_ne_zero _) (Nat.ne_of_lt (Nat.lt_succ_self _)) hz (fun t' k=>PR.quiet S₂ .toks (.eL hr) hq) hnb
end
noncomputable def T (l:List Nat):Str:=⟨l.toArray⟩
theorem tH {a b:List Nat} (h:T a=T b):a=b:=by
  have:=congrArg Str.cps h; exact congrArg Array.toList this
theorem qk (a b:List Nat):(T a==T b)=(a==b):=by
  rw [Bool.eq_iff_iff]; simp only [beq_iff_eq]; exact ⟨tH,fun h=>by exact rl h rfl⟩
theorem aL (a:List Nat):(T a).length=a.length:=by rfl
theorem dX (a b:List Nat):T a++T b=T (a++b):=Str.ext' (by simp [T,Str.cps_append])
theorem AJ (b:List Nat) (c:Nat):(!(Builtin.Str.occurrences (T b) (T [c]) 0 (T b).length 1).isEmpty)=decide (c∈b):=by
  refine rl (show T [c]=⟨#[c]⟩ from rfl) (rl (StrLaws.found_one (T b) c) ?_); exact decide_eq_decide.mpr (by simp [T])
theorem tu (l:List Nat):chars (T l)=l.map fun c=>.str (T [c]):=by rfl
theorem oh (y:List Nat):∀ xs:List (List Nat),Str.join (T y) (xs.map T)=T (y.intercalate xs)
  | []=>rfl
  | [x]=>by simp [Str.join,List.intercalate]
  | x::z::r=>by
    have ih:=oh y (z::r); simp only [List.map_cons] at ih ⊢; rw [Str.join,ih,dX,dX]
    · simp [List.intercalate,List.intersperse]
    simp
theorem iV (y:List Nat) (xs:List (List Nat)):Txt.join (T y) (xs.map T)=T (y.intercalate xs):=by
  unfold Txt.join; rw [StrLaws.glued_eq_join,oh]
noncomputable def iw (y:List Nat) (xs:List (List Nat)):Nat:=(xs.map (·.length)).sum+xs.length*y.length
theorem pB {y:List Nat} {xs:List (List Nat)} (h:iw y xs≤16777216):JoinOk (T y) (xs.map T)=true:=by
  unfold JoinOk; rw [StrLaws.joinTotal,Bool.not_eq_true']; unfold Builtin.Str.tooLong sizeLine; refine decide_eq_false ?_; have e:(2:Nat) ^ 24=16777216:=by decide
  have:((xs.map T).map (·.length)).sum+(xs.map T).length*(T y).length=iw y xs:=by
    unfold iw; rw [List.map_map,List.length_map,aL]
    congr 2
  omega
theorem bH (y:List Nat):∀ xs:List (List Nat),(y.intercalate xs).length≤iw y xs
  | []=>Nat.zero_le _
  | [x]=>by simp [List.intercalate,iw]
  | x::z::r=>by
    have ih:=bH y (z::r); rw [(by simp [List.intercalate,List.intersperse]:y.intercalate (x::z::r)=x++(y++y.intercalate (z::r)))]; unfold iw at ih ⊢; simp only [List.map_cons,List.sum_cons,List.length_cons,List.length_append] at ih ⊢; have e1:(r.length+1)*y.length=r.length*y.length+y.length:=by rw [Nat.add_mul,Nat.one_mul]
    refine rl (by rw [Nat.add_mul,e1,Nat.one_mul]:(r.length+1+1)*y.length=r.length*y.length+y.length+y.length) ?_; rw [e1] at ih; exact Dw ih e1
noncomputable def aN (c:Nat):List Nat→List (List Nat)
  | []=>[[]]
  | a::r=>if a=c then []::aN c r else match aN c r with
    | []=>[[a]]
    | p::ps=>(a::p)::ps
theorem iB {c:Nat}:aN c []=[[]]:=rfl
theorem c8 {c a:Nat} {r:List Nat}:aN c (a::r)=if a=c then []::aN c r else match aN c r with
    | []=>[[a]]
    | p::ps=>(a::p)::ps:=rfl
theorem jw {c:Nat}:∀ {p:List Nat},c ∉ p→aN c p=[p]
  | [],_=>rfl
  | a::r,h=>by
    rw [c8,if_neg (fun e=>h (e ▸ .head _):a≠c),jw fun hm=>h (.tail _ hm)]
theorem ku {c:Nat} {r:List Nat}:∀ {p:List Nat},c ∉ p→aN c (p++c::r)=p::aN c r
  | [],_=>by rw [List.nil_append,c8,if_pos rfl]
  | a::p,h=>by
    rw [List.cons_append,c8,if_neg (fun e=>h (e ▸ .head _):a≠c),ku fun hm=>h (.tail _ hm)]
theorem jv {c:Nat}:∀ {ps:List (List Nat)},ps≠[]→(∀ p∈ps,c ∉ p)→aN c ([c].intercalate ps)=ps
  | [],h,_=>absurd rfl h
  | [p],_,h=>by exact rl (show [c].intercalate [p]=p by exact List.intercalate_singleton) (rl (jw (h p (.head _))) rfl)
  | p::q::r,_,h=>by
    exact rl (by rfl:[c].intercalate (p::q::r)=p++c::[c].intercalate (q::r)) (rl (ku (h p (.head _))) (rl (jv (by exact List.cons_ne_nil q r) fun x hx=>h x (.tail _ hx)) rfl))
theorem xj (x:Str):T x.cps.toList=x:=by cases x; simp [T]
theorem gA (x:List Nat) (c:Nat):Txt.split (T x) (T [c])=(aN c x).map T:=by
  have e1:(Txt.split (T x) (T [c]))=((Txt.split (T x) (T [c])).map (·.cps.toList)).map T:=by
    rw [List.map_map]
    conv=>lhs; rw [← List.map_id (Txt.split (T x) (T [c]))]
    exact List.map_congr_left fun a _=>(xj a).symm
  have h1:=StrLaws.join_split (T x) (T [c]); have h2:=StrLaws.split_free (T x) c; rw [show (⟨#[c]⟩:Str)=T [c] from rfl] at h2; refine rl e1 ?_; rw [e1,oh] at h1; have h3:=tH h1
  congr 1
  generalize hg:(Txt.split (T x) (T [c])).map (·.cps.toList)=ps at e1 h3 ⊢; refine rr h3 ?_; refine (jv ?_ fun p hp=>?_).symm
  · intro h
    subst h; have:Txt.split (T x) (T [c])=[]:=by refine rl e1 ?_; rfl
    unfold Txt.split at this; split at this
    · cases this
    split at this
    · cases this
    rw [StrLaws.partsBetween_eq] at this; obtain ⟨p,r,e⟩:=StrLaws.partsFrom_ne (T x) (T [c]).length 0 (Builtin.Str.occurrences (T x) (T [c]) 0 (T x).length ((T x).length+1)); rw [e] at this; cases this
  rw [← hg] at hp; obtain ⟨q,hq,rfl⟩:=List.mem_map.mp hp; exact h2 q hq
theorem xm (x y:List Nat):Txt.startswith (T x) (T y)=y.isPrefixOf x:=by
  unfold Txt.startswith
  rw [StrLaws.subAt_eq,aL,aL,Bool.eq_iff_iff]; simp only [Nat.zero_add,List.drop_zero,Bool.and_eq_true,decide_eq_true_eq,List.isPrefixOf_iff_prefix,beq_iff_eq]
  constructor
  · rintro ⟨_,h⟩
    refine rr (by simpa [T,Str.length] using h:x.take y.length=y) ?_; exact List.take_prefix _ _
  rintro ⟨t,rfl⟩; exact ⟨by simp,by simp [T,Str.length]⟩
theorem kK {n:Nat} {l:List Nat} (h:∀ c∈l,c < 1114112):D.ok n (.str (T l))=true:=by
  have:PyData.strOk (T l)=true:=by
    unfold PyData.strOk T
    simpa using h
  cases n <;> exact this
end Mine
namespace Mine
set_option maxRecDepth 100000
noncomputable def bE:Array Nat:=#[14,17,4,1,1,21,9,0,604043296,1,0,0,0,0,0,8,4,0,13,14,21,9,0,604043296,1,0,0,0,0,0,8,4,0,1]
noncomputable def iA (p:Addr):Obj:={ cls:=.type "builtin_function_or_method",data:=.fields #[.builtin "re.Pattern.search",.ref p] }
noncomputable def zD (o:Obj):Option FuncData:=match o.data with | .func fd=>some fd | _=>none
noncomputable def s7 (o:Obj):Option (Array Value):=match o.data with | .fields fs=>some fs | _=>none
noncomputable def AD (o:Obj):Option (Array Value):=match o.data with | .seq fs _=>some fs | _=>none
theorem wR {o:Obj} {x:FuncData} (h:zD o=some x):o.data = .func x:=by
  obtain ⟨_,_,dt,_⟩:=o
  cases dt with
  | func=>exact congrArg Data.func (Option.some.inj h)
  | _=>exact cO h
theorem rz {o:Obj} {x:Array Value} (h:s7 o=some x):o.data = .fields x:=by
  obtain ⟨_,_,dt,_⟩:=o
  cases dt with
  | fields=>exact congrArg Data.fields (Option.some.inj h)
  | _=>exact cO h
theorem yO {o:Obj} {x:Array Value} (h:AD o=some x):∃ n,o.data = .seq x n:=by
  obtain ⟨_,_,dt,_⟩:=o
  cases dt with
  | seq _ n=>exact ⟨n,congrArg (Data.seq · n) (Option.some.inj h)⟩
  | _=>exact cO h
noncomputable def rq (K:Frag) (a:Addr):Option FuncData:=(K.lookup a).bind zD
noncomputable def fdOf (st:Stmt) (dv:Value) (fd:FuncData):FuncData:={ fd with params:=eG st,body:=.stmts (fnBody st),scope:=aK st,globals:=mainGlobals,closure:=[],defaults:=dv,builtins:=builtinsNs }
theorem FnAt.AP {C:Cx} {a:Addr} {st:Stmt} {dv:Value} (O:C.Ok) (h1:(rq C.K a).map (fdOf st dv)=rq C.K a) (h2:((rq C.K a).map fun fd=>codeIn C.K fd.code fd.qualname)=some true) (kp:keepIn C.K (.ref a)=true):FnAt C a st dv:=by
  refine ⟨Kp.AP O kp,?_⟩
  cases e0:rq C.K a with
  | none=>rw [e0] at h2; exact cO h2
  | some fd =>
    rw [e0] at h1 h2; obtain ⟨⟨oc,od,dt,sl⟩,e,hd⟩:=Option.bind_eq_some_iff.mp e0; obtain rfl:dt = .func (fdOf st dv fd):=(wR hd).trans (congrArg Data.func (Option.some.inj h1).symm); exact ⟨_,fd.name,fd.qualname,fd.kwdefaults,fd.doc,fd.pyModule,fd.annotations,fd.code,fd.closureTuple,O.K _ _ e,rfl,codeRec_of O.K (Option.some.inj h2)⟩
noncomputable def tokOf (v:Value):Tok:=match v with
  | .str _ t=>t
  | .int _ t=>t
  | _=>0
noncomputable def zP (K:Frag) (a:Addr) (i:Nat):Tok:=tokOf ((((K.lookup a).bind AD).getD #[]).toList.getD i .none)
noncomputable def Ba (o:Obj):Value × Option (Value × Value × Value):=(o.cls,(s7 o).map fun fs=>(fs.getD 2 .none,fs.getD 6 .none,fs.getD 5 .none))
noncomputable def A3 (o:Obj):Option (Array Nat):=(AD o).map fun cs=>(cs.map Builtin.Re.reRawOf).map (·.toNat)
noncomputable def Ff (o:Obj):Option ClassData:=match o.data with | .cls cd=>some cd | _=>none
theorem yQ {o:Obj} {x:ClassData} (h:Ff o=some x):o.data = .cls x:=by
  obtain ⟨_,_,dt,_⟩:=o
  cases dt with
  | cls=>exact congrArg Data.cls (Option.some.inj h)
  | _=>exact cO h
noncomputable def ownAt (o:Obj):Option Bool:=(Ff o).map fun cd=>!cd.mro.isEmpty && !cd.abstract && !cd.hasDel && decide ((o.slots.toList[4]?).join=some .none) && cd.mro.contains (.ref 694) && cd.mro.contains (.type "object")
theorem of_map {α β:Type} {x:Option α} {f:α→β} {b:β} (h:x.map f=some b):∃ a,x=some a∧f a=b:=Option.map_eq_some_iff.mp h
theorem sL {x:Option (List Value)} {v:Value} (h:x.map (·.head?)=some (some v)):∃ rest,x=some (v::rest):=by
  obtain ⟨l,rfl,e⟩:=of_map h
  cases l with
  | nil=>cases e
  | cons a r=>cases e; exact ⟨r,rfl⟩
theorem E1 {C:Cx} (r:C.h₀.get? 800=some (iA 146)):Kp C (.ref 800):=fun h k =>
  ⟨.machine,.inr (.inl rfl),(Looks.ld (part:=none) (k _ _ r)).andThen (Looks.of_pure rfl)⟩
noncomputable def qw:List (Addr × Stmt × Value):=[(812,ak 33,.none),(817,ak 34,.none),(824,ak 35,.none),(831,ak 36,.none),(836,ak 37,.none),(841,ak 38,.none),(846,ak 39,.none),(807,ak 31,.none),(127,inClass 0 (ak 16),(.ref 122)),(134,inClass 1 (ak 16),.none),(187,inClass 1 (ak 22),.none),(464,inClass 1 (ak 26),(.ref 457)),(471,inClass 2 (ak 26),.none),(478,inClass 3 (ak 26),.none),(640,inClass 25 (ak 26),(.ref 633)),(160,ak 20,.none),(711,inClass 0 (ak 28),(.ref 704)),(718,inClass 1 (ak 28),.none),(748,inClass 5 (ak 28),.none),(755,inClass 6 (ak 28),.none),(777,inClass 9 (ak 28),.none),(784,inClass 10 (ak 28),.none),(799,ak 29,(.ref 792)),(851,ak 40,.none)]
noncomputable def zQ:List (Str × Value):=[("_law_word",.ref 812),("_law_bare",.ref 817),("_law_marked",.ref 824),("_law_pieces",.ref 831),("_law_tokens",.ref 836),("_law_asked",.ref 841),("_law_due",.ref 846),("quote",.ref 807),("_Ignore",.ref 137),("_find_unsafe",.ref 800),("_index",.ref 160),("StringIO",.ref 694),("split",.ref 799),("shlex",.ref 787),("deque",.type "collections.deque"),("BytesIO",.ref 447)]
noncomputable def qx:List (Str × Value):=[("all",.builtin "all"),("sum",.builtin "sum"),("len",.builtin "len"),("chr",.builtin "chr"),("abs",.builtin "abs"),("range",.type "range"),("list",.type "list"),("str",.type "str"),("set",.type "set"),("object",.type "object"),("type",.type "type"),("int",.type "int"),("bool",.type "bool"),("dict",.type "dict"),("isinstance",.builtin "isinstance"),("StopIteration",.type "StopIteration")]
noncomputable def AY:List (Addr × Str × Option Value):=[(137, "__init__",some (.ref 127)),(137, "_mods",none),(137, "_dirs",none),(137, "_ignore",none),(137, "names",some (.ref 134)),(694, "__init__",some (.ref 464)),(694, "_StringIO__translated",some (.ref 471)),(694, "_StringIO__check",some (.ref 478)),(694, "read",some (.ref 640)),(694, "_StringIO__newline",none),(694, "_StringIO__buf",none),(694, "_StringIO__pos",none),(787, "__init__",some (.ref 711)),(787, "punctuation_chars",some (.ref 719)),(787, "get_token",some (.ref 748)),(787, "read_token",some (.ref 755)),(787, "__iter__",some (.ref 777)),(787, "__next__",some (.ref 784)),(787, "__len__",none),(787, "__length_hint__",none)]
noncomputable def zR:List Str:=["instream", "infile", "posix", "eof", "commenters", "wordchars", "whitespace", "whitespace_split", "quotes", "escape", "escapedquotes", "state", "pushback", "lineno", "debug", "token", "filestack", "source", "_punctuation_chars", "_pushback_chars"]
noncomputable def tabI:List Addr:=[134,471,478,640,748,755]
noncomputable def AX:List Addr:=[127,464,711,777,784]
noncomputable def AZ:List Addr:=[137,694,787]
structure G1 (K:Frag):Prop where
  fp:qw.map (fun p=>keepIn K (.ref p.1))=qw.map fun _=>true
  fd:qw.map (fun p=>(rq K p.1).map (fdOf p.2.1 p.2.2))=qw.map fun p=>rq K p.1
  fc:qw.map (fun p=>(rq K p.1).map fun fd=>codeIn K fd.code fd.qualname)=qw.map fun _=>some true
  g:zQ.map (fun p=>nsIn K mainGlobals p.1)=zQ.map fun p=>some (some p.2)
  b:qx.map (fun p=>nsIn K mainGlobals p.1)=qx.map fun _=>some none
  n:AY.map (fun p=>findIn K (.ref p.1) p.2.1)=AY.map fun p=>some p.2.2
  ta:zR.map (findIn K (.ref 787))=zR.map fun _=>some none
  i:tabI.map (fun a=>isFn K (.ref a))=tabI.map fun _=>true
  t:AX.map (fun a=>typeIn K (.ref a))=AX.map fun _=>some (.type "function")
  kp:AZ.map (fun a=>keepIn K (.ref a))=AZ.map fun _=>true
  zy:(K.lookup 447).isSome=true
  booked:nsIn K cStatics sharingNotToldKey=some none
  dh:ff K 137
  dF:ff K 694
  aX:ff K 787
  nj:makesIn K 137=true
  j5:makesIn K 787=true
  mF:(clsIn K 787).isSome=true
  yU:K.lookup 122=some (bF [.none,.none] 0)
  yT:K.lookup 457=some (bF [.str (T []) (zP K 457 0),.str (T [10]) (zP K 457 1)] 0)
  yS:K.lookup 633=some (bF [.int (-1) (zP K 633 0)] 0)
  wU:K.lookup 704=some (bF [.none,.none,.bool false,.bool false] 0)
  yR:K.lookup 792=some (bF [.bool false,.bool true] 0)
  vn:K.lookup 800=some (iA 146)
  xT:(K.lookup 146).map Ba=some (.type "re.Pattern",some (.int 0 0,.int 0 0,.ref 145))
  xU:(K.lookup 145).map A3=some (some bE)
  rZ:(K.lookup 694).map (·.cls)=some (.type "type")
  vf:(K.lookup 694).map ownAt=some (some true)
  vh:specialIn K (.ref 694) "__call__" = some (some (.builtin "type.__call__"))
  u9:instIn K (.ref 694) (.type "type")=some true
  ve:readsIn K 694 (.type "type")=true
  vg:findCls K (.ref 694) (.type "type") "__new__" = some (.get (.builtin "staticmethod.__get__") (.ref 191) .none (.ref 694))
  vd:(recIn K 191 "staticmethod").map (·.head?)=some (some (.ref 187))
  mT:∀ S,peek K S (Bind.staticBase (.ref 694))=some (.type "object")
  mD:specialIn K (.ref 719) "__get__" = some (some (.builtin "property.__get__"))
  mz:takesIn K (.ref 719)=some true
  mC:(recIn K 719 "property").map (·.head?)=some (some (.ref 718))
theorem at_ {α β:Type} {l:List α} {f g:α→β} (h:l.map f=l.map g) (i:Nat) {a:α} (e:l[i]?=some a):f a=g a:=List.map_inj_left.mp h a (List.mem_of_getElem? e)
theorem AF:qx.map (fun p=>bootBuiltins p.1)=qx.map fun p=>some p.2:=by kernel_rfl
theorem name_B:qx.map (fun p=>decide (p.1=("__name__" : Str)))=qx.map fun _=>false:=by kernel_rfl
structure WF (C:Cx):Prop where
  ok:C.Ok
  hb:∀ x:Str,x ≠ "__name__" → C.mb x=bootBuiltins x
  k:G1 C.K
section
variable {C:Cx}
theorem WF.fn (W:WF C) (i:Nat) {a:Addr} {st:Stmt} {dv:Value} (e:qw[i]?=some (a,st,dv)):FnAt C a st dv:=.AP W.ok (at_ W.k.fd i e) (at_ W.k.fc i e) (at_ W.k.fp i e)
theorem WF.gl (W:WF C) (i:Nat) {x:Str} {v:Value} (e:zQ[i]?=some (x,v)):C.mg x=some v:=mg_of W.ok.K W.ok.g (at_ W.k.g i e)
theorem WF.bl (W:WF C) (i:Nat) {x:Str} {v:Value} (e:qx[i]?=some (x,v)):C.mg x=none∧C.mb x=some v:=⟨mg_none_of W.ok.K W.ok.g (at_ W.k.b i e),(W.hb x (of_decide_eq_false (at_ name_B i e))).trans (at_ AF i e)⟩
theorem WF.wF (W:WF C):FnAt C 812 (ak 33) .none:=W.fn 0 rfl
theorem WF.nC (W:WF C):FnAt C 817 (ak 34) .none:=W.fn 1 rfl
theorem WF.kU (W:WF C):FnAt C 824 (ak 35) .none:=W.fn 2 rfl
theorem WF.kT (W:WF C):FnAt C 831 (ak 36) .none:=W.fn 3 rfl
theorem WF.pL (W:WF C):FnAt C 836 (ak 37) .none:=W.fn 4 rfl
theorem WF.sZ (W:WF C):FnAt C 841 (ak 38) .none:=W.fn 5 rfl
theorem WF.zB (W:WF C):FnAt C 846 (ak 39) .none:=W.fn 6 rfl
theorem WF.sV (W:WF C):FnAt C 807 (ak 31) .none:=W.fn 7 rfl
theorem WF.Az (W:WF C):FnAt C 127 (inClass 0 (ak 16)) (.ref 122):=W.fn 8 rfl
theorem WF.sW (W:WF C):FnAt C 134 (inClass 1 (ak 16)) .none:=W.fn 9 rfl
theorem WF.E9 (W:WF C):FnAt C 187 (inClass 1 (ak 22)) .none:=W.fn 10 rfl
theorem WF.yI (W:WF C):FnAt C 464 (inClass 1 (ak 26)) (.ref 457):=W.fn 11 rfl
theorem WF.sS (W:WF C):FnAt C 471 (inClass 2 (ak 26)) .none:=W.fn 12 rfl
theorem WF.sY (W:WF C):FnAt C 478 (inClass 3 (ak 26)) .none:=W.fn 13 rfl
theorem WF.wH (W:WF C):FnAt C 640 (inClass 25 (ak 26)) (.ref 633):=W.fn 14 rfl
theorem WF.sX (W:WF C):FnAt C 160 (ak 20) .none:=W.fn 15 rfl
theorem WF.sR (W:WF C):FnAt C 711 (inClass 0 (ak 28)) (.ref 704):=W.fn 16 rfl
theorem WF.yJ (W:WF C):FnAt C 718 (inClass 1 (ak 28)) .none:=W.fn 17 rfl
theorem WF.wJ (W:WF C):FnAt C 748 (inClass 5 (ak 28)) .none:=W.fn 18 rfl
theorem WF.wG (W:WF C):FnAt C 755 (inClass 6 (ak 28)) .none:=W.fn 19 rfl
theorem WF.Ay (W:WF C):FnAt C 777 (inClass 9 (ak 28)) .none:=W.fn 20 rfl
theorem WF.wI (W:WF C):FnAt C 784 (inClass 10 (ak 28)) .none:=W.fn 21 rfl
theorem WF.sU (W:WF C):FnAt C 799 (ak 29) (.ref 792):=W.fn 22 rfl
theorem WF.Fb (W:WF C):FnAt C 851 (ak 40) .none:=W.fn 23 rfl
theorem WF.Aw (W:WF C):C.mg "_law_word" = some (.ref 812):=W.gl 0 rfl
theorem WF.qZ (W:WF C):C.mg "_law_bare" = some (.ref 817):=W.gl 1 rfl
theorem WF.pG (W:WF C):C.mg "_law_marked" = some (.ref 824):=W.gl 2 rfl
theorem WF.pF (W:WF C):C.mg "_law_pieces" = some (.ref 831):=W.gl 3 rfl
theorem WF.wj (W:WF C):C.mg "_law_tokens" = some (.ref 836):=W.gl 4 rfl
theorem WF.yC (W:WF C):C.mg "_law_asked" = some (.ref 841):=W.gl 5 rfl
theorem WF.E7 (W:WF C):C.mg "_law_due" = some (.ref 846):=W.gl 6 rfl
theorem WF.yy (W:WF C):C.mg "quote" = some (.ref 807):=W.gl 7 rfl
theorem WF.E6 (W:WF C):C.mg "_Ignore" = some (.ref 137):=W.gl 8 rfl
theorem WF.wh (W:WF C):C.mg "_find_unsafe" = some (.ref 800):=W.gl 9 rfl
theorem WF.yz (W:WF C):C.mg "_index" = some (.ref 160):=W.gl 10 rfl
theorem WF.zA (W:WF C):C.mg "StringIO" = some (.ref 694):=W.gl 11 rfl
theorem WF.g_split (W:WF C):C.mg "split" = some (.ref 799):=W.gl 12 rfl
theorem WF.sP (W:WF C):C.mg "shlex" = some (.ref 787):=W.gl 13 rfl
theorem WF.nq (W:WF C):C.mg "deque" = some (.type "collections.deque"):=W.gl 14 rfl
theorem WF.zH (W:WF C):C.mg "all" = none∧C.mb "all" = some (.builtin "all"):=W.bl 0 rfl
theorem WF.Fi (W:WF C):C.mg "sum" = none∧C.mb "sum" = some (.builtin "sum"):=W.bl 1 rfl
theorem WF.w6 (W:WF C):C.mg "len" = none∧C.mb "len" = some (.builtin "len"):=W.bl 2 rfl
theorem WF.Fp (W:WF C):C.mg "chr" = none∧C.mb "chr" = some (.builtin "chr"):=W.bl 3 rfl
theorem WF.Fq (W:WF C):C.mg "abs" = none∧C.mb "abs" = some (.builtin "abs"):=W.bl 4 rfl
theorem WF.dK (W:WF C):C.mg "range" = none∧C.mb "range" = some (.type "range"):=W.bl 5 rfl
theorem WF.g7 (W:WF C):C.mg "list" = none∧C.mb "list" = some (.type "list"):=W.bl 6 rfl
theorem WF.jM (W:WF C):C.mg "str" = none∧C.mb "str" = some (.type "str"):=W.bl 7 rfl
theorem WF.Fj (W:WF C):C.mg "set" = none∧C.mb "set" = some (.type "set"):=W.bl 8 rfl
theorem WF.qb (W:WF C):C.mg "object" = none∧C.mb "object" = some (.type "object"):=W.bl 9 rfl
theorem WF.rG (W:WF C):C.mg "type" = none∧C.mb "type" = some (.type "type"):=W.bl 10 rfl
theorem WF.w7 (W:WF C):C.mg "int" = none∧C.mb "int" = some (.type "int"):=W.bl 11 rfl
theorem WF.xd (W:WF C):C.mg "dict" = none∧C.mb "dict" = some (.type "dict"):=W.bl 13 rfl
theorem WF.Fo (W:WF C):C.mg "isinstance" = none∧C.mb "isinstance" = some (.builtin "isinstance"):=W.bl 14 rfl
theorem WF.wZ (W:WF C):C.mg "StopIteration" = none∧C.mb "StopIteration" = some (.type "StopIteration"):=W.bl 15 rfl
theorem WF.As (W:WF C):findIn C.K (.ref 137) "__init__" = some (some (.ref 127)):=at_ W.k.n 0 rfl
theorem WF.qY (W:WF C):findIn C.K (.ref 137) "_mods" = some (none):=at_ W.k.n 1 rfl
theorem WF.v9 (W:WF C):findIn C.K (.ref 137) "_dirs" = some (none):=at_ W.k.n 2 rfl
theorem WF.jJ (W:WF C):findIn C.K (.ref 137) "_ignore" = some (none):=at_ W.k.n 3 rfl
theorem WF.yt (W:WF C):findIn C.K (.ref 137) "names" = some (some (.ref 134)):=at_ W.k.n 4 rfl
theorem WF.zZ (W:WF C):findIn C.K (.ref 694) "__init__" = some (some (.ref 464)):=at_ W.k.n 5 rfl
theorem WF.xO (W:WF C):findIn C.K (.ref 694) "_StringIO__translated" = some (some (.ref 471)):=at_ W.k.n 6 rfl
theorem WF.xR (W:WF C):findIn C.K (.ref 694) "_StringIO__check" = some (some (.ref 478)):=at_ W.k.n 7 rfl
theorem WF.zY (W:WF C):findIn C.K (.ref 694) "read" = some (some (.ref 640)):=at_ W.k.n 8 rfl
theorem WF.A4 (W:WF C):findIn C.K (.ref 694) "_StringIO__newline" = some (none):=at_ W.k.n 9 rfl
theorem WF.oK (W:WF C):findIn C.K (.ref 694) "_StringIO__buf" = some (none):=at_ W.k.n 10 rfl
theorem WF.u7 (W:WF C):findIn C.K (.ref 694) "_StringIO__pos" = some (none):=at_ W.k.n 11 rfl
theorem WF.uN (W:WF C):findIn C.K (.ref 787) "__init__" = some (some (.ref 711)):=at_ W.k.n 12 rfl
theorem WF.xu (W:WF C):findIn C.K (.ref 787) "punctuation_chars" = some (some (.ref 719)):=at_ W.k.n 13 rfl
theorem WF.zc (W:WF C):findIn C.K (.ref 787) "get_token" = some (some (.ref 748)):=at_ W.k.n 14 rfl
theorem WF.zK (W:WF C):findIn C.K (.ref 787) "read_token" = some (some (.ref 755)):=at_ W.k.n 15 rfl
theorem WF.zL (W:WF C):findIn C.K (.ref 787) "__iter__" = some (some (.ref 777)):=at_ W.k.n 16 rfl
theorem WF.qm (W:WF C):findIn C.K (.ref 787) "__next__" = some (some (.ref 784)):=at_ W.k.n 17 rfl
theorem WF.x_len (W:WF C):findIn C.K (.ref 787) "__len__" = some (none):=at_ W.k.n 18 rfl
theorem WF.zM (W:WF C):findIn C.K (.ref 787) "__length_hint__" = some (none):=at_ W.k.n 19 rfl
theorem WF.xG (W:WF C):isFn C.K (.ref 134)=true:=at_ W.k.i 0 rfl
theorem WF.u5 (W:WF C):isFn C.K (.ref 471)=true:=at_ W.k.i 1 rfl
theorem WF.vj (W:WF C):isFn C.K (.ref 478)=true:=at_ W.k.i 2 rfl
theorem WF.xP (W:WF C):isFn C.K (.ref 640)=true:=at_ W.k.i 3 rfl
theorem WF.uO (W:WF C):isFn C.K (.ref 748)=true:=at_ W.k.i 4 rfl
theorem WF.xr (W:WF C):isFn C.K (.ref 755)=true:=at_ W.k.i 5 rfl
theorem WF.yu (W:WF C):typeIn C.K (.ref 127)=some (.type "function"):=at_ W.k.t 0 rfl
theorem WF.xQ (W:WF C):typeIn C.K (.ref 464)=some (.type "function"):=at_ W.k.t 1 rfl
theorem WF.rP (W:WF C):typeIn C.K (.ref 711)=some (.type "function"):=at_ W.k.t 2 rfl
theorem WF.xw (W:WF C):typeIn C.K (.ref 777)=some (.type "function"):=at_ W.k.t 3 rfl
theorem WF.rO (W:WF C):typeIn C.K (.ref 784)=some (.type "function"):=at_ W.k.t 4 rfl
theorem WF.E3 (W:WF C):Kp C (.ref 137):=Kp.AP W.ok (at_ W.k.kp 0 rfl)
theorem WF.E2 (W:WF C):Kp C (.ref 694):=Kp.AP W.ok (at_ W.k.kp 1 rfl)
theorem WF.sI (W:WF C):Kp C (.ref 787):=Kp.AP W.ok (at_ W.k.kp 2 rfl)
theorem WF.au (W:WF C):∀ n∈zR,findIn C.K (.ref 787) n=some none:=List.map_inj_left.mp W.k.ta
theorem WF.dh (W:WF C):ff C.K 137:=W.k.dh
theorem WF.dF (W:WF C):ff C.K 694:=W.k.dF
theorem WF.aX (W:WF C):ff C.K 787:=W.k.aX
theorem WF.nj (W:WF C):makesIn C.K 137=true:=W.k.nj
theorem WF.j5 (W:WF C):makesIn C.K 787=true:=W.k.j5
theorem WF.mF (W:WF C):(clsIn C.K 787).isSome=true:=W.k.mF
theorem WF.mT (W:WF C):∀ S,peek C.K S (Bind.staticBase (.ref 694))=some (.type "object"):=W.k.mT
theorem WF.mD (W:WF C):specialIn C.K (.ref 719) "__get__" = some (some (.builtin "property.__get__")):=W.k.mD
theorem WF.mz (W:WF C):takesIn C.K (.ref 719)=some true:=W.k.mz
theorem WF.mC (W:WF C):∃ rest,recIn C.K 719 "property" = some (.ref 718::rest):=sL W.k.mC
theorem WF.yU (W:WF C):C.h₀.get? 122=some (bF [.none,.none] 0):=W.ok.K _ _ W.k.yU
theorem WF.wU (W:WF C):C.h₀.get? 704=some (bF [.none,.none,.bool false,.bool false] 0):=W.ok.K _ _ W.k.wU
theorem WF.yR (W:WF C):C.h₀.get? 792=some (bF [.bool false,.bool true] 0):=W.ok.K _ _ W.k.yR
theorem WF.vn (W:WF C):C.h₀.get? 800=some (iA 146):=W.ok.K _ _ W.k.vn
theorem WF.yT (W:WF C):∃ t u,C.h₀.get? 457=some (bF [.str (T []) t,.str (T [10]) u] 0):=⟨_,_,W.ok.K _ _ W.k.yT⟩
theorem WF.yS (W:WF C):∃ t,C.h₀.get? 633=some (bF [.int (-1) t] 0):=⟨_,W.ok.K _ _ W.k.yS⟩
theorem WF.vY (W:WF C):Kp C (.ref 800):=E1 W.vn
theorem WF.E8 (W:WF C):∃ b o,C.mg "BytesIO" = some (.ref b)∧b≠694∧C.h₀.get? b=some o:=by
  obtain ⟨o,e⟩:=Option.isSome_iff_exists.mp W.k.zy; exact ⟨447,o,W.gl 15 rfl,by decide,W.ok.K _ _ e⟩
theorem WF.rZ (W:WF C):∃ o,C.h₀.get? 694=some o∧o.cls≠.type "tuple" := by
  obtain ⟨o,e,h⟩:=of_map W.k.rZ; exact ⟨o,W.ok.K _ _ e,by refine rl h ?_; exact not_eq_of_beq_eq_false rfl⟩
theorem WF.xT (W:WF C):∃ o fs,C.h₀.get? 146=some o∧o.cls = .type "re.Pattern" ∧ o.data = .fields fs∧fs.getD 2 .none = .int 0 0∧fs.getD 6 .none = .int 0 0∧fs.getD 5 .none = .ref 145:=by
  obtain ⟨o,e,h⟩:=of_map W.k.xT; obtain ⟨h1,h2⟩:=Prod.mk.inj h; obtain ⟨fs,hd,h2⟩:=of_map h2; obtain ⟨h3,h4⟩:=Prod.mk.inj h2; obtain ⟨h4,h5⟩:=Prod.mk.inj h4; exact ⟨o,fs,W.ok.K _ _ e,h1,rz hd,h3,h4,h5⟩
theorem WF.xU (W:WF C):∃ o cs n,C.h₀.get? 145=some o∧o.data = .seq cs n∧(cs.map Builtin.Re.reRawOf).map (·.toNat)=bE:=by
  obtain ⟨o,e,h⟩:=of_map W.k.xU; obtain ⟨cs,hd,h⟩:=of_map h; obtain ⟨n,hd⟩:=yO hd; exact ⟨o,cs,n,W.ok.K _ _ e,hd,h⟩
end
end Mine
namespace Mine
noncomputable def cH (c:Nat):Bool:=(decide (c < 256) && (bE.getD (7+c / 32) 0).testBit (c % 32)) || Sre.isWord c
theorem Fg (c:Nat):Sre.category 4 c = .ok (Sre.isWord c):=by
  show Except.ok (Sre.isWord c != false)=_; cases Sre.isWord c <;> rfl
theorem Aq (c:Nat) (seen:Sre.Seen):∃ seen',Sre.inSet bE c 34 5 true seen = .ok (!cH c,seen'):=by
  have e:Sre.inSet bE c 34 5 true seen=(if (decide (c < 256) && (bE.getD (6+(1+c / 32)) 0).testBit (c % 32))=true then .ok (false,(seen.add 21).add 9) else
    (Sre.category 4 c >>= fun b=>if b=true then pure (false,(((seen.add 21).add 9).add 8).add (55+4)) else .ok (true,((((seen.add 21).add 9).add 8).add (55+4)).add 0))):=rfl
  refine rl e ?_; refine rl (by exact Dk:6+(1+c / 32)=7+c / 32) ?_; unfold cH; refine rl (Fg c) ?_
  cases hb:(decide (c < 256) && (bE.getD (7+c / 32) 0).testBit (c % 32)) with
  | true=>exact ⟨_,rfl⟩
  | false =>
    cases hw:Sre.isWord c with
    | true=>exact ⟨_,rfl⟩
    | false=>exact ⟨_,rfl⟩
theorem gh (m:Sre.M) (hc:m.code=bE):∀ (fuel s:Nat) (seen:Sre.Seen),m.lim≤s+fuel→∃ r seen',Sre.M.admitted m fuel s seen = .ok (r,seen') ∧
    (match r with
      | none=>∀ i,s≤i→i < m.lim→cH (m.text.getD i 0)=true
      | some p=>s≤p∧p < m.lim∧cH (m.text.getD p 0)=false)
  | 0,s,seen,h=>⟨none,seen,rfl,fun i h1 h2=>by omega⟩
  | fuel+1,s,seen,h=>by
    show ∃ r seen',(if s ≥ m.lim then Except.ok (none,seen) else match Sre.inSet m.code (m.text.getD s 0) m.code.size 5 true seen with
      | .ok (true,seen)=>.ok (some s,seen)
      | .ok (false,seen)=>Sre.M.admitted m fuel (s+1) seen
      | .error why=>.error why) = .ok (r,seen')∧_
    by_cases hs:s ≥ m.lim
    · refine rl (if_pos hs) ?_
      exact ⟨none,seen,rfl,fun i h1 h2=>by omega⟩
    refine rl (if_neg hs) ?_; obtain ⟨seen',e⟩:=Aq (m.text.getD s 0) seen; refine rl hc (rl (show bE.size=34 from rfl) (rl e ?_))
    cases hx:cH (m.text.getD s 0) with
    | false=>exact ⟨some s,seen',rfl,Nat.le_refl _,by exact Dj hs,hx⟩
    | true =>
      obtain ⟨r,seen'',e',hr⟩:=gh m hc fuel (s+1) seen' (by exact Di h); refine ⟨r,seen'',e',?_⟩
      cases r with
      | none =>
        intro i h1 h2; rcases Nat.lt_or_ge s i with q | q
        · exact hr i q h2
        have:i=s:=by exact Dh h1 q
        refine rl this ?_; exact hx
      | some p=>exact ⟨by have:=hr.1; omega,hr.2⟩
theorem nT (m:Sre.M) (hc:m.code=bE) (ha:m.frames=[]) (ho:m.outcome=none) (hn:∀ i,i < m.lim→cH (m.text.getD i 0)=true):∃ m',(Sre.M.attemptFrom m 0 true).runFor 4=m'∧m'.outcome=some .failed:=by
  obtain ⟨r,seen',e,hr⟩:=gh m hc (m.lim+1 - 0) 0 m.seen (by exact Bq); have hf:m.hasFirstSet=true:=by unfold Sre.M.hasFirstSet; refine rl hc ?_; rfl
  cases r with
  | some p=>have:=hn p hr.2.1; rw [hr.2.2] at this; cases this
  | none =>
    refine ⟨_,rfl,?_⟩
    have e1:Sre.M.attemptFrom m 0 true = { m with seen:=seen',answer:=some false }:=by
      unfold Sre.M.attemptFrom; refine rl hf (rl e ?_); rfl
    refine rl e1 ?_; obtain ⟨a1,a2,a3,a4,a5,a6,a7,a8,a9,a10,a11,a12,a13,a14,a15,a16,a17,a18,a19,a20,a21⟩:=m; cases ha; cases ho; rfl
theorem uI (c:Nat) (seen:Sre.Seen) (h:cH c=false):∃ seen',Sre.accepts bE 18 c seen = .ok (true,seen'):=by
  have e:Sre.accepts bE 18 c seen=(if (decide (c < 256) && (bE.getD (21+(1+c / 32)) 0).testBit (c % 32))=true then .ok (false,(seen.add 21).add 9) else
    (Sre.category 4 c >>= fun b=>if b=true then pure (false,(((seen.add 21).add 9).add 8).add (55+4)) else .ok (true,((((seen.add 21).add 9).add 8).add (55+4)).add 0))):=rfl
  refine rl e ?_; refine rl (Fg c) ?_; unfold cH at h; have h:=Bool.or_eq_false_iff.mp h
  have e4:(decide (c < 256) && (bE.getD (21+(1+c / 32)) 0).testBit (c % 32))=(decide (c < 256) && (bE.getD (7+c / 32) 0).testBit (c % 32)):=by
    by_cases hc:c < 256
    · have:c / 32 < 8:=by exact Dg hc
      have:bE.getD (21+(1+c / 32)) 0=bE.getD (7+c / 32) 0:=by
        exact (by decide:∀ k,k < 8→bE.getD (21+(1+k)) 0=bE.getD (7+k) 0) _ this
      exact rl this rfl
    refine rl (decide_eq_false hc) ?_; rfl
  refine rl e4 (rl h.1 (rl h.2 ?_)); exact ⟨_,rfl⟩
theorem nR (m:Sre.M) (hc:m.code=bE) (hp:m.pc=18) (ha:m.frames=[]) (ho:m.outcome=none) (hans:m.answer=none) (hw:m.wholeText=false) (hwt:m.weight=0) {i:Nat} (hi:i < m.lim) (hu:cH (m.text.getD i 0)=false):∃ m',(Sre.M.attemptFrom m 0 true).runFor 4=m'∧m'.outcome=some .matched:=by
  obtain ⟨r,seen',e,hr⟩:=gh m hc (m.lim+1 - 0) 0 m.seen (by exact Bq); have hf:m.hasFirstSet=true:=by unfold Sre.M.hasFirstSet; refine rl hc ?_; rfl
  cases r with
  | none=>have:=hr i (Nat.zero_le _) hi; rw [hu] at this; cases this
  | some p =>
    refine ⟨_,rfl,?_⟩
    have e1:Sre.M.attemptFrom m 0 true=Sre.M.attemptAt { m with mustAdvance:=false,seen:=seen' } p true:=by
      unfold Sre.M.attemptFrom; refine rl hf (rl e ?_); rfl
    refine rl e1 ?_; obtain ⟨_,hpl,hps⟩:=hr; obtain ⟨a1,a2,a3,a4,a5,a6,a7,a8,a9,a10,a11,a12,a13,a14,a15,a16,a17,a18,a19,a20,a21⟩:=m; dsimp only at *; cases ha; cases ho; cases hans; cases hw; cases hwt; cases hc; cases hp; obtain ⟨seen2,acc⟩:=uI (a2.getD p 0) (seen'.add 13) hps
    have s1:Sre.M.step (Sre.M.attemptAt ⟨bE,a2,a3,a4,a5,false,false,18,a9,a10,a11,a12,a13,a14,a15,a16,[],0,none,seen',none⟩ p true) =
        ⟨bE,a2,a3,p,a5,false,false,33,p+1,p,true,a12,-1,-1,a15,a16,[{ wait:=.nextStart,pc:=18,pos:=p,outermost:=true }],1,none,seen2,none⟩:=by
      show (if p ≥ a3 then _ else _)=_; refine rl (if_neg (by exact Df hpl)) ?_; show (match Sre.accepts bE 18 (a2.getD p 0) (seen'.add 13) with | .error why=>_ | .ok (false,seen)=>_ | .ok (true,seen)=>_)=_; refine rl acc ?_; rfl
    show (Sre.M.runFor 3 (Sre.M.step _)).outcome=_; refine rl s1 ?_; rfl
end Mine
namespace Mine
open Builtin.Re
theorem mj {prog:Program} {w:World} {A:Around} {E:Value→Shared→Prop} {s:Shared} {Q:Option Sre.M→Shared→Prop} {m m':Sre.M} (h4:m.runFor 4=m') {r:Option Sre.M} (hr:(m'.outcome=some .matched∧r=some m') ∨ (m'.outcome=some .failed∧r=none)) (hq:Q r s) :
    wpAny (model prog w) A (reRunToEnd m) Q E s:=by
  unfold reRunToEnd
  have hd:reDrive (2 ^ 64) m=pure m':=by
    refine rl (show (2:Nat) ^ 64=(2 ^ 64 - 1)+1 from rfl) ?_; unfold reDrive; refine rl (show reTurnSteps=4 from rfl) (rl h4 ?_); dsimp only; rcases hr with ⟨h,_⟩ | ⟨h,_⟩ <;> (refine rl h ?_; rfl)
  refine rl hd ?_; refine wpAny_bind (wpAny_pure ?_); refine wpAny_bind ?_; refine wpAny_forIn_list _ (fun _ _ s'=>s'=s) _ ?_ ?_ _ _ rfl
  · intro i rest b s' e
    subst e; split
    · exact wpAny_bind (wpAny_rule (wpAny_pure rfl))
    exact wpAny_pure rfl
  intro _ s' e; subst e; rcases hr with ⟨h,rfl⟩ | ⟨h,rfl⟩ <;> (refine rl h ?_; exact wpAny_pure hq)
end Mine
namespace Mine
open Builtin.Re
theorem oJ (text:Array Nat) (hne:1≤text.size) (hs:∀ i,i < text.size→cH (text.getD i 0)=true):((Sre.forSearch bE text 0 0 text.size false).runFor 4).outcome=some .failed:=by
  unfold Sre.forSearch; simp only [(by decide:Sre.header bE=(1,18))]
  have hz:¬ ((decide (0 > text.size) || decide (text.size - 0 < 1))=true):=by
    rw [Bool.or_eq_true,decide_eq_true_eq,decide_eq_true_eq]; exact De hne
  refine rl (if_neg hz) ?_; refine (nT _ ?_ ?_ ?_ ?_).elim fun m' h=>h.1 ▸ h.2
  · rfl
  · rfl
  · rfl
  exact hs
theorem oH (text:Array Nat) {i:Nat} (hi:i < text.size) (hu:cH (text.getD i 0)=false):((Sre.forSearch bE text 0 0 text.size false).runFor 4).outcome=some .matched:=by
  unfold Sre.forSearch; simp only [(by decide:Sre.header bE=(1,18))]
  have hz:¬ ((decide (0 > text.size) || decide (text.size - 0 < 1))=true):=by
    rw [Bool.or_eq_true,decide_eq_true_eq,decide_eq_true_eq]; exact Dd hi
  refine rl (if_neg hz) ?_; refine (nR _ ?_ ?_ ?_ ?_ ?_ ?_ ?_ (i:=i) ?_ ?_).elim fun m' h=>h.1 ▸ h.2
  all_goals first | exact hi | exact hu | rfl
end Mine
set_option maxRecDepth 100000
namespace Mine
open Builtin.Re
theorem ru:entryFor table "re.Pattern.search" = some Builtin.«re.Pattern.search»:=entryFor_of_tree (by kernel_rfl)
theorem qH {as:Args}:(Code.builtin "re.Pattern.search" as).quiet=true:=Code.quiet_builtin _ (by decide +kernel)
theorem uG (p:Addr) (v:Value):(match Manifest.signature? "re.Pattern.search" with | some sig=>Bind.checkArgs "re.Pattern.search" { sig with full:=s!"{Bind.lastOf "re.Pattern"}.{Bind.lastOf "re.Pattern.search"}" } ⟨[.ref p,v],[]⟩ | none=>pure ())=pure ():=by kernel_rfl
theorem uq:builtinKind "re.Pattern.search" = some .method:=by decide +kernel
theorem uT:isSubtype (.type "re.Pattern") (.type "module")=pure false:=by rw [isSubtype_type]; kernel_rfl
theorem uP:Manifest.varargsMethods.contains "re.Pattern.search" = false:=by decide +kernel
section
variable {prog:Program} {w:World} {A:Around} {E:Value→Shared→Prop} {s:Shared}
theorem uF {x p:Addr} {o:Obj} {v:Value} {Q:Value→Shared→Prop} (ho:s.heap.get? x=some (iA p)) (hp:s.heap.get? p=some o) (hc:o.cls = .type "re.Pattern") {fs:Array Value} (hdat:o.data = .fields fs)
    (h:wpAny (model prog w) A.in1 (Builtin.«re.Pattern.search» ⟨[.ref p,v],[]⟩) (fun fin s'=>∃ v,fin = .done (.ret v)∧Q v s') E s):wpAny (model prog w) A (call (.ref x) [v]) Q E s:=by
  refine qa (rT ?_); show wpAny _ A.in1 (callAny (.ref x) ⟨[v],[]⟩) _ _ s; refine wpAny_bind (wpAny_load ho ?_); dsimp only [iA]; refine KFB.if_so (by decide) ?_; refine KFB.if_so (by decide) ?_; refine wpAny_bind ?_
  have hk:wpAny (model prog w) A.in1 (checkBoundCall "re.Pattern.search" ⟨[.ref p,v],[]⟩) (fun _ s'=>s'=s) (fun _ _=>False) s:=by
    unfold checkBoundCall; have ha:=uG p v
    cases hs:Manifest.signature? "re.Pattern.search" with
    | none=>exact wpAny_pure rfl
    | some sig =>
      rw [hs] at ha; refine rl uq ?_; refine KFB.if_not (by decide) ?_; refine wpAny_bind (wpAny_isInstance (T := "re.Pattern") ⟨o,hp,hc⟩ uT ?_); refine rl uP ?_; refine KFB.if_not rfl ?_; refine wpAny_bind ?_; refine ks_wpAny_isType_inst hp (by intro c; refine rl hdat ?_; intro z; cases z) ?_; refine KFB.if_not rfl ?_; refine wpAny_bind (wpAny_typeOf (T := "re.Pattern") ⟨o,hp,hc⟩ ?_); exact wpAny_of_eq ha rfl
  refine wpAny_mono hk (fun _ s' e=>?_) zz; subst e; refine wpAny_bind (wpAny_pure (wpAny_pure ?_)); exact ⟨qH,gZ ru (wpAny_mono h (fun _ _ ⟨v,e,q⟩=>e ▸ q) fun _ _ z=>z)⟩
end
end Mine
set_option maxRecDepth 100000
namespace Mine
open Builtin.Re
noncomputable def Ga (x:Value) (f:Value) (c:Addr) (z u:Tok) (y:Tok):Obj:={ cls:=.type "re.Pattern",data:=.fields #[x,f,.int 0 z,.none,.none,.ref c,.int 0 y] }
section
variable {prog:Program} {w:World} {A:Around} {E:Value→Shared→Prop} {s:Shared}
theorem qU {v:Value} {Q:List (Option Value)→Shared→Prop} (h:Q [some v,none,none] s):wpAny (model prog w) A (reNamed "re.Pattern.search" "search" ["string", "pos", "endpos"] 1 [v] []) Q E s:=by
  refine wpAny_of_eq (a:=[some v,none,none]) ?_ h; rfl
theorem tR {p c:Addr} {o oc:Obj} {fs cs:Array Value} {n:Nat} {x:Str} {t:Tok} {P:Fin→Shared→Prop} (hp:s.heap.get? p=some o) (hdat:o.data = .fields fs) (h2:fs.getD 2 .none = .int 0 0) (h6:fs.getD 6 .none = .int 0 0) (h5:fs.getD 5 .none = .ref c)
    (hcc:s.heap.get? c=some oc) (hcd:oc.data = .seq cs n) (hcode:(cs.map reRawOf).map (·.toNat)=bE) (hsz:x.cps.size < 2 ^ 63 - 1)
    (h:wpAny (model prog w) A (reAnswer { pattern:=.ref p,string:=.str x t,code:=bE,text:=x.cps,kind:=0,groups:=0,pos:=0,lim:=x.cps.size } (Sre.forSearch bE x.cps 0 0 x.cps.size false)) P E s) :
    wpAny (model prog w) A (Builtin.«re.Pattern.search» ⟨[.ref p,.str x t],[]⟩) P E s:=by
  refine wpAny_bind ?_; refine wpAny_bind (qU ?_); refine wpAny_bind (wpAny_pure ?_); refine wpAny_bind (wpAny_pure ?_); refine wpAny_bind (wpAny_fieldsOf hp hdat ?_); refine wpAny_bind (wpAny_mono (wpAny_of_eq (a:=(x.cps,0)) rfl ⟨rfl,rfl⟩:wpAny (model prog w) A (reTextOf (.str x t)) (fun r s'=>r=(x.cps,0)∧s'=s) E s) (fun r s' e=>?_) (fun _ _ z=>z)); obtain ⟨rfl,rfl⟩:=e; refine rl h6 (rl h5 (rl h2 ?_)); refine KFB.if_not rfl ?_; refine KFB.if_not rfl ?_; refine wpAny_bind (wpAny_of_eq (a:=()) rfl ?_)
  have hit:wpAny (model prog w) A (reRawItems (.ref c)) (fun r s''=>r=cs.map reRawOf∧s''=s') E s':=by
    exact wpAny_bind (wpAny_seqItems hcc hcd (wpAny_pure ⟨rfl,rfl⟩))
  refine wpAny_bind (wpAny_mono hit (fun r s'' e=>?_) (fun _ _ z=>z)); obtain ⟨rfl,rfl⟩:=e; refine wpAny_pure ?_; refine rl hcode ?_; simp only [(Nat.min_eq_right (Nat.le_of_lt (by assumption)):min (2 ^ 63 - 1:Int).toNat x.cps.size=x.cps.size),(Nat.zero_min _:min (Int.toNat 0) x.cps.size=0)]; exact h
end
end Mine
set_option maxRecDepth 100000
namespace Mine
open Builtin.Re
section
variable {C:Cx} {d:Nat} {A:Around} {env:Env} {ρ:Loc} {H:List O} {ι:Ad} {X:List Addr} {s:Shared} {Q:D→List O→Prop}
theorem aj.F4 (W:WF C) {x:Str} (hne:1≤x.cps.size) (hq:(∀ i,i < x.cps.size→cH (x.cps.getD i 0)=true)→Q .none H) (hq':∀ i,i < x.cps.size→cH (x.cps.getD i 0)=false→∀ o,Q (.imm o) H):aj C d H (.ref 800) [.str x] Q:=fun A env ρ s ι X vs S hv=>AM S <| by
  obtain ⟨v,rfl,hw⟩:=hv.bL; obtain ⟨hl,t,rfl⟩:=hw.aM; obtain ⟨o,fs,ho,hc,hd,h2,h6,h5⟩:=W.xT; obtain ⟨oc,cs,n,hoc,hcd,hcode⟩:=W.xU; refine uF (S.base _ _ W.vn) (S.base _ _ ho) hc hd ?_
  have hsz:x.cps.size < 2 ^ 63 - 1:=by
    have h1:x.cps.size≤sizeLine:=hl; have h2:sizeLine=16777216:=rfl; omega
  refine tR (S.base _ _ ho) hd h2 h6 h5 (S.base _ _ hoc) hcd hcode hsz ?_
  by_cases hall:∀ i,i < x.cps.size→cH (x.cps.getD i 0)=true
  · refine wpAny_bind (mj rfl (.inr ⟨oJ _ hne hall,rfl⟩) ?_)
    exact wpAny_pure ⟨_,rfl,fun _ ht=>PR.quiet S .refl .none_ (hq hall) ht⟩
  have hex:∃ i,i < x.cps.size∧cH (x.cps.getD i 0)=false:=by
    refine Classical.byContradiction fun hn=>hall fun i hi=>?_
    cases hb:cH (x.cps.getD i 0) with
    | true=>rfl
    | false=>exact absurd ⟨i,hi,hb⟩ hn
  obtain ⟨i,hi,hu⟩:=hex; refine wpAny_bind (mj rfl (.inl ⟨oH _ hi hu,rfl⟩) ?_); refine wpAny_bind ?_; unfold reNewMatch; refine KFB.if_not rfl ?_; refine wpAny_bind (wpAny_newTuple (hsz:=(show 2≤16777216 by decide)) ?_); refine wpAny_newObj_type ?_; refine wpAny_pure ⟨_,rfl,fun hs ht=>?_⟩; refine PR.quiet S (.trans .push .push) (.lF (fun hm=>absurd (S.xs _ hm).2 (Nat.not_lt.mpr ?_)) (fun hm=>absurd (S.is _ hm).2 (Nat.not_lt.mpr ?_)) (Heap.get?_push_size _ rfl) ?_ (fun _ _ _ h=>nomatch h)) (hq' i hi hu _) ht
  · show _≤(s.heap.push _).objs.size
    rw [Heap.size_push]; exact Nat.le_succ _
  · show _≤(s.heap.push _).objs.size
    rw [Heap.size_push]; exact Nat.le_succ _
  simp
end
end Mine
namespace Mine
section
variable {C:Cx} {d:Nat} {H:List O} {Q:D→List O→Prop}
noncomputable def kL (env:Env) (f:Str) (args:List Expr):Bool:=env.kindOf f==some .globalImplicit && !(f==("__debug__" : Str)) && args.all fun e=>!isStarred e
theorem lZ {env:Env} {f:Str} {args:List Expr} (h:kL env f args=true):env.kindOf f=some .globalImplicit∧(f==("__debug__" : Str))=false∧args.all (fun e=>!isStarred e)=true:=by
  unfold kL at h; have h:=Bool.and_eq_true_iff.mp h; have h1:=Bool.and_eq_true_iff.mp h.1; exact ⟨by simpa using h1.1,by simpa using h1.2,h.2⟩
noncomputable def zE (x:D) (R:List D→List O→Prop) (xs:List D) (H':List O):Prop:=R (x::xs) H'
noncomputable def G9 (C:Cx) (d:Nat) (env:Env) (ρ:Loc) (es:List Expr) (R:List D→List O→Prop) (x:D) (H':List O):Prop:=az C d env ρ es H' (zE x R)
noncomputable def wX (C:Cx) (d:Nat) (v:Value) (Q:D→List O→Prop) (xs:List D) (H':List O):Prop:=aj C d H' v xs Q
inductive EU (C:Cx) (d:Nat) (env:Env) (ρ:Loc) (args:List Expr) (name:Str) (Q:D→List O→Prop) (x:D) (H':List O):Prop
  | mk (f:Value) (m:bY C d H' x name f) (k:Kp C f) (h:az C d env ρ args H' (zE x (wX C d f Q)))
noncomputable def GL (x:Str) (ρ:Loc) (R:Fl→Loc→List O→Prop) (v:D) (H':List O):Prop:=R .next (aQ x v ρ) H'
noncomputable def GC (ρ:Loc) (R:Fl→Loc→List O→Prop) (v:D) (H':List O):Prop:=v = .none∧R .next ρ H'
noncomputable def F8 (ρ:Loc) (R:Fl→Loc→List O→Prop) (v:D) (H':List O):Prop:=R (.ret v) ρ H'
noncomputable def Hh (C:Cx) (d:Nat) (a:D) (t:Value→Value→Sem Value) (Q:D→List O→Prop) (b:D) (H':List O):Prop:=aO C d H' a b t Q
noncomputable def GV (C:Cx) (d:Nat) (env:Env) (ρ:Loc) (r:Expr) (t:Value→Value→Sem Value) (Q:D→List O→Prop) (a:D) (H':List O):Prop:=EV C d env ρ H' r (Hh C d a t Q)
noncomputable def G2 (C:Cx) (d:Nat) (T:Bool→List O→Prop) (c:D) (H':List O):Prop:=TR C d H' c T
noncomputable def G3 (x:D) (Q:D→List O→Prop) (y:D) (H':List O):Prop:=zS x y H' Q
noncomputable def G4 (C:Cx) (d:Nat) (env:Env) (ρ:Loc) (i:Expr) (Q:D→List O→Prop) (x:D) (H':List O):Prop:=EV C d env ρ H' i (G3 x Q)
noncomputable def G6 (Q:D→List O→Prop) (acc:List D) (H':List O):Prop:=Q (.list acc) H'
theorem EV.bo {env:Env} {ρ:Loc} {l r:Expr} {op:Operator} {pos:Pos} (h:EV C d env ρ H l (GV C d env ρ r (binaryOp op) Q)):EV C d env ρ H (.BinOp l op r pos) Q:=EV.binop h
theorem TV.cm {env:Env} {ρ:Loc} {T:Bool→List O→Prop} {l r:Expr} {op:CmpOp} {pos:Pos} (h:EV C d env ρ H l (GV C d env ρ r (compareOp op) (G2 C d T))) (hm:behindInMarks op r=false):TV C d env ρ H (.Compare l [op] [r] pos) T:=TV.cmp h hm
theorem EV.sb {env:Env} {ρ:Loc} {v i:Expr} {pos:Pos} (hs:∀ o j,subscripted i false o j=operate [o,j] (getItem o j)) (h:EV C d env ρ H v (G4 C d env ρ i Q)):EV C d env ρ H (.Subscript v i pos) Q:=EV.sub hs h
theorem EX.rt {env:Env} {ρ:Loc} {R:Fl→Loc→List O→Prop} {e:Expr} {pos:Pos} (h:EV C d env ρ H e (F8 ρ R)):EX C d env ρ H (.Return (some e) pos) R:=EX.ret h
theorem EV.bS {env:Env} {ρ:Loc} {f:Str} {p pos:Pos} {args:List Expr} {v:Value} (O:C.Ok) (hm:C.mg f=Option.none∧C.mb f=some v) (hv:Kp C v) (ok:kL env f args=true)
    (h:az C d env ρ args H (wX C d v Q)):EV C d env ρ H (.Call (.Name f p) args [] pos) Q :=
  let ⟨k,hd,hs⟩:=lZ ok
  EV.call hs hv (EV.blt hd O k hm.1 hm.2 ⟨rfl,h⟩)
theorem EV.cL {env:Env} {ρ:Loc} {f:Str} {p pos:Pos} {args:List Expr} {v:Value} (O:C.Ok) (hm:C.mg f=some v) (hv:Kp C v) (ok:kL env f args=true)
    (h:az C d env ρ args H (wX C d v Q)):EV C d env ρ H (.Call (.Name f p) args [] pos) Q :=
  let ⟨k,hd,hs⟩:=lZ ok
  EV.call hs hv (EV.glob hd O k hm ⟨rfl,h⟩)
noncomputable def qM (o:Expr) (args:List Expr) (apos pos:Pos):Bool:=args.all (fun e=>!isStarred e) && c9 o && decide (args.length < 30) && (apos.endLine==pos.line)
theorem EV.b5 {env:Env} {ρ:Loc} {o:Expr} {name:Str} {apos pos:Pos} {args:List Expr} (ok:qM o args apos pos=true)
    (h:EV C d env ρ H o (EU C d env ρ args name Q)):EV C d env ρ H (.Call (.Attribute o name apos) args [] pos) Q:=by
  unfold qM at ok; have h0:=Bool.and_eq_true_iff.mp ok; have h1:=Bool.and_eq_true_iff.mp h0.1; have h2:=Bool.and_eq_true_iff.mp h1.1; exact EV.meth h2.1 h2.2 (of_decide_eq_true h1.2) h0.2 (h.mono fun _ _ q=>by obtain ⟨f,m,k,h⟩:=q; exact ⟨f,m,k,h⟩)
noncomputable def jd (e:Expr):Bool:=!(e.ctorIdx==8 || e.ctorIdx==9 || e.ctorIdx==10)
theorem ah {env:Env} {e:Expr} {t:Option Expr} {l:Nat} (h:jd e=true):swapsWith e t l env=pure false:=by
  cases e <;> first | rfl | (exact absurd h Bool.false_ne_true)
theorem EX.asg {env:Env} {ρ:Loc} {x:Str} {p pos:Pos} {e:Expr} {R:Fl→Loc→List O→Prop} (ok:(binds env x && jd e)=true) (h:EV C d env ρ H e (GL x ρ R)):EX C d env ρ H (.Assign [.Name x p] e pos) R :=
  have h0:=Bool.and_eq_true_iff.mp ok
  EX.assign h0.1 (ah h0.2) h
theorem EX.exp {env:Env} {ρ:Loc} {pos:Pos} {e:Expr} {R:Fl→Loc→List O→Prop} (ok:(!interactive env && jd e)=true) (h:EV C d env ρ H e (GC ρ R)):EX C d env ρ H (.Expr e pos) R :=
  have h0:=Bool.and_eq_true_iff.mp ok
  EX.expr (by simpa using h0.1) (ah h0.2) h
noncomputable def mZ (scope:Scope) (env:Env) (gens:List Comprehension):Bool:=jk scope env && gens.all (gB scope) && gT (gens.map (gH ·.target))
theorem EV.cP {env:Env} {ρ:Loc} {elt:Expr} {x:Str} {p:Pos} {iter:Expr} {ifs:List Expr} {gs:List Comprehension} {scope:Scope} {pos:Pos} (ok:mZ scope env (⟨.Name x p,iter,ifs,0⟩::gs)=true)
    (h:EV C d env ρ H iter (pY C d env ρ x elt ifs gs scope (G6 Q))) :
    EV C d env ρ H (.ListComp elt (⟨.Name x p,iter,ifs,0⟩::gs) scope pos) Q:=by
  unfold mZ at ok; have h0:=Bool.and_eq_true_iff.mp ok; have h1:=Bool.and_eq_true_iff.mp h0.1; exact EV.comp h1.1 h1.2 h0.2 h
theorem EV.nm {env:Env} {ρ:Loc} {x:Str} {pos:Pos} (e:D) (h:ρ.lookup x=some e) (hd:(x==("__debug__" : Str))=false) (hq:Q e H):EV C d env ρ H (.Name x pos) Q:=EV.name hd h hq
theorem aO.yX {a b:Int} (hq:Q (.int (a+b)) H):aO C d H (.int a) (.int b) (binaryOp .Add) Q:=aO.bin hq
theorem tX {a b:Int} (h1 : -1000≤a) (h2:a≤1000) (h3 : -1000≤b) (h4:b≤1000):Builtin.Range.small a b 1=true:=by
  unfold Builtin.Range.small Builtin.Range.rangeFitsLong; rw [rangeSize_one]; split <;> simp <;> omega
theorem vm (a b:Int):Builtin.Range.rangeSize a b 1=((b - a).toNat:Nat):=by
  rw [rangeSize_one]; split <;> omega
theorem dm.xS {a b:Int} {t u v:Tok} (h1 : -1000≤a) (h2:a≤1000) (h3 : -1000≤b) (h4:b≤1000):dm (.imm (gP a b t u v)) (fJ a (b - a).toNat):=.range (tX h1 h2 h3 h4) (vm a b)
theorem az.c {env:Env} {ρ:Loc} {e:Expr} {es:List Expr} {R:List D→List O→Prop} (h:EV C d env ρ H e (G9 C d env ρ es R)):az C d env ρ (e::es) H R:=h
theorem az.n {env:Env} {ρ:Loc} {R:List D→List O→Prop} (h:R [] H):az C d env ρ [] H R:=h
theorem aG {α:Type} {env:Env} {x:Str} {elt:Expr} {ρ:Loc} {src:D} {all:List D} {QQ:List D→List O→Prop} (g f:α→D) (hi:lE src all H) :
    ∀ (xs:List α) (acc:List D),acc.length+xs.length≤sizeLine→(∀ a∈xs,∀ P:D→List O→Prop,P (f a) H→EV C d env (aQ x (g a) ρ) H elt P)→QQ (acc++xs.map f) H→turns C d env x [] (CG C d env elt []) ρ src all (xs.map g) acc H QQ
  | [],acc,_,_,hq=>⟨hi,by simpa using hq⟩
  | y::r,acc,hl,he,hq=>by
    refine ⟨hi,?_⟩; rw [jT,if_pos rfl,AL]; rw [List.length_cons] at hl; refine he y (.head _) _ ⟨by exact Nat.lt_of_add_right_lt hl,aG g f hi r (acc++[f y]) (by refine rl List.length_append (rl List.length_singleton ?_); exact z7 hl) (fun z hz=>he z (.tail _ hz)) (by simpa using hq)⟩
end
noncomputable def cj:List Nat:=(Str.ofString "abcdefghijklmnopqrstuvwxyzABCDEFGHIJKLMNOPQRSTUVWXYZ0123456789_@%+=:,./-").cps.toList
noncomputable def aJ (l:List Nat):Bool:=!l.isEmpty && l.all fun c=>decide (c∈cj)
section
variable {C:Cx} {d:Nat} {H:List O} {Q:D→List O→Prop}
theorem jl (W:WF C) {l:List Nat} (ht: l.length≤sizeLine) (hq:Q (.bool (aJ l)) H):aj C (d+2) H (.ref 817) [.str (T l)] Q:=by
  refine aj.fn (ns:=["text"]) W.ok W.nC (by kernel_rfl) (by kernel_rfl) (by kernel_rfl) rfl ?_ (fun q cd L=>by kernel_rfl) fun q cd L=>?_
  · exact fun _ _ _ _ _ _ _ _=>gU fun _=>by kernel_rfl
  refine aa.cons (EX.assign (by kernel_rfl) (by kernel_rfl) (EV.str (by decide) ?_)); refine aa.cons (EX.ret ?_); refine EV.and (EV.cmp (EV.name (by decide) rfl (EV.str (by decide) (aO.cmp ?_))) (by kernel_rfl)); refine TR.plain rfl ?_
  cases l with
  | nil=>exact hq
  | cons c l =>
    refine rl (if_pos (by rfl)) ?_; refine EV.GN (EV.call (by kernel_rfl) .builtin (EV.blt (by decide) W.ok (by kernel_rfl) W.zH.1 W.zH.2 ⟨rfl,?_⟩)); refine EV.comp (by kernel_rfl) (by kernel_rfl) (by kernel_rfl) (EV.name (by decide) rfl ⟨chars (T (c::l)),.str,fun Ca=>?_⟩); rw [tu]; refine aG (fun c:Nat=>.str (T [c])) (fun c=>.bool (decide (c∈cj))) (by exact trivial) (c::l) [] (by simpa using ht) (fun c' hc' P hP=>?_) ?_
    · refine EV.cmp (EV.name (by decide) rfl (EV.name (by decide) rfl (aO.cmp ?_))) (by kernel_rfl)
      show P (.bool _) _; rw [show Str.ofString "abcdefghijklmnopqrstuvwxyzABCDEFGHIJKLMNOPQRSTUVWXYZ0123456789_@%+=:,./-" = T cj from rfl,AJ]; exact hP
    show aj _ _ _ _ _ _; rw [List.nil_append,show (c::l).map (fun c=>D.bool (decide (c∈cj)))=((c::l).map fun c=>decide (c∈cj)).map D.bool by rw [List.map_map]; rfl]; refine aj.all ?_; show Q _ _
    simpa [aJ,gD,List.all_map,Function.comp_def] using hq
end
noncomputable def sgn (n:Int):List Nat:=[97,98,46,39,32,34,92,58,47,(((if n < 0 then -n else n).fdiv 100000).fmod 55296).toNat]
noncomputable def lW (n:Int) (k:Nat):Nat:=(sgn n).getD ((n.fdiv (10 ^ (1+k))).fmod 10).toNat 0
noncomputable def bM (n:Int):List Nat:=(List.range ((n.fmod 10).fdiv 2).toNat).map (lW n)
theorem bZ {α:Type} [Inhabited α] (f:α→D) (xs:List α) {i:Int} {k:Nat} (hi:i=k) (h:k < xs.length):d7 (xs.map f) i=some (f (xs.getD k default)):=by
  subst hi; unfold d7; rw [if_pos (by exact Int.natCast_nonneg _),Int.toNat_natCast,List.getElem?_map,List.getElem?_eq_getElem h,List.getD_eq_getElem?_getD,List.getElem?_eq_getElem h]; rfl
theorem i9 {a:Int} {n:Nat} (h:1≤a) (hn:a ^ n < 1000000000) {k:Nat} (hk:k < n):a ^ k < 1000000000:=by
  refine Int.lt_of_le_of_lt ?_ hn; obtain ⟨j,rfl⟩:∃ j,n=k+j:=⟨n - k,by exact Gj hk⟩; rw [Int.pow_add]; have h3:=Int.mul_le_mul_of_nonneg_left (show (1:Int)≤a ^ j from (Int.pow_pos (by exact Int.lt_of_add_one_le h):0 < a ^ j)) (Int.le_of_lt (Int.pow_pos (by exact Int.lt_of_add_one_le h):0 < a ^ k)); rw [Int.mul_one] at h3; exact h3
theorem j6 (n:Int):∀ c∈bM n,c < 1114112:=by
  intro c hc; obtain ⟨i,_,rfl⟩:=List.mem_map.mp hc
  have m:(((if n < 0 then -n else n).fdiv 100000).fmod 55296).toNat < 55296:=by
    have:=Int.fmod_lt_of_pos ((if n < 0 then -n else n).fdiv 100000) (b:=55296) (by decide); have:=Int.fmod_nonneg_of_pos ((if n < 0 then -n else n).fdiv 100000) (b:=55296) (by decide); exact Gi this ‹_›
  have all:∀ x∈sgn n,x < 55296:=by
    unfold sgn
    repeat' refine List.forall_mem_cons.2 ⟨?_,?_⟩
    all_goals first | exact m | decide | exact bu
  unfold lW; refine rl List.getD_eq_getElem?_getD ?_
  cases e:(sgn n)[((n.fdiv (10 ^ (1+i))).fmod 10).toNat]? with
  | none=>simp
  | some x=>have:=all x (List.mem_of_getElem? e); simp; exact Gh this
section
variable {C:Cx} {d:Nat} {H:List O} {Q:D→List O→Prop}
theorem tM (W:WF C) {n:Int} (hq:Q (.str (T (bM n))) []):aj C (d+2) [] (.ref 812) [.int n] Q:=by
  refine aj.fz ?_; refine aj.fn (ns:=["number"]) W.ok W.wF (by kernel_rfl) (by kernel_rfl) (by kernel_rfl) rfl ?_ (fun q cd L=>by kernel_rfl) fun q cd L=>?_
  · exact fun _ _ _ _ _ _ _ _=>gU fun _=>by kernel_rfl
  refine aa.cons ?_; refine EX.asg ?_ ?_
  · kernel_rfl
  refine EV.sG ?_ ?_
  · kernel_rfl
  refine az.c ?_; refine EV.str (by decide) ?_; refine az.c ?_; refine EV.str (by decide) ?_; refine az.c ?_; refine EV.str (by decide) ?_; refine az.c ?_; refine EV.str (by decide) ?_; refine az.c ?_; refine EV.str (by decide) ?_; refine az.c ?_; refine EV.str (by decide) ?_; refine az.c ?_; refine EV.str (by decide) ?_; refine az.c ?_; refine EV.str (by decide) ?_; refine az.c ?_; refine EV.str (by decide) ?_; refine az.n ⟨by decide,?_⟩; refine aa.cons ?_; refine EX.exp ?_ ?_
  · kernel_rfl
  refine EV.b5 ?_ ?_
  · kernel_rfl
  refine EV.nm (.obj 0) ?_ ?_ ?_
  · kernel_rfl
  · kernel_rfl
  refine ⟨_,bY.list rfl slot_list_append type_list_append,.builtin,?_⟩; refine az.c ?_; refine EV.bS W.ok W.Fp .builtin ?_ ?_
  · kernel_rfl
  refine az.c ?_; refine EV.bo ?_; refine EV.bo ?_; refine EV.bS W.ok W.Fq .builtin ?_ ?_
  · kernel_rfl
  refine az.c ?_; refine EV.nm (.int n) ?_ ?_ ?_
  · kernel_rfl
  · kernel_rfl
  refine az.n ?_; refine aj.abs ?_; refine EV.bo ?_; refine EV.int ?_; refine EV.int ?_; refine aO.bin ⟨by decide,?_⟩; refine aO.bin ⟨⟨by decide,by decide⟩,?_⟩; refine EV.int ?_; refine aO.bin ⟨by decide,?_⟩; refine az.n ?_; refine aj.chr ((fun a=>Int.fmod_nonneg_of_pos a (by decide):∀ a:Int,0≤a.fmod 55296) _) (Int.le_of_lt (Int.lt_trans ((fun a=>Int.fmod_lt_of_pos a (by decide):∀ a:Int,a.fmod 55296 < 55296) _) (by decide))) ?_; refine az.n ?_; refine aj.append rfl (by decide) ⟨rfl,?_⟩
  have k1:0≤(n.fmod 10).fdiv 2:=by
    have:=Int.fmod_nonneg_of_pos n (b:=10) (by decide); rw [Int.fdiv_eq_ediv_of_nonneg _ (by decide)]; exact Gg this
  have k2:(n.fmod 10).fdiv 2≤4:=by
    have:=Int.fmod_lt_of_pos n (b:=10) (by decide); rw [Int.fdiv_eq_ediv_of_nonneg _ (by decide)]; exact Bd this
  refine aa.cons ?_; refine EX.rt ?_; refine EV.b5 ?_ ?_
  · kernel_rfl
  refine EV.str (by decide) ?_; refine ⟨_,bY.str PySem.F.slot_str_join PySem.F.type_str_join,.builtin,?_⟩; refine az.c ?_; refine EV.cP ?_ ?_
  · kernel_rfl
  refine EV.bS W.ok W.dK .type ?_ ?_
  · kernel_rfl
  refine az.c ?_; refine EV.int ?_; refine az.c ?_; refine EV.bo ?_; refine EV.int ?_; refine EV.bo ?_; refine EV.bo ?_; refine EV.nm (.int n) ?_ ?_ ?_
  · kernel_rfl
  · kernel_rfl
  refine EV.int ?_; refine aO.bin ⟨by decide,?_⟩; refine EV.int ?_; refine aO.bin ⟨⟨by decide,by decide⟩,?_⟩; refine aO.yX ?_; refine az.n ?_; refine aj.z3 fun t u v=>⟨_,dm.xS ?_ ?_ ?_ ?_,fun Ca=>?_⟩
  · decide
  · decide
  · exact Gf k1 k2
  · exact Ge k1 k2
  rw [(by exact Gd k1 k2:(1+(n.fmod 10).fdiv 2 - 1).toNat=((n.fmod 10).fdiv 2).toNat)]; refine aG (fun i:Nat=>.int (1+(i:Nat))) (fun i=>.str (T [lW n i])) (by exact trivial) (List.range ((n.fmod 10).fdiv 2).toNat) [] ?_ (fun i hi P hP=>?_) ?_
  · simp; have:sizeLine=16777216:=rfl; exact Gb k1 k2 this
  · have hi:=List.mem_range.mp hi
    refine EV.sb (fun _ _=>rfl) ?_; refine EV.nm (.obj 0) ?_ ?_ ?_
    · kernel_rfl
    · kernel_rfl
    refine EV.bo ?_; refine EV.bo ?_; refine EV.nm (.int n) ?_ ?_ ?_
    · kernel_rfl
    · kernel_rfl
    refine EV.bo ?_; refine EV.int ?_; refine EV.nm (.int (1+(i:Nat))) ?_ ?_ ?_
    · kernel_rfl
    · kernel_rfl
    refine aO.bin ⟨⟨by exact Int.zero_le_ofNat (1+_),by exact EJ k1 hi k2,by decide⟩,?_⟩; have p0:(0:Int) < 10 ^ (1+(i:Int)).toNat:=Int.pow_pos (by decide); have e2:(1+(i:Int)).toNat=1+i:=by exact EI
    rw [e2] at p0 ⊢; refine aO.bin ⟨⟨p0,?_⟩,?_⟩
    · exact i9 (n:=5) (by decide) (by decide) (by exact EH e2 k1 hi k2)
    refine EV.int ?_; refine aO.bin ⟨by decide,?_⟩; refine ⟨_,.str (T [lW n i]),rfl,?_,hP⟩; unfold lW; have m1:0≤(n.fdiv (10 ^ (1+i))).fmod 10:=Int.fmod_nonneg_of_pos _ (by decide); have m2:(n.fdiv (10 ^ (1+i))).fmod 10 < 10:=Int.fmod_lt_of_pos _ (by decide); generalize (n.fdiv (10 ^ (1+i))).fmod 10=m at m1 m2 ⊢; exact bZ (fun c=>D.str (T [c])) (sgn n) (Int.toNat_of_nonneg m1).symm (by show m.toNat < 10; exact (Int.toNat_lt m1).mpr m2)
  rw [List.nil_append]; have hlen:(bM n).length≤4:=by unfold bM; rw [List.length_map,List.length_range]; exact Int.toNat_le.mpr k2
  have e3:(List.range ((n.fmod 10).fdiv 2).toNat).map (fun i=>D.str (T [lW n i]))=(((bM n).map fun c=>[c]).map T).map D.str:=by
    unfold bM; rw [List.map_map,List.map_map,List.map_map]; rfl
  have e4:([]:List Nat).intercalate ((bM n).map fun c=>[c])=bM n:=by
    generalize bM n=l
    induction l with
    | nil=>rfl
    | cons a l ih=>cases l with
      | nil=>rfl
      | cons b l=>simp only [List.map_cons] at ih ⊢; rw [show ([]:List Nat).intercalate ([a]::[b]::l.map fun c=>[c])=a::([]:List Nat).intercalate ([b]::l.map fun c=>[c]) by simp [List.intercalate,List.intersperse],ih]
  have e5:iw [] ((bM n).map fun c=>[c])=(bM n).length:=by
    unfold iw; rw [List.map_map,List.length_nil,Nat.mul_zero,Nat.add_zero]; generalize bM n=l
    induction l with
    | nil=>rfl
    | cons a l ih=>rw [List.map_cons,List.sum_cons,ih,List.length_cons]; simp; exact Nat.add_comm 1 _
  rw [e3]; show az _ _ _ _ _ _ _; refine az.n ?_; refine aj.join (y:=T []) (pB (by exact EG e5 hlen)) ?_ ?_
  · rw [iV,e4,aL]; exact EF (rfl:(16777216:Nat)=sizeLine) hlen e5
  rw [iV,e4]; exact ⟨_,.ok (kK (j6 n)),hq⟩
end
theorem dP (c:Nat):∀ l:List Nat,((aN c l).map (·.length)).sum+(aN c l).length=l.length+1
  | []=>rfl
  | a::r=>by
    have ih:=dP c r; rw [c8]; split
    · simp only [List.map_cons,List.sum_cons,List.length_cons,List.length_nil]; exact BU ih
    cases e:aN c r with
    | nil=>rw [e] at ih; contradiction
    | cons p ps=>rw [e] at ih; simp only [List.map_cons,List.sum_cons,List.length_cons] at ih ⊢; exact BS ih
theorem yi {l:List (List Nat)} {p:List Nat} (h:p∈l):p.length≤(l.map (·.length)).sum:=by
  induction l with
  | nil=>cases h
  | cons a l ih =>
    refine rl List.map_cons (rl List.sum_cons ?_); rcases List.mem_cons.mp h with rfl | h
    · exact BR
    have:=ih h; exact BQ this
section
variable {C:Cx} {d:Nat} {H:List O} {Q:D→List O→Prop} {env:Env} {ρ:Loc}
theorem EV.aY {x:Str} {k:Nat} {pos:Pos} (l:List Nat) (h:x=T l) (hl:l.length≤sizeLine) (hq:Q (.str (T l)) H):EV C d env ρ H (.Constant (.str x) k pos) Q:=by
  subst h; exact EV.str (by rw [aL]; exact hl) hq
theorem aO.uH {a b:List Nat} (h:a.length+b.length≤sizeLine) (hq:Q (.str (T (a++b))) H):aO C d H (.str (T a)) (.str (T b)) (binaryOp .Add) Q :=
  aO.bin ⟨by rw [aL,aL]; exact h,by rw [dX]; exact hq⟩
theorem aj.sJ {y:List Nat} {xs:List (List Nat)} (h:iw y xs≤16777216) (hq:Q (.str (T (y.intercalate xs))) H):aj C d H (.builtin "str.join") [.str (T y),.list (xs.map fun p=>.str (T p))] Q:=by
  have e:(xs.map fun p=>D.str (T p))=(xs.map T).map D.str:=by refine rl List.map_map ?_; rfl
  refine rl e ?_; refine aj.join (pB h) ?_ ?_
  · rw [iV,aL]; have:=bH y xs; exact BP (rfl:(16777216:Nat)=sizeLine) this h
  rw [iV]; exact hq
theorem aj.qC {x:List Nat} {c:Nat} (hx:x.length≤10000) (hq:Q (.list ((aN c x).map fun p=>.str (T p))) H):aj C d H (.builtin "str.split") [.str (T x),.str (T [c])] Q:=by
  have hz:(16777216:Nat)=sizeLine:=rfl; have hs:=dP c x; refine aj.split rfl ?_ ?_ ?_ ?_
  · intro z hz'
    rw [gA] at hz'; obtain ⟨p,hp,rfl⟩:=List.mem_map.mp hz'; rw [aL]; have:=yi hp; exact BO hz this hx hs
  · rw [gA,List.length_map]; exact BN hz hx hs
  · rw [StrLaws.partsBetween_eq]
    have h1:=StrLaws.occ_length_le (T x) (T [c]) 0 (T x).length ((T x).length+1)
    have h2:∀ (cuts:List Nat) (a:Nat),(StrLaws.partsFrom (T x) (T [c]).length a cuts).length=cuts.length+1:=by
      intro cuts
      induction cuts with
      | nil=>intro a; rfl
      | cons b r ih=>intro a; show _+1=_; rw [ih]; rfl
    rw [h2]; rw [aL] at h1 ⊢; exact BL hz h1 hx hs
  rw [gA,List.map_map]; exact hq
theorem aO.eqT {a b:List Nat} (hq:Q (.bool (a==b)) H):aO C (d+1) H (.str (T a)) (.str (T b)) (compareOp .Eq) Q:=aO.cmp (by show Q (.bool (T a==T b)) H; rw [qk]; exact hq)
theorem aO.neT {a b:List Nat} (hq:Q (.bool (a != b)) H):aO C (d+1) H (.str (T a)) (.str (T b)) (compareOp .NotEq) Q:=aO.cmp (by show Q (.bool (!(T a==T b))) H; rw [qk]; exact hq)
theorem aO.yr {b:List Nat} {c:Nat} (hq:Q (.bool (decide (c∈b))) H):aO C (d+1) H (.str (T [c])) (.str (T b)) (compareOp .In) Q:=aO.cmp (by show Q (.bool _) H; rw [AJ]; exact hq)
theorem aO.vE {b:List Nat} {c:Nat} (hq:Q (.bool (!decide (c∈b))) H):aO C (d+1) H (.str (T [c])) (.str (T b)) (compareOp .NotIn) Q:=aO.cmp (by show Q (.bool (!_)) H; rw [AJ]; exact hq)
end
noncomputable def oN (l:List Nat):List Nat:=[39]++[39,34,39,34,39].intercalate (aN 39 l)++[39]
noncomputable def markL (l:List Nat):List Nat:=if aJ l=true then l else oN l
noncomputable def aV (l:List Nat):List (List Nat):=if aJ l=true then aN 46 l else [[39]++l]
theorem oM {l:List Nat} (h:l.length≤1000):iw [39,34,39,34,39] (aN 39 l)≤6005:=by
  have:=dP 39 l; exact Er this h
section
variable {C:Cx} {d:Nat} {H:List O} {Q:D→List O→Prop}
theorem jE (W:WF C) {l:List Nat} (hl:l.length≤1000) (hq:Q (.str (T (markL l))) H):aj C (d+3) H (.ref 824) [.str (T l)] Q:=by
  have hz:(16777216:Nat)=sizeLine:=rfl; refine aj.fn (ns:=["text"]) W.ok W.kU (by kernel_rfl) (by kernel_rfl) (by kernel_rfl) rfl ?_ (fun q cd L=>by kernel_rfl) fun q cd L=>?_
  · exact fun _ _ _ _ _ _ _ _=>gU fun _=>by kernel_rfl
  refine aa.cons ?_; refine EX.rt ?_; refine EV.jI ?_; refine TV.plain ?_ (fun _=>rfl); refine EV.cL W.ok W.qZ W.nC.kp ?_ ?_
  · kernel_rfl
  refine az.c ?_; refine EV.nm (.str (T l)) ?_ ?_ ?_
  · kernel_rfl
  · kernel_rfl
  refine az.n ?_; refine jl W (by exact AO hz hl) (TR.plain rfl ?_); unfold markL at hq; split
  · rename_i hb
    rw [if_pos hb] at hq; refine EV.nm (.str (T l)) ?_ ?_ ?_
    · kernel_rfl
    · kernel_rfl
    exact hq
  rename_i hb; rw [if_neg hb] at hq; have ht:=oM hl; have hi:=bH [39,34,39,34,39] (aN 39 l); refine EV.bo ?_; refine EV.bo ?_; refine EV.aY ([39]) ?_ (by decide) ?_
  · kernel_rfl
  refine EV.b5 ?_ ?_
  · kernel_rfl
  refine EV.aY ([39,34,39,34,39]) ?_ (by decide) ?_
  · kernel_rfl
  refine ⟨_,bY.str PySem.F.slot_str_join PySem.F.type_str_join,.builtin,?_⟩; refine az.c ?_; refine EV.b5 ?_ ?_
  · kernel_rfl
  refine EV.nm (.str (T l)) ?_ ?_ ?_
  · kernel_rfl
  · kernel_rfl
  refine ⟨_,bY.str PySem.F.slot_str_split PySem.F.type_str_split,.builtin,?_⟩; refine az.c ?_; refine EV.aY ([39]) ?_ (by decide) ?_
  · kernel_rfl
  refine az.n ?_; refine aj.qC (by exact xZ hl) ?_; refine az.n ?_; refine aj.sJ (by exact Ep ht) ?_; refine aO.uH ?_ ?_
  · show 1+_≤_; exact Bu hz hi ht
  refine EV.aY ([39]) ?_ (by decide) ?_
  · kernel_rfl
  refine aO.uH ?_ ?_
  · simp only [List.length_append,List.length_singleton]; exact Bt hz hi ht
  exact hq
theorem jA (W:WF C) {l:List Nat} (hl:l.length≤1000) (hq:Q (.list ((aV l).map fun p=>.str (T p))) H):aj C (d+3) H (.ref 831) [.str (T l)] Q:=by
  have hz:(16777216:Nat)=sizeLine:=rfl; refine aj.fn (ns:=["text"]) W.ok W.kT (by kernel_rfl) (by kernel_rfl) (by kernel_rfl) rfl ?_ (fun q cd L=>by kernel_rfl) fun q cd L=>?_
  · exact fun _ _ _ _ _ _ _ _=>gU fun _=>by kernel_rfl
  refine aa.cons ?_; refine EX.rt ?_; refine EV.jI ?_; refine TV.plain ?_ (fun _=>rfl); refine EV.cL W.ok W.qZ W.nC.kp ?_ ?_
  · kernel_rfl
  refine az.c ?_; refine EV.nm (.str (T l)) ?_ ?_ ?_
  · kernel_rfl
  · kernel_rfl
  refine az.n ?_; refine jl W (by exact AO hz hl) (TR.plain rfl ?_); unfold aV at hq; split
  · rename_i hb
    rw [if_pos hb] at hq; refine EV.b5 ?_ ?_
    · kernel_rfl
    refine EV.nm (.str (T l)) ?_ ?_ ?_
    · kernel_rfl
    · kernel_rfl
    refine ⟨_,bY.str PySem.F.slot_str_split PySem.F.type_str_split,.builtin,?_⟩; refine az.c ?_; refine EV.aY ([46]) ?_ (by decide) ?_
    · kernel_rfl
    refine az.n ?_; exact aj.qC (by exact xZ hl) hq
  rename_i hb; rw [if_neg hb] at hq; refine EV.list ?_ ?_
  · kernel_rfl
  refine az.c ?_; refine EV.bo ?_; refine EV.aY ([39]) ?_ (by decide) ?_
  · kernel_rfl
  refine EV.nm (.str (T l)) ?_ ?_ ?_
  · kernel_rfl
  · kernel_rfl
  refine aO.uH ?_ ?_
  · show 1+_≤_; exact Eo hz hl
  refine az.n ⟨(by show 1≤sizeLine; decide),?_⟩; exact hq
end
theorem range_one (a n:Nat):sliceRange (a:Int) ((a+n:Nat):Int) 1=(List.range n).map fun k=>a+k:=by
  unfold sliceRange
  have e:(if (1:Int) > 0 then (if (a:Int) < ((a+n:Nat):Int) then (((a+n:Nat):Int) - a+1 - 1) / 1 else 0) else (if (a:Int) > ((a+n:Nat):Int) then ((a:Int) - ((a+n:Nat):Int) - 1 - 1) / (-1) else 0)).toNat=n:=by
    refine rl (if_pos (by decide)) ?_; split
    · rw [Int.ediv_one]; exact BK ‹_›
    exact BJ ‹_›
  simp only [e]; refine List.map_congr_left fun k _=>?_; exact BI
theorem qL (xs:List D) (a:Nat):jC xs (some (a:Int)) none none=xs.drop a:=by
  unfold jC sliceBounds; simp only [Option.getD_none,show ¬ ((a:Int) < 0) by exact Int.not_ofNat_neg _,if_false,show (1:Int) > 0 by decide,if_true]; rcases Nat.le_total a xs.length with h | h
  · have e1:max 0 (min (a:Int) (xs.length:Int))=(a:Nat):=by exact zm h
    have e2:(xs.length:Int)=((a+(xs.length - a):Nat):Int):=by exact BH e1 h
    rw [e1]
    conv=>lhs; arg 2; rw [e2]
    rw [range_one,StrLaws.picks _ _ _ (by exact BG e2 e1)]; exact List.take_of_length_le (by refine rl List.length_drop ?_; exact Nat.le_refl _)
  have e1:max 0 (min (a:Int) (xs.length:Int))=((xs.length:Nat):Int):=by exact zl h
  have:=range_one xs.length 0; refine rl e1 ?_; rw [Nat.add_zero] at this; refine rl this (rl (List.drop_eq_nil_of_le h) ?_); rfl
theorem kI (xs:List D) (b:Nat):jC xs none (some (b:Int)) none=xs.take b:=by
  unfold jC sliceBounds; simp only [Option.getD_none,show ¬ ((b:Int) < 0) by exact Int.not_ofNat_neg _,if_false,show (1:Int) > 0 by decide,if_true]; have e1:max 0 (min (b:Int) (xs.length:Int))=((0+min b xs.length:Nat):Int):=by exact BF
  refine rl e1 ?_; have:=range_one 0 (min b xs.length); rw [show ((0:Nat):Int)=0 from rfl] at this; refine rl this (rl (StrLaws.picks _ _ _ (by exact BE)) (rl List.drop_zero ?_)); rcases Nat.le_total b xs.length with h | h
  · exact rl (Nat.min_eq_left h) rfl
  exact rl (Nat.min_eq_right h) (rl (List.take_of_length_le (Nat.le_refl _)) (rl (List.take_of_length_le h) rfl))
noncomputable def aq (ts:List (List Nat)):List D:=ts.map fun p=>.str (T p)
theorem tD (L:List (List Nat)) (u:List Nat):((D.mW (aq L)).any fun y=>PyData.eqv y (D.str (T u)).pd)=L.contains u:=by
  induction L with
  | nil=>rfl
  | cons a L ih =>
    have ih:((D.mW (L.map fun p=>.str (T p))).any fun y=>PyData.eqv y (.str (T u)))=L.contains u:=by assumption
    simp only [aq,List.map_cons,D.mW,D.pd,List.any_cons,PyData.eqv,qk,ih,List.contains_cons]
    congr 1
    rw [Bool.eq_iff_iff]; simp only [beq_iff_eq]; exact ⟨Eq.symm,Eq.symm⟩
section
variable {C:Cx} {d:Nat} {H:List O} {Q:D→List O→Prop} {env:Env} {ρ:Loc}
theorem aO.yc {L:List (List Nat)} {u:List Nat} (hL:∀ p∈L,∀ c∈p,c < 1114112) (hu:∀ c∈u,c < 1114112) (hq:Q (.bool (!L.contains u)) H):aO C (d+1) H (.str (T u)) (.list (aq L)) (compareOp .NotIn) Q:=by
  refine aO.cmp ⟨⟨kK hu,fun y hy=>?_⟩,?_⟩
  · obtain ⟨p,hp,rfl⟩:=List.mem_map.mp hy
    exact kK (hL p hp)
  rw [tD]; exact hq
theorem dN {α:Type} {x:Str} {body:Loc→List D→List O→(List D→List O→Prop)→Prop} {src:D} {all:List D} {QQ:List D→List O→Prop} (g:α→D) (f:α→List D) (hi:lE src all H) :
    ∀ (xs:List α) (acc:List D),(∀ a∈xs,∀ (acc:List D) (P:List D→List O→Prop),acc.length+(f a).length≤sizeLine→P (acc++f a) H→body (aQ x (g a) ρ) acc H P)→acc.length+(xs.flatMap f).length≤sizeLine→QQ (acc++xs.flatMap f) H→turns C d env x [] body ρ src all (xs.map g) acc H QQ
  | [],acc,_,_,hq=>⟨hi,by simpa using hq⟩
  | y::r,acc,he,hl,hq=>by
    refine ⟨hi,?_⟩; rw [jT,if_pos rfl]; rw [List.flatMap_cons,List.length_append] at hl; refine he y (.head _) acc _ (by exact BD hl) (dN g f hi r (acc++f y) (fun z hz=>he z (.tail _ hz)) (by refine rl List.length_append ?_; exact BC hl) (by rw [List.flatMap_cons] at hq; rw [List.append_assoc]; exact hq))
theorem bV {x:Str} {e:D}:(aQ x e ρ).lookup x=some e:=by rw [bB,if_pos rfl]
theorem jf {x y:Str} {e:D} (h:(y==x)=false):(aQ x e ρ).lookup y=ρ.lookup y:=by
  rw [bB,if_neg (by exact not_eq_of_beq_eq_false h)]
theorem l2 {x y:Str} {e:D} {v:Option D} (h:(y==x)=false) (k:ρ.lookup y=v):(aQ x e ρ).lookup y=v:=(jf h).trans k
theorem FT.sQ {α σ:Type} {x:D} {all:List D} {t:Expr} {b:List Stmt} {R:Fl→Loc→List O→Prop} (g:α→D) (I:σ→Loc→List O→Prop) (step:σ→α→σ) (hI:∀ st ρ H,I st ρ H→lE x all H) (st:σ) :
    ∀ (xs pre:List α) (ρ:Loc) (H:List O),(∀ pr a po,pre++xs=pr++a::po→∀ ρ H,I (pr.foldl step st) ρ H→AS C d env t (g a) ρ H fun ρ'=>aa C d env ρ' H b fun fl ρ'' H''=>(fl = .next ∨ fl = .cont)∧I (step (pr.foldl step st) a) ρ'' H'') →
      (∀ ρ H,I ((pre++xs).foldl step st) ρ H→R .next ρ H)→I (pre.foldl step st) ρ H→FT C d env x all t b R (xs.map g) ρ H
  | [],pre,ρ,H,_,fin,h=>⟨hI _ _ _ h,fin _ _ (by simpa using h)⟩
  | a::xs,pre,ρ,H,turn,fin,h=>by
    refine ⟨hI _ _ _ h,fun A s ι X v S hv=>wpAny_mono (turn pre a xs rfl ρ H h A s ι X v S hv) (fun _ s' p=>?_) zz⟩; obtain ⟨ρ',hb,r⟩:=p; refine ⟨ρ',hb.mono fun fl ρ'' H'' q=>?_,r⟩; have e:pre++a::xs=(pre++[a])++xs:=by simp
    have nx:=FT.sQ g I step hI st xs (pre++[a]) ρ'' H'' (fun pr a' po e'=>turn pr a' po (e.trans e')) (fun ρ H h=>fin ρ H (e ▸ h)) (by refine rl List.foldl_append ?_; exact q.2); rcases q.1 with rfl | rfl <;> exact nx
end
noncomputable def bQ:List Nat:=[97,108,111,110,101]
noncomputable def iL:List Nat:=[114,117,110]
noncomputable def fU:List Nat:=[119,111,114,100]
noncomputable def cJ:List Nat:=[110,111,110,101]
noncomputable def m5:List (List Nat):=[[64],[37],[43],[58],[44]]
noncomputable def aU (b:Bool) (u:List Nat):List Nat:=if (b && !m5.contains u)=true then (if (u==[46])=true then iL else fU) else bQ
noncomputable def aP (b:Bool) (st:List (List Nat) × List Nat) (u:List Nat):List (List Nat) × List Nat :=
  if (aU b u==st.2 && aU b u != bQ)=true then (match st.1.reverse with | t::r=>r.reverse++[t++u] | []=>[u],aU b u) else (st.1++[u],aU b u)
noncomputable def cR (w:List Nat):List (List Nat):=if aJ w=true then w.map fun c=>[c] else [w]
noncomputable def bC (st:List (List Nat) × List Nat) (w:List Nat):List (List Nat) × List Nat:=(cR w).foldl (aP (aJ w)) st
noncomputable def eB (ws:List (List Nat)):List (List Nat):=(ws.flatMap fun w=>[[46],w]).drop 1
noncomputable def gM (ws:List (List Nat)):List (List Nat):=((eB ws).foldl bC ([],cJ)).1
noncomputable def tot (st:List (List Nat) × List Nat):Nat:=(st.1.map (·.length)).sum+st.1.length
theorem uR (b:Bool) (st:List (List Nat) × List Nat) (u:List Nat):tot (aP b st u)≤tot st+u.length+1:=by
  unfold aP tot; split
  · cases e:st.1.reverse with
    | nil=>simp
    | cons t r =>
      have:st.1=r.reverse++[t]:=by have:=congrArg List.reverse e; simpa using this
      refine rl this ?_; simp; exact En
  simp; exact Em
theorem iu (b:Bool):∀ (us:List (List Nat)) (st:List (List Nat) × List Nat),tot (us.foldl (aP b) st)≤tot st+(us.map fun u=>u.length+1).sum
  | [],st=>by simp
  | u::us,st=>by
    have:=iu b us (aP b st u); have:=uR b st u; simp only [List.foldl_cons,List.map_cons,List.sum_cons]; exact El ‹_› this
theorem iY (w:List Nat):((cR w).map fun u=>u.length+1).sum≤2*w.length+1:=by
  unfold cR; split
  · have:∀ l:List Nat,((l.map fun c=>[c]).map fun u=>u.length+1).sum=2*l.length:=by
      intro l
      induction l with
      | nil=>rfl
      | cons a l ih=>simp only [List.map_cons,List.sum_cons,List.length_cons,List.length_nil] at ih ⊢; exact Ek ih
    rw [this]; exact Ej
  simp; exact Ei
theorem iZ:∀ (ws:List (List Nat)) (st:List (List Nat) × List Nat),(∀ w∈ws,w.length≤100)→tot (ws.foldl bC st)≤tot st+201*ws.length
  | [],st,_=>by simp
  | w::ws,st,h=>by
    simp only [List.foldl_cons,List.length_cons]; exact Eh (iZ ws (bC st w) fun x hx=>h x (.tail _ hx)) (iu (aJ w) (cR w) st) (iY w) (h w (.head _))
theorem jo {w:List Nat} (h:∀ c∈w,c < 1114112):∀ u∈cR w,∀ c∈u,c < 1114112:=by
  intro u hu c hc; unfold cR at hu; split at hu
  · obtain ⟨a,ha,rfl⟩:=List.mem_map.mp hu
    refine rl (List.mem_singleton.mp hc) ?_; exact h a ha
  rw [List.mem_singleton.mp hu] at hc; exact h c hc
theorem lU {b:Bool}:∀ (us:List (List Nat)) (st:List (List Nat) × List Nat),(∀ u∈us,∀ c∈u,c < 1114112)→(∀ t∈st.1,∀ c∈t,c < 1114112)→∀ t∈(us.foldl (aP b) st).1,∀ c∈t,c < 1114112
  | [],st,_,h=>h
  | u::us,st,hu,h=>by
    refine rl List.foldl_cons ?_; refine lU us _ (fun v hv=>hu v (.tail _ hv)) fun t ht c hc=>?_; have h0:=hu u (.head _); unfold aP at ht; split at ht
    · cases e:st.1.reverse with
      | nil=>rw [e] at ht; rw [List.mem_singleton.mp ht] at hc; exact h0 c hc
      | cons t' r =>
        rw [e] at ht
        have hm:∀ x,x=t' ∨ x∈r→x∈st.1:=fun x hx=>by
          have:x∈st.1.reverse:=by refine rl e ?_; simpa using hx
          simpa using this
        rcases List.mem_append.mp ht with q | q
        · exact h t (hm t (.inr (by simpa using q))) c hc
        rw [List.mem_singleton.mp q] at hc; rcases List.mem_append.mp hc with q | q
        · exact h t' (hm t' (.inl rfl)) c q
        exact h0 c q
    rcases List.mem_append.mp ht with q | q
    · exact h t q c hc
    rw [List.mem_singleton.mp q] at hc; exact h0 c hc
theorem jm:∀ (ws:List (List Nat)) (st:List (List Nat) × List Nat),(∀ w∈ws,∀ c∈w,c < 1114112)→(∀ t∈st.1,∀ c∈t,c < 1114112)→∀ t∈(ws.foldl bC st).1,∀ c∈t,c < 1114112
  | [],st,_,h=>h
  | w::ws,st,hw,h=>by
    refine rl List.foldl_cons ?_; exact jm ws _ (fun v hv=>hw v (.tail _ hv)) (lU _ _ (jo (hw w (.head _))) h)
theorem iy {ws:List (List Nat)} (h:∀ w∈eB ws,w.length≤100∧∀ c∈w,c < 1114112):∀ t∈gM ws,∀ c∈t,c < 1114112 :=
  jm _ _ (fun w hw=>(h w hw).2) (by simp)
noncomputable def rW (st:Stmt):List Stmt:=(j3 ((j3 ((fnBody st).getD 2 st)).getD 1 st)).drop 2
section
variable {C:Cx} {d:Nat} {H:List O} {Q:D→List O→Prop}
noncomputable def xE (st:List (List Nat) × List Nat) (ρ:Loc) (H:List O):Prop :=
  H=[.list (aq st.1)]∧ρ.lookup ("tokens" : Str)=some (.obj 0)∧ρ.lookup ("last" : Str)=some (.str (T st.2))∧(st.2=cJ ∨ st.1≠[])
theorem oA (W:WF C) {ws:List (List Nat)} (hl:∀ w∈ws,w.length≤100) (hn:ws.length≤10) (hc:∀ w∈ws,∀ c∈w,c < 1114112) (hq:Q (.list (aq (gM ws))) []):aj C (d+3) [] (.ref 836) [.list (aq ws)] Q:=by
  have hz:(16777216:Nat)=sizeLine:=rfl; refine aj.fz ?_; refine aj.fn (ns:=["words"]) W.ok W.pL (by kernel_rfl) (by kernel_rfl) (by kernel_rfl) rfl ?_ (fun q cd L=>by kernel_rfl) fun q cd L=>?_
  · exact fun _ _ _ _ _ _ _ _=>gU fun _=>by kernel_rfl
  refine aa.cons ?_; refine EX.asg ?_ ?_
  · kernel_rfl
  refine EV.sG ?_ ?_
  · kernel_rfl
  refine az.n ⟨by decide,?_⟩; refine aa.cons ?_; refine EX.asg ?_ ?_
  · kernel_rfl
  refine EV.aY (cJ) ?_ (by decide) ?_
  · kernel_rfl
  refine aa.cons ?_; refine EX.for (fun _=>rfl) ?_; refine EV.slice ?_; refine EV.cP ?_ ?_
  · kernel_rfl
  refine EV.nm (.list (aq ws)) ?_ ?_ ?_
  · kernel_rfl
  · kernel_rfl
  refine ⟨_,.list,fun Ca=>?_⟩; refine dN (fun w:List Nat=>.str (T w)) (fun w=>[.str (T [46]),.str (T w)]) (by exact trivial) ws [] (fun w hw acc P hp hP=>?_) ?_ ?_
  · show EV _ _ _ _ _ _ _
    refine EV.list ?_ ?_
    · kernel_rfl
    refine az.c ?_; refine EV.aY ([46]) ?_ (by decide) ?_
    · kernel_rfl
    refine az.c ?_; refine EV.nm (.str (T w)) ?_ ?_ ?_
    · exact bV
    · kernel_rfl
    refine az.n ⟨(by show 2≤sizeLine; decide),_,.list,?_⟩; refine aG (fun x:D=>x) (fun x=>x) (by exact trivial) [.str (T [46]),.str (T w)] acc (by simpa using hp) (fun y hy P' hP'=>?_) (by simpa using hP); refine EV.nm (y) ?_ ?_ ?_
    · exact bV
    · kernel_rfl
    exact hP'
  · have:∀ l:List (List Nat),(l.flatMap fun w=>[D.str (T [46]),D.str (T w)]).length=2*l.length:=by
      intro l
      induction l with
      | nil=>rfl
      | cons a l ih=>refine rl List.flatMap_cons (rl List.length_append (rl ih ?_)); simp; exact z9
    rw [this]; simp; exact Eg hz hn
  show EV _ _ _ _ _ _ _; refine EV.int ?_; refine ⟨_,some 1,none,none,rfl,.int 1,.none,.none,by simp,?_⟩
  have e1:jC ([]++ws.flatMap fun w=>[D.str (T [46]),D.str (T w)]) (some 1) none none=(eB ws).map fun w=>.str (T w):=by
    rw [show (1:Int)=((1:Nat):Int) from rfl,qL]; unfold eB; rw [List.nil_append,List.map_drop,List.map_flatMap]; rfl
  have hseq:∀ w∈eB ws,w.length≤100∧∀ c∈w,c < 1114112:=by
    intro w hw; obtain ⟨v,hv,hwv⟩:=List.mem_flatMap.mp (List.mem_of_mem_drop hw); simp only [List.mem_cons,List.not_mem_nil,or_false] at hwv; rcases hwv with rfl | rfl
    · exact ⟨by simp,by simp⟩
    exact ⟨hl _ hv,hc _ hv⟩
  have hsl:(eB ws).length≤20:=by
    unfold eB
    have:∀ l:List (List Nat),(l.flatMap fun w=>[[46],w]).length=2*l.length:=by
      intro l
      induction l with
      | nil=>rfl
      | cons a l ih=>refine rl List.flatMap_cons (rl List.length_append (rl ih ?_)); simp; exact z9
    rw [List.length_drop,this]; exact Ef hn
  refine rl e1 ?_; refine ⟨_,.list,?_⟩; refine FT.sQ (fun w:List Nat=>.str (T w)) xE bC (fun _ _ _ _=>by exact trivial) ([],cJ) (eB ws) [] _ _ (fun pr w po e ρ H hI=>?_) (fun ρ H hI=>?_) ?_
  · obtain ⟨rfl,h1,h2,h3⟩:=hI
    have hw:=hseq w (by refine rl (show eB ws=_ from e) ?_; simp); have hpr:pr.length≤20:=by have:=congrArg List.length e; simp at this; exact Ed hsl this
    have htot:=iZ pr ([],cJ) (fun x hx=>(hseq x (by rw [show eB ws=_ from e]; simp [hx])).1); generalize hst:pr.foldl bC ([],cJ)=st at *; refine AS.name ?_ ?_
    · kernel_rfl
    refine aa.cons ?_; refine EX.asg ?_ ?_
    · kernel_rfl
    refine EV.cL W.ok W.qZ W.nC.kp ?_ ?_
    · kernel_rfl
    refine az.c ?_; refine EV.nm (.str (T w)) ?_ ?_ ?_
    · exact bV
    · kernel_rfl
    refine az.n ?_; refine jl W (by omega) ?_; refine aa.cons ?_; refine EX.for (fun _=>rfl) ?_; refine EV.mono (Q:=fun x H'=>x = .list (aq (cR w))∧H'=[.list (aq st.1)]) ?_ ?_
    · refine EV.jI ?_
      refine TV.plain ?_ (fun _=>rfl); refine EV.nm (.bool (aJ w)) ?_ ?_ ?_
      · exact bV
      · kernel_rfl
      refine TR.plain rfl ?_; unfold cR aq; split
      · refine EV.bS W.ok W.g7 .type ?_ ?_
        · kernel_rfl
        refine az.c ?_; refine EV.nm (.str (T w)) ?_ ?_ ?_
        · exact l2 (by kernel_rfl) bV
        · kernel_rfl
        refine az.n ?_; refine aj.list_str ?_; rw [tu,List.map_map]; exact ⟨rfl,rfl⟩
      refine EV.list ?_ ?_
      · kernel_rfl
      refine az.c ?_; refine EV.nm (.str (T w)) ?_ ?_ ?_
      · exact l2 (by kernel_rfl) bV
      · kernel_rfl
      exact az.n ⟨(by show 1≤sizeLine; decide),rfl,rfl⟩
    rintro _ _ ⟨rfl,rfl⟩; refine ⟨_,.list,?_⟩; refine FT.sQ (fun u:List Nat=>.str (T u)) (fun s ρ H=>xE s ρ H∧ρ.lookup ("bare" : Str)=some (.bool (aJ w))) (aP (aJ w)) (fun _ _ _ _=>by exact trivial) st (cR w) [] _ _ (fun pr' u po' e' ρ H hI=>?_) (fun ρ H hI=>?_) ?_
    · obtain ⟨⟨rfl,h1,h2,h3⟩,h4⟩:=hI
      have hut:tot (pr'.foldl (aP (aJ w)) st)+u.length+1≤6000:=by
        have a1:=iu (aJ w) pr' st; have a2:=iY w; rw [show cR w=_ from e',List.map_append,List.sum_append,List.map_cons,List.sum_cons] at a2; have a3:tot (([],cJ):List (List Nat) × List Nat)=0:=rfl; omega
      generalize hst':pr'.foldl (aP (aJ w)) st=st' at *; have hulen:st'.1.length≤6000:=by unfold tot at hut; exact Ec hut
      refine AS.name ?_ ?_
      · kernel_rfl
      have hu:∀ c∈u,c < 1114112:=fun c hcu=>jo hw.2 u (by refine rl (show cR w=_ from e') ?_; simp) c hcu
      have hkc:∀ b u,aU b u=bQ ∨ aU b u=iL ∨ aU b u=fU:=fun b u=>by
        unfold aU; split
        · split
          · exact .inr (.inl rfl)
          exact .inr (.inr rfl)
        exact .inl rfl
      have rest:∀ ρ₁:Loc,ρ₁.lookup ("tokens" : Str)=some (.obj 0)→ρ₁.lookup ("last" : Str)=some (.str (T st'.2))→ρ₁.lookup ("bare" : Str)=some (.bool (aJ w))→ρ₁.lookup ("sign" : Str)=some (.str (T u))→ρ₁.lookup ("kind" : Str)=some (.str (T (aU (aJ w) u))) →
          aa C (d+1+1) (b8 (ak 37) q cd L 836) ρ₁ [.list (aq st'.1)] (rW (ak 37)) fun fl ρ'' H''=>(fl = .next ∨ fl = .cont)∧xE (aP (aJ w) st' u) ρ'' H''∧ρ''.lookup ("bare" : Str)=some (.bool (aJ w)):=by
        intro ρ₁ g1 g2 g3 g4 g5
        have fin:∀ ρ₂:Loc,ρ₂.lookup ("tokens" : Str)=some (.obj 0)→ρ₂.lookup ("bare" : Str)=some (.bool (aJ w))→ρ₂.lookup ("kind" : Str)=some (.str (T (aU (aJ w) u))) →
            aa C (d+1+1) (b8 (ak 37) q cd L 836) ρ₂ [.list (aq (aP (aJ w) st' u).1)] ((rW (ak 37)).drop 1) fun fl ρ'' H''=>(fl = .next ∨ fl = .cont)∧xE (aP (aJ w) st' u) ρ'' H''∧ρ''.lookup ("bare" : Str)=some (.bool (aJ w)):=by
          intro ρ₂ f1 f2 f3; have e2:(aP (aJ w) st' u).2=aU (aJ w) u:=by unfold aP; split <;> rfl
          refine aa.cons ?_; refine EX.asg ?_ ?_
          · kernel_rfl
          refine EV.nm (.str (T (aU (aJ w) u))) ?_ ?_ ?_
          · assumption
          · kernel_rfl
          refine aa.nil ⟨.inl rfl,⟨rfl,?_,?_,?_⟩,?_⟩
          · repeat (first | exact bV | assumption | refine (jf (by decide +kernel)).trans ?_)
          · refine rl e2 ?_; exact bV
          · right
            unfold aP; split
            · cases st'.1.reverse <;> simp
            simp
          repeat (first | exact bV | assumption | refine (jf (by decide +kernel)).trans ?_)
        refine aa.cons ?_; refine EX.if ?_; refine TV.and ?_; refine TV.cm ?_ ?_; rotate_left
        · kernel_rfl
        refine EV.nm (.str (T (aU (aJ w) u))) ?_ ?_ ?_
        · assumption
        · kernel_rfl
        refine EV.nm (.str (T st'.2)) ?_ ?_ ?_
        · assumption
        · kernel_rfl
        refine aO.eqT (TR.plain rfl ?_)
        cases hk:(aU (aJ w) u==st'.2) with
        | false =>
          refine aa.cons ?_; refine EX.exp ?_ ?_
          · kernel_rfl
          refine EV.b5 ?_ ?_
          · kernel_rfl
          refine EV.nm (.obj 0) ?_ ?_ ?_
          · assumption
          · kernel_rfl
          refine ⟨_,bY.list rfl slot_list_append type_list_append,.builtin,?_⟩; refine az.c ?_; refine EV.nm (.str (T u)) ?_ ?_ ?_
          · assumption
          · kernel_rfl
          refine az.n ?_; refine aj.append rfl (by unfold aq; rw [List.length_map]; exact Bs hz hulen) ⟨rfl,aa.nil ?_⟩; have e3:(aP (aJ w) st' u).1=st'.1++[u]:=by unfold aP; refine rl hk ?_; rfl
          have:=fin ρ₁ g1 g3 g5; rw [e3,show aq (st'.1++[u])=aq st'.1++[.str (T u)] by simp [aq]] at this; exact this
        | true =>
          try delta ow
          refine rl (if_pos rfl) ?_; refine TV.and ?_; refine TV.cm ?_ ?_; rotate_left
          · kernel_rfl
          refine EV.nm (.str (T (aU (aJ w) u))) ?_ ?_ ?_
          · assumption
          · kernel_rfl
          refine EV.aY (bQ) ?_ (by decide) ?_
          · kernel_rfl
          refine aO.neT (TR.plain rfl ?_)
          cases hk2:(aU (aJ w) u != bQ) with
          | false =>
            refine aa.cons ?_; refine EX.exp ?_ ?_
            · kernel_rfl
            refine EV.b5 ?_ ?_
            · kernel_rfl
            refine EV.nm (.obj 0) ?_ ?_ ?_
            · assumption
            · kernel_rfl
            refine ⟨_,bY.list rfl slot_list_append type_list_append,.builtin,?_⟩; refine az.c ?_; refine EV.nm (.str (T u)) ?_ ?_ ?_
            · assumption
            · kernel_rfl
            refine az.n ?_; refine aj.append rfl (by unfold aq; rw [List.length_map]; exact Bs hz hulen) ⟨rfl,aa.nil ?_⟩; have e3:(aP (aJ w) st' u).1=st'.1++[u]:=by unfold aP; refine rl hk (rl hk2 ?_); rfl
            have:=fin ρ₁ g1 g3 g5; rw [e3,show aq (st'.1++[u])=aq st'.1++[.str (T u)] by simp [aq]] at this; exact this
          | true =>
            try delta ow
            refine rl (if_pos rfl) ?_; refine TV.qc ?_
            try delta ow
            refine rl (if_pos rfl) ?_; have hk':aU (aJ w) u=st'.2:=by simpa using hk
            have hne:st'.1≠[]:=by
              rcases h3 with h3 | h3
              · rw [h3] at hk'
                rcases hkc (aJ w) u with q | q | q <;> (rw [q] at hk'; exact absurd hk' (by decide))
              exact h3
            obtain ⟨xs,t,hxt⟩:∃ xs t,st'.1=xs++[t]:=⟨_,_,(List.dropLast_concat_getLast hne).symm⟩
            have e3:(aP (aJ w) st' u).1=xs++[t++u]:=by
              unfold aP
              try delta ow
              refine rl hk (rl hk2 (rl (if_pos (by rfl)) ?_)); refine rl hxt ?_; simp
            have htl:t.length+u.length≤6000:=by
              unfold tot at hut; rw [hxt] at hut; simp at hut; exact Eb hut
            refine aa.cons ?_; refine EX.yW (k:=0) (xs:=aq xs) (a:=T t) (b:=T u) (fun _ _ _=>rfl) ?_; have e4:aq st'.1=aq xs++[.str (T t)]:=by refine rl hxt ?_; simp [aq]
            refine rl e4 ?_; refine EV.nm (.obj 0) ?_ ?_ ?_
            · assumption
            · kernel_rfl
            refine ⟨rfl,?_⟩; refine EV.unary ?_; refine EV.int ?_; refine Fy.neg ⟨rfl,rfl,?_⟩; refine EV.nm (.str (T u)) ?_ ?_ ?_
            · assumption
            · kernel_rfl
            refine ⟨rfl,rfl,by rw [aL,aL]; exact Ea htl hz,aa.nil ?_⟩; have:=fin ρ₁ g1 g3 g5; rw [e3,show aq (xs++[t++u])=aq xs++[.str (T t++T u)] by simp [aq,dX]] at this; exact this
      refine aa.cons ?_; refine EX.asg ?_ ?_
      · kernel_rfl
      refine EV.aY (bQ) ?_ (by decide) ?_
      · kernel_rfl
      refine aa.cons ?_; refine EX.if ?_; refine TV.and (TV.plain ?_ (fun _=>rfl)); refine EV.nm (.bool (aJ w)) ?_ ?_ ?_
      · exact l2 (by kernel_rfl) (l2 (by kernel_rfl) (by assumption))
      · kernel_rfl
      refine TR.plain rfl ?_
      by_cases hb:aJ w=true
      rotate_left
      · have hb:aJ w=false:=by simpa using hb
        try delta ow
        refine rl (if_neg (by rw [hb]; simp)) ?_; refine aa.nil ?_; refine rest _ ?_ ?_ ?_ ?_ ?_
        iterate 4 (repeat (first | exact bV | assumption | refine (jf (by decide +kernel)).trans ?_))
        refine rl (show aU (aJ w) u=bQ by unfold aU; rw [hb]; rfl) ?_; exact bV
      try delta ow
      refine rl (if_pos hb) ?_; refine TV.and ?_; refine TV.cm ?_ ?_; rotate_left
      · kernel_rfl
      refine EV.nm (.str (T u)) ?_ ?_ ?_
      · exact l2 (by kernel_rfl) bV
      · kernel_rfl
      refine EV.list ?_ ?_
      · kernel_rfl
      refine az.c ?_; refine EV.aY ([64]) ?_ (by decide) ?_
      · kernel_rfl
      refine az.c ?_; refine EV.aY ([37]) ?_ (by decide) ?_
      · kernel_rfl
      refine az.c ?_; refine EV.aY ([43]) ?_ (by decide) ?_
      · kernel_rfl
      refine az.c ?_; refine EV.aY ([58]) ?_ (by decide) ?_
      · kernel_rfl
      refine az.c ?_; refine EV.aY ([44]) ?_ (by decide) ?_
      · kernel_rfl
      refine az.n ⟨(by show 5≤sizeLine; decide),?_⟩; refine aO.yc (L:=m5) (by decide) hu (TR.plain rfl ?_)
      cases hod:m5.contains u with
      | true =>
        refine aa.nil ?_; refine rest _ ?_ ?_ ?_ ?_ ?_
        iterate 4 (repeat (first | exact bV | assumption | refine (jf (by decide +kernel)).trans ?_))
        refine rl (show aU (aJ w) u=bQ by unfold aU; rw [hb,hod]; rfl) ?_; exact bV
      | false =>
        try delta ow
        refine rl (if_pos (by rfl)) ?_; refine TV.qc ?_
        try delta ow
        refine rl (if_pos rfl) ?_; refine aa.cons ?_; refine EX.asg ?_ ?_
        · kernel_rfl
        refine EV.jI ?_; refine TV.cm ?_ ?_; rotate_left
        · kernel_rfl
        refine EV.nm (.str (T u)) ?_ ?_ ?_
        · exact l2 (by kernel_rfl) bV
        · kernel_rfl
        refine EV.aY ([46]) ?_ (by decide) ?_
        · kernel_rfl
        refine aO.eqT (TR.plain rfl ?_)
        cases hdot:(u==[46]) with
        | true =>
          try delta ow
          refine rl (if_pos rfl) ?_; refine EV.aY (iL) ?_ (by decide) ?_
          · kernel_rfl
          refine aa.nil ?_; refine rest _ ?_ ?_ ?_ ?_ ?_
          iterate 4 (repeat (first | exact bV | assumption | refine (jf (by decide +kernel)).trans ?_))
          refine rl (show aU (aJ w) u=iL by unfold aU; rw [hb,hod,hdot]; rfl) ?_; exact bV
        | false =>
          try delta ow
          refine rl (if_neg (by simp)) ?_; refine EV.aY (fU) ?_ (by decide) ?_
          · kernel_rfl
          refine aa.nil ?_; refine rest _ ?_ ?_ ?_ ?_ ?_
          iterate 4 (repeat (first | exact bV | assumption | refine (jf (by decide +kernel)).trans ?_))
          refine rl (show aU (aJ w) u=fU by unfold aU; rw [hb,hod,hdot]; rfl) ?_; exact bV
    · exact aa.nil ⟨.inl rfl,hI.1⟩
    refine ⟨⟨rfl,?_,?_,h3⟩,?_⟩
    all_goals repeat (first | exact bV | assumption | refine (jf (by decide +kernel)).trans ?_)
  · obtain ⟨rfl,h1,h2,h3⟩:=hI
    refine aa.cons ?_; refine EX.rt ?_; refine EV.nm (.obj 0) ?_ ?_ ?_
    · assumption
    · kernel_rfl
    refine ⟨_,.obj (by rfl) (fun y hy=>?_),hq⟩; obtain ⟨t,ht,rfl⟩:=List.mem_map.mp hy; exact kK (iy hseq t ht)
  refine ⟨rfl,?_,?_,.inl rfl⟩
  all_goals repeat (first | exact bV | assumption | refine (jf (by decide +kernel)).trans ?_)
end
theorem pN (A:List (List Nat)):∀ B:List (List Nat),PyData.eqv (D.list (aq A)).pd (D.list (aq B)).pd=(A==B):=by
  induction A with
  | nil=>intro B; cases B <;> rfl
  | cons a A ih=>intro B; cases B with
    | nil=>rfl
    | cons b B =>
      show (T a==T b && PyData.eqv (D.list (aq A)).pd (D.list (aq B)).pd)=_; rw [qk,ih]; rfl
theorem cW {n:Nat} {A:List (List Nat)} (h:∀ p∈A,∀ c∈p,c < 1114112):D.ok (n+1) (.list (aq A))=true:=by
  refine fu ?_; intro x hx; obtain ⟨p,hp,rfl⟩:=List.mem_map.mp hx; exact kK (h p hp)
section
variable {C:Cx} {d:Nat} {H:List O} {Q:D→List O→Prop} {env:Env} {ρ:Loc}
theorem jX {scope:Scope} {x:Str} {e:D} (h:(scope.names.lookup x==some .free)=true) (h':ρ.lookup x=some e):(rB scope ρ).lookup x=some e:=by
  refine rl eu (rl (if_pos h) ?_); exact h'
theorem EX.rJ {y:Str} {py spos pos p:Pos} {elt iter:Expr} {x:Str} {ifs:List Expr} {gs:List Comprehension} {scope:Scope} {R:Fl→Loc→List O→Prop} (ok:(env.kindOf y==some .local && mZ scope env (⟨.Name x p,iter,ifs,0⟩::gs))=true)
    (hsw:swapsWith (.ListComp elt (⟨.Name x p,iter,ifs,0⟩::gs) scope pos) (some (.Name y py)) spos.line env=pure true)
    (h:EV C d env ρ H iter (pY C d env ρ x elt ifs gs scope (fun acc H''=>R .next (aQ y (.list acc) ρ) H''))) :
    EX C d env ρ H (.Assign [.Name y py] (.ListComp elt (⟨.Name x p,iter,ifs,0⟩::gs) scope pos) spos) R:=by
  have h0:=Bool.and_eq_true_iff.mp ok; have ok2:=h0.2; unfold mZ at ok2; have h1:=Bool.and_eq_true_iff.mp ok2; have h2:=Bool.and_eq_true_iff.mp h1.1; exact EX.rH (by simpa using h0.1) hsw h2.1 h2.2 h1.2 h
theorem aO.Hf {A B:List (List Nat)} (hA:∀ p∈A,∀ c∈p,c < 1114112) (hB:∀ p∈B,∀ c∈p,c < 1114112) (hq:Q (.bool (A==B)) H):aO C (d+1) H (.list (aq A)) (.list (aq B)) (compareOp .Eq) Q :=
  aO.cmp ⟨⟨cW hA,cW hB⟩,by rw [pN]; exact hq⟩
theorem fh {α:Type} {x:Str} {elt c:Expr} {src:D} {all:List D} {QQ:List D→List O→Prop} (g f:α→D) (p:α→Bool) (hi:lE src all H) :
    ∀ (xs:List α) (acc:List D),acc.length+xs.length≤sizeLine→(∀ a∈xs,∀ P:Bool→List O→Prop,P (p a) H→TV C d env (aQ x (g a) ρ) H c P)→(∀ a∈xs,∀ P:D→List O→Prop,P (f a) H→EV C d env (aQ x (g a) ρ) H elt P)→QQ (acc++(xs.filter p).map f) H →
      turns C d env x [c] (CG C d env elt []) ρ src all (xs.map g) acc H QQ
  | [],acc,_,_,_,hq=>⟨hi,by simpa using hq⟩
  | y::r,acc,hl,ht,he,hq=>by
    refine ⟨hi,?_⟩; rw [List.length_cons] at hl; rw [xF]; refine ht y (.head _) _ ?_
    cases hp:p y with
    | true =>
      rw [if_pos rfl,jT,if_pos rfl,AL]; refine he y (.head _) _ ⟨by exact Nat.lt_of_add_right_lt hl,fh g f p hi r (acc++[f y]) (by refine rl List.length_append (rl List.length_singleton ?_); exact z7 hl) (fun z hz=>ht z (.tail _ hz)) (fun z hz=>he z (.tail _ hz)) ?_⟩; rw [List.filter_cons,if_pos hp] at hq
      simpa using hq
    | false =>
      refine rl (if_neg (by simp)) (rl (if_neg (by simp)) ?_); refine fh g f p hi r acc (by exact BB hl) (fun z hz=>ht z (.tail _ hz)) (fun z hz=>he z (.tail _ hz)) ?_; rw [List.filter_cons,if_neg (by refine rl hp ?_; simp)] at hq; exact hq
end
noncomputable def fT (kn:List (List Nat × Int)):List (Str × D):=kn.map fun p=>(T p.1,.int p.2)
theorem dR (t:List Nat):∀ kn:List (List Nat × Int),(fT kn).lookup (T t)=(kn.lookup t).map .int
  | []=>rfl
  | (a,i)::kn=>by
    have ih:=dR t kn; unfold fT at ih ⊢; rw [List.map_cons,List.lookup_cons,List.lookup_cons,qk]
    cases (t==a) with
    | true=>rfl
    | false=>exact ih
theorem l6 {t:List Nat} {i:Int} {kn:List (List Nat × Int)} (h:kn.lookup t=none):dG (fT kn) (T t) (.int i)=fT (kn++[(t,i)]):=by
  unfold dG; rw [if_neg]
  · simp [fT]
  intro hm; obtain ⟨p,hp,e⟩:=List.any_eq_true.mp hm; obtain ⟨q,hq,rfl⟩:=List.mem_map.mp hp
  have go:∀ kn:List (List Nat × Int),q∈kn→kn.lookup q.1≠none:=by
    intro kn
    induction kn with
    | nil=>intro h; cases h
    | cons r kn ih =>
      intro hm; refine rl (show r=(r.1,r.2) from rfl) (rl List.lookup_cons ?_)
      cases hc:(q.1==r.1) with
      | true=>simp
      | false =>
        rcases List.mem_cons.mp hm with rfl | hm
        · simp at hc
        exact ih hm
  exact go kn hq ((tH (by simpa using e:T q.1=T t)) ▸ h)
noncomputable def jH (a b:List (List Nat)):Bool:=b.take a.length==a
noncomputable def nH (rows:List (List (List Nat))) (chosen:List Nat) (files:List Bool) (k:Nat):Int :=
  if (decide (0 < (chosen.filter fun c=>jH (rows.getD c default) (rows.getD k default)).length) || files.getD k default)=true then 1 else 0
noncomputable def jj (i:Int):List Nat:=if i=0 then [48] else [49]
noncomputable def bh (texts:List (List Nat)) (rows:List (List (List Nat))) (chosen:List Nat) (files:List Bool) (st:List (List Nat × Int) × List (List Nat)) (k:Nat):List (List Nat × Int) × List (List Nat) :=
  let kn:=if (st.1.lookup (texts.getD k default)).isSome=true then st.1 else st.1++[(texts.getD k default,nH rows chosen files k)]
  (kn,st.2++[jj ((kn.lookup (texts.getD k default)).getD 0)])
noncomputable def pP (texts:List (List Nat)) (rows:List (List (List Nat))) (chosen:List Nat) (files:List Bool):List (List Nat × Int) × List (List Nat) :=
  (List.range 12).foldl (bh texts rows chosen files) ([([60,115,116,114,105,110,103,62],1)],[])
noncomputable def outD (st:List (List Nat × Int) × List (List Nat)):D:=.tuple [.list (aq st.2),.list (st.1.map fun p=>.tuple [.str (T p.1),.int p.2])]
noncomputable def cu (rows:List (List (List Nat))):List D:=rows.map fun R=>.list (aq R)
noncomputable def e7 (b:Bool):D:=if b=true then .none else .str (T [])
noncomputable def cF (files:List Bool):List D:=files.map e7
structure FF (texts:List (List Nat)) (rows:List (List (List Nat))) (chosen:List Nat) (files:List Bool):Prop where
  t:texts.length=12
  r:rows.length=12
  f:files.length=12
  c:chosen.length≤100∧∀ c∈chosen,c < 12
  ts:∀ t∈texts,t.length≤10000∧∀ c∈t,c < 1114112
  rs:∀ R∈rows,R.length≤10000∧∀ p∈R,∀ c∈p,c < 1114112
structure yK (texts:List (List Nat)) (rows:List (List (List Nat))) (chosen:List Nat) (files:List Bool) (ρ:Loc):Prop where
  t:ρ.lookup ("texts" : Str)=some (.list (aq texts))
  r:ρ.lookup ("rows" : Str)=some (.list (cu rows))
  c:ρ.lookup ("chosen" : Str)=some (.list (chosen.map fun c:Nat=>.int c))
  f:ρ.lookup ("files" : Str)=some (.list (cF files))
structure Fd (st:List (List Nat × Int) × List (List Nat)) (ρ:Loc) (H:List O) (ps:Loc→Prop):Prop where
  h:H=[.dict (fT st.1),.list (aq st.2)]
  k:ρ.lookup ("known" : Str)=some (.obj 0)
  a:ρ.lookup ("answers" : Str)=some (.obj 1)
  p:ps ρ
  v:∀ p∈st.1,p.2=0 ∨ p.2=1
  s:∀ p∈st.1,p.1.length≤10000∧∀ c∈p.1,c < 1114112
noncomputable def Fc (texts:List (List Nat)) (rows:List (List (List Nat))) (chosen:List Nat) (files:List Bool) (st:List (List Nat × Int) × List (List Nat)) (fl:Fl) (ρ:Loc) (H:List O):Prop:=(fl = .next ∨ fl = .cont)∧Fd st ρ H (yK texts rows chosen files)
noncomputable def s6 (st:Stmt):List Stmt:=(j3 ((fnBody st).getD 2 st)).drop 1
theorem qV {α:Type} {n:List Nat} {v:α}:∀ {l:List (List Nat × α)},l.lookup n=some v→(n,v)∈l
  | [],h=>by cases h
  | (m,e)::r,h=>by
    rw [List.lookup_cons] at h
    cases hc:(n==m) with
    | true=>rw [hc] at h; cases h; refine rl (show n=m by simpa using hc) ?_; exact .head _
    | false=>rw [hc] at h; exact .tail _ (qV h)
theorem nG {texts:List (List Nat)} {rows:List (List (List Nat))} {chosen:List Nat} {files:List Bool}:∀ (pr:List Nat) (st:List (List Nat × Int) × List (List Nat)),(pr.foldl (bh texts rows chosen files) st).1.length≤st.1.length+pr.length∧(pr.foldl (bh texts rows chosen files) st).2.length=st.2.length+pr.length
  | [],st=>⟨Nat.le_refl _,rfl⟩
  | k::pr,st=>by
    have h1:(bh texts rows chosen files st k).1.length≤st.1.length+1:=by
      unfold bh; dsimp only; split <;> simp
    have h2:(bh texts rows chosen files st k).2.length=st.2.length+1:=by unfold bh; simp
    refine rl List.foldl_cons (rl List.length_cons ?_); exact D9 h2 (nG (texts:=texts) (rows:=rows) (chosen:=chosen) (files:=files) pr (bh texts rows chosen files st k)) h1
theorem pO {texts:List (List Nat)} {rows:List (List (List Nat))} {chosen:List Nat} {files:List Bool}:∀ (pr:List Nat) (st:List (List Nat × Int) × List (List Nat)),(∀ t∈st.2,t=[48] ∨ t=[49])→∀ t∈(pr.foldl (bh texts rows chosen files) st).2,t=[48] ∨ t=[49]
  | [],st,h=>h
  | k::pr,st,h=>by
    refine rl List.foldl_cons ?_; refine pO pr _ fun t ht=>?_; rcases List.mem_append.mp ht with q | q
    · exact h t q
    have hd:∀ i,jj i=[48] ∨ jj i=[49]:=fun i=>by
      unfold jj; split
      · exact .inl rfl
      exact .inr rfl
    refine rl (List.mem_singleton.mp q) ?_; exact hd _
section
variable {C:Cx} {d:Nat} {H:List O} {Q:D→List O→Prop}
theorem wM (W:WF C) {texts:List (List Nat)} {rows:List (List (List Nat))} {chosen:List Nat} {files:List Bool} (a:FF texts rows chosen files) (hq:Q (outD (pP texts rows chosen files)) []) :
    aj C (d+3) [] (.ref 846) [.list (aq texts),.list (cu rows),.list (chosen.map fun c:Nat=>.int c),.list (cF files)] Q:=by
  have hz:(16777216:Nat)=sizeLine:=rfl; refine aj.fz ?_; refine aj.fn (ns:=["texts", "rows", "chosen", "files"]) W.ok W.zB (by kernel_rfl) (by kernel_rfl) (by kernel_rfl) rfl ?_ (fun q cd L=>by kernel_rfl) fun q cd L=>?_
  · exact fun _ _ _ _ _ _ _ _=>Gv fun _ _ _ _=>by kernel_rfl
  refine aa.cons ?_; refine EX.asg ?_ ?_
  · kernel_rfl
  refine EV.zC (by decide) ?_; refine aa.cons ?_; refine EX.asg ?_ ?_
  · kernel_rfl
  refine EV.sG ?_ ?_
  · kernel_rfl
  refine az.n ⟨by decide,?_⟩; refine aa.cons ?_; refine EX.for (fun _=>rfl) ?_; refine EV.bS W.ok W.dK .type ?_ ?_
  · kernel_rfl
  refine az.c ?_; refine EV.int ?_; refine az.n ?_; refine aj.fP fun t u v=>⟨_,dm.xS ?_ ?_ ?_ ?_,?_⟩
  · exact zp
  · exact zo
  · decide
  · decide
  refine FT.sQ (fun i:Nat=>.int (0+(i:Nat))) (fun st ρ H=>Fd st ρ H (yK texts rows chosen files)) (bh texts rows chosen files) (fun _ _ _ _=>by exact trivial) ([([60,115,116,114,105,110,103,62],1)],[]) (List.range 12) [] _ _ (fun pr k po e ρ H hI=>?_) (fun ρ H hI=>?_) ?_
  · obtain ⟨rfl,h1,h2,h3,h4,h5⟩:=hI
    have hk:k < 12:=by
      have:k∈([]++List.range 12:List Nat):=by refine rl e ?_; simp
      simpa using this
    obtain ⟨gt,gr,gc,gf⟩:=h3; have hpr:pr.length < 12:=by have:=congrArg List.length e; simp at this; exact Br this
    have hlen:=nG (texts:=texts) (rows:=rows) (chosen:=chosen) (files:=files) pr ([([60,115,116,114,105,110,103,62],1)],[]); simp only [List.length_cons,List.length_nil] at hlen; generalize hst:pr.foldl (bh texts rows chosen files) ([([60,115,116,114,105,110,103,62],1)],[])=st at *; have hT:d7 (aq texts) (0+(k:Nat))=some (.str (T (texts.getD k default))):=bZ (fun p=>.str (T p)) texts (by exact Int.zero_add _) (by refine rl a.t ?_; exact hk); have htk:texts.getD k default∈texts:=by refine rl List.getD_eq_getElem?_getD (rl (List.getElem?_eq_getElem (by rw [a.t]; exact hk)) ?_); exact List.getElem_mem _
    have hR:∀ (c:Nat) (i:Int),i=c→c < 12→d7 (cu rows) i=some (.list (aq (rows.getD c default))):=fun c i hi hc=>bZ (fun R=>.list (aq R)) rows hi (by refine rl a.r ?_; exact hc); have hrk:∀ c:Nat,c < 12→rows.getD c default∈rows:=fun c hc=>by refine rl List.getD_eq_getElem?_getD (rl (List.getElem?_eq_getElem (by rw [a.r]; exact hc)) ?_); exact List.getElem_mem _
    have rest:∀ (ρ₁:Loc) (kn:List (List Nat × Int)),kn=(bh texts rows chosen files st k).1→(yK texts rows chosen files) ρ₁→ρ₁.lookup ("known" : Str)=some (.obj 0)→ρ₁.lookup ("answers" : Str)=some (.obj 1)→ρ₁.lookup ("k" : Str)=some (.int (0+(k:Nat))) →
        (∀ p∈kn,p.2=0 ∨ p.2=1)→(∀ p∈kn,p.1.length≤10000∧∀ c∈p.1,c < 1114112)→kn.length≤100→(kn.lookup (texts.getD k default)).isSome=true →
        aa C (d+1+1) (b8 (ak 39) q cd L 846) ρ₁ [.dict (fT kn),.list (aq st.2)] (s6 (ak 39)) (Fc texts rows chosen files (bh texts rows chosen files st k)):=by
      intro ρ₁ kn hkn hρ gn ga gk k1 k2 k3 k4; have gt':=hρ.t; obtain ⟨v,hv⟩:=Option.isSome_iff_exists.mp k4; have hv01:v=0 ∨ v=1:=k1 _ (qV hv); refine aa.cons ?_; refine EX.exp ?_ ?_
      · kernel_rfl
      refine EV.b5 ?_ ?_
      · kernel_rfl
      refine EV.nm (.obj 1) ?_ ?_ ?_
      · assumption
      · kernel_rfl
      refine ⟨_,bY.list rfl slot_list_append type_list_append,.builtin,?_⟩; refine az.c ?_; refine EV.bS W.ok W.jM .type ?_ ?_
      · kernel_rfl
      refine az.c ?_; refine EV.sb (fun _ _=>rfl) ?_; refine EV.nm (.obj 0) ?_ ?_ ?_
      · assumption
      · kernel_rfl
      refine EV.sb (fun _ _=>rfl) ?_; refine EV.nm (.list (aq texts)) ?_ ?_ ?_
      · assumption
      · kernel_rfl
      refine EV.nm (.int (0+(k:Nat))) ?_ ?_ ?_
      · assumption
      · kernel_rfl
      refine ⟨_,hT,⟨fT kn,.int v,rfl,by rw [dR,hv]; rfl,az.n ?_⟩⟩; refine aj.str_int (by rcases hv01 with rfl | rfl <;> decide) (az.n ?_); refine aj.append rfl (by unfold aq; rw [List.length_map]; exact D8 hz hpr hlen) ⟨rfl,aa.nil ⟨.inl rfl,?_⟩⟩; have e1:Str.ofString (toString v)=T (jj v):=by rcases hv01 with rfl | rfl <;> kernel_rfl
      have e2:bh texts rows chosen files st k=(kn,st.2++[jj v]):=by
        have:bh texts rows chosen files st k=((bh texts rows chosen files st k).1,st.2++[jj (((bh texts rows chosen files st k).1.lookup (texts.getD k default)).getD 0)]):=rfl; refine rl this (rr hkn (rl hv ?_)); rfl
      refine rl e2 ?_; refine ⟨?_,gn,ga,hρ,k1,k2⟩; refine rl e1 ?_; simp [aq]
    refine AS.name ?_ ?_
    · kernel_rfl
    refine aa.cons ?_; refine EX.if ?_; refine TV.cm ?_ ?_; rotate_left
    · kernel_rfl
    refine EV.sb (fun _ _=>rfl) ?_; refine EV.nm (.list (aq texts)) ?_ ?_ ?_
    · exact l2 (by kernel_rfl) (by assumption)
    · kernel_rfl
    refine EV.nm (.int (0+(k:Nat))) ?_ ?_ ?_
    · exact bV
    · kernel_rfl
    refine ⟨_,hT,?_⟩; refine EV.nm (.obj 0) ?_ ?_ ?_
    · exact l2 (by kernel_rfl) (by assumption)
    · kernel_rfl
    refine aO.ue W.ok rfl (TR.plain rfl ?_); rw [dR,Option.isSome_map]
    cases hkn:(st.1.lookup (texts.getD k default)).isSome with
    | true =>
      refine aa.nil ?_; refine rest _ st.1 ?_ ⟨?_,?_,?_,?_⟩ ?_ ?_ ?_ h4 h5 (by exact D7 hpr hlen) hkn
      · unfold bh; simp only [hkn,if_true]
      all_goals repeat (first | exact bV | assumption | refine (jf (by decide +kernel)).trans ?_)
    | false =>
      try delta ow
      refine rl (if_pos (by rfl)) ?_; refine aa.cons ?_; refine EX.rJ ?_ ?_ ?_
      · kernel_rfl
      · kernel_rfl
      refine EV.nm (.list (chosen.map fun c:Nat=>.int c)) ?_ ?_ ?_
      · exact l2 (by kernel_rfl) (by assumption)
      · kernel_rfl
      refine ⟨_,.list,fun Ca=>?_⟩; refine fh (fun c:Nat=>.int c) (fun c=>.list (aq (rows.getD c default))) (fun c=>jH (rows.getD c default) (rows.getD k default)) (by exact trivial) chosen [] (by have:=a.c.1; simp; exact D6 hz this) (fun c hc P hP=>?_) (fun c hc P hP=>?_) ?_
      · have hc:=a.c.2 c hc
        refine TV.cm ?_ ?_; rotate_left
        · kernel_rfl
        refine EV.slice ?_; refine EV.sb (fun _ _=>rfl) ?_; refine EV.nm (.list (cu rows)) ?_ ?_ ?_
        · exact l2 (by kernel_rfl) (jX (by kernel_rfl) (l2 (by kernel_rfl) (by assumption)))
        · kernel_rfl
        refine EV.nm (.int (0+(k:Nat))) ?_ ?_ ?_
        · exact l2 (by kernel_rfl) (jX (by kernel_rfl) bV)
        · kernel_rfl
        refine ⟨_,hR k _ (by exact Int.zero_add _) hk,?_⟩; refine EV.bS W.ok W.w6 .builtin ?_ ?_
        · kernel_rfl
        refine az.c ?_; refine EV.sb (fun _ _=>rfl) ?_; refine EV.nm (.list (cu rows)) ?_ ?_ ?_
        · exact l2 (by kernel_rfl) (jX (by kernel_rfl) (l2 (by kernel_rfl) (by assumption)))
        · kernel_rfl
        refine EV.nm (.int c) ?_ ?_ ?_
        · exact bV
        · kernel_rfl
        refine ⟨_,hR c _ rfl hc,az.n ?_⟩; refine aj.len_list ?_; refine ⟨_,none,some _,none,rfl,.none,.int _,.none,by simp,?_⟩; rw [show (aq (rows.getD c default)).length=(rows.getD c default).length by simp [aq],kI,show (aq (rows.getD k default)).take (rows.getD c default).length=aq ((rows.getD k default).take (rows.getD c default).length) by simp [aq,List.map_take]]; refine EV.sb (fun _ _=>rfl) ?_; refine EV.nm (.list (cu rows)) ?_ ?_ ?_
        · exact l2 (by kernel_rfl) (jX (by kernel_rfl) (l2 (by kernel_rfl) (by assumption)))
        · kernel_rfl
        refine EV.nm (.int c) ?_ ?_ ?_
        · exact bV
        · kernel_rfl
        refine ⟨_,hR c _ rfl hc,?_⟩; refine aO.Hf (fun p hp=>(a.rs _ (hrk k hk)).2 p (List.mem_of_mem_take hp)) (a.rs _ (hrk c hc)).2 (TR.plain rfl hP)
      · refine EV.sb (fun _ _=>rfl) ?_
        refine EV.nm (.list (cu rows)) ?_ ?_ ?_
        · exact l2 (by kernel_rfl) (jX (by kernel_rfl) (l2 (by kernel_rfl) (by assumption)))
        · kernel_rfl
        refine EV.nm (.int c) ?_ ?_ ?_
        · exact bV
        · kernel_rfl
        exact ⟨_,hR c _ rfl (a.c.2 c hc),hP⟩
      rw [List.nil_append]; generalize hcov:(chosen.filter fun c=>jH (rows.getD c default) (rows.getD k default))=cov; have hF:d7 (cF files) (0+(k:Nat))=some (e7 (files.getD k default)):=bZ e7 files (by exact Int.zero_add _) (by refine rl a.f ?_; exact hk); have hkn':st.1.lookup (texts.getD k default)=none:=by simpa using hkn
      have fin:∀ (ρ₁:Loc) (v:Int),v=nH rows chosen files k→yK texts rows chosen files ρ₁→ρ₁.lookup ("known" : Str)=some (.obj 0)→ρ₁.lookup ("answers" : Str)=some (.obj 1)→ρ₁.lookup ("k" : Str)=some (.int (0+(k:Nat))) →
          aa C (d+1+1) (b8 (ak 39) q cd L 846) ρ₁ [.dict (dG (fT st.1) (T (texts.getD k default)) (.int v)),.list (aq st.2)] (s6 (ak 39)) (Fc texts rows chosen files (bh texts rows chosen files st k)):=by
        intro ρ₁ v hv f1 f2 f3 f4; refine rl (l6 hkn') ?_; refine rest ρ₁ _ ?_ f1 f2 f3 f4 ?_ ?_ ?_ ?_
        · unfold bh; simp only [hkn,Bool.false_eq_true,if_false,hv]
        · intro p hp
          rcases List.mem_append.mp hp with h | h
          · exact h4 p h
          refine rl (List.mem_singleton.mp h) (rl hv ?_); show nH _ _ _ _=0 ∨ _; unfold nH; split <;> simp
        · intro p hp
          rcases List.mem_append.mp hp with h | h
          · exact h5 p h
          refine rl (List.mem_singleton.mp h) ?_; exact a.ts _ htk
        · refine rl List.length_append (rl List.length_singleton ?_); exact D5 hpr hlen
        rw [List.lookup_append,hkn']; simp
      refine aa.cons ?_; refine EX.iD (k:=0) (n:=T (texts.getD k default)) (kvs:=fT st.1) (ah rfl) ?_; refine EV.mono (Q:=fun x H'=>x = .int (nH rows chosen files k)∧H'=[.dict (fT st.1),.list (aq st.2)]) ?_ ?_
      · refine EV.jI ?_
        refine TV.or ?_; refine TV.cm ?_ ?_; rotate_left
        · kernel_rfl
        refine EV.bS W.ok W.w6 .builtin ?_ ?_
        · kernel_rfl
        refine az.c ?_; refine EV.nm (.list (cov.map fun c=>.list (aq (rows.getD c default)))) ?_ ?_ ?_
        · exact bV
        · kernel_rfl
        refine az.n ?_; refine aj.len_list ?_; refine EV.int ?_; refine aO.cmp ?_; refine TR.plain rfl ?_; have hdv:nH rows chosen files k=if (decide (0 < cov.length) || files.getD k default)=true then 1 else 0:=by unfold nH; exact rl hcov rfl
        rw [hdv,List.length_map]; rw [(decide_eq_decide.mpr (by exact Int.natCast_pos):decide ((0:Int) < (cov.length:Int))=decide (0 < cov.length))]
        cases hc0:decide (0 < cov.length) with
        | true =>
          try delta ow
          refine rl (if_pos rfl) (rl (if_pos rfl) ?_); refine EV.int ?_; exact ⟨rfl,rfl⟩
        | false =>
          try delta ow
          refine rl (if_neg (by simp)) ?_; refine TV.or ?_; refine TV.cm ?_ ?_; rotate_left
          · kernel_rfl
          refine EV.sb (fun _ _=>rfl) ?_; refine EV.nm (.list (cF files)) ?_ ?_ ?_
          · exact l2 (by kernel_rfl) (l2 (by kernel_rfl) (by assumption))
          · kernel_rfl
          refine EV.nm (.int (0+(k:Nat))) ?_ ?_ ?_
          · exact l2 (by kernel_rfl) bV
          · kernel_rfl
          refine ⟨_,hF,?_⟩; refine EV.none ?_
          cases hfk:files.getD k default with
          | true =>
            refine aO.cmp ?_; refine TR.plain rfl ?_
            try delta ow
            refine rl (if_pos rfl) (rl (if_pos rfl) ?_); refine EV.int ?_; exact ⟨rfl,rfl⟩
          | false =>
            refine aO.cmp ?_; refine TR.plain rfl ?_
            try delta ow
            refine rl (if_neg (by simp)) ?_; refine TV.Bc ?_
            try delta ow
            refine rl (if_neg (by simp)) ?_; refine EV.int ?_; exact ⟨rfl,rfl⟩
      rintro _ _ ⟨rfl,rfl⟩; refine EV.nm (.obj 0) ?_ ?_ ?_
      · exact l2 (by kernel_rfl) (l2 (by kernel_rfl) (by assumption))
      · kernel_rfl
      refine ⟨rfl,?_⟩; refine EV.sb (fun _ _=>rfl) ?_; refine EV.nm (.list (aq texts)) ?_ ?_ ?_
      · exact l2 (by kernel_rfl) (l2 (by kernel_rfl) (by assumption))
      · kernel_rfl
      refine EV.nm (.int (0+(k:Nat))) ?_ ?_ ?_
      · exact l2 (by kernel_rfl) bV
      · kernel_rfl
      refine ⟨_,hT,rfl,rfl,(by unfold fT; rw [List.length_map]; exact D4 hz hpr hlen),aa.nil ?_⟩; refine fin _ _ rfl ⟨?_,?_,?_,?_⟩ ?_ ?_ ?_
      all_goals repeat (first | exact bV | assumption | refine (jf (by decide +kernel)).trans ?_)
  · have hfin:pP texts rows chosen files=(([]++List.range 12).foldl (bh texts rows chosen files) ([([60,115,116,114,105,110,103,62],1)],[])):=rfl
    have hlen:=nG (texts:=texts) (rows:=rows) (chosen:=chosen) (files:=files) ([]++List.range 12) ([([60,115,116,114,105,110,103,62],1)],[]); simp only [List.length_cons,List.length_nil,List.nil_append,List.length_range] at hlen; have hdig:=pO (texts:=texts) (rows:=rows) (chosen:=chosen) (files:=files) ([]++List.range 12) ([([60,115,116,114,105,110,103,62],1)],[]) (by simp); rw [← hfin] at hI hdig; rw [List.nil_append] at hfin; rw [← hfin] at hlen; generalize pP texts rows chosen files=st at *; obtain ⟨rfl,h1,h2,_,h4,h5⟩:=hI; refine aa.cons ?_; refine EX.rt ?_; refine EV.tuple ?_ ?_
    · kernel_rfl
    refine az.c ?_; refine EV.nm (.obj 1) ?_ ?_ ?_
    · assumption
    · kernel_rfl
    refine az.c ?_; refine EV.listItems (k:=0) (kvs:=fT st.1) W.ok ?_ W.g7.1 W.g7.2 ?_ ?_ ?_ ?_ ?_
    · kernel_rfl
    · kernel_rfl
    · kernel_rfl
    · kernel_rfl
    · kernel_rfl
    refine EV.nm (.obj 0) ?_ ?_ ?_
    · assumption
    · kernel_rfl
    refine ⟨rfl,rfl,?_,?_,?_⟩
    · unfold fT; rw [List.length_map]; exact D0 hz hlen
    · intro p hp
      obtain ⟨r,hr,rfl⟩:=List.mem_map.mp hp; rw [aL]; have:=(h5 r hr).1; exact z8 hz this
    refine az.n ⟨by show 2≤sizeLine; decide,?_⟩; refine ⟨_,.pair (.obj rfl fun y hy=>?_) (.ok ?_),?_⟩
    · obtain ⟨t,ht,rfl⟩:=List.mem_map.mp hy
      refine kK fun c hc=>?_; rcases hdig t ht with rfl | rfl <;> (refine rl (List.mem_singleton.mp hc) ?_; decide)
    · refine fu ?_
      intro x hx; obtain ⟨r,hr,rfl⟩:=List.mem_map.mp hx; obtain ⟨r',hr',rfl⟩:=List.mem_map.mp hr; exact mY ⟨kK (h5 r' hr').2,rfl⟩
    have e:(fT st.1).map (fun p=>D.tuple [.str p.1,p.2])=st.1.map fun p=>D.tuple [.str (T p.1),.int p.2]:=by unfold fT; refine rl List.map_map ?_; rfl
    refine rl e ?_; exact hq
  refine ⟨rfl,?_,?_,?_,?_,?_⟩
  · repeat (first | exact bV | assumption | refine (jf (by decide +kernel)).trans ?_)
  · repeat (first | exact bV | assumption | refine (jf (by decide +kernel)).trans ?_)
  · refine ⟨?_,?_,?_,?_⟩
    all_goals kernel_rfl
  · simp
  simp
end
theorem lD (t:SetTable) (n:Nat):(t.orStandIn n).led=t.led:=by unfold SetTable.orStandIn; split <;> rfl
theorem qW (t:SetTable) (es:Array (Int × Value)) (h:Int) (x:Value):(layNew t es h x).2.1.led=t.led:=by
  unfold layNew
  cases t.freeSlot h with
  | none=>rfl
  | some p=>exact lD _ _
theorem iF {t t':SetTable} {hs:Array Int} {n:Nat} {o:Array Nat} (h:t.relaid hs n=some (t',o)):t'.led=t.led∧t'.plain=t.plain:=by
  unfold SetTable.relaid SetTable.laid at h
  cases hl:SetTable.layClean (SetTable.sizeAbove n - 1) hs with
  | none=>rw [hl] at h; cases h
  | some w=>rw [hl] at h; cases h; exact ⟨rfl,rfl⟩
theorem mU (t:SetTable) (es:Array (Int × Value)) (n:Nat):(relayAll t es n).2.1.led=t.led:=by
  unfold relayAll
  cases h:t.relaid (es.map (·.1)) n with
  | none=>rfl
  | some p=>obtain ⟨t',o⟩:=p; dsimp only; split <;> first | exact (iF h).1 | rfl
theorem kE (t:SetTable) (es:Array (Int × Value)) (n:Nat) (hp:t.plain=false):(relayAll t es n).2.1.plain=false:=by
  unfold relayAll
  cases h:t.relaid (es.map (·.1)) n with
  | none=>rfl
  | some p=>obtain ⟨t',o⟩:=p; dsimp only; split <;> first | exact (iF h).2.trans hp | rfl
noncomputable def qj (led:Bool) (n:Nat) (t:SetTable):Prop:=t.led=led∧(1≤n→t.plain=false)
noncomputable def ou (h:Heap) (a:Addr) (led:Bool):Prop:=∃ o es ep t,h.get? a=some o∧o.data = .set es ep t∧qj led es.size t
section
variable {prog:Program} {w:World} {K:Type} [DecidableEq K] {knd:KeyKind prog w K} {A:Around} {E:Value→Shared→Prop} {s:Shared}
theorem mw {g:Bool→Sem Unit} (hg:∀ (b:Bool) (s₁:Shared) (Q':Unit→Shared→Prop),Q' () s₁→wpAny (model prog w) A (g b) Q' E s₁)
    {a:Addr} {o:Obj} {es:Array (Int × Value)} {ep:Nat} {t:SetTable} (ho:s.heap.get? a=some o) (hex:o.ExactSet) (hd:o.data = .set es ep t)
    {es1:Array (Int × Value)} {t2:SetTable} {S':K→Bool} (hel1:ElemsOf knd es1.toList) (hmem1:∀ k',S' k'=true↔∃ e∈es1.toList,knd.is k' e.2=true)
    (hb1:es1.size < scanBound) (hf2:t2.fits es1.size=true) {led:Bool} (hl:t2.led=led) (hp:t2.plain=false) {wasDummy:Bool} {R:Option Bool→Shared→Prop}
    (h:∀ h',Heap.SameBut a s.heap h'→h'.SetOf knd a S' es1.size→ou h' a led→R (some true) { s with heap:=h' }) :
    wpAny (model prog w) A (do
        storeSet a es1 t2
        if (!wasDummy && t2.tooFull)=true then do
            g (relayAll t2 es1 (SetTable.grown es1.size)).2.2
            storeSet a (relayAll t2 es1 (SetTable.grown es1.size)).1 (relayAll t2 es1 (SetTable.grown es1.size)).2.1
            pure (some true)
          else pure (some true)) R E s:=by
  refine wpAny_bind (wpAny_storeSet_of ho hd ?_ (fits_of_scanBound hb1)); obtain ⟨ho1,hS1⟩:=SetOf_store (knd:=knd) ho hex hd hel1 hmem1 hb1 hf2; have hsb1:=Heap.SameBut.update s.heap a (Obj.putSet es1 t2); split
  · have hpm:=relayAll_perm t2 es1 (SetTable.grown es1.size)
    have hfr:=relayAll_fits t2 es1 (SetTable.grown es1.size); have hle:=mU t2 es1 (SetTable.grown es1.size); have hpl:=kE t2 es1 (SetTable.grown es1.size) hp; generalize hRl:relayAll t2 es1 (SetTable.grown es1.size)=Rl at hpm hfr hle hpl ⊢; obtain ⟨es2,t3,gave2⟩:=Rl; dsimp only at hpm hfr hle hpl ⊢; have hsz:es2.size=es1.size:=by exact rr Array.length_toList (rl hpm.length_eq (rl Array.length_toList rfl))
    have hb2:es2.size < scanBound:=by refine rl hsz ?_; exact hb1
    refine wpAny_bind (hg _ _ _ ?_); refine wpAny_bind (wpAny_storeSet_of ho1 rfl ?_ (fits_of_scanBound hb2)); obtain ⟨ho2,hS2⟩:=SetOf_store (knd:=knd) ho1 hex rfl (hel1.perm hpm:ElemsOf knd es2.toList) (fun k'=>(hmem1 k').trans ⟨fun ⟨e,he,q⟩=>⟨e,hpm.mem_iff.mpr he,q⟩,fun ⟨e,he,q⟩=>⟨e,hpm.mem_iff.mp he,q⟩⟩:∀ k',S' k'=true↔∃ e∈es2.toList,knd.is k' e.2=true) hb2 hfr; rw [hsz] at hS2; exact wpAny_pure (h _ (hsb1.trans (Heap.SameBut.update _ a _)) hS2 ⟨_,_,_,_,ho2,rfl,hle.trans hl,fun _=>hpl⟩)
  exact wpAny_pure (h _ hsb1 hS1 ⟨_,_,_,_,ho1,rfl,hl,fun _=>hp⟩)
end
section
variable {prog:Program} {w:World} {A:Around} {E:Value→Shared→Prop} {s:Shared}
theorem kC {a:Addr} {S:Str→Bool} {n:Nat} {k:Str} {t0:Tok} {led:Bool} {Q:Bool→Shared→Prop} (hS:s.heap.SetOf (PySem.strKind prog w) a S n) (hJ:ou s.heap a led)
    (hkey:(PySem.strKind prog w).is k (.str k t0)=true) (hroom:n+1 < scanBound)
    (h:∀ h',Heap.SameBut a s.heap h'→h'.SetOf (PySem.strKind prog w) a (fun k'=>S k' || decide (k'=k)) (if S k then n else n+1)→ou h' a led→Q (!S k) { s with heap:=h' }) :
    wpAny (model prog w) A (setAddHashed a (.str k t0) ((PySem.strKind prog w).hash k)) Q E s:=by
  have hsc:(Value.str k t0).scannable=true:=rfl; obtain ⟨o,es,ep,t,ho,hex,hd,hel,hmem,hb,hf,hn⟩:=hS
  have hT:qj led es.size t:=by
    obtain ⟨o',es',ep',t',ho',hd',hT⟩:=hJ; rw [ho] at ho'; cases ho'; rw [hd] at hd'; cases hd'; exact hT
  have hb1:es.size+1 < scanBound:=by refine rl hn ?_; exact hroom
  refine wpAny_holding (wpAny_bind (wpAny_setState_of ho hd hf ?_)); dsimp only; rw [byScan_of hsc hb hel]; simp only [↓reduceIte]; refine wpAny_bind ?_; refine wpAny_bind (wpAny_rule ?_); refine wpAny_bind (wpAny_setScan_of hkey ho hd hf hel ?_)
  cases hr:List.findIdx? (fun e=>(PySem.strKind prog w).is k e.2) es.toList with
  | some j =>
    obtain ⟨hj,hpj,_⟩:=List.findIdx?_eq_some_iff_getElem.mp hr; have hSk:S k=true:=(hmem k).mpr ⟨es.toList[j],List.getElem_mem hj,hpj⟩; refine wpAny_pure (wpAny_pure ?_); have e:s = { s with heap:=s.heap }:=by cases s; rfl
    have:=h s.heap (Heap.SameBut.refl a s.heap) ⟨o,es,ep,t,ho,hex,hd,hel,fun k'=>by
      rw [Bool.or_eq_true,decide_eq_true_eq,← hmem k']; exact ⟨fun hk=>hk.elim id (fun e=>e ▸ hSk),.inl⟩,hb,hf,by refine rl hSk ?_; exact hn⟩ hJ
    rw [hSk] at this; refine rl e ?_; exact this
  | none =>
    have hSk:S k=false:=by
      cases hk:S k with
      | false=>rfl
      | true=>obtain ⟨e,he,hp⟩:=(hmem k).mp hk; have:=List.findIdx?_eq_none_iff.mp hr e he; rw [hp] at this; exact Bool.noConfusion this
    have hgw:∀ (b:Bool) {s₁:Shared} {Q':Unit→Shared→Prop},Q' () s₁→wpAny (model prog w) A (match b with | true=>rule "set.scan.the-table-gave-way" | false=>pure ()) Q' E s₁ :=
      fun b s₁ Q' hq=>by cases b <;> first | exact wpAny_pure hq | exact wpAny_rule hq
    have hperm:=layNew_perm t es ((PySem.strKind prog w).hash k) (.str k t0); have hfits:=layNew_fits t es ((PySem.strKind prog w).hash k) (.str k t0); have hled:=qW t es ((PySem.strKind prog w).hash k) (.str k t0); generalize hL:layNew t es ((PySem.strKind prog w).hash k) (.str k t0)=L at hperm hfits hled ⊢; obtain ⟨es1,t1,wasDummy,gave⟩:=L; rw [Array.toList_push] at hperm; have hel1:ElemsOf (PySem.strKind prog w) es1.toList:=(hel.push hkey hsc).perm hperm; have hmem1:∀ k',(S k' || decide (k'=k))=true↔∃ e∈es1.toList,(PySem.strKind prog w).is k' e.2=true:=mem_push_iff hkey hmem hperm; have hb1':es1.size < scanBound:=by refine rr Array.length_toList (rl hperm.length_eq (rl List.length_append (rl Array.length_toList ?_))); assumption
    refine wpAny_bind (hgw _ ?_); have hsz1:es1.size=n+1:=by refine rr Array.length_toList (rl hperm.length_eq (rl List.length_append (rl Array.length_toList (rl hn ?_)))); rfl
    have hend:∀ h',Heap.SameBut a s.heap h'→h'.SetOf (PySem.strKind prog w) a (fun k'=>S k' || decide (k'=k)) es1.size→ou h' a led→Q true { s with heap:=h' }:=by
      intro h' hsb hS' hJ'; have:=h h' hsb; rw [hSk] at this; rw [hsz1] at hS'; exact this hS' hJ'
    split
    · refine wpAny_bind ?_
      refine rl (hashByValue_scannable 8 hsc) ?_; refine wpAny_pure ?_; refine mw ?_ ho hex hd hel1 hmem1 hb1' ?_ (led:=led) ?_ ?_ ?_
      · intro b s₁ Q' hq; cases b <;> first | exact wpAny_pure hq | exact wpAny_rule hq
      · split
        · exact hfits
        exact SetTable.fits_plain_off hfits
      · split <;> exact hled.trans hT.1
      · rfl
      intro h' hsb hS' hJ'; dsimp only; exact wpAny_pure (hend h' hsb hS' hJ')
    rename_i hpl; refine wpAny_bind (wpAny_pure ?_); simp only [↓reduceIte]; refine mw ?_ ho hex hd hel1 hmem1 hb1' hfits (hled.trans hT.1) (by simpa using hpl) ?_
    · intro b s₁ Q' hq; cases b <;> first | exact wpAny_pure hq | exact wpAny_rule hq
    intro h' hsb hS' hJ'; dsimp only; exact wpAny_pure (hend h' hsb hS' hJ')
end
section
variable {prog:Program} {w:World} {A:Around} {R:Result→Shared→Prop} {I:Addr} {fp wr:List Addr} {G:Array GenState→Array GenState→Prop} {P:Nat→Value→Prop} {Stt:Nat→Shared→Prop}
theorem lA {led:Bool} {xs:List Str} (W:WalksS prog w A.in1 I fp wr G xs.length P Stt) (S:Addr) (hSf:S ∉ fp)
    (hval:∀ i v,P i v→∃ t,v = .str (xs.getD i default) t) (hb:xs.length+1 < scanBound) :
    ∀ (k i:Nat) (s:Shared),xs.length - i=k→i≤xs.length→Stt i s →
      (∃ m,m≤i∧s.heap.SetOf (PySem.strKind prog w) S (fun k'=>(xs.take i).contains k') m)→ou s.heap S led →
      (∀ s',Moved (S::wr) G s s'→(∃ m,s'.heap.SetOf (PySem.strKind prog w) S (fun k'=>xs.contains k') m)→ou s'.heap S led→R (.ok (.ret .none)) s') →
      codeAny (model prog w) A (.builtin "set.update.loop" ⟨[.ref S,.ref I],[]⟩) R s:=by
  have hSw:S ∉ wr:=fun h=>hSf (W.sub _ h); have hsub:∀ b∈wr,b∈S::wr:=fun b hb=>List.mem_cons_of_mem _ hb; intro k
  induction k with
  | zero =>
    intro i s hk hi hst hS hJ hR; have hin:i=xs.length:=by omega
    subst hin; refine codeAny_builtin PyProof.Rows.F.entry_set_update_loop ?_; refine rl (Around.under_plainId PyProof.Rows.F.plain_set_update_loop _) ?_; refine wpAny_bind (W.done s _ _ hst fun s' hm=>?_)
    exact wpAny_pure (hR s' (hm.mono hsub) (by
      obtain ⟨m,_,o,es,ep,t,ho,rest⟩:=hS; rw [List.take_of_length_le (Nat.le_refl _)] at rest
      exact ⟨m,o,es,ep,t,hm.heap S _ hSw ho,rest⟩) (by
      obtain ⟨o,es,ep,t,ho,rest⟩:=hJ
      exact ⟨o,es,ep,t,hm.heap S _ hSw ho,rest⟩))
  | succ k ih =>
    intro i s hk hi hst hS hJ hR; have hlt:i < xs.length:=by omega
    refine codeAny_builtin PyProof.Rows.F.entry_set_update_loop ?_; refine rl (Around.under_plainId PyProof.Rows.F.plain_set_update_loop _) ?_; refine wpAny_bind (W.item i s _ _ hlt hst fun v s' hP hst' hm=>?_); obtain ⟨t,rfl⟩:=hval i v hP; obtain ⟨m,hmi,hS⟩:=hS
    have hS':s'.heap.SetOf (PySem.strKind prog w) S (fun k'=>(xs.take i).contains k') m:=by
      obtain ⟨o,es,ep,tb,ho,rest⟩:=hS; exact ⟨o,es,ep,tb,hm.heap S _ hSw ho,rest⟩
    have hJ':ou s'.heap S led:=by
      obtain ⟨o,es,ep,tb,ho,rest⟩:=hJ; exact ⟨o,es,ep,tb,hm.heap S _ hSw ho,rest⟩
    have hkey:(PySem.strKind prog w).is (xs.getD i default) (.str (xs.getD i default) t)=true:=by first | (simp [PySem.strKind,Value.isStrOf]) | (simp [PySem.strKind,Value.isStr])
    refine wpAny_bind (wpAny_holding ?_); refine wpAny_holding ?_; refine wpAny_bind ((PySem.strKind prog w).pyHash (k:=xs.getD i default) hkey ?_); refine kC (s:={ s' with toks:=s'.toks+1 }) hS' hJ' hkey (by exact Gp hb hmi hlt) fun h' hsb hS2 hJ2=>?_
    have hSi:∃ m',m'≤i+1∧h'.SetOf (PySem.strKind prog w) S (fun k'=>(xs.take (i+1)).contains k') m':=by
      refine ⟨_,?_,PyProof.Rows.SetOf_congr hS2 (fun k'=>(gO xs i hlt k').symm) rfl⟩; split <;> omega
    refine wpAny_pure ⟨plainId_quiet PyProof.Rows.F.plain_set_update_loop _,ih (i+1) _ (by omega) hlt (W.frame _ s' _ _ hst' (Nat.le_succ _) fun b hb o e=>?_) hSi hJ2 fun s'' hm'' hS'' hJ''=>?_⟩
    · refine rl (hsb.2 b (fun h:b=S=>hSf (by rw [← h]; exact hb))) ?_; exact e
    refine hR s'' (Moved.trans W.gtrans ((hm.mono hsub).then_heap (Nat.le_succ _) fun b o hb e=>?_) hm'') hS'' hJ''; refine rl (hsb.2 b (fun h:b=S=>hb (by rw [h]; exact List.mem_cons_self))) ?_; exact e
end
section
variable {prog:Program} {w:World} {A:Around} {s:Shared}
theorem jP {E:Value→Shared→Prop} (a:Value) {Q₁:Value→Shared→Prop}
    (h:Q₁ (.ref s.heap.objs.size) { s with heap:=s.heap.push { cls:=.type "set",dict:=none,data:=.set #[] 0 (.fresh 0 0 (!w.params.followText "set-order")) } }) :
    codeAny (model prog w) A (.call (.builtin "set.__new__") ⟨[.type "set",a],[]⟩) (wants Q₁ E) s:=by
  refine rT ?_; show wpAny _ A.in1 (do checkBuiltinCall "set.__new__" ⟨[.type "set",a],[]⟩; again (.builtin "set.__new__" ⟨[.type "set",a],[]⟩)) _ _ s; refine wpAny_bind (wpAny_of_eq (PySem.F.newCall_set_1 a) (wpAny_pure ⟨plainId_quiet PySem.F.plain_set_new _,gZ PySem.F.entry_set_new ?_⟩)); refine rl (Around.under_plainId PySem.F.plain_set_new _) ?_; have hsub:=sub_set_self; obtain ⟨hp,g,d,tk,os⟩:=s
  wp_walk
  refine wpAny_askSetting (wpAny_pure ?_); simp only [newObj]; refine wpAny_bind (wpAny_alloc (wpAny_pure ?_)); exact wpAny_pure h
set_option maxRecDepth 100000 in
set_option maxHeartbeats 3200000 in
theorem k9 {l:Addr} {items:Array Value} {xs:List Str} {Q:Value→Shared→Prop} {E:Value→Shared→Prop}
    (hh:A.handled=none) (hl:s.heap.IsList l items) (hlen:items.size=xs.length) (hval:∀ (i:Nat) (v:Value),items[i]?=some v→∃ t,v = .str (xs.getD i default) t) (hb:xs.length+1 < scanBound)
    (h:∀ (h':Heap) (tk:Nat),(∃ m,h'.SetOf (PySem.strKind prog w) s.heap.objs.size (fun k'=>xs.contains k') m)→ou h' s.heap.objs.size (!w.params.followText "set-order") →
      (∀ b o,b < s.heap.objs.size→s.heap.get? b=some o→h'.get? b=some o)→Q (.ref s.heap.objs.size) { s with heap:=h',toks:=tk }) :
    wpAny (model prog w) A (call (.type "set") [.ref l]) Q E s:=by
  obtain ⟨c,tl,hmro⟩:=PySem.F.called_set.mro; have hmade:=PySem.F.called_set.made; have hsub:=PySem.F.called_set.sub; refine qa (rT ?_); refine wpAny_pure ⟨Code.quiet_builtin _ (by decide +kernel),gZ PySem.F.entry_type_call ?_⟩; refine rl (Around.under_plain (weight_type_call_type "set" [.ref l] []) rfl) ?_; have h1:=PySem.F.called_set.notType; have h2:=PySem.F.called_set.canCreate; have hct:=PySem.F.typeCall_set_1 (.ref l)
  repeat (any_goals (first | assumption | wp_step))
  refine codeAny_mono (jP (.ref l) (E:=E) (Q₁:=fun obj s₁=>∃ led:Bool,led=(!w.params.followText "set-order")∧obj = .ref s.heap.objs.size∧s₁ = { s with heap:=s.heap.push { cls:=.type "set",dict:=none,data:=.set #[] 0 (.fresh 0 0 led) } }) ⟨_,rfl,rfl,rfl⟩) fun r s₁ hr=>?_
  cases r with
  | error e=>exact hr
  | ok fl =>
    cases fl with
    | ret obj =>
      obtain ⟨led,hled,rfl,rfl⟩:=hr; have hS:(s.heap.push { cls:=.type "set",dict:=none,data:=.set #[] 0 (.fresh 0 0 led) }).get? s.heap.objs.size=some { cls:=.type "set",dict:=none,data:=.set #[] 0 (.fresh 0 0 led) }:=Heap.get?_push_size _ rfl; have hT:Shared.TypeIs { s with heap:=s.heap.push { cls:=.type "set",dict:=none,data:=.set #[] 0 (.fresh 0 0 led) } } (.ref s.heap.objs.size) "set" := ⟨_,hS,rfl⟩; have hli:=PySem.F.called_set.init.lookup; have hbi:=PySem.F.called_set.init.bind (.ref s.heap.objs.size)
      repeat (any_goals (first | assumption | wp_step))
      refine codeAny_mono (wW (R:=wants (fun r s₂=>r = .none∧∃ h' tk,s₂ = { s with heap:=h',toks:=tk } ∧
          (∃ m,h'.SetOf (PySem.strKind prog w) s.heap.objs.size (fun k'=>xs.contains k') m)∧ou h' s.heap.objs.size (!w.params.followText "set-order") ∧
          (∀ b o,b < s.heap.objs.size→s.heap.get? b=some o→h'.get? b=some o)) E) PySem.F.called_set.init.plain PySem.F.entry_set_init (check_set_init_1 hT ?_)) fun r₂ s₂ hr₂=>?_
      · obtain ⟨ol,hol,hcl,nl,hdl⟩:=hl
        obtain ⟨ocls,odict,odata,oslots⟩:=ol; simp only at hcl hdl; subst hcl; subst hdl; have hol':(s.heap.push { cls:=.type "set",dict:=none,data:=.set #[] 0 (.fresh 0 0 led) }).get? l=some { cls:=.type "list",dict:=odict,data:=.seq items nl,slots:=oslots }:=Heap.get?_push_of_some _ hol; have hsls:=PySem.F.sub_list_set; have hslf:=PySem.F.sub_list_frozenset; have hne:(Value.type "list" == Value.type "dict")=false:=by decide
        have hl1:(s.heap.push { cls:=.type "set",dict:=none,data:=.set #[] 0 (.fresh 0 0 led) }).IsList l items:=⟨_,hol',rfl,nl,rfl⟩; unfold Builtin.«set.__init__» noKeywords Builtin.Frozenset.updateFrom; generalize hPI:pyIter=PI
        wp_walk
        subst hPI; refine wpAny_pyIter_list hl1 ?_; refine wpAny_bind (wpAny_runValue ?_); have hlS:l < s.heap.objs.size:=Heap.lt_size hol; have hh3:A.in1.in1.in1.handled=none:=by simp [hh]
        have hneI:l≠(s.heap.push { cls:=.type "set",dict:=none,data:=.set #[] 0 (.fresh 0 0 led) }).objs.size:=by
          rw [Heap.size_push]; exact Nat.ne_of_lt (Nat.lt_succ_of_lt hlS)
        have hSf:s.heap.objs.size ∉ [(s.heap.push { cls:=.type "set",dict:=none,data:=.set #[] 0 (.fresh 0 0 led) }).objs.size,l]:=by
          rw [Heap.size_push]; simp only [List.mem_cons,List.mem_singleton,List.not_mem_nil,or_false,not_or]; exact ⟨Nat.ne_of_lt (Nat.lt_succ_self _),Nat.ne_of_gt hlS⟩
        have W0:=(Walks.list (prog:=prog) (w:=w) hh3 _ l hneI items).toS; rw [hlen] at W0
        refine lA (led:=led) W0 s.heap.objs.size hSf hval hb (xs.length - 0) 0 _ (by exact Cz) (Nat.zero_le _)
          ⟨⟨_,Heap.get?_push_size _ rfl,rfl,rfl⟩,(hl1.push _)⟩ ?hS0 ?hJ0 ?hR
        case hS0 =>
          have hget:((s.heap.push { cls:=.type "set",dict:=none,data:=.set #[] 0 (.fresh 0 0 led) }).push { cls:=.type "list_iterator",data:=.fields #[.ref l,.int 0 0] }).get? s.heap.objs.size
              = some { cls:=.type "set",dict:=none,data:=.set #[] 0 (.fresh 0 0 led) }:=Heap.get?_push_of_some _ hS
          exact ⟨0,Nat.le_refl _,PyProof.Rows.SetOf_congr ((PyProof.Rows.setObjOf_fresh (knd:=PySem.strKind prog w) led).setOf hget (by unfold scanBound; decide)) (fun _=>rfl) rfl⟩
        case hJ0 =>
          exact ⟨_,_,_,_,Heap.get?_push_of_some _ hS,rfl,rfl,fun z=>absurd z (by show ¬ 1≤0; decide)⟩
        case hR =>
          intro s' hm hS' hJ'; rw [hled] at hJ'; obtain ⟨h',g',d',tk',os'⟩:=s'; have eg:g'=s.gens:=hm.gens; have ed:d'=s.drawn:=hm.drawn; have eo:os'=s.os:=hm.os; subst eg; subst ed; subst eo; refine wpAny_pure ?_; refine wpAny_pure ⟨rfl,h',tk',rfl,hS',hJ',fun b o hb e=>?_⟩; have hb1:b≠s.heap.objs.size:=Nat.ne_of_lt hb
          have hb2:b≠(s.heap.push { cls:=.type "set",dict:=none,data:=.set #[] 0 (.fresh 0 0 led) }).objs.size:=by
            rw [Heap.size_push]; exact Nat.ne_of_lt (Nat.lt_succ_of_lt hb)
          exact hm.heap b o (by simp only [List.mem_cons,List.mem_singleton,List.not_mem_nil,or_false,not_or]; exact ⟨hb1,hb2⟩) (Heap.get?_push_of_some _ (Heap.get?_push_of_some _ e))
      cases r₂ with
      | error e=>exact hr₂
      | ok fl₂ =>
        cases fl₂ with
        | ret r =>
          obtain ⟨rfl,h',tk,rfl,hS',hJ',hk'⟩:=hr₂
          repeat (any_goals (first | assumption | wp_step))
          exact h _ _ hS' hJ' hk'
        | _=>exact hr₂.elim
    | _=>exact hr.elim
end
end Mine
set_option maxRecDepth 100000
namespace Mine
theorem slot_set_iter:Slot "set" "__iter__" "set.__iter__" :=
  .of (owner := "set") (n := "__iter__") (by rw [typeLookup_type,builtinLookup_eq_fast]; kernel_rfl) (by decide +kernel) (by decide +kernel) (by decide +kernel)
    (by first | exact .inl (by decide +kernel) | exact .inr (by decide +kernel)) (by rw [isSubtype_type]; kernel_rfl)
theorem owner_set:Manifest.owners.lookup (String.ofList ['t','e','s'].reverse)=some Manifest.sig_set:=by kernel_rfl
theorem lM (a:Value):argsOk "set.__iter__" ⟨[a],[]⟩:=by
  unfold argsOk; refine rl (signature?_of (id := "set.__iter__") (n:=['_','_','r','e','t','i','_','_']) (o:=['t','e','s']) (by kernel_rfl) owner_set) ?_; kernel_rfl
theorem kX:entryFor table "set.__iter__" = some Builtin.«frozenset.__iter__» :=
  entryFor_alias (id' := "frozenset.__iter__") (by kernel_rfl) (by first | rfl | decide +kernel | (unfold String.splitOn; simp +decide [String.splitOnAux])) (by decide +kernel) (by kernel_rfl)
theorem bX:Slot "set_iterator" "__next__" "set_iterator.__next__" :=
  .of (owner := "set_iterator") (n := "__next__") (by rw [typeLookup_type,builtinLookup_eq_fast]; kernel_rfl) (by decide +kernel) (by decide +kernel) (by decide +kernel)
    (by first | exact .inl (by decide +kernel) | exact .inr (by decide +kernel)) (by rw [isSubtype_type]; kernel_rfl)
theorem oR:Manifest.owners.lookup (String.ofList ['r','o','t','a','r','e','t','i','_','t','e','s'].reverse)=some Manifest.sig_set_iterator:=by kernel_rfl
theorem jQ (a:Value):argsOk "set_iterator.__next__" ⟨[a],[]⟩:=by
  unfold argsOk; refine rl (signature?_of (id := "set_iterator.__next__") (n:=['_','_','t','x','e','n','_','_']) (o:=['r','o','t','a','r','e','t','i','_','t','e','s']) (by kernel_rfl) oR) ?_; kernel_rfl
theorem ji:entryFor table "set_iterator.__next__" = some Builtin.«set_iterator.__next__»:=entryFor_of_tree (by kernel_rfl)
theorem gW {α:Type}:∀ {l:List α} {i:Nat} (h:i < l.length),(l[i]::l.eraseIdx i).Perm l
  | x::xs,0,h=>.refl _
  | x::xs,i+1,h=>by
    have:=gW (l:=xs) (i:=i) (by exact Nat.succ_lt_succ_iff.mp h); rw [List.eraseIdx_cons_succ,List.getElem_cons_succ]; exact (List.Perm.swap _ _ _).trans (.cons _ this)
theorem fW {α:Type} {M:Model} {A:Around} {E:Value→Shared→Prop}:∀ (n:Nat) (xs:List α) (s:Shared) (Q:List α→Shared→Prop),n=xs.length →
    (∀ ys dr,ys.Perm xs→Q ys { s with drawn:=dr })→wpAny M A (drawOrder n xs) Q E s
  | 0,xs,s,Q,h,hq=>by
    have:xs=[]:=List.eq_nil_of_length_eq_zero h.symm; subst this; exact wpAny_pure (hq [] s.drawn (.refl _))
  | n+1,[],s,Q,h,hq=>by cases h
  | n+1,x::xs,s,Q,h,hq=>by
    refine wpAny_bind ?_; have hlt:M.w.draws .order (s.drawn.get .order) % (x::xs).length < (x::xs).length:=Nat.mod_lt _ (by exact Nat.zero_lt_succ xs.length); intro Γ p hΓ; refine ⟨by exact Nat.ne_zero_of_lt hlt,?_⟩; generalize M.w.draws .order (s.drawn.get .order) % (x::xs).length=i at hlt; show wpAny M A (match (x::xs)[i]? with | some y=>do return y::(← drawOrder n ((x::xs).eraseIdx i)) | none=>unsupported "internal:drawOrder") Q E _; refine rl (List.getElem?_eq_getElem hlt:(x::xs)[i]?=some (x::xs)[i]) ?_; dsimp only; refine wpAny_bind (fW n _ _ _ (by refine rl List.length_eraseIdx (rl (if_pos hlt) ?_); exact Nat.eq_sub_of_add_eq h) fun ys dr hp=>?_); refine wpAny_pure (hq _ dr ((List.Perm.cons _ hp).trans ?_)); exact (gW hlt)
theorem jD {α:Type} (next:Nat→Nat):∀ (fuel k:Nat) (left:List α) (out:Array α),fuel=left.length→(pickOrder.go next fuel k left out).toList.Perm (out.toList++left)
  | 0,k,left,out,h=>by
    have:left=[]:=List.eq_nil_of_length_eq_zero h.symm; subst this; rw [List.append_nil]; exact .refl _
  | fuel+1,k,[],out,h=>by cases h
  | fuel+1,k,x::xs,out,h=>by
    show Array.toList (match (x::xs)[next k % (x::xs).length]? with | some y=>pickOrder.go next fuel (k+1) ((x::xs).eraseIdx (next k % (x::xs).length)) (out.push y) | none=>out) |>.Perm _; have hlt:next k % (x::xs).length < (x::xs).length:=Nat.mod_lt _ (by exact Nat.zero_lt_succ xs.length); generalize next k % (x::xs).length=i at hlt; rw [(List.getElem?_eq_getElem hlt:(x::xs)[i]?=some (x::xs)[i])]; refine (jD next fuel (k+1) _ _ (by rw [List.length_eraseIdx,if_pos hlt]; exact Nat.eq_sub_of_add_eq h)).trans ?_; rw [Array.toList_push,List.append_assoc]; exact List.Perm.append_left _ (gW hlt)
theorem kJ {α:Type} (next:Nat→Nat) (xs:Array α):(pickOrder next xs).toList.Perm xs.toList:=by
  have:=jD next xs.size 0 xs.toList #[] (by exact Array.size_eq_length_toList); assumption
end Mine
set_option maxRecDepth 100000
namespace Mine
noncomputable def cB (first:Value) (i:Nat) (a:Addr) (n ep:Nat):Obj:={ cls:=.type "set_iterator",data:=.fields #[first,rawInt (i:Nat),.ref a,rawInt (n:Nat),rawInt (ep:Nat)] }
inductive iW (w:World) (es:Array (Int × Value)) (ep:Nat) (t:SetTable) (a:Addr) (N:List Addr) (all:List Value) (i:Nat) (I:Addr) (h:Heap):Prop
  | text (hf:w.params.followText "set-order" = true) (ha:all=(pickOrder (w.params.setOrder a ep) es).toList.map (·.2)) (hI:h.get? I=some (cB (rawInt 0) i a es.size ep))
  | drawn (T:Addr) (ps:List Nat) (hT:h.get? T=some (bF (ps.map fun p=>rawInt (p:Nat)) 0)) (hN:T∈N) (hp:∀ p∈ps,p < es.size) (ha:all=ps.map fun p=>(es.getD p default).2) (hI:h.get? I=some (cB (.ref T) i a es.size ep))
  | one (hf:w.params.followText "set-order" = false) (sl:Nat) (hn:es.size=1) (ha:all=es.toList.map (·.2)) (h0:i=0→sl=0) (h1:1≤i→sl=t.place.getD 0 0+1) (hI:h.get? I=some (cB (rawInt (sl:Nat)) i a es.size ep))
variable {prog:Program} {w:World} {A:Around} {E:Value→Shared→Prop} {s:Shared} {es:Array (Int × Value)} {ep:Nat} {t:SetTable} {a I:Addr} {N:List Addr} {all:List Value} {i:Nat} {o:Obj}
theorem iW.keep {h h':Heap} (x:iW w es ep t a N all i I h) (hI:I∈N) (k:∀ b∈N,∀ o,h.get? b=some o→o.cls≠.type "frame" → h'.get? b=some o):iW w es ep t a N all i I h':=by
  cases x with
  | text hf ha e=>exact .text hf ha (k I hI _ e (by simp [cB]))
  | drawn T ps hT hN hp ha e=>exact .drawn T ps (k T hN _ hT qP) hN hp ha (k I hI _ e (by simp [cB]))
  | one hf sl hn ha h0 h1 e=>exact .one hf sl hn ha h0 h1 (k I hI _ e (by simp [cB]))
theorem iW.obj {h:Heap} (x:iW w es ep t a N all i I h):∃ f,h.get? I=some (cB f i a es.size ep):=by
  cases x with
  | text hf ha e=>exact ⟨_,e⟩
  | drawn T ps hT hN hp ha e=>exact ⟨_,e⟩
  | one hf sl hn ha h0 h1 e=>exact ⟨_,e⟩
theorem qJ {Q:Value→Shared→Prop} (ho:s.heap.get? a=some o) (hc:o.cls = .type "set") (hd:o.data = .set es ep t) (hf:t.fits es.size=true) (hT:qj (!w.params.followText "set-order") es.size t) (h1:1≤es.size)  (hz:es.size≤sizeLine)
    (h:∀ I N all s',(∀ b∈N,s.heap.objs.size≤b∧b < s'.heap.objs.size)→I∈N→s.heap.objs.size≤s'.heap.objs.size→(∀ b o,s.heap.get? b=some o→s'.heap.get? b=some o)→s'.toks=s.toks→s'.gens=s.gens→s'.os=s.os→all.Perm (es.toList.map (·.2)) →
      iW w es ep t a N all 0 I s'.heap→Q (.ref I) s'):wpAny (model prog w) A (pyIter (.ref a)) Q E s:=by
  have hty:s.TypeIs (.ref a) "set" := ⟨o,ho,hc⟩; refine wpAny_pyIter_slot hty slot_set_iter (wpAny_call_entry slot_set_iter hty kX ?_ (lM _)); unfold Builtin.«frozenset.__iter__»; refine wpAny_bind (wpAny_of_eq (a:=a) rfl ?_); unfold Builtin.Frozenset.sizeOf setEntries; refine wpAny_bind (wpAny_bind (wpAny_bind (wpAny_setState_of ho hd hf (wpAny_pure (wpAny_pure ?_))))); dsimp only; unfold setDrawn setsByText; refine wpAny_bind (wpAny_bind (wpAny_setState_of ho hd hf ?_)); refine wpAny_bind (wpAny_bind (wpAny_askSetting (wpAny_pure ?_))); dsimp only; refine wpAny_pure ?_
  have hepoch:∀ {s':Shared} {Q':Nat→Shared→Prop},s'.heap.get? a=some o→Q' ep s'→wpAny (model prog w) A.in1 (setEpoch a) Q' (fun e s'=>E e s') s':=fun hg hq=>by
    unfold setEpoch; exact wpAny_bind (wpAny_setState_of hg hd hf (wpAny_pure hq))
  cases hft:w.params.followText "set-order" with
  | true =>
    show wpAny _ _ (if (!w.params.followText "set-order" && _)=true then _ else _) _ _ _; rw [hft]; simp only [Bool.not_true,Bool.false_and,Bool.false_eq_true,if_false]; refine wpAny_bind (wpAny_pure (wpAny_bind (hepoch ho ?_))); refine wpAny_bind (wpAny_newObj_type (wpAny_pure ⟨_,rfl, "set_iterator",_,⟨_,Heap.get?_push_size _ rfl,rfl⟩,bX.lookup,?_⟩)); refine h _ [s.heap.objs.size] ((pickOrder (w.params.setOrder a ep) es).toList.map (·.2)) _ (fun b hb=>?_) (.head _) (by rw [Heap.size_push]; exact x9) (fun b o e=>Heap.get?_push_of_some _ e) rfl rfl rfl ((kJ _ _).map _) (.text hft rfl (Heap.get?_push_size _ rfl)); rw [List.mem_singleton.mp hb]; exact ⟨Nat.le_refl _,by rw [Heap.size_push]; exact Nat.lt_add_one _⟩
  | false =>
    show wpAny _ _ (if (!w.params.followText "set-order" && (!t.plain && decide (es.size > 1)))=true then _ else _) _ _ _; rw [hft,(hT.2 h1)]
    by_cases hgt:es.size > 1
    · rw [if_pos (by simp [hgt])]
      refine wpAny_bind (fW es.size (List.range es.size) s _ (by simp) fun ys dr hp=>?_); refine wpAny_bind (wpAny_newObj_type ?_ (by show (List.toArray _).size≤sizeLine; rw [List.size_toArray,List.length_map,hp.length_eq,List.length_range]; exact hz)); refine wpAny_bind (hepoch (Heap.get?_push_of_some _ ho) ?_); refine wpAny_bind (wpAny_newObj_type (wpAny_pure ⟨_,rfl, "set_iterator",_,⟨_,Heap.get?_push_size _ rfl,rfl⟩,bX.lookup,?_⟩)); refine h _ [(s.heap.push (bF (ys.map fun p=>rawInt (p:Nat)) 0)).objs.size,s.heap.objs.size] (ys.map fun p=>(es.getD p default).2) _ (fun b hb=>?_) (.head _) ?_ (fun b o e=>Heap.get?_push_of_some _ (Heap.get?_push_of_some _ e)) rfl rfl rfl ?_ (.drawn s.heap.objs.size ys ?_ (.tail _ (.head _)) ?_ rfl (Heap.get?_push_size _ rfl))
      · show _∧_ < ((s.heap.push _).push _).objs.size
        rw [Heap.size_push,Heap.size_push]; rcases List.mem_cons.mp hb with h | h
        · rw [h,Heap.size_push]; exact Cy
        rw [List.mem_singleton.mp h]; exact Cw
      · show _≤((s.heap.push _).push _).objs.size
        rw [Heap.size_push,Heap.size_push]; exact Cv
      · refine (hp.map _).trans ?_
        have:(List.range es.size).map (fun p=>(es.getD p default).2)=es.toList.map (·.2):=by
          refine List.ext_getElem (by simp) fun n h1 h2=>?_; simp at h1; simp [h1]
        rw [this]
      · exact Heap.get?_push_of_some _ (Heap.get?_push_size _ rfl)
      intro p hpm; have:=hp.mem_iff.mp hpm
      simpa using this
    refine rl (if_neg (by simp [hgt])) ?_; refine wpAny_bind (wpAny_pure (wpAny_bind (hepoch ho ?_))); refine wpAny_bind (wpAny_newObj_type (wpAny_pure ⟨_,rfl, "set_iterator",_,⟨_,Heap.get?_push_size _ rfl,rfl⟩,bX.lookup,?_⟩)); refine h _ [s.heap.objs.size] (es.toList.map (·.2)) _ (fun b hb=>?_) (.head _) (by rw [Heap.size_push]; exact x9) (fun b o e=>Heap.get?_push_of_some _ e) rfl rfl rfl (.refl _) (.one hft 0 (by exact Cu hgt h1) rfl (fun _=>rfl) (fun h=>absurd h (by exact Ct h)) (Heap.get?_push_size _ rfl)); refine rl (List.mem_singleton.mp hb) ?_; exact ⟨Nat.le_refl _,by rw [Heap.size_push]; exact Nat.lt_add_one _⟩
end Mine
set_option maxRecDepth 100000
namespace Mine
variable {prog:Program} {w:World} {A:Around} {E:Value→Shared→Prop} {s:Shared} {es:Array (Int × Value)} {ep:Nat} {t:SetTable} {a I:Addr} {N:List Addr} {all:List Value} {i:Nat} {o:Obj}
theorem rD (p:Nat):SetTable.below #[p] 0=0:=by
  rfl
theorem rC (p:Nat):SetTable.below #[p] (p+1)=1:=by
  show SetTable.below.go #[p] (p+1) 1 0 1=1; exact (if_pos (Nat.lt_succ_self p):(if p < p+1 then 1 else 0)=1)
theorem mR {g sl:Nat} {Q:Option (Value × Nat)→Shared→Prop} (ho:s.heap.get? a=some o) (hd:o.data = .set es ep t) (hf:t.fits es.size=true) (hft:w.params.followText "set-order" = true)
    (h:Q (((pickOrder (w.params.setOrder a ep) es)[g]?).map fun e=>(e.2,sl)) s):wpAny (model prog w) A (setNext a sl g ep) Q E s:=by
  refine wpAny_bind (wpAny_setState_of ho hd hf ?_); refine wpAny_bind (wpAny_bind (wpAny_askSetting (wpAny_pure ?_))); refine uL hft ?_; refine uM (by simp) ?_; refine wpAny_bind (wpAny_bind (wpAny_setState_of ho hd hf ?_)); refine wpAny_bind (wpAny_bind (wpAny_askSetting (wpAny_pure ?_))); refine uL hft ?_; refine wpAny_bind (wpAny_askSetting (wpAny_pure (wpAny_pure h)))
theorem oG {g sl:Nat} {Q:Option (Value × Nat)→Shared→Prop} (ho:s.heap.get? a=some o) (hd:o.data = .set es ep t) (hf:t.fits es.size=true) (hft:w.params.followText "set-order" = false) (h1:es.size=1) (hl:t.led=true)
    (h:Q (match es[SetTable.below t.place sl]?,t.place[SetTable.below t.place sl]? with | some (_,x),some j=>some (x,j+1) | _,_=>none) s):wpAny (model prog w) A (setNext a sl g ep) Q E s:=by
  refine wpAny_bind (wpAny_setState_of ho hd hf ?_); refine wpAny_bind (wpAny_bind (wpAny_askSetting (wpAny_pure ?_))); show wpAny _ _ (if w.params.followText "set-order" = true then _ else _) _ _ _; refine rl (if_neg (by rw [hft]; exact Bool.false_ne_true)) ?_; show wpAny _ _ (if (!t.plain && decide (es.size > 1))=true then _ else _) _ _ _; refine rl (if_neg (by simp [h1])) ?_; refine wpAny_bind (m:=(if (!t.led && !es.isEmpty)=true then unsupported "set:maker-not-led" else pure PUnit.unit)) ?_; refine uM (by simp [hl]) ?_; exact wpAny_pure (wpAny_pure h)
theorem kh {Q:Option Value→Shared→Prop} {h₀:Heap} (hh:A.handled=none) (hk:Heap.ExtBut I h₀ s.heap) (hQ:∀ h',Heap.ExtBut I h₀ h'→Q none { s with heap:=h' }) :
    wpAny (model prog w) A.in1 (do let e ← newExc (.type "StopIteration") []; raiseNew e:Sem Fin) (fun fin s'=>∃ v,fin=Fin.done (Flow.ret v)∧wpAny (model prog w) A (pure (some v)) Q E s')
      (fun e s'=>wpAny (model prog w) A (do let b ← isInstance e (Value.type "StopIteration"); if b=true then pure none else throw e) Q E s') s:=by
  refine wpAny_bind ?_; simp only [newExc,newTuple]; refine wpAny_bind (wpAny_newObj_type ?_ (by size_fits)); refine wpAny_bind (m:=firstArgMember _ _) (wpAny_of_eq (a:=Value.none) (by first | rfl | (simp only [firstArgMember]; rfl)) ?_); refine wpAny_newObj_type ?_ (by size_fits); refine wpAny_bind (wpAny_handled ?_); refine rl (show A.in1.handled=none from hh) ?_; refine wpAny_bind (wpAny_pure (wpAny_throw ?_)); refine wpAny_bind (wpAny_isInstance (T := "StopIteration") (b:=true) ⟨_,Heap.get?_push_size _ rfl,rfl⟩ isSubtype_stop ?_); exact wpAny_pure (hQ _ ((hk.push _).push _))
theorem qI {Q:Option Value→Shared→Prop} (hh:A.handled=none) (ho:s.heap.get? a=some o) (hd:o.data = .set es ep t) (hf:t.fits es.size=true) (hT:qj (!w.params.followText "set-order") es.size t) (hI:I∈N) (hne:∀ T∈N,∀ o,s.heap.get? T=some o→o.cls = .type "tuple" → T≠I) (hit:iW w es ep t a N all i I s.heap)
    (hQ:∀ x,all[i]?=some x→∀ h',iW w es ep t a N all (i+1) I h'→Heap.SameBut I s.heap h'→Q (some x) { s with heap:=h' })
    (hE:all[i]?=none→∀ h',Heap.ExtBut I s.heap h'→Q none { s with heap:=h' }):wpAny (model prog w) A (pyNext (.ref I)) Q E s:=by
  obtain ⟨f,hfo⟩:=hit.obj; have hty:s.TypeIs (.ref I) "set_iterator" := ⟨_,hfo,rfl⟩
  refine wpAny_bind (wpAny_attempt (wpAny_callSpecial?_slot (name:=Str.ofString "__next__") hty bX
    (wpAny_call_entry bX hty ji ?_ (jQ _))))
  refine wpAny_bind (wpAny_of_eq (a:=(Value.ref I,[])) rfl ?_)
  have up1:∀ {h:Heap} {f f':Value} {i:Nat},h.get? I=some (cB f i a es.size ep)→∀ k v,(h.update I (Obj.mapFields (·.setIfInBounds k v))).get? I=some (Obj.mapFields (·.setIfInBounds k v) (cB f i a es.size ep)):=fun e k v =>
    Heap.get?_update_self _ e (Obj.isFreed_of_fields (Obj.data_mapFields rfl _))
  cases hit with
  | text hft ha hfo =>
    refine wpAny_bind (wpAny_fieldsOf hfo rfl ?_); refine wpAny_bind (wpAny_bind (wpAny_setState_of ho hd hf (wpAny_pure ?_))); refine uM (by simp) ?_; rw [Int.toNat_natCast,Int.toNat_natCast]; refine wpAny_bind (mR ho hd hf hft ?_); have hmap:all[i]?=((pickOrder (w.params.setOrder a ep) es)[i]?).map (·.2):=by refine rl ha ?_; simp
    cases hp:(pickOrder (w.params.setOrder a ep) es)[i]? with
    | some e =>
      rw [hp] at hmap; refine wpAny_bind (wpAny_setField hfo rfl (by simp) ?_); refine wpAny_bind (wpAny_setField (up1 (f':=.none) hfo _ _) (Obj.data_mapFields rfl _) (by simp) (wpAny_pure ⟨e.2,rfl,wpAny_pure (hQ e.2 hmap _ (.text hft ha ?_) ?_)⟩))
      · exact Heap.get?_update_self _ (up1 (f':=.none) hfo _ _) (Obj.isFreed_of_fields (Obj.data_mapFields (Obj.data_mapFields rfl _) _))
      exact (Heap.SameBut.update ..).trans (Heap.SameBut.update ..)
    | none =>
      rw [hp] at hmap; refine wpAny_bind (wpAny_setField hfo rfl (by simp) ?_); exact kh hh (h₀:=s.heap) (Heap.SameBut.update ..).extBut (hE hmap)
  | drawn T ps hTt hTN hps ha hfo =>
    refine wpAny_bind (wpAny_fieldsOf hfo rfl ?_); refine wpAny_bind (wpAny_bind (wpAny_setState_of ho hd hf (wpAny_pure ?_))); refine uM (by simp) ?_; rw [Int.toNat_natCast,Int.toNat_natCast]; refine wpAny_bind (wpAny_seqItems hTt rfl ?_); dsimp only; have hmap:all[i]?=(ps[i]?).map fun p=>(es.getD p default).2:=by exact rl ha (rl List.getElem?_map rfl)
    refine rl (by simp:(ps.map fun p=>rawInt (p:Nat)).toArray[i]?=(ps[i]?).map fun p=>rawInt (p:Nat)) ?_
    cases hp:ps[i]? with
    | some p =>
      rw [hp] at hmap; dsimp only [Option.map,rawInt]; rw [Int.toNat_natCast]; have hlt:=hps p (List.mem_of_getElem? hp); refine wpAny_bind (wpAny_bind (wpAny_setState_of ho hd hf ?_)); dsimp only; refine rl (if_neg (by simp)) ?_; refine rl (Array.getElem?_eq_getElem hlt:es[p]?=some es[p]) ?_; rw [Option.map_some,(by simp [Array.getD,hlt]:es.getD p default=es[p])] at hmap; refine wpAny_pure ?_; refine wpAny_bind (wpAny_setField hfo rfl (by simp) (wpAny_pure ⟨_,rfl,wpAny_pure (hQ _ hmap _ (.drawn T ps ?_ hTN hps ha ?_) (Heap.SameBut.update ..))⟩))
      · exact ((Heap.SameBut.update ..).2 T (hne T hTN _ hTt rfl:T≠I)).trans hTt
      exact up1 (f':=.none) hfo _ _
    | none =>
      rw [hp] at hmap; dsimp only [Option.map]; refine wpAny_bind (wpAny_setField hfo rfl (by simp) ?_); refine wpAny_bind (wpAny_setField (up1 (f':=.none) hfo _ _) (Obj.data_mapFields rfl _) (by simp) ?_); exact kh hh (h₀:=s.heap) ((Heap.SameBut.update ..).trans (Heap.SameBut.update ..)).extBut (hE hmap)
  | one hft sl hn ha h0 h1 hfo =>
    have hled:t.led=true:=by refine rl hT.1 (rl hft ?_); rfl
    have hps:t.place.size=1:=by
      have:=(Bool.and_eq_true_iff.mp hf).1; have:t.place.size=es.size:=by simpa using this
      exact Cs this hn
    obtain ⟨p,hp⟩:∃ p,t.place=#[p]:=by
      refine ⟨t.place.getD 0 0,?_⟩; apply Array.ext
      · simp [hps]
      intro j h1 h2; have:j=0:=by rw [hps] at h1; exact Nat.lt_one_iff.mp h1
      subst this; simp [Array.getD,hps]
    obtain ⟨e,he⟩:∃ e,es=#[e]:=by
      refine ⟨es.getD 0 default,?_⟩; apply Array.ext
      · simp [hn]
      intro j h1 h2; have:j=0:=by rw [hn] at h1; exact Nat.lt_one_iff.mp h1
      subst this; simp [Array.getD,hn]
    refine wpAny_bind (wpAny_fieldsOf hfo rfl ?_); dsimp only [rawInt]; unfold setEntries; refine wpAny_bind (wpAny_bind (wpAny_setState_of ho hd hf (wpAny_pure ?_))); dsimp only; rw [if_neg (by simp)]; rw [Int.toNat_natCast,Int.toNat_natCast,Int.toNat_natCast]; refine wpAny_bind (oG ho hd hf hft hn hled ?_); subst he; rw [hp] at h1 ⊢
    cases i with
    | zero =>
      obtain rfl:=h0 rfl; rw [rD]; show wpAny _ _ (do setField (Value.ref I) 0 (Value.int ((p+1:Nat):Int) 0); setField (Value.ref I) 1 (Value.int (((0:Nat):Int)+1) 0); ret e.2) _ _ _; refine wpAny_bind (wpAny_setField hfo rfl (by simp) ?_); refine wpAny_bind (wpAny_setField (up1 (f':=.none) hfo _ _) (Obj.data_mapFields rfl _) (by simp) (wpAny_pure ⟨e.2,rfl,wpAny_pure (hQ e.2 (by refine rl ha ?_; rfl) _ (.one hft (p+1) hn ha (fun h=>by cases h) (fun _=>by refine rl hp ?_; rfl) ?_) ?_)⟩))
      · exact Heap.get?_update_self _ (up1 (f':=.none) hfo _ _) (Obj.isFreed_of_fields (Obj.data_mapFields (Obj.data_mapFields rfl _) _))
      exact (Heap.SameBut.update ..).trans (Heap.SameBut.update ..)
    | succ i =>
      obtain rfl:=h1 (by exact Cr); rw [show (#[p]:Array Nat).getD 0 0=p from rfl,rC]; show wpAny _ _ (do setField (Value.ref I) 2 Value.none; let e ← newExc (.type "StopIteration") []; raiseNew e) _ _ _; refine wpAny_bind (wpAny_setField hfo rfl (by simp) ?_); exact kh hh (h₀:=s.heap) (Heap.SameBut.update ..).extBut (hE (by refine rl ha ?_; simp))
end Mine
namespace Mine
inductive gC (prog:Program) (w:World) (o:Obj) (xs:List Str):Prop
  | mk (hx:o.ExactSet) (es:Array (Int × Value)) (ep:Nat) (t:SetTable) (hd:o.data = .set es ep t) (hel:ElemsOf (PySem.strKind prog w) es.toList) (hmem:∀ k,xs.contains k=true↔∃ e∈es.toList,(PySem.strKind prog w).is k e.2=true) (hb:es.size < scanBound) (hf:t.fits es.size=true) (hT:qj (!w.params.followText "set-order") es.size t)
theorem gC.plain {prog:Program} {w:World} {o:Obj} {xs:List Str} (x:gC prog w o xs):oq prog w o xs:=by
  obtain ⟨a,es,ep,t,b,c,d,e,f,_⟩:=x; exact ⟨a,es,ep,t,b,c,d,e,f⟩
theorem tU {prog:Program} {w:World} {es:List (Int × Value)} {xs:List Str} {all:List Value} (hel:ElemsOf (PySem.strKind prog w) es) (hmem:∀ k,xs.contains k=true↔∃ e∈es,(PySem.strKind prog w).is k e.2=true) (hperm:all.Perm (es.map (·.2))) :
    ∃ l:List (Str × Tok),all=strValues l∧∀ k,k∈l.map (·.1)↔k∈xs:=by
  have hstr:∀ v∈all,∃ k u,v = .str k u∧k∈xs:=fun v hv=>by
    obtain ⟨e,he,rfl⟩:=List.mem_map.mp (hperm.mem_iff.mp hv); obtain ⟨⟨k,hk,_⟩,_⟩:=hel e he; obtain ⟨u,hu⟩:=Value.isStrOf_shape hk; exact ⟨k,u,hu,by simpa using (hmem k).mpr ⟨e,he,hk⟩⟩
  obtain ⟨l,hl⟩:∃ l:List (Str × Tok),all=strValues l:=by
    clear hperm
    induction all with
    | nil=>exact ⟨[],rfl⟩
    | cons v all ih =>
      obtain ⟨k,u,rfl,_⟩:=hstr v (.head _); obtain ⟨l,rfl⟩:=ih fun v hv=>hstr v (.tail _ hv); exact ⟨(k,u)::l,rfl⟩
  refine ⟨l,hl,fun k=>⟨fun hk=>?_,fun hk=>?_⟩⟩
  · obtain ⟨p,hp,rfl⟩:=List.mem_map.mp hk
    obtain ⟨k',u,e,hk'⟩:=hstr (.str p.1 p.2) (by refine rl hl ?_; exact List.mem_map.mpr ⟨p,hp,rfl⟩); cases e; exact hk'
  obtain ⟨e,he,hke⟩:=(hmem k).mp (by simpa using hk); obtain ⟨u,hu⟩:=Value.isStrOf_shape hke; have:Value.str k u∈all:=hperm.mem_iff.mpr (List.mem_map.mpr ⟨e,he,hu⟩); rw [hl] at this; obtain ⟨p,hp,e'⟩:=List.mem_map.mp this; cases e'; exact List.mem_map.mpr ⟨p,hp,rfl⟩
section
variable {C:Cx} {d:Nat} {A:Around} {env:Env} {ρ:Loc} {H:List O} {ι:Ad} {X:List Addr} {s:Shared}
theorem EX.Ax {t iter:Expr} {b:List Stmt} {pos:Pos} {Q:Fl→Loc→List O→Prop} (hs:∀ x,foldedSetIterable iter env x=pure x)
    (h:EV C d env ρ H iter fun x H'=>∃ o xs,x = .imm o∧gC C.prog C.w o xs∧xs≠[]∧(∀ x∈xs,x.length≤sizeLine)∧∀ all:List Str,(∀ k,k∈all↔k∈xs)→FT C d env .none (all.map .str) t b Q (all.map .str) ρ H'):EX C d env ρ H (.For t iter b [] pos) Q:=fun A s ι X S=>by
  refine wpAny_For (aC (h A s ι X S) (fun v s₁ x H₁ ι₁ q3_ S₁ v₁ g₁=>?_) zz) hs; obtain ⟨o,xs,rfl,sj,hxs,hxl,hft⟩:=q3_; obtain ⟨a,rfl,haX,haι,hao,hac⟩:=id v₁.dU; obtain ⟨hex,es,ep,tb,hd,hel,hmem,hb,hf,hT⟩:=id sj
  have h1:1≤es.size:=by
    cases xs with
    | nil=>exact absurd rfl hxs
    | cons x xs =>
      obtain ⟨e,he,_⟩:=(hmem x).mp (by exact List.elem_cons_self); have:=List.length_pos_of_mem he; rw [Array.length_toList] at this; exact Cm this
  refine qJ hao hex.1 hd hf hT h1 (by have:sizeLine=16777216:=rfl; unfold scanBound at hb; exact Ck h1 hb this) fun I N all s₂ hN hIN hsz hkeep htok hgen hos hperm hit=>?_; have x2:Ext C.B [] s₁ s₂:=.of_keep hgen hos hsz (fun b o e _=>hkeep b o e); have S₂:St C d A env ρ H₁ ι₁ (N++X) s₂:=S₁.widen x2 (by refine rl htok ?_; exact S₁.toks) hN
  have v₂:VR s₂.heap ι₁ (N++X) (.imm o) (.ref a):=by
    refine VR.gr (.aB (x2.mono bu):Gr C.B ι₁ s₁ ι₁ s₂) (VR.aR (fun a ha=>?_) v₁); rcases List.mem_append.mp ha with h | h
    · exact .inr (hN a h).1
    exact .inl h
  obtain ⟨l,rfl,hks⟩:=tU hel hmem hperm
  refine EX.vU (T:=fun ι' i h=>VR h ι' (N++X) (.imm o) (.ref a)∧iW C.w es ep tb a N (strValues l) i I h) S hIN (fun b hb=>Nat.le_trans g₁.ext.size (hN b hb).1) (fun h=>?_) (fun {i ρ' H' ι' s'} hi ft' S' ha'=>?_)
    (fun ha g h1 h2 h3=>⟨VR.Gy ha.1 g h3,ha.2.keep hIN fun b hb o e hc=>g.at (h1 b hb) (h2 b hb) e hc⟩) (hft (l.map (·.1)) hks) S₂ ⟨v₂,hit⟩ (g₁.e.less (Y:=[]) x2 bu)
  · obtain ⟨f,hf⟩:=h.2.obj
    exact ⟨_,hf,⟨_,rfl⟩,.inr (.inr (.inr (.inr rfl)))⟩
  obtain ⟨a',e',_,_,hao',_⟩:=id ha'.1.dU; cases e'; obtain ⟨fI,hoI⟩:=ha'.2.obj; have hYX:∀ a∈[I],a∈br ι' ∨ a∈N++X:=fun a h=>by refine rl (List.mem_singleton.mp h) ?_; exact .inr (List.mem_append_left _ hIN)
  have hne:∀ T∈N,∀ o,s'.heap.get? T=some o→o.cls = .type "tuple" → T≠I:=fun T _ o e hc hTI=>by
    subst hTI; rw [hoI] at e; cases e; simp [cB] at hc
  refine bI (qI (prog:=C.prog) S'.room.handled hao' hd hf hT hIN hne ha'.2 (fun x hx h' hit' hs' _ _ ht=>?_) (fun hx h' hs' hz _ ht=>?_))
  · have x3:Ext C.B [I] s' { s' with heap:=h' }:=Ext.gI (t:=s'.toks) hs'
    unfold strValues at hx; rw [List.getElem?_map] at hx
    cases hli:l[i]? with
    | none=>rw [hli] at hx; cases hx
    | some p =>
      rw [hli] at hx; cases hx; exact .item _ (.str p.1) rfl (by refine rl List.getElem?_map (rl List.getElem?_map (rl hli ?_)); rfl) x3 ht ⟨VR.eF aW x3 hYX ha'.1,hit'⟩ (.eL (hxl p.1 ((hks p.1).mp (List.mem_map.mpr ⟨p,List.mem_of_getElem? hli,rfl⟩))))
  have x3:Ext C.B [I] s' { s' with heap:=h' }:=.of_keep rfl rfl hz fun b o e hb=>hs' b o (fun q=>hb (by refine rl q ?_; exact .head _)) e; exact .stop rfl (Nat.le_antisymm hi (by refine rl (by simp [strValues]:((l.map (·.1)).map D.str).length=(strValues l).length) ?_; exact List.getElem?_eq_none_iff.mp hx)) x3 ht
theorem aj.F6 {Q:D→List O→Prop} {xs:List Str} (hb:xs.length+1 < scanBound) (hq:∀ o,gC C.prog C.w o xs→Q (.imm o) H):aj C d H (.type "set") [.list (xs.map .str)] Q:=fun A env ρ s ι X vs S hv=>AM S <| by
  obtain ⟨v,rfl,hw⟩:=hv.bL; obtain ⟨a,us,n,rfl,_,_,e,hl,r⟩:=hw.bx; obtain ⟨l,rfl,hx⟩:=r.strs; refine k9 (xs:=xs) S.room.handled ⟨_,e,rfl,n,rfl⟩ (by simp [strValues,(by rw [← hx,List.length_map]:l.length=xs.length)]) (fun i v hv=>?_) hb fun h' tk hS hJ hk hs ht=>?_
  · have hv:(strValues l)[i]?=some v:=by simpa using hv
    unfold strValues at hv; rw [List.getElem?_map] at hv
    cases hi:l[i]? with
    | none=>rw [hi] at hv; cases hv
    | some p =>
      rw [hi] at hv; cases hv; refine ⟨p.2,?_⟩; refine rr hx (rl List.getD_eq_getElem?_getD (rl List.getElem?_map (rl hi ?_))); rfl
  obtain ⟨m,o,es,ep,t,ho,hex,hd,he,hm,hbb,hf,_⟩:=hS; obtain ⟨o',es',ep',t',ho',hd',hT⟩:=hJ; rw [ho] at ho'; cases ho'; rw [hd] at hd'; cases hd'; have hc:o.cls≠.type "frame" := by refine rl hex.1 ?_; simp
  exact PR.quiet S (.kept hs fun b o e=>hk b o (Heap.lt_size e) e) (.lF S.b3.1 S.b3.2 ho hc (fun _ _ _ h=>by rw [hd] at h; cases h)) (hq o ⟨hex,es,ep,t,hd,he,hm,hbb,hf,hT⟩) ht
end
section
variable {C:Cx} {d:Nat} {Q:D→List O→Prop}
noncomputable def dO:List Nat:=[60,115,116,114,105,110,103,62]
theorem pC (W:WF C) {ts:List (List Nat)} (hn:ts≠[]) (hl:ts.length≤100)
    (hq:∀ o,gC C.prog C.w o (ts.map T)→Q (.obj 0) [.inst 137 [("_mods",.imm o),("_dirs",.list []),("_ignore",.obj 1)],.dict (fT [(dO,1)])]):aj C (d+3) [] (.ref 137) [.list (aq ts)] Q:=by
  refine aZ.plain (aZ.make W.ok W.nj W.As W.yu ?_); refine aZ.yE (ds:=[("self",.obj 0),("modules",.list (aq ts)),("dirs",.none)]) W.ok W.Az (by kernel_rfl) (by kernel_rfl) (by kernel_rfl) ?_ (fun q cd L=>by kernel_rfl) fun q cd L=>?_
  · intro name qual kwd doc pm ann cd ct vs ks s ι X hb hv hk hkv
    obtain ⟨v1,v2,rfl,w1,w2⟩:=hv.cD; have:ks=[]:=by cases ks with | nil=>rfl | cons=>cases hk
    subst this; exact ⟨[("self",v1),("modules",v2),("dirs",.none)],BindsTo.of_defaults rfl (hb _ _ W.yU) rfl rfl rfl,rfl,.aH w1 (.aH w2 (.aH .none_ .bJ))⟩
  refine aa.cons ?_; refine EX.setAttr (k:=0) (cl:=137) (fs:=[]) W.ok W.dh W.qY (ah rfl) ?_; refine EV.jI ?_; refine TV.not (TV.plain ?_ (fun _=>rfl)); refine EV.nm (.list (aq ts)) ?_ ?_ ?_
  · kernel_rfl
  · kernel_rfl
  refine TR.plain rfl ?_; refine rl (by cases ts with | nil=>exact absurd rfl hn | cons=>rfl:(aq ts).isEmpty=false) ?_; refine EV.bS W.ok W.Fj .type ?_ ?_
  · kernel_rfl
  refine az.c ?_; refine EV.nm (.list (aq ts)) ?_ ?_ ?_
  · kernel_rfl
  · kernel_rfl
  refine az.n ?_; refine rl (show aq ts=(ts.map T).map D.str by unfold aq; rw [List.map_map]; rfl) ?_; refine aj.F6 ?_ fun o ho=>?_
  · rw [List.length_map]; unfold scanBound; exact DZ hl
  refine EV.nm (.obj 0) ?_ ?_ ?_
  · kernel_rfl
  · kernel_rfl
  refine ⟨rfl,?_,?_,?_⟩
  · kernel_rfl
  · show 0≤900; decide
  refine aa.cons ?_; refine EX.setAttr (k:=0) (cl:=137) (fs:=[("_mods",.imm o)]) W.ok W.dh W.v9 ?_ ?_
  · exact ah (by kernel_rfl)
  refine EV.jI ?_; refine TV.not (TV.plain ?_ (fun _=>rfl)); refine EV.nm (.none) ?_ ?_ ?_
  · kernel_rfl
  · kernel_rfl
  refine TR.plain rfl ?_; refine EV.list ?_ ?_
  · kernel_rfl
  refine az.n ⟨by decide,?_⟩; refine EV.nm (.obj 0) ?_ ?_ ?_
  · kernel_rfl
  · kernel_rfl
  refine ⟨rfl,?_,?_,?_⟩
  · kernel_rfl
  · show 1≤900; decide
  refine aa.cons ?_; refine EX.setAttr (k:=0) (cl:=137) (fs:=[("_mods",.imm o),("_dirs",.list [])]) W.ok W.dh W.jJ ?_ ?_
  · exact ah (by kernel_rfl)
  refine EV.zC ?_ ?_
  · decide
  refine EV.nm (.obj 0) ?_ ?_ ?_
  · kernel_rfl
  · kernel_rfl
  refine ⟨rfl,?_,?_,?_⟩
  · kernel_rfl
  · show 2≤900; decide
  refine aa.nil ⟨rfl,?_⟩; exact hq o ho
end
end Mine
set_option maxRecDepth 100000
namespace Mine
theorem u0:∀ c,c < 256→cH c=decide (c∈cj):=by decide +kernel
theorem tV:∀ c∈cj,c < 256:=by decide +kernel
theorem tL {c:Nat} (h:256≤c):Sre.isWord c=false:=by
  unfold Sre.isWord Sre.isDigit; have h3:(c==95)=false:=by rw [beq_eq_false_iff_ne]; exact C8 h
  simp [(decide_eq_false (by exact Dc h):decide (c≤90)=false),(decide_eq_false (by exact C9 h):decide (c≤122)=false),h3,(decide_eq_false (by exact C7 h):decide (c≤57)=false)]
theorem safe_eq (c:Nat):cH c=decide (c∈cj):=by
  by_cases h:c < 256
  · exact u0 c h
  have h1:¬ c∈cj:=fun m=>h (tV c m); unfold cH; refine rl (tL (by exact C6 h)) (rl (decide_eq_false h1) (rl (decide_eq_false h) ?_)); rfl
theorem xe {l:List Nat} (hn:l≠[]):(∀ i,i < (T l).cps.size→cH ((T l).cps.getD i 0)=true)↔aJ l=true:=by
  unfold aJ T; have hi:l.isEmpty=false:=by cases l with | nil=>exact absurd rfl hn | cons=>rfl
  rw [hi,Bool.not_false,Bool.true_and,List.all_eq_true]
  constructor
  · intro h c hc
    obtain ⟨i,hi,rfl⟩:=List.getElem_of_mem hc; have:=h i (by assumption); rw [← safe_eq]
    simpa [Array.getD,hi] using this
  intro h i hi; have hi':i < l.length:=by simpa using hi
  rw [safe_eq]
  simpa [Array.getD,hi'] using h l[i] (List.getElem_mem hi')
end Mine
namespace Mine
section
variable {C:Cx} {d:Nat} {H:List O} {Q:D→List O→Prop}
theorem aO.nh {Q:D→List O→Prop} (hq:Q (.bool true) H):aO C d H .none .none (compareOp .Is) Q:=fun A env ρ s ι X u v S hu hv=>up S <| by
  obtain rfl:=hu.none_of; obtain rfl:=hv.none_of; exact wpAny_pure (PR.quiet S .refl .bq hq)
theorem qG (W:WF C) {l:List Nat} (hl:l.length≤1000) (hq:Q (.str (T (markL l))) H):aj C (d+1) H (.ref 807) [.str (T l)] Q:=by
  have hz:(16777216:Nat)=sizeLine:=rfl; refine aj.fn (ns:=["s"]) W.ok W.sV (by kernel_rfl) (by kernel_rfl) (by kernel_rfl) rfl ?_ (fun q cd L=>by kernel_rfl) fun q cd L=>?_
  · exact fun _ _ _ _ _ _ _ _=>gU fun _=>by kernel_rfl
  refine aa.cons ?_; refine EX.if ?_; refine TV.not (TV.plain ?_ (fun _=>rfl)); refine EV.nm (.str (T l)) ?_ ?_ ?_
  · kernel_rfl
  · kernel_rfl
  refine TR.plain rfl ?_
  cases l with
  | nil =>
    refine aa.cons ?_; refine EX.rt ?_; refine EV.aY ([39,39]) ?_ (by decide) ?_
    · kernel_rfl
    exact hq
  | cons c r =>
    refine aa.nil ?_; refine aa.cons ?_; refine EX.if ?_; refine TV.cm ?_ ?_; rotate_left
    · kernel_rfl
    refine EV.cL W.ok W.wh W.vY ?_ ?_
    · kernel_rfl
    refine az.c ?_; refine EV.nm (.str (T (c::r))) ?_ ?_ ?_
    · kernel_rfl
    · kernel_rfl
    refine az.n ?_; have ha:=xe (l:=c::r) (by simp); unfold markL at hq; refine aj.F4 W ?_ ?_ ?_
    · show 1≤(c::r).toArray.size
      simp
    · intro hs
      rw [if_pos (ha.mp hs)] at hq; refine EV.none ?_; refine aO.nh (TR.plain rfl ?_); show aa _ _ _ _ _ _ _; refine aa.cons ?_; refine EX.rt ?_; refine EV.nm (.str (T (c::r))) ?_ ?_ ?_
      · kernel_rfl
      · kernel_rfl
      exact hq
    intro i hi hu o; rw [if_neg (fun hb=>by rw [ha.mpr hb i hi] at hu; cases hu)] at hq; refine EV.none ?_; refine aO.E4 (TR.plain rfl ?_); refine aa.nil ?_; have ht:=oM hl; have hin:=bH [39,34,39,34,39] (aN 39 (c::r))
    have er:Txt.replace (T (c::r)) (Str.ofString "'") (Str.ofString "'\"'\"'")=T ([39,34,39,34,39].intercalate (aN 39 (c::r))):=by
      rw [show Str.ofString "'" = ⟨#[39]⟩ from rfl,StrLaws.replace_one,show Str.ofString "'\"'\"'" = T [39,34,39,34,39] from rfl,show (⟨#[39]⟩:Str)=T [39] from rfl,gA,oh]
    refine aa.cons ?_; refine EX.rt ?_; refine EV.bo ?_; refine EV.GK (y:=T [39]) ?_ (by decide) ?_
    · kernel_rfl
    refine FQ.replace (x:=T (c::r)) W.ok rfl rfl ?_ ?_ ?_
    · rw [aL]
      exact DY hl
    · rw [er,aL]; exact DX hz hin ht
    refine EV.nm (.str (T (c::r))) ?_ ?_ ?_
    · kernel_rfl
    · kernel_rfl
    refine ⟨rfl,?_⟩; refine rl er ?_; refine aO.uH ?_ ?_
    · show 1+_≤_; exact Bu hz hin ht
    refine EV.aY ([39]) ?_ (by decide) ?_
    · kernel_rfl
    refine aO.uH ?_ ?_
    · simp only [List.length_append,List.length_singleton]; exact Bt hz hin ht
    exact hq
end
noncomputable def bG (ms:List (List Nat)) (b:Bool) (t:List Nat):Int:=if (ms.contains t || ms.any (fun m=>(m++[46]).isPrefixOf t) || b)=true then 1 else 0
noncomputable def bT (ms:List (List Nat)) (b:Bool) (t:List Nat) (kn:List (List Nat × Int)):List (List Nat × Int):=if (kn.lookup t).isSome=true then kn else kn++[(t,bG ms b t)]
section
variable {C:Cx} {d:Nat} {Q:D→List O→Prop} {env:Env} {H:List O}
theorem FT.any {α:Type} {x:D} {all:List D} {t:Expr} {b:List Stmt} {R:Fl→Loc→List O→Prop} (p:α→Bool) (g:α→D) (I:Loc→Prop) (hi:lE x all H) :
    ∀ (xs:List α) (ρ:Loc),I ρ→(∀ a∈xs,∀ ρ,I ρ→AS C d env t (g a) ρ H fun ρ'=>aa C d env ρ' H b fun fl ρ'' H''=>if p a=true then ∃ z,fl = .ret z∧R (.ret z) ρ'' H'' else fl = .next∧H''=H∧I ρ'') →
      ((∀ a∈xs,p a=false)→∀ ρ,I ρ→R .next ρ H)→FT C d env x all t b R (xs.map g) ρ H
  | [],ρ,h,_,fin=>⟨hi,fin (fun _ h=>nomatch h) ρ h⟩
  | a::xs,ρ,h,turn,fin=>by
    refine ⟨hi,fun A s ι X v S hv=>wpAny_mono (turn a (.head _) ρ h A s ι X v S hv) (fun _ s' q=>?_) zz⟩; obtain ⟨ρ',hb,r⟩:=q; refine ⟨ρ',hb.mono fun fl ρ'' H'' q=>?_,r⟩
    cases hp:p a with
    | true =>
      rw [hp,if_pos rfl] at q; obtain ⟨z,rfl,hz⟩:=q; exact hz
    | false =>
      rw [hp,if_neg (by simp)] at q; obtain ⟨rfl,e,hI⟩:=q; refine rl e ?_
      exact FT.any p g I hi xs ρ'' hI (fun a' ha'=>turn a' (.tail _ ha')) fun hn=>fin fun a' ha'=>by
        rcases List.mem_cons.mp ha' with rfl | h
        · exact hp
        exact hn a' h
theorem qT (W:WF C) {ms:List (List Nat)} {o:Obj} (ho:gC C.prog C.w o (ms.map T)) (hn:ms≠[]) (hml:∀ m∈ms,m.length≤10000) {b:Bool} {t:List Nat} (ht:t.length≤10000) {kn:List (List Nat × Int)} (hkn:kn.length≤1000)
    (hq:Q (.int (((bT ms b t kn).lookup t).getD 0)) [.inst 137 [("_mods",.imm o),("_dirs",.list []),("_ignore",.obj 1)],.dict (fT (bT ms b t kn))]) :
    aj C (d+2) [.inst 137 [("_mods",.imm o),("_dirs",.list []),("_ignore",.obj 1)],.dict (fT kn)] (.ref 134) [.obj 0,e7 b,.str (T t)] Q:=by
  have hz:(16777216:Nat)=sizeLine:=rfl; generalize hf:([("_mods",.imm o),("_dirs",.list []),("_ignore",.obj 1)]:List (Str × D))=fs at *; have l1:fs.lookup ("_mods" : Str)=some (.imm o):=by refine rr hf ?_; kernel_rfl
  have l2:fs.lookup ("_dirs" : Str)=some (.list []):=by refine rr hf ?_; kernel_rfl
  have l3:fs.lookup ("_ignore" : Str)=some (.obj 1):=by refine rr hf ?_; kernel_rfl
  refine aj.fn (ns:=["self", "filename", "modulename"]) W.ok W.sW (by kernel_rfl) (by kernel_rfl) (by kernel_rfl) rfl ?_ (fun q cd L=>by kernel_rfl) fun q cd L=>?_
  · exact fun _ _ _ _ _ _ _ _=>Al fun _ _ _=>by kernel_rfl
  generalize hρ:cy ((["self", "filename", "modulename"]:List Str).zip [.obj 0,e7 b,.str (T t)])=ρ0; have g1:ρ0.lookup ("self" : Str)=some (.obj 0):=by refine rr hρ ?_; kernel_rfl
  have g2:ρ0.lookup ("filename" : Str)=some (e7 b):=by refine rr hρ ?_; kernel_rfl
  have g3:ρ0.lookup ("modulename" : Str)=some (.str (T t)):=by refine rr hρ ?_; kernel_rfl
  refine aa.cons ?_; refine EX.if ?_; refine TV.cm ?_ ?_; rotate_left
  · kernel_rfl
  refine EV.nm (.str (T t)) ?_ ?_ ?_
  · assumption
  · kernel_rfl
  refine EV.attr (k:=0) (cl:=137) (fs:=fs) (e:=.obj 1) W.ok W.dh W.jJ ?_ ?_
  · kernel_rfl
  refine EV.nm (.obj 0) ?_ ?_ ?_
  · assumption
  · kernel_rfl
  refine ⟨rfl,rfl,l3,rfl,?_⟩; refine aO.inDict W.ok rfl (TR.plain rfl ?_); rw [dR,Option.isSome_map]
  cases hk:kn.lookup t with
  | some v =>
    have hkk:bT ms b t kn=kn:=by unfold bT; refine rl hk ?_; rfl
    rw [hkk,hk] at hq; refine aa.cons ?_; refine EX.rt ?_; refine EV.sb (fun _ _=>rfl) ?_; refine EV.attr (k:=0) (cl:=137) (fs:=fs) (e:=.obj 1) W.ok W.dh W.jJ ?_ ?_
    · kernel_rfl
    refine EV.nm (.obj 0) ?_ ?_ ?_
    · assumption
    · kernel_rfl
    refine ⟨rfl,rfl,l3,rfl,?_⟩; refine EV.nm (.str (T t)) ?_ ?_ ?_
    · assumption
    · kernel_rfl
    exact ⟨fT kn,.int v,rfl,by rw [dR,hk]; rfl,hq⟩
  | none =>
    have hkk:bT ms b t kn=kn++[(t,bG ms b t)]:=by unfold bT; refine rl hk ?_; rfl
    have hlk:(kn++[(t,bG ms b t)]).lookup t=some (bG ms b t):=by
      have go:∀ kn:List (List Nat × Int),kn.lookup t=none→(kn++[(t,bG ms b t)]).lookup t=some (bG ms b t):=by
        intro kn
        induction kn with
        | nil=>intro _; simp
        | cons r kn ih =>
          intro h; rw [show r=(r.1,r.2) from rfl,List.lookup_cons] at h; refine rl List.cons_append (rl (show r=(r.1,r.2) from rfl) (rl List.lookup_cons ?_))
          cases hc:(t==r.1) with
          | true=>rw [hc] at h; cases h
          | false=>rw [hc] at h; exact ih h
      exact go kn hk
    rw [hkk,hlk] at hq
    have setD:∀ (ρ:Loc) (v:Int),bG ms b t=v→dG (fT kn) (T t) (.int v)=fT (kn++[(t,bG ms b t)]):=fun ρ v hv=>by
      refine rl hv ?_; exact l6 hk
    refine aa.nil ?_; refine aa.cons ?_; refine EX.if ?_; refine TV.cm ?_ ?_; rotate_left
    · kernel_rfl
    refine EV.nm (.str (T t)) ?_ ?_ ?_
    · assumption
    · kernel_rfl
    refine EV.attr (k:=0) (cl:=137) (fs:=fs) (e:=.imm o) W.ok W.dh W.qY ?_ ?_
    · kernel_rfl
    refine EV.nm (.obj 0) ?_ ?_ ?_
    · assumption
    · kernel_rfl
    refine ⟨rfl,rfl,l1,rfl,?_⟩; refine aO.inSet ho.plain (TR.plain rfl ?_)
    have hcon:(ms.map T).contains (T t)=ms.contains t:=by
      rw [Bool.eq_iff_iff]; simp only [List.contains_iff_mem,List.mem_map]; exact ⟨fun ⟨m,hm,e⟩=>tH e ▸ hm,fun hm=>⟨t,hm,rfl⟩⟩
    refine rl hcon ?_
    cases hc:ms.contains t with
    | true =>
      have hv:bG ms b t=1:=by unfold bG; refine rl hc ?_; rfl
      refine aa.cons ?_; refine EX.iD (k:=1) (n:=T t) (kvs:=fT kn) ?_ ?_
      · exact ah rfl
      refine EV.int ?_; refine EV.attr (k:=0) (cl:=137) (fs:=fs) (e:=.obj 1) W.ok W.dh W.jJ ?_ ?_
      · kernel_rfl
      refine EV.nm (.obj 0) ?_ ?_ ?_
      · assumption
      · kernel_rfl
      refine ⟨rfl,rfl,l3,rfl,rfl,?_⟩; refine EV.nm (.str (T t)) ?_ ?_ ?_
      · assumption
      · kernel_rfl
      refine ⟨rfl,rfl,(by unfold fT; rw [List.length_map]; exact AO hz hkn),?_⟩; refine aa.cons ?_; refine EX.rt ?_; refine EV.int ?_; rw [setD ρ0 1 hv]; rw [hv] at hq ⊢; exact hq
    | false =>
      refine aa.nil ?_; refine aa.cons ?_; refine EX.Ax (fun _=>rfl) ?_; refine EV.attr (k:=0) (cl:=137) (fs:=fs) (e:=.imm o) W.ok W.dh W.qY ?_ ?_
      · kernel_rfl
      refine EV.nm (.obj 0) ?_ ?_ ?_
      · assumption
      · kernel_rfl
      refine ⟨rfl,rfl,l1,rfl,o,ms.map T,rfl,ho,?_,?_,fun all hall=>?_⟩
      · intro h; exact hn (List.map_eq_nil_iff.mp h)
      · intro x hx
        obtain ⟨m,hm,rfl⟩:=List.mem_map.mp hx; rw [aL]; have:=hml m hm; exact z8 hz this
      have hallT:∃ al:List (List Nat),all=al.map T∧∀ k,k∈al↔k∈ms:=by
        refine ⟨all.map (·.cps.toList),?_,fun k=>?_⟩
        · refine rl List.map_map ?_
          conv=>lhs; rw [← List.map_id all]
          exact List.map_congr_left fun a _=>(xj a).symm
        constructor
        · intro hk
          obtain ⟨x,hx,rfl⟩:=List.mem_map.mp hk; obtain ⟨m,hm,rfl⟩:=List.mem_map.mp ((hall x).mp hx)
          simpa [T] using hm
        intro hk; exact List.mem_map.mpr ⟨T k,(hall _).mpr (List.mem_map.mpr ⟨k,hk,rfl⟩),by simp [T]⟩
      obtain ⟨al,rfl,hal⟩:=hallT; rw [List.map_map]; refine FT.any (fun m:List Nat=>(m++[46]).isPrefixOf t) (fun m=>.str (T m)) (fun ρ=>ρ.lookup ("self" : Str)=some (.obj 0)∧ρ.lookup ("filename" : Str)=some (e7 b)∧ρ.lookup ("modulename" : Str)=some (.str (T t))) ?_ al ρ0 ⟨g1,g2,g3⟩ ?_ ?_
      · exact trivial
      · rintro m hm ρ ⟨g1,g2,g3⟩
        have hmm:=hml m ((hal m).mp hm); refine AS.name (by kernel_rfl) ?_; have g1':(aQ ("mod" : Str) (.str (T m)) ρ).lookup ("self" : Str)=some (.obj 0):=(jf (by decide +kernel)).trans g1; have g2':(aQ ("mod" : Str) (.str (T m)) ρ).lookup ("filename" : Str)=some (e7 b):=(jf (by decide +kernel)).trans g2; have g3':(aQ ("mod" : Str) (.str (T m)) ρ).lookup ("modulename" : Str)=some (.str (T t)):=(jf (by decide +kernel)).trans g3; refine aa.cons ?_; refine EX.if ?_; refine TV.plain ?_ (fun _=>rfl); refine EV.b5 ?_ ?_
        · kernel_rfl
        refine EV.nm (.str (T t)) ?_ ?_ ?_
        · assumption
        · kernel_rfl
        refine ⟨_,bY.str PySem.F.slot_str_startswith PySem.F.type_str_startswith,.builtin,?_⟩; refine az.c ?_; refine EV.bo ?_; refine EV.nm (.str (T m)) ?_ ?_ ?_
        · exact bV
        · kernel_rfl
        refine EV.aY ([46]) ?_ (by decide) ?_
        · kernel_rfl
        refine aO.uH (by show m.length+1≤_; exact DW hz hmm) ?_; refine az.n ?_; refine aj.startswith (TR.plain rfl ?_); rw [xm]
        cases hp:(m++[46]).isPrefixOf t with
        | true =>
          have hv:bG ms b t=1:=by
            have ha:ms.any (fun m:List Nat=>(m++[46]).isPrefixOf t)=true:=List.any_eq_true.mpr ⟨m,(hal m).mp hm,hp⟩; unfold bG; rw [hc,ha]; rfl
          refine aa.cons ?_; refine EX.iD (k:=1) (n:=T t) (kvs:=fT kn) ?_ ?_
          · exact ah rfl
          refine EV.int ?_; refine EV.attr (k:=0) (cl:=137) (fs:=fs) (e:=.obj 1) W.ok W.dh W.jJ ?_ ?_
          · kernel_rfl
          refine EV.nm (.obj 0) ?_ ?_ ?_
          · assumption
          · kernel_rfl
          refine ⟨rfl,rfl,l3,rfl,rfl,?_⟩; refine EV.nm (.str (T t)) ?_ ?_ ?_
          · assumption
          · kernel_rfl
          refine ⟨rfl,rfl,(by unfold fT; rw [List.length_map]; exact AO hz hkn),?_⟩; refine aa.cons ?_; refine EX.rt ?_; refine EV.int ?_; rw [setD ρ0 1 hv]; rw [hv] at hq ⊢; exact ⟨_,rfl,hq⟩
        | false =>
          refine aa.nil (aa.nil ?_)
          try delta ow
          refine rl (if_neg (by simp)) ?_; exact ⟨rfl,rfl,g1',g2',g3'⟩
      rintro hno ρ ⟨g1,g2,g3⟩
      have hany:ms.any (fun m:List Nat=>(m++[46]).isPrefixOf t)=false:=by
        rw [List.any_eq_false]; intro m hm; refine rl (hno m ((hal m).mpr hm)) ?_; simp
      refine aa.cons ?_; refine EX.if ?_; refine TV.cm ?_ ?_; rotate_left
      · kernel_rfl
      refine EV.nm (e7 b) ?_ ?_ ?_
      · assumption
      · kernel_rfl
      refine EV.none ?_
      cases b with
      | true =>
        have hv:bG ms true t=1:=by unfold bG; rw [Bool.or_true]; rfl
        refine aO.nh (TR.plain rfl ?_); refine aa.cons ?_; refine EX.iD (k:=1) (n:=T t) (kvs:=fT kn) ?_ ?_
        · exact ah rfl
        refine EV.int ?_; refine EV.attr (k:=0) (cl:=137) (fs:=fs) (e:=.obj 1) W.ok W.dh W.jJ ?_ ?_
        · kernel_rfl
        refine EV.nm (.obj 0) ?_ ?_ ?_
        · assumption
        · kernel_rfl
        refine ⟨rfl,rfl,l3,rfl,rfl,?_⟩; refine EV.nm (.str (T t)) ?_ ?_ ?_
        · assumption
        · kernel_rfl
        refine ⟨rfl,rfl,(by unfold fT; rw [List.length_map]; exact AO hz hkn),?_⟩; refine aa.cons ?_; refine EX.rt ?_; refine EV.int ?_; refine rl (setD ρ0 1 hv) ?_; rw [hv] at hq ⊢; exact hq
      | false =>
        have hv:bG ms false t=0:=by unfold bG; refine rl hc (rl hany ?_); rfl
        refine aO.cmp ?_; refine TR.plain rfl (aa.nil ?_); refine aa.cons ?_; refine EX.for (fun _=>rfl) ?_; refine EV.attr (k:=0) (cl:=137) (fs:=fs) (e:=.list []) W.ok W.dh W.v9 ?_ ?_
        · kernel_rfl
        refine EV.nm (.obj 0) ?_ ?_ ?_
        · assumption
        · kernel_rfl
        refine ⟨rfl,rfl,l2,rfl,[],.list,trivial,?_⟩; refine aa.cons ?_; refine EX.iD (k:=1) (n:=T t) (kvs:=fT kn) ?_ ?_
        · exact ah rfl
        refine EV.int ?_; refine EV.attr (k:=0) (cl:=137) (fs:=fs) (e:=.obj 1) W.ok W.dh W.jJ ?_ ?_
        · kernel_rfl
        refine EV.nm (.obj 0) ?_ ?_ ?_
        · assumption
        · kernel_rfl
        refine ⟨rfl,rfl,l3,rfl,rfl,?_⟩; refine EV.nm (.str (T t)) ?_ ?_ ?_
        · assumption
        · kernel_rfl
        refine ⟨rfl,rfl,(by unfold fT; rw [List.length_map]; exact AO hz hkn),?_⟩; refine aa.cons ?_; refine EX.rt ?_; refine EV.int ?_; refine rl (setD ρ0 0 hv) ?_; rw [hv] at hq ⊢; exact hq
end
noncomputable def bN (texts:List (List Nat)) (ms:List (List Nat)) (files:List Bool) (st:List (List Nat × Int) × List (List Nat)) (k:Nat):List (List Nat × Int) × List (List Nat) :=
  (bT ms (files.getD k default) (texts.getD k default) st.1,st.2++[jj (((bT ms (files.getD k default) (texts.getD k default) st.1).lookup (texts.getD k default)).getD 0)])
noncomputable def lK (texts:List (List Nat)) (chosen:List Nat) (files:List Bool):List (List Nat × Int) × List (List Nat) :=
  (List.range 12).foldl (bN texts (chosen.map fun c=>texts.getD c default) files) ([(dO,1)],[])
structure lz (n:Nat) (st:List (List Nat × Int) × List (List Nat)):Prop where
  l1:st.1.length≤1+n
  l2:st.2.length=n
  v:∀ p∈st.1,p.2=0 ∨ p.2=1
  t:∀ p∈st.1,p.1.length≤10000∧∀ c∈p.1,c < 1114112
  d:∀ t∈st.2,t=[48] ∨ t=[49]
theorem lg {texts ms:List (List Nat)} {files:List Bool} (ht:∀ t∈texts,t.length≤10000∧∀ c∈t,c < 1114112):∀ (pr:List Nat) (n:Nat) (st:List (List Nat × Int) × List (List Nat)),(∀ k∈pr,k < texts.length)→lz n st→lz (n+pr.length) (pr.foldl (bN texts ms files) st)
  | [],n,st,_,h=>h
  | k::pr,n,st,hk,h=>by
    have hd:∀ i,jj i=[48] ∨ jj i=[49]:=fun i=>by
      unfold jj; split
      · exact .inl rfl
      exact .inr rfl
    refine rl List.foldl_cons (rl List.length_cons (rl (show n+(pr.length+1)=(n+1)+pr.length by exact Eq.symm (Nat.succ_add_eq_add_succ _ _)) ?_)); have htk:texts.getD k default∈texts:=by refine rl List.getD_eq_getElem?_getD (rl (List.getElem?_eq_getElem (hk k (.head _))) ?_); exact List.getElem_mem _
    refine lg ht pr (n+1) _ (fun j hj=>hk j (.tail _ hj)) ⟨?_,?_,?_,?_,?_⟩
    · unfold bN bT
      have:=h.l1; dsimp only; split
      · exact DV this
      refine rl List.length_append (rl List.length_singleton ?_); exact DU this
    · unfold bN; dsimp only; exact rl List.length_append (rl List.length_singleton (rl h.l2 rfl))
    · intro p hp
      unfold bN bT at hp; dsimp only at hp; split at hp
      · exact h.v p hp
      rcases List.mem_append.mp hp with q | q
      · exact h.v p q
      refine rl (List.mem_singleton.mp q) ?_; show bG _ _ _=0 ∨ bG _ _ _=1; unfold bG; split
      · exact .inr rfl
      exact .inl rfl
    · intro p hp
      unfold bN bT at hp; dsimp only at hp; split at hp
      · exact h.t p hp
      rcases List.mem_append.mp hp with q | q
      · exact h.t p q
      refine rl (List.mem_singleton.mp q) ?_; exact ht _ htk
    intro t hp; unfold bN at hp; dsimp only at hp; rcases List.mem_append.mp hp with q | q
    · exact h.d t q
    refine rl (List.mem_singleton.mp q) ?_; exact hd _
theorem jF {t:List Nat} {v:Int}:∀ kn:List (List Nat × Int),kn.lookup t=none→(kn++[(t,v)]).lookup t=some v
  | [],_=>by simp
  | r::kn,h=>by
    rw [show r=(r.1,r.2) from rfl,List.lookup_cons] at h; refine rl List.cons_append (rl (show r=(r.1,r.2) from rfl) (rl List.lookup_cons ?_))
    cases hc:(t==r.1) with
    | true=>rw [hc] at h; cases h
    | false=>rw [hc] at h; exact jF kn h
theorem qR (ms:List (List Nat)) (b:Bool) (t:List Nat) (kn:List (List Nat × Int)):∃ v,(bT ms b t kn).lookup t=some v:=by
  unfold bT
  cases h:kn.lookup t with
  | some v=>exact ⟨v,h⟩
  | none=>exact ⟨bG ms b t,by exact rl (if_neg (by simp)) (rl (jF kn h) rfl)⟩
section
variable {C:Cx} {d:Nat} {Q:D→List O→Prop} {env:Env} {ρ:Loc}
theorem jq {α σ:Type} {x:Str} {elt:Expr} {src:D} {all:List D} {QQ:List D→List O→Prop} (g:α→D) (I:σ→List O) (Af:σ→List D) (step:σ→α→σ) (out:σ→α→D) (hA:∀ st a,Af (step st a)=Af st++[out st a]) (st0:σ) (hi:∀ st,lE src all (I st)) :
    ∀ (xs pre:List α),(Af (pre.foldl step st0)).length+xs.length≤sizeLine→(∀ pr a po,pre++xs=pr++a::po→∀ P:D→List O→Prop,P (out (pr.foldl step st0) a) (I (step (pr.foldl step st0) a))→EV C d env (aQ x (g a) ρ) (I (pr.foldl step st0)) elt P)→QQ (Af ((pre++xs).foldl step st0)) (I ((pre++xs).foldl step st0)) →
      turns C d env x [] (CG C d env elt []) ρ src all (xs.map g) (Af (pre.foldl step st0)) (I (pre.foldl step st0)) QQ
  | [],pre,_,_,hq=>⟨hi _,by simpa using hq⟩
  | y::r,pre,hl,he,hq=>by
    have e:pre++y::r=(pre++[y])++r:=by simp
    refine ⟨hi _,?_⟩; rw [jT,if_pos rfl,AL]; rw [List.length_cons] at hl; refine he pre y r rfl _ ⟨by exact Nat.lt_of_add_right_lt hl,?_⟩; have nx:=jq g I Af step out hA st0 hi r (pre++[y]) (by rw [List.foldl_append]; show (Af (step _ y)).length+_≤_; rw [hA,List.length_append,List.length_singleton]; exact z7 hl) (fun pr a po e'=>he pr a po (e.trans e')) (e ▸ hq); rw [List.foldl_append] at nx; have nx':turns C d env x [] (CG C d env elt []) ρ src all (r.map g) (Af (step (pre.foldl step st0) y)) (I (step (pre.foldl step st0) y)) QQ:=nx; rw [hA] at nx'; exact nx'
theorem rI (W:WF C) {texts:List (List Nat)} {chosen:List Nat} {files:List Bool} (ht:texts.length=12) (hf:files.length=12) (hc:chosen.length≤90∧∀ c∈chosen,c < 12) (hn:chosen≠[]) (hts:∀ t∈texts,t.length≤10000∧∀ c∈t,c < 1114112)
    (hq:Q (outD (lK texts chosen files)) []):aj C (d+4) [] (.ref 841) [.list (aq texts),.list (chosen.map fun c:Nat=>.int c),.list (cF files)] Q:=by
  have hz:(16777216:Nat)=sizeLine:=rfl; refine aj.fz ?_; refine aj.fn (ns:=["texts", "chosen", "files"]) W.ok W.sZ (by kernel_rfl) (by kernel_rfl) (by kernel_rfl) rfl ?_ (fun q cd L=>by kernel_rfl) fun q cd L=>?_
  · exact fun _ _ _ _ _ _ _ _=>Al fun _ _ _=>by kernel_rfl
  generalize hρ:cy ((["texts", "chosen", "files"]:List Str).zip [.list (aq texts),.list (chosen.map fun c:Nat=>.int c),.list (cF files)])=ρ0; have g1:ρ0.lookup ("texts" : Str)=some (.list (aq texts)):=by refine rr hρ ?_; kernel_rfl
  have g2:ρ0.lookup ("chosen" : Str)=some (.list (chosen.map fun c:Nat=>.int c)):=by refine rr hρ ?_; kernel_rfl
  have g3:ρ0.lookup ("files" : Str)=some (.list (cF files)):=by refine rr hρ ?_; kernel_rfl
  have hT:∀ k:Nat,k < 12→∀ i:Int,i=k→d7 (aq texts) i=some (.str (T (texts.getD k default))):=fun k hk i hi=>bZ (fun p=>.str (T p)) texts hi (by refine rl ht ?_; exact hk); have hF:∀ k:Nat,k < 12→∀ i:Int,i=k→d7 (cF files) i=some (e7 (files.getD k default)):=fun k hk i hi=>bZ e7 files hi (by refine rl hf ?_; exact hk); have htk:∀ k:Nat,k < 12→texts.getD k default∈texts:=fun k hk=>by refine rl List.getD_eq_getElem?_getD (rl (List.getElem?_eq_getElem (by rw [ht]; exact hk)) ?_); exact List.getElem_mem _
  refine aa.cons ?_; refine EX.asg ?_ ?_
  · kernel_rfl
  refine EV.cL W.ok W.E6 W.E3 ?_ ?_
  · kernel_rfl
  refine az.c ?_; refine EV.cP ?_ ?_
  · kernel_rfl
  refine EV.nm (.list (chosen.map fun c:Nat=>.int c)) ?_ ?_ ?_
  · assumption
  · kernel_rfl
  refine ⟨_,.list,fun Ca=>?_⟩; refine aG (fun c:Nat=>.int c) (fun c=>.str (T (texts.getD c default))) (by exact trivial) chosen [] ?_ (fun c hcm P hP=>?_) ?_
  · refine rl List.length_nil ?_; omega
  · refine EV.sb (fun _ _=>rfl) ?_
    refine EV.nm (.list (aq texts)) ?_ ?_ ?_
    · exact l2 (by kernel_rfl) (jX (by kernel_rfl) (by assumption))
    · kernel_rfl
    refine EV.nm (.int c) ?_ ?_ ?_
    · exact bV
    · kernel_rfl
    exact ⟨_,hT c (hc.2 c hcm) _ rfl,hP⟩
  rw [List.nil_append]; have e1:(chosen.map fun c=>D.str (T (texts.getD c default)))=aq (chosen.map fun c=>texts.getD c default):=by unfold aq; refine rl List.map_map ?_; rfl
  rw [e1]; show az _ _ _ _ _ _ _; refine az.n ?_; refine pC W ?_ ?_ fun o ho=>?_
  · intro h; exact hn (List.map_eq_nil_iff.mp h)
  · rw [List.length_map]; omega
  generalize hms:(chosen.map fun c=>texts.getD c default)=ms at ho
  have hml:∀ m∈ms,m.length≤10000:=by
    intro m hm; rw [← hms] at hm; obtain ⟨c,hcm,rfl⟩:=List.mem_map.mp hm; exact (hts _ (htk c (hc.2 c hcm))).1
  have hmn:ms≠[]:=by refine rr hms ?_; intro h; exact hn (List.map_eq_nil_iff.mp h)
  show aa _ _ _ _ _ _ _; refine aa.cons ?_; refine EX.rJ ?_ ?_ ?_
  · kernel_rfl
  · kernel_rfl
  refine EV.bS W.ok W.dK .type ?_ ?_
  · kernel_rfl
  refine az.c ?_; refine EV.int ?_; refine az.n ?_; refine aj.fP fun t u v=>⟨_,dm.xS ?_ ?_ ?_ ?_,fun Ca=>?_⟩
  · exact zp
  · exact zo
  · decide
  · decide
  have ok0:lz 0 (([(dO,1)],[]):List (List Nat × Int) × List (List Nat)):=by
    refine ⟨by simp,rfl,?_,?_,?_⟩
    · intro p hp; refine rl (List.mem_singleton.mp hp) ?_; exact .inr rfl
    · intro p hp; refine rl (List.mem_singleton.mp hp) ?_; decide
    intro t ht; cases ht
  have okp:∀ pr a po,([]++List.range 12:List Nat)=pr++a::po→lz pr.length (pr.foldl (bN texts ms files) ([(dO,1)],[]))∧a < 12∧pr.length < 12:=fun pr a po e=>by
    have hm:∀ k∈pr++a::po,k < 12:=fun k hk=>by rw [← e] at hk; simpa using hk
    refine ⟨?_,hm a (by simp),?_⟩
    · have:=lg (ms:=ms) (files:=files) hts pr 0 _ (fun k hk=>by refine rl ht ?_; exact hm k (List.mem_append_left _ hk)) ok0
      simpa using this
    have:=congrArg List.length e; simp at this; exact Br this
  refine jq (fun i:Nat=>.int (0+(i:Nat))) (fun st=>[.inst 137 [("_mods",.imm o),("_dirs",.list []),("_ignore",.obj 1)],.dict (fT st.1)]) (fun st=>aq st.2) (bN texts ms files) (fun st k=>.str (T (jj (((bT ms (files.getD k default) (texts.getD k default) st.1).lookup (texts.getD k default)).getD 0)))) ?_ ([(dO,1)],[]) ?_ (List.range 12) [] ?_ (fun pr k po e P hP=>?_) ?_
  · intro st a
    unfold bN aq; simp
  · intro st; exact trivial
  · simp [aq]; exact DT hz
  · obtain ⟨okk,hk,_⟩:=okp pr k po e
    generalize pr.foldl (bN texts ms files) ([(dO,1)],[])=st at *; refine EV.bS W.ok W.jM .type ?_ ?_
    · kernel_rfl
    refine az.c ?_; refine EV.b5 ?_ ?_
    · kernel_rfl
    refine EV.nm (.obj 0) ?_ ?_ ?_
    · exact l2 (by kernel_rfl) (jX (by kernel_rfl) bV)
    · kernel_rfl
    refine ⟨_,bY.inst W.ok W.dh W.yt W.xG rfl ?_,W.sW.kp,?_⟩
    · kernel_rfl
    refine az.c ?_; refine EV.sb (fun _ _=>rfl) ?_; refine EV.nm (.list (cF files)) ?_ ?_ ?_
    · exact l2 (by kernel_rfl) (jX (by kernel_rfl) (l2 (by kernel_rfl) (by assumption)))
    · kernel_rfl
    refine EV.nm (.int (0+(k:Nat))) ?_ ?_ ?_
    · exact bV
    · kernel_rfl
    refine ⟨_,hF k hk _ (by exact Int.zero_add _),?_⟩; refine az.c ?_; refine EV.sb (fun _ _=>rfl) ?_; refine EV.nm (.list (aq texts)) ?_ ?_ ?_
    · exact l2 (by kernel_rfl) (jX (by kernel_rfl) (l2 (by kernel_rfl) (by assumption)))
    · kernel_rfl
    refine EV.nm (.int (0+(k:Nat))) ?_ ?_ ?_
    · exact bV
    · kernel_rfl
    refine ⟨_,hT k hk _ (by exact Int.zero_add _),az.n ?_⟩; refine qT W ho hmn hml (hts _ (htk k hk)).1 (by have:=okk.l1; exact DS this ‹_›) ?_; obtain ⟨v,hv⟩:=qR ms (files.getD k default) (texts.getD k default) st.1
    have ok2:lz (pr.length+1) (bN texts ms files st k):=by
      have:=lg (ms:=ms) (files:=files) hts [k] pr.length st (fun j hj=>by refine rl (List.mem_singleton.mp hj) (rl ht ?_); exact hk) okk; exact this
    have hv01:v=0 ∨ v=1:=ok2.v (texts.getD k default,v) (qV hv); rw [hv] at hP ⊢; refine az.n ?_; refine aj.str_int (by rcases hv01 with rfl | rfl <;> decide) ?_; have e1:Str.ofString (toString v)=T (jj v):=by rcases hv01 with rfl | rfl <;> kernel_rfl
    show P (.str (Str.ofString (toString v))) _; refine rl e1 ?_; exact hP
  have okf:lz 12 (([]++List.range 12:List Nat).foldl (bN texts ms files) ([(dO,1)],[])):=by
    have:=lg (ms:=ms) (files:=files) hts ([]++List.range 12) 0 _ (fun k hk=>by refine rl ht ?_; simpa using hk) ok0
    simpa using this
  have hfin:lK texts chosen files=(([]++List.range 12:List Nat).foldl (bN texts ms files) ([(dO,1)],[])):=by unfold lK; refine rl hms ?_; rfl
  rw [← hfin] at okf ⊢; generalize lK texts chosen files=st at *; show aa _ _ _ _ _ _ _; refine aa.cons ?_; refine EX.rt ?_; refine EV.tuple ?_ ?_
  · kernel_rfl
  refine az.c ?_; refine EV.nm (.list (aq st.2)) ?_ ?_ ?_
  · exact bV
  · kernel_rfl
  refine az.c ?_; refine EV.listItems (k:=1) (kvs:=fT st.1) W.ok ?_ W.g7.1 W.g7.2 ?_ ?_ ?_ ?_ ?_
  · kernel_rfl
  · kernel_rfl
  · kernel_rfl
  · kernel_rfl
  · kernel_rfl
  refine EV.attr (k:=0) (cl:=137) (fs:=[("_mods",.imm o),("_dirs",.list []),("_ignore",.obj 1)]) (e:=.obj 1) W.ok W.dh W.jJ ?_ ?_
  · kernel_rfl
  refine EV.nm (.obj 0) ?_ ?_ ?_
  · exact l2 (by kernel_rfl) bV
  · kernel_rfl
  refine ⟨rfl,rfl,?_,rfl,rfl,rfl,?_,?_,?_⟩
  · kernel_rfl
  · unfold fT; rw [List.length_map]; have:=okf.l1; exact DQ hz this
  · intro p hp
    obtain ⟨r,hr,rfl⟩:=List.mem_map.mp hp; rw [aL]; have:=(okf.t r hr).1; exact z8 hz this
  refine az.n ⟨by show 2≤sizeLine; decide,?_⟩; refine ⟨_,.pair (.ok ?_) (.ok ?_),?_⟩
  · refine cW fun t ht c hc=>?_
    rcases okf.d t ht with rfl | rfl <;> (refine rl (List.mem_singleton.mp hc) ?_; decide)
  · refine fu ?_
    intro x hx; obtain ⟨r,hr,rfl⟩:=List.mem_map.mp hx; obtain ⟨r',hr',rfl⟩:=List.mem_map.mp hr; exact mY ⟨kK (okf.t r' hr').2,rfl⟩
  have e:(fT st.1).map (fun p=>D.tuple [.str p.1,p.2])=st.1.map fun p=>D.tuple [.str (T p.1),.int p.2]:=by unfold fT; refine rl List.map_map ?_; rfl
  refine rl e ?_; exact hq
end
theorem iX.in1 {d:Nat} {A:Around} (R:iX (d+1) A):iX d A.in1:=by
  refine ⟨?_,?_,R.handled,R.guards⟩
  · exact Hi R.depth
  exact GY R.units
section
variable {C:Cx} {d:Nat} {A:Around} {env:Env} {ρ:Loc} {H:List O} {ι:Ad} {X:List Addr} {s:Shared} {Q:D→List O→Prop}
theorem St.in1 (S:St C (d+1) A env ρ H ι X s):St C d A.in1 env ρ H ι X s:=S.move S.room.in1 rfl
theorem EV.prop {o:Expr} {name:Str} {pos:Pos} {k:Nat} {cl p fget:Addr} {fs:List (Str × D)} {rest:List Value} (O:C.Ok) (c:ff C.K cl) (hcl:(clsIn C.K cl).isSome=true) (hf:findIn C.K (.ref cl) name=some (some (.ref p)))
    (hs:specialIn C.K (.ref p) "__get__" = some (some (.builtin "property.__get__"))) (ht:takesIn C.K (.ref p)=some true) (hp:recIn C.K p "property" = some (.ref fget::rest)) (hb:c9 o=true)
    (h:EV C (d+1) env ρ H o fun x H₁=>x = .obj k∧H₁[k]?=some (.inst cl fs)∧aZ C d H₁ (.ref fget) [.obj k] [] fun y H₂=>hand y=true∧Q y H₂):EV C (d+1) env ρ H (.Attribute o name pos) Q:=fun A s ι X S=>by
  rw [arm_eval_Attribute,fF hb]; refine wpAny_bind (aC (h A s ι X S) (fun v s₁ x H₁ ι₁ q3_ S₁ v₁ g₁=>?_) zz); obtain ⟨rfl,ho,hc⟩:=q3_; refine wpAny_bind (wpAny_standAt (wpAny_bind (wpAny_holding ?_))); obtain ⟨xa,dx,es,n,rfl,hi,I,h2,h1,hl,hat⟩:=cC S₁ v₁ ho; obtain ⟨cd,hcd⟩:=Option.isSome_iff_exists.mp hcl
  have hfo:findObj C.K cl (some (dictOf es n)) name=some (.bind (.builtin "property.__get__") (.ref p)):=by
    unfold findObj; rw [hcd,Option.bind_some,hf,Option.bind_some]; dsimp only; rw [hs,Option.bind_some]; dsimp only; refine rl ht ?_; rfl
  have hX:=O.K.keeps S₁.base; have S₂:St C (d+1) A env ρ H₁ ι₁ X { s₁ with toks:=s₁.toks+1 }:=S₁.quiet .toks (Nat.le_succ_of_le S₁.toks); have g2:Gr C.B ι₁ s₁ ι₁ { s₁ with toks:=s₁.toks+1 }:=.aB .toks; refine get_bind hX I (plainGet_of (name := "") c.pg).1 hfo (plainGet_of (name := "") c.pg).2 (wpAny_call (prop_get hX hp ?_)); refine codeAny_mono (hc A.in1 env ρ { s₁ with toks:=s₁.toks+1 } ι₁ X [.ref xa] [] S₂.in1 (.aH (VR.gr g2 v₁) .bJ) rfl .bJ) fun r s' hr=>?_
  cases r with
  | error e=>exact hr.elim
  | ok f=>cases f with
    | ret v =>
      obtain ⟨y,H₃,ι₃,⟨hh,hq⟩,S₃,v₃,g₃⟩:=hr; refine handed_on (v₃.handed hh) ?_; exact wpAny_bind (wpAny_letTemporaryGo (wpAny_pure ⟨y,H₃,ι₃,hq,S₃.move S.room rfl,v₃,(g₁.trans g2).trans g₃⟩))
    | _=>exact hr.elim
theorem aZ.fn {a:Addr} {st:Stmt} {dv:Value} {xs:List D} {ns:List Str} (O:C.Ok) (F:FnAt C a st dv) (hk:(aK st).kind = .function) (hco:(aK st).isCoroutine=false) (hgen:(aK st).isGenerator=false) (hl:xs.length=ns.length)
    (hbind:∀ name qual kwd doc pm ann cd ct (vs:List Value),vs.length=ns.length→bindArgs ⟨name,qual,eG st,.stmts (fnBody st),aK st,mainGlobals,[],dv,kwd,doc,pm,ann,cd,ct,builtinsNs⟩ ⟨vs,[]⟩=pure (ns.zip vs))
    (hb:∀ q cd L,ns.all (fun p=>binds (b8 st q cd L a) p)=true)
    (h:∀ q cd L,aa C d (b8 st q cd L a) (cy (ns.zip xs)) H (fnBody st) fun fl _ H'=>Q (gD fl) H'):aZ C (d+1) H (.ref a) xs [] Q:=by
  refine aZ.yE O F hk hco hgen (fun name qual kwd doc pm ann cd ct vs ks s ι X _ hv hks _=>?_) (fun q cd L=>?_) h
  · have:ks=[]:=by cases ks with | nil=>rfl | cons=>cases hks
    subst this; refine ⟨ns.zip vs,.of_eq (hbind name qual kwd doc pm ann cd ct vs (by exact rl hv.length (rl hl rfl))),?_,?_⟩
    · have:=hv.length
      exact rl (List.map_fst_zip (by exact xX this hl)) (rl (List.map_fst_zip (by exact Bf hl)) rfl)
    have:=hv.length; refine rl (List.map_snd_zip (by exact Be hl)) (rl (List.map_snd_zip (by exact xW this hl)) ?_); exact hv
  have:=hb q cd L; rw [List.all_eq_true] at this ⊢; intro p hp; exact this p.1 (List.of_mem_zip hp).1
end
end Mine
set_option maxRecDepth 100000
namespace Mine
theorem iQ:Manifest.owners.lookup (String.ofList ['e','u','q','e','d','.','s','n','o','i','t','c','e','l','l','o','c'].reverse)=some Manifest.sig_collections_deque:=by kernel_rfl
theorem fX:Slot "collections.deque" "__len__" "collections.deque.__len__" :=
  .of (owner := "collections.deque") (n := "__len__") (by rw [typeLookup_type,builtinLookup_eq_fast]; kernel_rfl) (by decide +kernel) (by decide +kernel) (by decide +kernel)
    (by first | exact .inl (by decide +kernel) | exact .inr (by decide +kernel)) (by rw [isSubtype_type]; kernel_rfl)
theorem nJ:Slot "collections.deque" "__init__" "collections.deque.__init__" :=
  .of (owner := "collections.deque") (n := "__init__") (by rw [typeLookup_type,builtinLookup_eq_fast]; kernel_rfl) (by decide +kernel) (by decide +kernel) (by decide +kernel)
    (by first | exact .inl (by decide +kernel) | exact .inr (by decide +kernel)) (by rw [isSubtype_type]; kernel_rfl)
theorem fY:Slot "collections.deque" "append" "collections.deque.append" :=
  .of (owner := "collections.deque") (n := "append") (by rw [typeLookup_type,builtinLookup_eq_fast]; kernel_rfl) (by decide +kernel) (by decide +kernel) (by decide +kernel)
    (by first | exact .inl (by decide +kernel) | exact .inr (by decide +kernel)) (by rw [isSubtype_type]; kernel_rfl)
theorem jK:Slot "collections.deque" "pop" "collections.deque.pop" :=
  .of (owner := "collections.deque") (n := "pop") (by rw [typeLookup_type,builtinLookup_eq_fast]; kernel_rfl) (by decide +kernel) (by decide +kernel) (by decide +kernel)
    (by first | exact .inl (by decide +kernel) | exact .inr (by decide +kernel)) (by rw [isSubtype_type]; kernel_rfl)
theorem kY:typeOf (.builtin "collections.deque.append")=pure (.type "method_descriptor"):=by show builtinType _=_; refine rl builtinType_eq_fast ?_; kernel_rfl
theorem pQ:typeOf (.builtin "collections.deque.pop")=pure (.type "method_descriptor"):=by show builtinType _=_; refine rl builtinType_eq_fast ?_; kernel_rfl
theorem nM:entryFor table "collections.deque.__len__" = some Builtin.«collections.deque.__len__»:=entryFor_of_tree (by kernel_rfl)
theorem lH:entryFor table "collections.deque.__init__" = some Builtin.«collections.deque.__init__»:=entryFor_of_tree (by kernel_rfl)
theorem nL:entryFor table "collections.deque.__new__" = some Builtin.«collections.deque.__new__»:=entryFor_of_tree (by kernel_rfl)
theorem jO:entryFor table "collections.deque.append" = some Builtin.«collections.deque.append»:=entryFor_of_tree (by kernel_rfl)
theorem nK:entryFor table "collections.deque.pop" = some Builtin.«collections.deque.pop»:=entryFor_of_tree (by kernel_rfl)
theorem pU (a:Value):argsOk "collections.deque.__len__" ⟨[a],[]⟩:=by unfold argsOk; refine rl (signature?_of (id := "collections.deque.__len__") (n:=['_','_','n','e','l','_','_']) (o:=['e','u','q','e','d','.','s','n','o','i','t','c','e','l','l','o','c']) (by kernel_rfl) iQ) ?_; kernel_rfl
theorem nN (a:Value):argsOk "collections.deque.__init__" ⟨[a],[]⟩:=by unfold argsOk; refine rl (signature?_of (id := "collections.deque.__init__") (n:=['_','_','t','i','n','i','_','_']) (o:=['e','u','q','e','d','.','s','n','o','i','t','c','e','l','l','o','c']) (by kernel_rfl) iQ) ?_; kernel_rfl
theorem kZ (a b:Value):argsOk "collections.deque.append" ⟨[a,b],[]⟩:=by unfold argsOk; refine rl (signature?_of (id := "collections.deque.append") (n:=['d','n','e','p','p','a']) (o:=['e','u','q','e','d','.','s','n','o','i','t','c','e','l','l','o','c']) (by kernel_rfl) iQ) ?_; kernel_rfl
theorem pT (a:Value):argsOk "collections.deque.pop" ⟨[a],[]⟩:=by unfold argsOk; refine rl (signature?_of (id := "collections.deque.pop") (n:=['p','o','p']) (o:=['e','u','q','e','d','.','s','n','o','i','t','c','e','l','l','o','c']) (by kernel_rfl) iQ) ?_; kernel_rfl
theorem lG:PlainAttrs "collections.deque" :=
  ⟨⟨"collections.deque.__getattribute__",by rw [typeLookup_type,builtinLookup_eq_fast]; kernel_rfl,by decide +kernel⟩,by rw [typeLookup_type,builtinLookup_eq_fast]; kernel_rfl⟩
theorem wO:mroOf (.type "collections.deque")=pure [.type "collections.deque",.type "object"]:=by rw [mroOf_type]; kernel_rfl
theorem AB:typeLookup (.type "collections.deque") "__new__" = pure (some (.builtin "collections.deque.__new__")):=by rw [typeLookup_type,builtinLookup_eq_fast]; kernel_rfl
theorem wN:isSubtype (.type "collections.deque") (.type "collections.deque")=pure true:=by rw [isSubtype_type]; kernel_rfl
theorem uC:TypeCalled "collections.deque" "collections.deque.__new__" "collections.deque.__init__" :=
  ⟨by decide +kernel,by decide +kernel,⟨_,_,wO⟩,madeBy_type wO AB (by decide +kernel),by decide +kernel,wN,nJ⟩
theorem pR:checkTypeCall "collections.deque" ⟨[],[]⟩=pure ():=by kernel_rfl
theorem ry:checkBuiltinCall "collections.deque.__new__" ⟨[.type "collections.deque"],[]⟩=pure ():=by kernel_rfl
theorem iP:plainId "collections.deque.__new__" = true:=by decide +kernel
theorem uB:typeLookup (.type "collections.deque") "__bool__" = pure none:=by rw [typeLookup_type,builtinLookup_eq_fast]; kernel_rfl
section
variable {prog:Program} {w:World} {A:Around} {E:Value→Shared→Prop} {s:Shared}
theorem pS {Q₁:Value→Shared→Prop} (h:Q₁ (.ref s.heap.objs.size) { s with heap:=s.heap.push (bW [] 0) }) :
    codeAny (model prog w) A (.call (.builtin "collections.deque.__new__") ⟨[.type "collections.deque"],[]⟩) (wants Q₁ E) s:=by
  refine codeAny_of_tree ?_; show wpAny _ A.in1 (do checkBuiltinCall "collections.deque.__new__" ⟨[.type "collections.deque"],[]⟩; again (.builtin "collections.deque.__new__" ⟨[.type "collections.deque"],[]⟩)) _ _ s; refine wpAny_bind (wpAny_of_eq ry (wpAny_pure ⟨plainId_quiet iP _,codeAny_builtin nL ?_⟩)); refine rl (Around.under_plainId iP _) ?_; unfold Builtin.«collections.deque.__new__» Builtin.Deque.newArgs Builtin.Deque.ty Builtin.Deque.new; have hsub:=wN; obtain ⟨hp,g,d,tk,os⟩:=s; dsimp only
  wp_walk
  exact h
theorem yL {Q:Value→Shared→Prop} (h:∀ h' n,h'.get? s.heap.objs.size=some (bW [] n)→s.heap.objs.size < h'.objs.size→(∀ b o,s.heap.get? b=some o→h'.get? b=some o)→Q (.ref s.heap.objs.size) { s with heap:=h' }):wpAny (model prog w) A (call (.type "collections.deque") []) Q E s:=by
  refine callType_codes (Q₁:=fun obj s₁=>obj = .ref s.heap.objs.size∧s₁ = { s with heap:=s.heap.push (bW [] 0) }) uC pR lH (pS ⟨rfl,rfl⟩) ?_; rintro obj s₁ ⟨rfl,rfl⟩; have hg:(s.heap.push (bW [] 0)).get? s.heap.objs.size=some (bW [] 0):=Heap.get?_push_size _ rfl; refine ⟨⟨_,hg,rfl⟩,nN _,?_⟩; unfold Builtin.«collections.deque.__init__»; dsimp only; refine rl (if_neg (by decide)) ?_; simp only [List.length_nil,List.take_zero,List.zipIdx_nil,List.forIn_nil,pure_bind,List.lookup_nil]; refine wpAny_bind (wpAny_setField hg rfl (by simp) ?_)
  have hg2:((s.heap.push (bW [] 0)).update s.heap.objs.size (Obj.mapFields (·.setIfInBounds 0 .none))).get? s.heap.objs.size=some (bW [] 0) :=
    Heap.get?_update_self _ hg (Obj.isFreed_of_fields (Obj.data_mapFields rfl _))
  refine wpAny_bind (wpAny_bind (wpAny_bind (wpAny_fieldsOf hg2 rfl (wpAny_pure ?_)))); refine uM (by simp) ?_; refine wpAny_pure (wpAny_pure ⟨rfl,h _ 0 hg2 ?_ fun b o e=>?_⟩)
  · rw [Heap.size_update,Heap.size_push]; exact Nat.lt_add_one _
  exact (Heap.SameBut.update ..).extBut b o (Nat.ne_of_lt (Heap.lt_size e)) (Heap.get?_push_of_some _ e)
theorem uA {a:Addr} {vs:List Value} {n:Int} {Q:Bool→Shared→Prop} (ho:s.heap.get? a=some (bW vs n)) (hl:vs.length≤sizeLine) (h:∀ tk,s.toks≤tk→Q (!vs.isEmpty) { s with toks:=tk }):wpAny (model prog w) A (truthy (.ref a)) Q E s:=by
  have hT:s.TypeIs (.ref a) "collections.deque" := ⟨_,ho,rfl⟩; have hfit:=bK hl
  have key:wpAny (model prog w) A (runValue (.builtin "len" ⟨[.ref a],[]⟩)) (fun r s'=>r = .int (vs.length:Nat) (s.toks+1)∧Q (!vs.isEmpty) s') E s:=by
    refine wpAny_runValue (codeAny_builtin entry_len ?_); refine rl (Around.under_plainId plain_len _) ?_; refine wpAny_bind (m:=oneArg "len" _) (wpAny_pure ?_)
    refine wpAny_bind (m:=callSpecial? (.ref a) (Str.ofString "__len__")) (wpAny_callSpecial?_slot (name:=Str.ofString "__len__") hT fX
      (wpAny_call_entry fX hT nM ?_ (pU _)))
    refine wpAny_bind (wpAny_of_eq (a:=(Value.ref a,[])) rfl ?_); refine wpAny_bind (wpAny_bind (wpAny_fieldsOf ho rfl (wpAny_pure ?_))); have esz:(#[Value.none,rawInt n]++vs.toArray).size - 2=vs.length:=by simp
    refine rl esz ?_; refine wpAny_bind (wpAny_mkInt (wpAny_pure ⟨_,rfl,?_⟩)); refine wpAny_bind (wpAny_holding (wpAny_pure ?_)); refine wpAny_bind (wpAny_letGo ?_); refine uM (by exact Cj hfit esz) ?_; refine uM (by exact Ci hfit esz) ?_; exact wpAny_bind (wpAny_mkInt (wpAny_pure ⟨rfl,h _ (Nat.le_succ_of_le (Nat.le_succ _))⟩))
  have hne:(((vs.length:Nat):Int) != 0) = !vs.isEmpty:=by
    cases vs with
    | nil=>rfl
    | cons v vs=>simp; exact Cg
  refine wpAny_bind (wpAny_callSpecial?_none (name:=Str.ofString "__bool__") hT uB ?_); refine wpAny_bind (wpAny_specialOf (name:=Str.ofString "__len__") hT fX.lookup ?_); exact wpAny_bind (wpAny_mono key (fun r s' h'=>by obtain ⟨rfl,hq⟩:=h'; exact wpAny_pure (hne ▸ hq)) fun _ _ e=>e)
end
end Mine
namespace Mine
section
variable {prog:Program} {w:World} {A:Around} {E:Value→Shared→Prop} {s:Shared}
theorem Hg {n:Int} (vs:List Value):(#[Value.none,rawInt n]++vs.toArray).extract 2 (#[Value.none,rawInt n]++vs.toArray).size=vs.toArray:=by simp
theorem mq {a:Addr} {vs us:List Value} {n:Int} {f:Array Value→Array Value} {Q:Unit→Shared→Prop} (ho:s.heap.get? a=some (bW vs n)) (hf:f vs.toArray=us.toArray) (hl:us.length≤sizeLine)
    (h:∀ h',h'.get? a=some (bW us (n+1))→Heap.SameBut a s.heap h'→Q () { s with heap:=h' }):wpAny (model prog w) A (Builtin.Deque.change (.ref a) f) Q E s:=by
  unfold Builtin.Deque.change Builtin.Deque.state; dsimp only; refine wpAny_bind (wpAny_bind (wpAny_field ho rfl (x:=rawInt n) (by simp [rawInt]) (wpAny_pure ?_))); have e1:(#[Value.none,rawInt n]++vs.toArray).extract 2 (#[Value.none,rawInt n]++vs.toArray).size=vs.toArray:=by simp
  have e2:Obj.mapFields (fun v:Array Value=>#[v.getD 0 .none,rawInt (if true=true then n+1 else n)]++f (v.extract 2 v.size)) (bW vs n)=bW us (n+1):=by
    unfold Obj.mapFields bW; dsimp only; refine rl e1 (rl hf ?_); simp
  refine wpAny_updateFields ho rfl (h _ ?_ (Heap.SameBut.update ..)) ?_
  · exact rl (Heap.get?_update_self _ ho (by rw [e2]; rfl)) (rl e2 rfl)
  refine rl e1 (rl hf ?_); simp; exact Nat.le_add_right_of_le hl
theorem uD {a:Addr} {vs:List Value} {x:Value} {n:Int} {Q:Value→Shared→Prop} (ho:s.heap.get? a=some (bW vs n)) (hl:vs.length < sizeLine) (h:∀ h',h'.get? a=some (bW (vs++[x]) (n+1))→Heap.SameBut a s.heap h'→Q .none { s with heap:=h' }) :
    wpAny (model prog w) A (call (.builtin "collections.deque.append") [.ref a,x]) Q E s:=by
  refine wpAny_call_entry fY (⟨_,ho,rfl⟩:s.TypeIs (.ref a) "collections.deque") jO ?_ (kZ _ _); refine wpAny_bind (wpAny_of_eq (a:=(Value.ref a,x)) rfl ?_); refine wpAny_bind (wpAny_bind (mq (us:=vs++[x]) ho (by exact List.push_toArray vs x) (by refine rl List.length_append (rl List.length_singleton ?_); exact xY hl) fun h' hd hs=>?_)); refine wpAny_bind (wpAny_bind (wpAny_field hd rfl (x:=.none) (by simp) (wpAny_pure (wpAny_pure ?_)))); exact wpAny_pure ⟨_,rfl,h h' hd hs⟩
theorem AA {a:Addr} {vs:List Value} {x:Value} {n:Int} {Q:Value→Shared→Prop} (ho:s.heap.get? a=some (bW (vs++[x]) n)) (hl:vs.length < sizeLine) (h:∀ h',h'.get? a=some (bW vs (n+1))→Heap.SameBut a s.heap h'→Q x { s with heap:=h' }) :
    wpAny (model prog w) A (call (.builtin "collections.deque.pop") [.ref a]) Q E s:=by
  refine wpAny_call_entry jK (⟨_,ho,rfl⟩:s.TypeIs (.ref a) "collections.deque") nK ?_ (pT _); refine wpAny_bind (wpAny_of_eq (a:=Value.ref a) rfl ?_); refine wpAny_bind (wpAny_bind (wpAny_fieldsOf ho rfl (wpAny_pure ?_)))
  have e1:((#[Value.none,rawInt n]++(vs++[x]).toArray).extract 2 (#[Value.none,rawInt n]++(vs++[x]).toArray).size).back?=some x:=by
    have e0:(#[Value.none,rawInt n]++(vs++[x]).toArray).extract 2 (#[Value.none,rawInt n]++(vs++[x]).toArray).size=(vs++[x]).toArray:=by
      have:=Hg (n:=n) (vs++[x]); exact this
    refine rl e0 ?_; simp
  refine rl e1 ?_; refine wpAny_bind (mq (us:=vs) ho (by simp) (by exact z6 hl) fun h' hd hs=>?_); exact wpAny_pure ⟨_,rfl,h h' hd hs⟩
end
section
variable {C:Cx} {d:Nat} {A:Around} {env:Env} {ρ:Loc} {H:List O} {ι:Ad} {X:List Addr} {s:Shared} {Q:D→List O→Prop}
theorem aj.deque (hq:Q (.obj H.length) (H++[.deque []])):aj C d H (.type "collections.deque") [] Q:=fun A env ρ s ι X vs S hv=>up S <| by
  obtain rfl:=hv.nil_of; refine yL fun h' n hg hsz hk=>?_; refine S.sf (p:=[s.heap.objs.size]) (o:=.deque []) (.of_keep rfl rfl (Nat.le_of_lt hsz) fun b o e _=>hk b o e) (fun a ha=>?_) (by simp) ⟨_,[],n,rfl,hg,.bJ⟩ rfl hq; refine rl (List.mem_singleton.mp ha) ?_; exact ⟨Nat.le_refl _,hsz⟩
theorem TR.deque {k:Nat} {xs:List D} {T:Bool→List O→Prop} (ho:H[k]?=some (.deque xs)) (hl:xs.length≤sizeLine) (h:T (!xs.isEmpty) H):TR C d H (.obj k) T:=fun A env ρ s ι X v S hv=>up S <| by
  obtain ⟨a,q,ha,rfl⟩:=hv.bf; obtain ⟨a',us,n,e,he,r⟩:=S.objs.get ha ho; cases e; refine uA he (by refine rl r.length ?_; exact hl) fun tk _=>PR.quiet S .toks ?_ h; have:=r.length; show (!us.isEmpty) = !xs.isEmpty; cases us <;> cases xs <;> simp_all
theorem bY.deque {k:Nat} {xs:List D} {name:Str} {id:String} (ho:H[k]?=some (.deque xs)) (slot:Slot "collections.deque" name id) (ty:typeOf (.builtin id)=pure (.type "method_descriptor")):bY C d H (.obj k) name (.builtin id):=fun A env ρ s ι X v pl Q S hv hq=>by
  obtain ⟨l,r,hi,rfl⟩:=hv.bf; obtain ⟨l',vs,n,e1,hg,_⟩:=S.objs.get hi ho; cases e1; exact getMethod_builtin (T := "collections.deque") ⟨_,hg,rfl⟩ lG slot ty (fun b e=>by cases e; exact ⟨_,hg,rfl⟩) hq
theorem aj.wQ {k:Nat} {xs:List D} {y:D} (ho:H[k]?=some (.deque xs)) (hl:xs.length < sizeLine) (hq:Q .none (H.set k (.deque (xs++[y])))):aj C d H (.builtin "collections.deque.append") [.obj k,y] Q:=fun A env ρ s ι X vs S hv=>by
  obtain ⟨v,u,rfl,hw,hu⟩:=hv.cD; obtain ⟨a,q,ha,rfl⟩:=hw.bf; obtain ⟨a',us,n,e,he,r⟩:=S.objs.get ha ho; cases e; refine uD he (by refine rl r.length ?_; exact hl) fun h' hp hs=>?_; have x1:Ext C.B [a] s { s with heap:=h' }:=Ext.gI (t:=s.toks) hs; have hY:∀ b∈[a],b∈br ι ∨ b∈X:=fun b h=>by refine rl (List.mem_singleton.mp h) ?_; exact .inl (bU ha)
  obtain ⟨S',g⟩:=S.upd (o':=.deque (xs++[y])) ha x1 S.toks ⟨a,us++[u],_,rfl,hp,aE.eF aW x1 hY (r.append (.aH hu .bJ))⟩; exact ⟨.none,_,ι,hq,S',.none_,g⟩
theorem aj.Fe {k:Nat} {y:D} (ho:H[k]?=some (.deque [y])) (hq:Q y (H.set k (.deque []))):aj C d H (.builtin "collections.deque.pop") [.obj k] Q:=fun A env ρ s ι X vs S hv=>by
  obtain ⟨v,rfl,hw⟩:=hv.bL; obtain ⟨a,q,ha,rfl⟩:=hw.bf; obtain ⟨a',us,n,e,he,r⟩:=S.objs.get ha ho; cases e; obtain ⟨u,rfl,hu⟩:=r.bL; refine AA (vs:=[]) he (by decide) fun h' hp hs=>?_; have x1:Ext C.B [a] s { s with heap:=h' }:=Ext.gI (t:=s.toks) hs; have hY:∀ b∈[a],b∈br ι ∨ b∈X:=fun b h=>by refine rl (List.mem_singleton.mp h) ?_; exact .inl (bU ha)
  obtain ⟨S',g⟩:=S.upd (o':=.deque []) ha x1 S.toks ⟨a,[],_,rfl,hp,.bJ⟩; exact ⟨y,_,ι,hq,S',VR.eF aW x1 hY hu,g⟩
end
end Mine
set_option maxRecDepth 100000
namespace Mine
structure rN (K:Frag) (cl sm fN:Addr):Prop where
  obj:∃ oc od cd sl,K.lookup cl=some ⟨oc,od,.cls cd,sl⟩∧cd.mro.isEmpty=false∧cd.abstract=false∧cd.hasDel=false∧(sl.toList[4]?).join=some .none∧cd.mro.contains (.ref cl)=true∧cd.mro.contains (.type "object")=true
  call:specialIn K (.ref cl) "__call__" = some (some (.builtin "type.__call__"))
  typ:instIn K (.ref cl) (.type "type")=some true
  reads:readsIn K cl (.type "type")=true
  find:findCls K (.ref cl) (.type "type") "__new__" = some (.get (.builtin "staticmethod.__get__") (.ref sm) .none (.ref cl))
  F3:∃ rest,recIn K sm "staticmethod" = some (.ref fN::rest)
section
variable {C:Cx} {d:Nat} {A:Around} {env:Env} {ρ:Loc} {H:List O} {ι:Ad} {X:List Addr} {s:Shared} {Q:D→List O→Prop}
theorem aZ.yj {xs:List D} {kws:List (Str × D)} (O:C.Ok) (N:rN C.K 694 191 187) (hi:findIn C.K (.ref 694) "__init__" = some (some (.ref 464))) (hf:typeIn C.K (.ref 464)=some (.type "function"))
    (hN:aZ C d H (.ref 187) (.val (.ref 694)::xs) kws fun r H'=>r = .obj H.length∧H'=H++[.inst 694 []])
    (h:aZ C d (H++[.inst 694 []]) (.ref 464) (.obj H.length::xs) kws fun r H'=>r = .none∧Q (.obj H.length) H'):aZ C (d+1) H (.ref 694) xs kws Q:=fun A env ρ s ι X vs ks S hv hk hkv=>by
  have hX:=O.K.keeps S.base; obtain ⟨hh,g,dr,t,os⟩:=s; obtain ⟨oc,od,cd,sl,hK,e1,e2,e3,e4,e5,_⟩:=N.obj; obtain ⟨rest,hrec⟩:=N.F3; have hC:hh.get? 694=some ⟨oc,od,.cls cd,sl⟩:=hX _ _ hK; have hc:clsIn C.K 694=some cd:=by unfold clsIn; exact rl hK rfl
  have hm:Looks C.M hh (mroOf (.ref 694)) cd.mro:=(looks_clsIn hX hc).andThen .now; obtain ⟨c0,l0,hl0⟩:∃ c l,cd.mro=c::l:=by cases q:cd.mro with | nil=>rw [q] at e1; cases e1 | cons c l=>exact ⟨c,l,rfl⟩
  have made:Looks C.M hh (Bind.madeBy (.ref 694)) none:=by
    intro A Q E s k q; refine wpAny_bind (hm A _ E s k ?_); rw [hl0,List.forIn_cons]; refine wpAny_bind (wpAny_bind (wpAny_bind (wpAny_bind (wpAny_loadPart (k _ _ hC) (wpAny_pure ?_))))); refine rr Array.getElem?_toList (rl e4 ?_); exact wpAny_pure (wpAny_pure (wpAny_pure q))
  have call:=looks_specialIn (M:=C.M) hX N.call; have typ:=looks_instIn (M:=C.M) hX N.typ; refine codeAny_of_tree ?_; refine nd_load hC ?_; show wpAny _ _ (callAny.viaDunder (.ref 694) _) _ _ _; unfold callAny.viaDunder; refine wpAny_bind (call.at ?_); dsimp only; rw [tc_bind]; refine wpAny_bind (wpAny_pure (wpAny_bind (wpAny_pure ?_))); refine wpAny_pure (a:=Fin.again (.call (.builtin "type.__call__") ⟨.ref 694::vs,ks⟩)) (And.intro rfl ?_); refine codeAny_call_builtin_at (Code.quiet_builtin _ (by decide +kernel)) entry_typeCall (check_slot tc_kind tc_split typ (tc_args _ _ _) ?_)
  have room:iX d (A.under (.builtin "type.__call__" ⟨.ref 694::vs,ks⟩)):=by
    refine ⟨?_,?_,S.room.handled,?_⟩
    · exact AQ S.room.depth
    · exact GW (by rfl) S.room.units
    unfold Around.under; dsimp only; rw [S.room.guards]; rfl
  have fr:(A.under (.builtin "type.__call__" ⟨.ref 694::vs,ks⟩)).frames=A.frames:=rfl; generalize A.under (.builtin "type.__call__" ⟨.ref 694::vs,ks⟩)=A1 at room fr; unfold Builtin.«type.__call__»; generalize hGA : @getAttr=GA; generalize hII : @isInstance=II
  repeat (first | simp only [e1,Bool.false_eq_true,if_false] | lk)
  subst hGA hII; have S1:St C d A1 env ρ H ι X ⟨hh,g,dr,t+1,os⟩:=(S.quiet (s':=⟨hh,g,dr,t+1,os⟩) .toks (Nat.le_succ_of_le S.toks)).move room fr; have g0:Gr C.B ι ⟨hh,g,dr,t,os⟩ ι ⟨hh,g,dr,t+1,os⟩:=.aB .toks; refine cls_bind hX N.reads N.find (wpAny_call (sm_get hX hrec ?_)); refine handed_on (v:=.ref 187) rfl ?_; refine wpAny_bind (wpAny_holding (wpAny_call (codeAny_mono (hN A1 env ρ ⟨hh,g,dr,t+1,os⟩ ι X (.ref 694::vs) ks S1 (.aH .tO hv) hk hkv) fun r s' hr=>?_)))
  cases r with
  | error e=>exact hr.elim
  | ok f=>cases f with
    | ret v =>
      obtain ⟨y,H₂,ι₂,⟨rfl,rfl⟩,S₂,v₂,g₂⟩:=hr; have hX2:=O.K.keeps S₂.base; obtain ⟨x,dx,es,n,rfl,hix,I,h2,h1,hl,hat⟩:=cC S₂ v₂ (cl:=694) (fs:=[]) (by simp); have t2:=I.type (M:=C.M); have self2:Looks C.M s'.heap (isSubtype (.ref 694) (.ref 694)) true:=looks_mroIn hX2 (by unfold mroIn; rw [hc,Option.bind_some,if_neg (by rw [e1]; decide),e5]); have i2:=looks_findIn (M:=C.M) hX2 hi; have b2:=bind_fn (M:=C.M) hX2 (.ref x) hf; obtain ⟨hh2,gg2,dr2,tt2,os2⟩:=s'
      repeat (first | with_reducible refine wpAny_call ?_ | lk)
      refine codeAny_mono (h A1 env ρ _ ι₂ X (.ref x::vs) ks S₂ (.aH v₂ (aE.gr (g0.trans g₂) hv)) hk (aE.gr (g0.trans g₂) hkv)) fun r s3 hr=>?_
      cases r with
      | error e=>exact hr.elim
      | ok f=>cases f with
        | ret v =>
          obtain ⟨y,H₃,ι₃,⟨rfl,hq⟩,S₃,v₃,g₃⟩:=hr; obtain rfl:=v₃.none_of; exact wpAny_pure (wpAny_pure ⟨.obj H.length,H₃,ι₃,hq,S₃.move S.room fr.symm,VR.gr g₃ v₂,(g0.trans g₂).trans g₃⟩)
        | _=>exact hr.elim
    | _=>exact hr.elim
end
end Mine
namespace Mine
section
variable {C:Cx} {d:Nat} {H:List O} {Q:D→List O→Prop}
theorem yD {A:Around} {envc:Env} {ρc:Loc} {s:Shared} {ι:Ad} {X:List Addr} {f:Addr} {fd:FuncData} {body:List Stmt} {bs:List (Str × Value)} {ds:List (Str × D)}
    (O:C.Ok) (S:St C (d+1) A envc ρc H ι X s) (hclo:fd.closure=[])
    (hg:fd.globals=mainGlobals) (hbl:fd.builtins=builtinsNs) (hk:fd.scope.kind = .function)
    (hbs:bs.map (·.1)=ds.map (·.1)) (hv:aE s.heap ι X (ds.map (·.2)) (bs.map (·.2))) (hb:∀ L,∀ p∈ds,binds (callEnvC fd L f) p.1=true)
    (h:∀ L,aa C d (callEnvC fd L f) (cy ds) H body fun fl _ H'=>Q (gD fl) H') :
    wpAny C.M A.in1 (newFunctionEnv fd.scope fd.globals fd.closure bs (fd.qualname ++ ".<locals>.") (some f) fd.code none fd.builtins)
        (fun env s₂=>s₂.heap.NoLimit∧codeAny C.M A (.func body env) (CR (Post C (d+1) A envc ρc ι X s Q) fun _ _=>False) s₂) (fun _ _=>False) s:=by
  refine rl hclo ?_; simp only [newFunctionEnv,Option.isSome_none,Bool.false_eq_true,if_false]; refine wpAny_bind (wpAny_alloc ?_); refine wpAny_bind (wpAny_layCells _ (fun name kind cells=>by cases hkc:kind==NameKind.cell <;> rfl) _ _ _ _ ?_); have ok:=cellsFrom_ok fd.scope.names (s.heap.push { cls:=.type "frame",data:=.dict #[] }) (s.heap.objs.size+1) [] ⟨fun _ _ hm=>(nomatch hm),List.Pairwise.nil⟩ (by rw [Heap.size_push]; exact Nat.le_refl _); rw [Heap.size_push] at ok; refine rl (show ({ s with heap:=s.heap.push { cls:=.type "frame",data:=.dict #[] } }:Shared).heap.objs.size=s.heap.objs.size+1 from Heap.size_push ..) ?_; generalize hh1:pushCells (s.heap.push { cls:=.type "frame",data:=.dict #[] }) fd.scope.names=h1 at ok; have keep1:∀ b o,s.heap.get? b=some o→h1.get? b=some o:=fun b o e=>hh1 ▸ pushCells_keeps _ _ b o (Heap.get?_push_of_some _ e)
  have size1:s.heap.objs.size+1≤h1.objs.size:=by
    have:=bO fd.scope.names (s.heap.push { cls:=.type "frame",data:=.dict #[] }); rw [hh1,Heap.size_push] at this; exact this
  have x1:Ext C.B [] s { s with heap:=h1 }:=.of_keep rfl rfl (by show _≤h1.objs.size; exact Nat.le_of_succ_le size1) fun b o e _=>keep1 b o e; have gL:h1.get? s.heap.objs.size=some { cls:=.type "frame",data:=.dict #[] }:=hh1 ▸ pushCells_keeps _ _ _ _ (Heap.get?_push_size _ rfl)
  have S1:St C d (A.deeper (callEnvC fd s.heap.objs.size f)) (callEnvC fd s.heap.objs.size f) [] H ι (b7 (callEnvC fd s.heap.objs.size f)++X) { s with heap:=h1 }:=by
    have own:∀ a∈b7 (callEnvC fd s.heap.objs.size f),s.heap.objs.size≤a∧a < h1.objs.size:=fun a ha=>by
      rcases dg ha with rfl | ⟨n,hm⟩
      · exact ⟨Nat.le_refl _,Heap.lt_size gL⟩
      have:=ok.empty n a (mem_of_lookup hm); exact ⟨Nat.le_of_succ_le this.2,this.1.lt⟩
    have hX:∀ a∈b7 (callEnvC fd s.heap.objs.size f)++X,a∈X ∨ s.heap.objs.size≤a:=fun a ha=>by
      rcases List.mem_append.mp ha with h | h
      · exact .inr (own a h).1
      exact .inl h
    refine ⟨⟨?_,?_,S.room.handled,S.room.guards⟩,⟨hk,hg,hbl,ok.apart⟩,fun b o e=>keep1 b o (S.base b o e),Nat.le_trans S.big x1.size,S.gens,S.os,fun a ha=>?_,fun a ha=>?_,S.nd,fun a ha hm=>?_,(fun _ _ e=>by cases e),?_,?_,?_,?_,S.toks⟩
    · exact AQ S.room.depth
    · exact FN S.room.units
    · rcases List.mem_append.mp ha with h | h
      · exact ⟨Nat.le_trans S.big (own a h).1,(own a h).2⟩
      exact ⟨(S.xs a h).1,Nat.lt_of_lt_of_le (S.xs a h).2 x1.size⟩
    · exact ⟨(S.is a ha).1,Nat.lt_of_lt_of_le (S.is a ha).2 x1.size⟩
    · rcases List.mem_append.mp hm with h | h
      · exact absurd (S.is a ha).2 (Nat.not_lt.mpr (own a h).1)
      exact S.iR a ha h
    · exact ⟨S.objs.1,fun i p o hp ho=>OR.gr (.aB (x1.mono bu)) x1 (by simp) (OR.aR hX (S.objs.2 i p o hp ho))⟩
    · exact ⟨List.mem_append_left _ (.head _),_,(hh1 ▸ (Heap.Ns.new s.heap (.type "frame")).keeps (pushCells_keeps _ _):h1.Ns s.heap.objs.size fun _=>none)⟩
    · intro n c hc
      exact ⟨List.mem_append_left _ (.tail _ (gb hc)),none,(ok.empty n c (mem_of_lookup hc)).1⟩
    obtain ⟨fr,hfr,hok⟩:=S.frs; refine ⟨callEnvC fd s.heap.objs.size f::fr,Around.frames_deeper hfr,fun fe hfe=>?_⟩; rcases List.mem_cons.mp hfe with rfl | hfe
    · exact ⟨by show fd.scope.kind≠_; refine rl hk ?_; simp,_,_,_,_,rfl,List.mem_append_left _ (.head _),gL,rfl,rfl⟩
    obtain ⟨k,L,o₁,es,n,a1,a2,a3,a4,a5⟩:=hok fe hfe; exact ⟨k,L,o₁,es,n,a1,List.mem_append_right _ a2,keep1 _ _ a3,a4,a5⟩
  have own:∀ a∈b7 (callEnvC fd s.heap.objs.size f),s.heap.objs.size≤a:=fun a ha=>by
    rcases dg ha with rfl | ⟨n,hm⟩
    · exact Nat.le_refl _
    exact Nat.le_of_succ_le (ok.empty n a (mem_of_lookup hm)).2
  have hX:∀ a∈b7 (callEnvC fd s.heap.objs.size f)++X,a∈X ∨ s.heap.objs.size≤a:=fun a ha=>by
    rcases List.mem_append.mp ha with h | h
    · exact .inr (own a h)
    exact .inl h
  refine wpAny_bind (iT (env:=callEnvC fd s.heap.objs.size f) _ (fun _ _ _=>rfl) bs ds [] { s with heap:=h1 } _ S1 hbs (aE.gr (.aB (x1.mono bu)) (aE.aR hX hv)) (hb _) (fun a ha=>List.mem_append_left _ ha) fun s2 S2 g2=>wpAny_pure ?_); refine ⟨O.nolimit.keeps S2.base,codeAny_func (j9 (h _ _ s2 ι _ S2) (fun fl s3 x ρ' H' ι' hq S3 hr g3=>?_) zz)⟩
  have gx:Gr C.B ι s ι' s3:=by
    obtain ⟨⟨κ,e1,hκ⟩,ex⟩:=(g2.trans g3); refine ⟨⟨κ,e1,fun a ha=>Nat.le_trans x1.size (hκ a ha)⟩,⟨Nat.le_trans x1.size ex.size,fun b o e hb=>?_,ex.gens,ex.os⟩⟩; refine ex.keep b o (keep1 b o e) fun hm=>?_; rcases List.mem_append.mp hm with h | h
    · exact hb h
    exact absurd (Heap.lt_size e) (Nat.not_lt.mpr (own b h))
  have wide:∀ a∈X,a∈b7 (callEnvC fd s.heap.objs.size f)++X ∨ s3.heap.objs.size≤a:=fun a ha=>.inl (List.mem_append_right _ ha); refine ⟨gD x,H',ι',hq,S.after gx S3.toks S3.is S3.nd ⟨S3.objs.1,fun i p o hp ho=>OR.aR wide (S3.objs.2 i p o hp ho)⟩,?_,gx⟩
  cases x with
  | ret y=>obtain ⟨v,rfl,hv⟩:=hr; exact VR.aR wide hv
  | next=>cases (show fl = .next from hr); exact .none_
  | brk=>cases (show fl = .brk from hr); exact .none_
  | cont=>cases (show fl = .cont from hr); exact .none_
theorem aZ.fnX {a:Addr} {st:Stmt} {dv:Value} {xs:List D} {kws:List (Str × D)} {ds:List (Str × D)} (O:C.Ok) (F:FnAt C a st dv) (hk:(aK st).kind = .function) (hco:(aK st).isCoroutine=false) (hgen:(aK st).isGenerator=false)
    (hbind:∀ name qual kwd doc pm ann cd ct (vs:List Value) (ks:List (Str × Value)) (A:Around) (s:Shared) (ι:Ad) (X:List Addr) (R:List (Str × Value)→Shared→Prop) (E:Value→Shared→Prop),(∀ a∈X,a < s.heap.objs.size)→(∀ a∈br ι,a < s.heap.objs.size)→aE s.heap ι X xs vs→ks.map (·.1)=kws.map (·.1)→aE s.heap ι X (kws.map (·.2)) (ks.map (·.2)) →
      (∀ bs s₁,Ext C.B [] s s₁→s.toks≤s₁.toks→bs.map (·.1)=ds.map (·.1)→aE s₁.heap ι X (ds.map (·.2)) (bs.map (·.2))→R bs s₁)→wpAny C.M A (bindArgs ⟨name,qual,eG st,.stmts (fnBody st),aK st,mainGlobals,[],dv,kwd,doc,pm,ann,cd,ct,builtinsNs⟩ ⟨vs,ks⟩) R E s)
    (hb:∀ q cd L,ds.all (fun p=>binds (b8 st q cd L a) p.1)=true)
    (h:∀ q cd L,aa C d (b8 st q cd L a) (cy ds) H (fnBody st) fun fl _ H'=>Q (gD fl) H'):aZ C (d+1) H (.ref a) xs kws Q:=fun A env ρ s ι X vs ks S hv hkn hkv=>by
  obtain ⟨o,name,qual,kwd,doc,pm,ann,cd,ct,ho,hd,hcd⟩:=F.ex; refine codeAny_call_function (FL S.room.depth) (S.base _ _ ho) hd hco hgen rfl (hcd.keeps S.base) ?_; refine hbind name qual kwd doc pm ann cd ct vs ks A.in1 s ι X _ _ (fun a h=>(S.xs a h).2) (fun a h=>(S.is a h).2) hv hkn hkv fun bs s₁ x1 ht hbs hbv=>?_; refine wpAny_mono (yD (Q:=Q) (ds:=ds) O (S.quiet x1 (Nat.le_trans S.toks ht)) rfl rfl rfl hk hbs hbv (fun L p hp=>List.all_eq_true.mp (hb qual cd L) p hp) fun L=>h qual cd L) (fun env s₂ q=>⟨q.1,codeAny_mono q.2 fun r s' hr=>?_⟩) zz
  cases r with
  | error e=>exact hr
  | ok f=>cases f with
    | ret v=>exact hr.back (.aB (x1.mono bu):Gr C.B ι s ι s₁)
    | _=>exact hr
end
end Mine
set_option maxRecDepth 100000
namespace Mine
section
variable {C:Cx} {d:Nat} {A:Around} {env:Env} {ρ:Loc} {H:List O} {ι:Ad} {X:List Addr} {s:Shared} {Q:D→List O→Prop}
noncomputable def lu (C:Cx) (d:Nat) (H:List O) (x:D) (name:Str) (f:Value):Prop :=
  ∀ A env ρ s ι X v pl (Q:Value × List Value→Shared→Prop),St C d A env ρ H ι X s→VR s.heap ι X x v→(∀ s',Ext C.B [] s s'→s.toks≤s'.toks→Q (f,[]) s')→wpAny C.M A (getMethod v name pl) Q (fun _ _=>False) s
inductive Ah (C:Cx) (d:Nat) (env:Env) (ρ:Loc) (args:List Expr) (name:Str) (Q:D→List O→Prop) (x:D) (H':List O):Prop
  | mk (f:Value) (m:lu C d H' x name f) (k:Kp C f) (h:az C d env ρ args H' fun xs H₂=>aj C d H₂ f xs Q)
theorem EV.zx {o:Expr} {name:Str} {apos pos:Pos} {args:List Expr} (hs:args.all (fun e=>!isStarred e)=true) (hb:c9 o=true) (hn:args.length < 30) (hl:(apos.endLine==pos.line)=true)
    (h:EV C d env ρ H o (Ah C d env ρ args name Q)):EV C d env ρ H (.Call (.Attribute o name apos) args [] pos) Q:=fun A s ι X S=>by
  rw [arm_eval_Call,fF hb]; refine wpAny_bind (aC (h A s ι X S) (fun u s₁ x H₁ ι₁ q3_ S₁ v₁ g₁=>?_) zz); obtain ⟨f,hm,hk,h₁⟩:=q3_; refine wpAny_bind (wpAny_standAt ?_); unfold methodCall; refine rl (iO hs hn) ?_; refine wpAny_bind (wpAny_holding ?_); refine uL rfl ?_; refine hm A env ρ s₁ ι₁ X u _ _ S₁ v₁ fun s₂ x2 ht=>?_; refine wpAny_bind (wpAny_of_eq (kG hl) ?_); exact wpAny_mono (fE (first:=[]) (fs:=[]) hs hk aE.bJ h₁ (S₁.quiet x2 (Nat.le_trans S₁.toks ht))) (fun _ _ p=>p.back (g₁.trans (.aB (x2.mono bu):Gr C.B ι₁ s₁ ι₁ s₂))) zz
theorem zq:typeLookup (.type "type") "__getattribute__" = pure (some (.builtin "type.__getattribute__")):=by rw [typeLookup_type,builtinLookup_eq_fast]; kernel_rfl
theorem lu.objNew (O:C.Ok):lu C d H (.val (.type "object")) "__new__" (.builtin "object.__new__"):=fun A env ρ s ι X v pl Q S hv hq=>by
  obtain rfl:=hv.cz; have hX:=O.K.keeps S.base; refine wpAny_bind (wpAny_specialOf (T := "type") rfl zq ?_); refine uL canon_tga ?_; refine wpAny_bind (cls_open (mc:=.type "type") (r:=.val (.builtin "object.__new__")) (hook:=Option.none) hX ?_ ?_ ?_ ?_ ?_ ?_ ?_)
  · exact Looks.of_pure (by kernel_rfl)
  · exact Looks.of_pure rfl
  · kernel_rfl
  · exact looks_hook hX (by kernel_rfl)
  · kernel_rfl
  · kernel_rfl
  refine wpAny_pure ?_; refine handed_on (v:=.builtin "object.__new__") (by kernel_rfl) ?_; exact wpAny_pure (hq _ .toks (Nat.le_succ _))
theorem oY:Bind.madeBy (.type "object")=pure (some "object.__new__"):=madeBy_type (c:=.type "object") (tl:=[]) (by rw [mroOf_type]; kernel_rfl) (by rw [typeLookup_type,builtinLookup_eq_fast]; kernel_rfl) (by decide +kernel)
theorem aj.objNew (O:C.Ok) (N:rN C.K 694 191 187) (hb:∀ S,peek C.K S (Bind.staticBase (.ref 694))=some (.type "object")) (hq:Q (.obj H.length) (H++[.inst 694 []])):aj C d H (.builtin "object.__new__") [.val (.ref 694)] Q:=fun A env ρ s ι X vs S hv=>up S <| by
  obtain ⟨v,rfl,hw⟩:=hv.bL; obtain rfl:=hw.cz; have hX:=O.K.keeps S.base; obtain ⟨hh,g,dr,t,os⟩:=s; obtain ⟨oc,od,cd,sl,hK,e1,e2,e3,e4,e5,e6⟩:=N.obj; have hC:hh.get? 694=some ⟨oc,od,.cls cd,sl⟩:=hX _ _ hK; have hc:clsIn C.K 694=some cd:=by unfold clsIn; exact rl hK rfl
  have hm:Looks C.M hh (mroOf (.ref 694)) cd.mro:=(looks_clsIn hX hc).andThen .now; have base:Looks C.M hh (Bind.staticBase (.ref 694)) (.type "object"):=fun A Q E s k q Γ p hΓ=>wp_of_peek (hX.keeps k) q _ (hb _); have made:Looks C.M hh (Bind.madeBy (.type "object")) (some "object.__new__"):=Looks.of_pure oY; have F:=PySem.F.objNew; refine qa (AG (Code.quiet_builtin _ F.quiet) ?_); unfold checkBuiltinCall; refine rl F.kind ?_; dsimp only; refine rl F.split ?_; dsimp only; rw [F.row]; dsimp only; have here:Looks C.M hh (Bind.madeHere "object.__new__" (.ref 694)) ():=base.andThen (made.andThen (Looks.of_pure (by simp only [Option.map_some,bne_self_eq_false,Bool.false_eq_true,if_false]))); have args:Bind.checkArgs "object.__new__" ⟨.hand, "object.__new__", "__new__",.cls,[]⟩ ⟨[.ref 694],[]⟩=pure ():=by kernel_rfl
  have sub:Looks C.M hh (isSubtype (.ref 694) (.type "object")) true:=looks_mroIn hX (by unfold mroIn; rw [hc,Option.bind_some,if_neg (by rw [e1]; decide),e6]); rw [args]
  repeat (first | simp only [bne_self_eq_false,Bool.false_eq_true,if_false] | lk)
  have hx:((hh.push emptyDict).push (instObj 694 hh.objs.size)).get? (hh.objs.size+1)=some (instObj 694 hh.objs.size):=by
    have:((hh.push emptyDict).push (instObj 694 hh.objs.size)).get? (hh.push emptyDict).objs.size=some (instObj 694 hh.objs.size):=Heap.get?_push_size _ rfl; rwa [Heap.size_push] at this
  have hd:((hh.push emptyDict).push (instObj 694 hh.objs.size)).get? hh.objs.size=some emptyDict:=Heap.get?_push_of_some _ (Heap.get?_push_size _ rfl); have hsz:((hh.push emptyDict).push (instObj 694 hh.objs.size)).objs.size=hh.objs.size+2:=by rw [Heap.size_push,Heap.size_push]
  refine gZ F.entry ?_
  repeat (first | simp only [e2,Bool.false_eq_true,if_false] | lk)
  refine nd_load (Heap.get?_push_of_some _ (Heap.get?_push_of_some _ hC)) (wpAny_pure ?_); dsimp only; refine rl e3 ?_; refine wpAny_pure (wpAny_pure (wpAny_pure ?_)); rw [Heap.size_push]; refine S.sf (s':=⟨(hh.push emptyDict).push (instObj 694 hh.objs.size),g,dr,t,os⟩) (p:=[hh.objs.size+1,hh.objs.size]) (o:=.inst 694 []) (.of_keep rfl rfl (by show hh.objs.size≤_; refine rl hsz ?_; exact Nat.le_add_right _ 2) fun b o e _=>Heap.get?_push_of_some _ (Heap.get?_push_of_some _ e)) (fun a ha=>?_) (by simp) ⟨_,_,[],0,rfl,hx,hd,Nat.le_refl _,fun name=>rfl⟩ rfl hq; refine rl hsz ?_; rcases List.mem_cons.mp ha with h | h
  · refine rl h ?_; exact ⟨Nat.le_succ _,Nat.lt_succ_self _⟩
  refine rl (List.mem_singleton.mp h) ?_; exact ⟨Nat.le_refl _,Nat.lt_succ_of_lt (Nat.lt_succ_self _)⟩
end
end Mine
namespace Mine
theorem y9 (l:List Nat) {a b:Nat} (hab:a≤b) (hb:b≤l.length):Txt.slice (T l) (some (a:Int)) (some (b:Int))=T ((l.drop a).take (b - a)):=by
  have hb':b≤(T l).length:=by rw [aL]; exact hb
  have hs:=StrLaws.sliced_plain (T l) hab hb'; rw [(by simp [T]:(T l).cps.toList=l)] at hs; unfold Txt.slice; split
  · rename_i h
    rw [StrLaws.strSliceIndices_plain hab hb'] at h; have hl:b - a=(T l).length:=by simpa using h
    rw [aL] at hl; have ha:a=0:=by exact Ce hab hl hb
    subst ha; exact rl List.drop_zero (rl (List.take_of_length_le (by exact Cd hl)) rfl)
  refine rl hs ?_; rfl
section
variable {C:Cx} {d:Nat} {A:Around} {env:Env} {ρ:Loc} {H:List O} {ι:Ad} {X:List Addr} {s:Shared} {Q:D→List O→Prop}
theorem EV.zX {v lo hi:Expr} {p pos:Pos}
    (h:EV C d env ρ H v fun x H₁=>EV C d env ρ H₁ lo fun a H₂=>EV C d env ρ H₂ hi fun b H₃=>∃ (l:List Nat) (i j:Nat),x = .str (T l)∧a = .int i∧b = .int j∧i≤j∧j≤l.length∧Q (.str (T ((l.drop i).take (j - i)))) H₃) :
    EV C d env ρ H (.Subscript v (.Slice (some lo) (some hi) Option.none p) pos) Q:=fun A s ι X S=>by
  refine Subscript_ (aC (h A s ι X S) (fun u s₁ x H₁ ι₁ h₁ S₁ v₁ g₁=>?_) zz); refine wpAny_Slice (aC (h₁ A s₁ ι₁ X S₁) (fun va s₂ a H₂ ι₂ h₂ S₂ v₂ g₂=>?_) zz); refine aC (h₂ A s₂ ι₂ X S₂) (fun vb s₃ b H₃ ι₃ q3_ S₃ v₃ g₃=>?_) zz; obtain ⟨l,i,j,rfl,rfl,rfl,hij,hjl,hq⟩:=q3_; refine wpAny_pure ?_; obtain ⟨hl,t,rfl⟩:=v₁.aM; obtain ⟨ti,rfl⟩:=v₂.bw; obtain ⟨tj,rfl⟩:=v₃.bw; have x5:Ext C.B [] s₃ { s₃ with heap:=s₃.heap.push { cls:=.type "slice",data:=.fields #[.int i ti,.int j tj,.none] } }:=.push; have S5:=S₃.quiet x5 S₃.toks; have hle:(Txt.slice (T l) (some (i:Int)) (some (j:Int))).length≤sizeLine:=Nat.le_trans (Txt.slice_le _ _ _) hl
  refine wpAny_mono (tail_any (s:={ s₃ with heap:=s₃.heap.push { cls:=.type "slice",data:=.fields #[.int i ti,.int j tj,.none] } }) (ops:=[.ref s₃.heap.objs.size,.str (T l) t]) (typeIs_str _ _ _) PySem.F.slot_str_getitem.lookup
    (up S5 (Q:=Q) (wpAny_getItem_str_slice (l:=some ((i:Int),ti)) (u:=some ((j:Int),tj)) (st:=Option.none) ⟨_,Heap.get?_push_size _ rfl,rfl,rfl⟩ rfl
    (post_val_or_str ⟨hle,fun t' k=>PR.quiet S5 .toks (e:=.str (T ((l.drop i).take (j - i)))) ?_ hq⟩))) ?_)
    (fun _ _ p=>p.back (((g₁.trans g₂).trans g₃).trans (.aB (x5.mono bu)))) zz
  · show VR _ _ _ _ (.str (Txt.slice (T l) (some (i:Int)) (some (j:Int))) t')
    rw [(y9 l hij hjl)] at hle ⊢; exact .eL hle
  rfl
theorem aj.isStr {x:Str} (hq:Q (.bool true) H):aj C d H (.builtin "isinstance") [.str x,.val (.type "str")] Q:=fun A env ρ s ι X vs S hv=>up S <| by
  obtain ⟨v,v',rfl,hw,hw'⟩:=hv.cD; obtain ⟨_,t,rfl⟩:=hw.aM; obtain rfl:=hw'.cz; exact PySem.IsiPair.str_str (PR.quiet S .refl .bq hq)
theorem aj.rS {x:Str} (hq:Q (.val (.type "str")) H):aj C d H (.type "type") [.str x] Q:=fun A env ρ s ι X vs S hv=>up S <| by
  obtain ⟨v,rfl,hw⟩:=hv.bL; obtain ⟨_,t,rfl⟩:=hw.aM; exact call_type_of (typeIs_str _ _ _) (by decide) (PR.quiet S .refl .tO hq)
theorem aj.xy {i:Int} (hq:Q (.val (.type "int")) H):aj C d H (.type "type") [.int i] Q:=fun A env ρ s ι X vs S hv=>up S <| by
  obtain ⟨v,rfl,hw⟩:=hv.bL; obtain ⟨t,rfl⟩:=hw.bw; exact call_type_of (typeIs_int _ _ _) (by decide) (PR.quiet S .refl .tO hq)
theorem aj.Ao {i:Int} (hq:Q (.int i) H):aj C d H (.type "int") [.int i] Q:=fun A env ρ s ι X vs S hv=>up S <| by
  obtain ⟨v,rfl,hw⟩:=hv.bL; obtain ⟨t,rfl⟩:=hw.bw; exact call_int_int (PR.quiet S .refl .fC hq)
theorem EV.fz {e:Expr} (h:EV C d env ρ [] e fun x H'=>∃ y,Fz H' x y∧Q y []):EV C d env ρ [] e Q:=fun A s ι X S=>by
  refine aC (h A s ι X S) (fun v s' x H' ι' q3_ S' v' g=>?_) zz; obtain ⟨y,hf,hq⟩:=q3_; have e:ι=[]:=List.eq_nil_of_length_eq_zero (by refine rl S.objs.1 ?_; rfl); subst e; have g':Gr C.B [] s [] s':=⟨⟨[],rfl,by simp [br]⟩,g.ext⟩; exact ⟨y,[],[],hq,S.after g' S'.toks (by simp [br]) (by simp [br]) ⟨rfl,fun i p o hp=>by simp at hp⟩,VR.fz S' hf v',g'⟩
end
end Mine
set_option maxRecDepth 100000
namespace Mine
theorem yF:typeOf (.builtin "dict.fromkeys")=pure (.type "classmethod_descriptor"):=by show builtinType _=_; refine rl builtinType_eq_fast ?_; kernel_rfl
theorem wC:entryFor table "dict.fromkeys" = some Builtin.«dict.fromkeys»:=entryFor_of_tree (by kernel_rfl)
theorem gJ:entryFor table "dict.fromkeys.loop" = some Builtin.«dict.fromkeys.loop»:=entryFor_of_tree (by kernel_rfl)
theorem cX:plainId "dict.fromkeys.loop" = true:=by decide +kernel
theorem wA:plainId "dict.fromkeys" = true:=by decide +kernel
theorem wz {as:Args}:(Code.builtin "dict.fromkeys" as).quiet=true:=Code.quiet_builtin _ (by decide +kernel)
theorem l9:isType (.type "dict")=pure true:=by first | rfl | kernel_rfl | (unfold isType; refine rl isSubtype_type ?_; kernel_rfl)
theorem wB:(kfb_private% "ownerAndName") "dict.fromkeys" = ("dict", "fromkeys"):=by first | decide +kernel | kernel_rfl
theorem wD (v:Value):checkBoundCall "dict.fromkeys" ⟨[.type "dict",v],[]⟩=pure ():=by first | kernel_rfl | rfl
theorem pJ:checkTypeCall "dict" ⟨[],[]⟩=pure ():=by kernel_rfl
theorem rg:checkBuiltinCall "dict.__new__" ⟨[.type "dict"],[]⟩=pure ():=by kernel_rfl
theorem nv (a:Value):argsOk "dict.__init__" ⟨[a],[]⟩:=by unfold argsOk; kernel_rfl
noncomputable def eZ:Obj:={ cls:=.type "builtin_function_or_method",data:=.fields #[.builtin "dict.fromkeys",.type "dict"] }
section
variable {prog:Program} {w:World} {A:Around} {E:Value→Shared→Prop} {s:Shared}
theorem q8 {P:Fin→Shared→Prop} (h:P (.done (.ret (.ref s.heap.objs.size))) { s with heap:=s.heap.push eZ }) :
    wpAny (model prog w) A (Builtin.«classmethod_descriptor.__get__» ⟨[.builtin "dict.fromkeys",.none,.type "dict"],[]⟩) P E s:=by
  refine wpAny_bind (wpAny_of_eq (a:=(.builtin "dict.fromkeys",none,some (.type "dict"))) (by first | rfl | kernel_rfl) ?_); simp only [wB]; refine wpAny_bind (wpAny_of_eq (a:=.type "dict") rfl ?_); refine wpAny_bind (wpAny_of_eq (a:=true) l9 ?_); refine KFB.if_not rfl ?_; refine wpAny_bind (wpAny_of_eq (a:=true) PySem.F.kt_sub_dict ?_); refine KFB.if_not rfl ?_; exact wpAny_bind (wpAny_newObj_type (wpAny_pure h))
theorem yG {K:Frag} {pl:Sem Bool} {Q:Value × List Value→Shared→Prop} (X:K.In s.heap) (h:Q (.ref s.heap.objs.size,[]) { s with heap:=s.heap.push eZ,toks:=s.toks+1 }) :
    wpAny (model prog w) A (getMethod (.type "dict") "fromkeys" pl) Q E s:=by
  refine wpAny_bind (wpAny_specialOf (T := "type") rfl zq ?_); refine uL canon_tga ?_; refine wpAny_bind (cls_open (K:=K) (mc:=.type "type") (r:=.get (.builtin "classmethod_descriptor.__get__") (.builtin "dict.fromkeys") .none (.type "dict")) (hook:=Option.none) X ?_ ?_ ?_ ?_ ?_ ?_ ?_)
  · exact Looks.of_pure (by kernel_rfl)
  · exact Looks.of_pure rfl
  · kernel_rfl
  · exact looks_hook X (by kernel_rfl)
  · kernel_rfl
  · kernel_rfl
  show wpAny _ _ (holding [.builtin "dict.fromkeys"] (call (.builtin "classmethod_descriptor.__get__") [.builtin "dict.fromkeys",.none,.type "dict"]) >>= fun v=>ret v) _ _ _; exact wpAny_bind (wpAny_holding (wpAny_call_entry KFB.slot_get yF KFB.entry_get (q8 ⟨_,rfl,wpAny_pure (handed_on (v:=.ref s.heap.objs.size) rfl (wpAny_pure h))⟩) (KFB.args_get _ _ _)))
theorem q9 {Q:Value→Shared→Prop} (h:Q (.ref s.heap.objs.size) { s with heap:=s.heap.push { cls:=.type "dict",data:=.dict #[] } }):wpAny (model prog w) A (call (.type "dict") []) Q E s:=by
  refine callType_codes (Q₁:=fun obj s₁=>obj = .ref s.heap.objs.size∧s₁ = { s with heap:=s.heap.push { cls:=.type "dict",data:=.dict #[] } }) PySem.F.kt_called_dict pJ PySem.F.entry_dict_init ?_ ?_
  · refine codeAny_call_builtin PySem.F.kt_plain_dict_new PySem.F.kt_entry_dict_new (wpAny_of_eq rg ?_)
    have hsub:=PySem.F.kt_sub_dict; have hmro:=PySem.F.kt_mro_dict; obtain ⟨hp,g,d,tk,os⟩:=s
    wp_walk
    exact ⟨rfl,rfl⟩
  rintro obj s₁ ⟨rfl,rfl⟩; have hnew:(s.heap.push { cls:=.type "dict",data:=.dict #[] }).DictOf (PySem.strKind prog w) s.heap.objs.size []:=Heap.DictOf.new s.heap; refine ⟨hnew.typeIs,nv _,?_⟩; refine wpAny_bind ?_; refine wpAny_bind (wpAny_notOrdered_dict hnew.typeIs ?_); refine wpAny_pure ?_; exact wpAny_bind (wpAny_of_eq (a:=()) rfl (wpAny_pure ⟨rfl,h⟩))
end
end Mine
set_option maxRecDepth 100000
namespace Mine
noncomputable def eH {prog:Program} {w:World} {K:Type} [DecidableEq K] (knd:KeyKind prog w K) (o:Obj) (kvs:List (K × Value)):Prop :=
  o.ExactDict∧∃ es ep,o.data = .dict es ep∧KeysOf knd es∧Pairs knd es.toList kvs∧(kvs.map (·.1)).Nodup
theorem eH.at {prog:Program} {w:World} {K:Type} [DecidableEq K] {knd:KeyKind prog w K} {o:Obj} {kvs:List (K × Value)} (x:eH knd o kvs) {h:Heap} {a:Addr} (e:h.get? a=some o):h.DictOf knd a kvs:=by
  obtain ⟨h1,es,ep,h2,h3,h4,h5⟩:=x; exact ⟨o,es,ep,e,h1,h2,h3,h4,h5⟩
theorem eH.of {prog:Program} {w:World} {K:Type} [DecidableEq K] {knd:KeyKind prog w K} {kvs:List (K × Value)} {h:Heap} {a:Addr} (x:h.DictOf knd a kvs):∃ o,h.get? a=some o∧eH knd o kvs:=by
  obtain ⟨o,es,ep,e,h1,h2,h3,h4,h5⟩:=x; exact ⟨o,e,h1,es,ep,h2,h3,h4,h5⟩
section
variable {prog:Program} {w:World} {A:Around} {E:Value→Shared→Prop} {s:Shared}
theorem vX {n:Str} {t:Tok}:(PySem.strKind prog w).is n (.str n t)=true:=by
  show Value.isStrOf n (.str n t)=true; exact isStrOf_self n t
theorem yH {x:Addr} {t:Tok} {Q:Value→Shared→Prop} (hh:A.handled=none) (ho:s.heap.get? x=some eZ)
    (h:∀ h' tk o,s.heap.objs.size≤h'.objs.size→(∀ b o,s.heap.get? b=some o→h'.get? b=some o)→h'.get? s.heap.objs.size=some o→eH (PySem.strKind prog w) o [(T [46],.none)]→Q (.ref s.heap.objs.size) { s with heap:=h',toks:=tk }) :
    wpAny (model prog w) A (call (.ref x) [.str (T [46]) t]) Q E s:=by
  refine bI (qa (rT ?_)); refine wpAny_bind (wpAny_load ho ?_); refine KFB.if_so (by decide) ?_; refine KFB.if_so (by decide) ?_; refine wpAny_bind (wpAny_of_eq (a:=()) (wD _) ?_); refine wpAny_bind (wpAny_pure (wpAny_pure ?_)); refine ⟨wz,gZ wC ?_⟩; refine rl (Around.under_plainId wA _) ?_; refine wpAny_bind (wpAny_of_eq (a:=true) l9 ?_); refine KFB.if_not rfl ?_; refine wpAny_bind (wpAny_of_eq (a:=true) PySem.F.kt_sub_dict ?_); refine KFB.if_not rfl ?_; refine KFB.if_not rfl ?_; refine wpAny_bind (wpAny_rule (wpAny_bind (wpAny_pure ?_))); refine wpAny_bind (show wpAny _ _ (call (.type "dict") []) _ _ _ from q9 ?_); refine wpAny_holding ?_; refine wpAny_bind (wpAny_typeOf (typeIs_str _ _ _) ?_); have hD:(s.heap.push { cls:=.type "dict",data:=.dict #[] }).DictOf (PySem.strKind prog w) s.heap.objs.size []:=Heap.DictOf.new s.heap; refine wpAny_bind (wpAny_typeOf hD.typeIs ?_); refine KFB.if_not (by decide) ?_; refine wpAny_bind (wpAny_typeOf hD.typeIs ?_); refine KFB.if_not (by decide) ?_; refine wpAny_bind (wpAny_pyIter_strU ?_); rw [(by kernel_rfl:strIterType (T [46]) = "str_ascii_iterator")]; generalize hI:(s.heap.push { cls:=.type "dict",data:=.dict #[] }).objs.size=I; have hIs:I=s.heap.objs.size+1:=by rw [← hI,Heap.size_push]
  have hne:s.heap.objs.size≠I:=by exact Cc hIs
  have hnI:∀ b o,s.heap.get? b=some o→b≠I:=fun b o e=>Nat.ne_of_lt (Nat.lt_trans (Heap.lt_size e) (by refine rl hIs ?_; exact Nat.lt_succ_self _)); have hit:((s.heap.push { cls:=.type "dict",data:=.dict #[] }).push { cls:=.type "str_ascii_iterator",data:=.fields #[.str (T [46]) t,.int 0 0] }).IsStrIter I "str_ascii_iterator" (T [46]) t 0:=⟨_,hI ▸ Heap.get?_push_size _ rfl,rfl,rfl⟩; have hk0:∀ b o,s.heap.get? b=some o→((s.heap.push { cls:=.type "dict",data:=.dict #[] }).push { cls:=.type "str_ascii_iterator",data:=.fields #[.str (T [46]) t,.int 0 0] }).get? b=some o:=fun b o e=>Heap.get?_push_of_some _ (Heap.get?_push_of_some _ e); refine wpAny_pure ⟨plainId_quiet cX _,gZ gJ ?_⟩; refine rl (Around.under_plainId cX _) ?_; refine wpAny_bind (wpAny_pyNext_ascii_item (c:=46) hit rfl fun h1 hit1 hs1=>?_); have hD3:=(hD.push { cls:=.type "str_ascii_iterator",data:=.fields #[.str (T [46]) t,.int 0 0] }).sameBut hs1 hne; refine wpAny_bind (wpAny_typeOf hD3.typeIs ?_); refine KFB.if_so (by decide) ?_; refine wpAny_bind (wpAny_of_eq (a:=s.heap.objs.size) rfl ?_); refine wpAny_bind (wpAny_holding (wpAny_dictSet_pairs (knd:=PySem.strKind prog w) (k:=T [46]) vX hD3 fun h2 hD4 hs2=>?_))
  have hit2:h2.IsStrIter I "str_ascii_iterator" (T [46]) t 1:=by
    obtain ⟨o,e,r⟩:=hit1; exact ⟨o,(hs2.2 I (Ne.symm hne)).trans e,r⟩
  have hk2:∀ b o,s.heap.get? b=some o→h2.get? b=some o:=fun b o e=>(hs2.2 b (Nat.ne_of_lt (Heap.lt_size e))).trans ((fun b o e=>(hs1.2 b (hnI b o e)).trans (hk0 b o e):∀ b o,s.heap.get? b=some o→h1.get? b=some o) b o e); refine wpAny_pure ⟨plainId_quiet cX _,gZ gJ ?_⟩; refine rl (Around.under_plainId cX _) ?_; refine wpAny_bind (wpAny_pyNext_ascii_end hh hit2 rfl fun h3 hs3=>?_); refine wpAny_pure ?_; obtain ⟨o,ho4,dobj⟩:=eH.of (hD4.extBut hs3 hne); intro hsz _; exact h h3 _ o hsz (fun b o e=>hs3 b o (hnI b o e) (hk2 b o e)) ho4 dobj
end
end Mine
set_option maxRecDepth 100000
namespace Mine
theorem vO:entryFor table "str.maketrans" = some Builtin.«str.maketrans»:=entryFor_of_tree (by kernel_rfl)
theorem vM:plainId "str.maketrans" = true:=by decide +kernel
theorem vP (v:Value):checkBuiltinCall "str.maketrans" ⟨[v],[]⟩=pure ():=by kernel_rfl
theorem su:typeLookup (.type "str") "maketrans" = pure (some (.builtin "str.maketrans")):=by rw [typeLookup_type,builtinLookup_eq_fast]; kernel_rfl
theorem sr:typeOf (.builtin "str.maketrans")=pure (.type "builtin_function_or_method"):=by show builtinType _=_; refine rl builtinType_eq_fast ?_; kernel_rfl
theorem vN:typeLookup (.type "builtin_function_or_method") "__get__" = pure none:=by rw [typeLookup_type,builtinLookup_eq_fast]; kernel_rfl
theorem Ae:(Value.type "builtin_function_or_method" != Value.type "function" && Value.type "builtin_function_or_method" != Value.type "method_descriptor" && Value.type "builtin_function_or_method" != Value.type "wrapper_descriptor")=true:=by decide +kernel
section
variable {prog:Program} {w:World} {A:Around} {E:Value→Shared→Prop} {s:Shared}
theorem EN {x:Str} {u tk:Tok} {Q:Fin→Shared→Prop} {h:Heap} {g:Array GenState} {d:Drawn} {t:Nat} {os:OsState} (hq:Q (.done (.ret (.builtin "str.maketrans"))) ⟨h,g,d,t,os⟩) :
    wpAny (model prog w) A (Builtin.«object.__getattribute__» ⟨[.str x u,.str "maketrans" tk],[]⟩) Q E ⟨h,g,d,t,os⟩:=by
  have hT:(⟨h,g,d,t,os⟩:Shared).TypeIs (.str x u) "str" := rfl; have f4:=su; have f5:=sr; have f6:=vN
  repeat (any_goals (first | assumption | wp_step))
theorem EO {x:Str} {u tk:Tok} {Q:Value→Shared→Prop} {h:Heap} {g:Array GenState} {d:Drawn} {t:Nat} {os:OsState} (hq:Q (.builtin "str.maketrans") ⟨h,g,d,t,os⟩):wpAny (model prog w) A (getAttrBy (.str x u) (.str "maketrans" tk) true) Q E ⟨h,g,d,t,os⟩:=by
  have hT:(⟨h,g,d,t,os⟩:Shared).TypeIs (.str x u) "str" := rfl; have f2:=PySem.F.slot_str_getattribute.lookup; have f3:=PySem.F.slot_str_getattribute.bind (.str x u)
  repeat (any_goals (first | assumption | wp_step))
  with_reducible refine codeAny_call_builtin PySem.F.slot_str_getattribute.plain PySem.F.entry_object_getattribute (PySem.F.slot_str_getattribute.check _ _ _ _ _ _ _ _ hT (PySem.F.args_object_getattribute_2 _ _) (EN ?_))
  repeat (any_goals (first | assumption | wp_step))
set_option maxHeartbeats 2000000 in
theorem yg {x:Str} {t:Tok} {pl:Sem Bool} {Q:Value × List Value→Shared→Prop} (h:Q (.builtin "str.maketrans",[]) { s with toks:=s.toks+1 }) :
    wpAny (model prog w) A (getMethod (.str x t) "maketrans" pl) Q E s:=by
  have hT:s.TypeIs (.str x t) "str" := rfl; obtain ⟨g,hg,hcan⟩:=PySem.F.plainAttrs_str.ga; unfold getMethod
  with_reducible refine wpAny_bind (wpAny_specialOf hT hg ?_)
  refine KFB.if_not hcan ?_
  with_reducible refine wpAny_bind (wpAny_specialOf hT PySem.F.plainAttrs_str.noGetattr ?_)
  refine uM (show ¬ ((none:Option Value).isSome=true) from Bool.false_ne_true) ?_
  with_reducible refine wpAny_bind (wpAny_specialOf hT su ?_)
  refine rl sr ?_; refine wpAny_bind (wpAny_pure ?_); refine uL Ae ?_; refine wpAny_bind (wpAny_bind (wpAny_mkText ?_)); obtain ⟨hp,gg,d,tk,os⟩:=s; exact EO (wpAny_pure h)
end
end Mine
set_option maxRecDepth 100000
namespace Mine
section
variable {prog:Program} {w:World} {A:Around} {E:Value→Shared→Prop} {s:Shared}
theorem yh {a:Addr} {o:Obj} {Q:Value→Shared→Prop} (ho:s.heap.get? a=some o) (hD:eH (PySem.strKind prog w) o [(T [46],.none)]) (hs:(a==sysModules)=false)
    (h:∀ h' tk o',s.heap.objs.size < h'.objs.size→(∀ b o,s.heap.get? b=some o→h'.get? b=some o)→h'.get? s.heap.objs.size=some o'→eH (PySem.intKind prog w) o' [((46:Int),.none)]→Q (.ref s.heap.objs.size) { s with heap:=h',toks:=tk }) :
    wpAny (model prog w) A (call (.builtin "str.maketrans") [.ref a]) Q E s:=by
  refine qa (wW vM vO (wpAny_of_eq (vP _) ?_)); refine wpAny_bind (wpAny_of_eq (a:=()) rfl ?_); refine wpAny_bind (wpAny_of_eq (a:=()) rfl ?_); refine wpAny_bind (wpAny_of_eq (a:=none) rfl ?_); refine wpAny_bind (wpAny_of_eq (a:=none) rfl ?_); refine wpAny_bind (wpAny_newObj_type ?_ (by size_fits)); have hnew:(s.heap.push { cls:=.type "dict",data:=.dict #[] }).DictOf (PySem.intKind prog w) s.heap.objs.size []:=Heap.DictOf.new s.heap; have hold:=(hD.at ho).push { cls:=.type "dict",data:=.dict #[] }; refine wpAny_bind (wpAny_holding ?_); show wpAny _ _ (do notAStandIn (← typeOf (.ref a)); _) _ _ _; refine wpAny_bind (wpAny_typeOf hold.typeIs ?_); refine wpAny_bind (wpAny_of_eq (a:=()) rfl ?_); refine wpAny_bind (wpAny_typeOf hold.typeIs ?_); refine KFB.if_not (by decide) ?_; refine wpAny_bind ?_; unfold notTheModulesDict; refine rl hs ?_; refine wpAny_pure ?_; obtain ⟨ex,es,ep,hd,hk,hp,hn⟩:=hD; refine wpAny_bind (wpAny_dictEntries (Heap.get?_push_of_some _ ho) hd ?_); obtain ⟨es⟩:=es
  obtain ⟨e,rfl,t,hkey,hval⟩:∃ e,es=[e]∧∃ t,e.key = .str (T [46]) t∧e.val = .none:=by
    cases hp with
    | cons h1 h2 h3 =>
      cases h3; obtain ⟨t,ht⟩:=Value.isStrOf_shape h1; exact ⟨_,rfl,t,ht,h2⟩
  refine wpAny_bind ?_; rw [← Array.forIn_toList,List.forIn_cons]; refine wpAny_bind ?_; refine rl hkey (rl hval ?_); refine wpAny_bind (wpAny_of_eq (a:=some (T [46])) rfl ?_); show wpAny _ _ (do dictSet s.heap.objs.size (← mkInt ((46:Nat):Int)) .none; pure (ForInStep.yield PUnit.unit)) _ _ _; refine wpAny_bind (wpAny_mkInt (wpAny_bind (wpAny_dictSet_pairs (knd:=PySem.intKind prog w) (k:=(46:Int)) ?_ hnew fun h' hD' hs'=>wpAny_pure ?_)))
  · simp [PySem.intKind,Value.isInt]
  dsimp only; refine rl List.forIn_nil ?_; refine wpAny_pure (wpAny_pure (wpAny_pure ?_)); obtain ⟨o',ho',dobj⟩:=eH.of hD'; refine h h' _ o' ?_ (fun b o e=>(hs'.2 b (Nat.ne_of_lt (Heap.lt_size e))).trans (Heap.get?_push_of_some _ e)) ho' dobj; refine rl hs'.1 ?_; rw [Heap.size_push]; exact Nat.lt_succ_self _
theorem pq {c:Nat} {t:Tok}:(PySem.intKind prog w).is (c:Int) (.int c t)=true:=by exact intKind_is prog w (↑c) t
theorem mO:isSubtype (.type "KeyError") (.type "LookupError")=pure true:=by rw [isSubtype_type]; kernel_rfl
theorem mL {a:Addr} {o:Obj} {c:Nat} {Q:Builtin.Str.Mapped→Shared→Prop} (hh:A.handled=none) (ho:s.heap.get? a=some o) (hD:eH (PySem.intKind prog w) o [((46:Int),.none)]) (hs:(a==sysModules)=false) (hc:c≠46)
    (h:∀ h' tk,(∀ b o,s.heap.get? b=some o→h'.get? b=some o)→Q .keep { s with heap:=h',toks:=tk }):wpAny (model prog w) A (Builtin.Str.tableLookup (.ref a) c) Q E s:=by
  refine wpAny_bind (wpAny_attempt (wpAny_bind (wpAny_mkInt (wpAny_getItem_missing_of (knd:=PySem.intKind prog w) (k:=(c:Int)) (s:={ s with toks:=s.toks+1 }) pq hs hh ((hD.at ho).mapOf) ?_ fun h' e hx=>?_))))
  · have:¬ ((46:Int)=(c:Int)):=by exact Cb hc
    simp [valueAt,this]
  obtain ⟨ob,t,hob,hcl,_⟩:=hx.there; refine wpAny_bind (wpAny_isInstance (T := "KeyError") (b:=true) ⟨ob,hob,hcl⟩ mO ?_); refine KFB.if_so rfl (wpAny_bind (wpAny_rule (wpAny_pure (h _ _ hx.keeps))))
theorem rX {a:Addr} {o:Obj} {Q:Builtin.Str.Mapped→Shared→Prop} (ho:s.heap.get? a=some o) (hD:eH (PySem.intKind prog w) o [((46:Int),.none)])
    (h:∀ tk,Q .drop { s with toks:=tk }):wpAny (model prog w) A (Builtin.Str.tableLookup (.ref a) 46) Q E s:=by
  refine wpAny_bind (wpAny_attempt (wpAny_bind (wpAny_mkInt (wpAny_getItem_of (knd:=PySem.intKind prog w) (k:=((46:Nat):Int)) (s:={ s with toks:=s.toks+1 }) (v:=.none) pq ((hD.at ho).mapOf) rfl ?_)))); exact wpAny_pure (h _)
noncomputable abbrev yZ:=List Str × Nat × Bool × List (Nat × Option Nat) × Bool
theorem mK {a:Addr} {o:Obj} (f:Nat→yZ→Sem (ForInStep yZ))
    (hf:∀ (c:Nat) (p:List Str) (n:Nat) (kn:List (Nat × Option Nat)) (ad:Bool) (s:Shared) (Q:ForInStep yZ→Shared→Prop),s.heap.get? a=some o→n≤20000 →
      (∀ h' tk,(∀ b o,s.heap.get? b=some o→h'.get? b=some o)→Q (.yield (if c=46 then (p,n,false,kn,true) else (T [c]::p,n+1,false,kn,false))) { s with heap:=h',toks:=tk })→wpAny (model prog w) A (f c (p,n,false,kn,ad)) Q E s) :
    ∀ (l:List Nat) (p:List Str) (n:Nat) (kn:List (Nat × Option Nat)) (ad:Bool) (s:Shared) (Q:yZ→Shared→Prop),s.heap.get? a=some o→n+l.length≤20000 →
      (∀ n' ad' h' tk,n'≤20000→(∀ b o,s.heap.get? b=some o→h'.get? b=some o)→Q (((l.filter (·≠46)).map fun c=>T [c]).reverse++p,n',false,kn,ad') { s with heap:=h',toks:=tk })→wpAny (model prog w) A (forIn l (p,n,false,kn,ad) f) Q E s
  | [],p,n,kn,ad,s,Q,ho,hn,hq=>by
    refine rl List.forIn_nil ?_; have:=hq n ad s.heap s.toks (by simpa using hn) fun _ _ e=>e; exact wpAny_pure this
  | c::l,p,n,kn,ad,s,Q,ho,hn,hq=>by
    rw [List.length_cons] at hn; rw [List.forIn_cons]; refine wpAny_bind (hf c p n kn ad s _ ho (by exact B9 hn) fun h' tk hk=>?_)
    by_cases hc:c=46
    · refine rl (if_pos hc) ?_
      refine mK f hf l p n kn true { s with heap:=h',toks:=tk } Q (hk _ _ ho) (by exact B8 hn) fun n' ad' h2 tk2 hn' hk2=>?_; have:=hq n' ad' h2 tk2 hn' fun b o e=>hk2 b o (hk b o e); rw [List.filter_cons,if_neg (by simp [hc])] at this; exact this
    refine rl (if_neg hc) ?_; refine mK f hf l (T [c]::p) (n+1) kn false { s with heap:=h',toks:=tk } Q (hk _ _ ho) (by exact B7 hn) fun n' ad' h2 tk2 hn' hk2=>?_; have:=hq n' ad' h2 tk2 hn' fun b o e=>hk2 b o (hk b o e); rw [List.filter_cons,if_pos (by simp [hc]),List.map_cons,List.reverse_cons,List.append_assoc] at this; exact this
theorem rU:∀ (l:List Nat) (acc:Array Nat),((l.map fun c=>T [c]).foldl (fun acc p=>acc++p.cps) acc)=acc++l.toArray
  | [],acc=>by rfl
  | c::l,acc=>by rw [List.map_cons,List.foldl_cons,rU l]; simp [T]
theorem xA {a:Addr} {o:Obj} {l:List Nat} {t:Tok} {Q:Value→Shared→Prop} (hh:A.handled=none) (ho:s.heap.get? a=some o) (hD:eH (PySem.intKind prog w) o [((46:Int),.none)]) (hs:(a==sysModules)=false) (hl:l.length≤10000) (hne:l≠[]) (hw:l.all (· < 128)=false)
    (h:∀ h' tk tt,s.heap.objs.size≤h'.objs.size→(∀ b o,s.heap.get? b=some o→h'.get? b=some o)→Q (.str (T (l.filter (·≠46))) tt) { s with heap:=h',toks:=tk }) :
    wpAny (model prog w) A (call (.builtin "str.translate") [.str (T l) t,.ref a]) Q E s:=by
  refine bI (wpAny_call_entry PySem.F.slot_str_translate (rfl:s.TypeIs (.str (T l) t) "str") PySem.F.entry_str_translate ?_ (PySem.F.args_str_translate_2 _ _)); refine wpAny_bind (wpAny_of_eq (a:=(.str (T l) t,T l,.ref a)) rfl ?_); have hlen:((T l).length==0)=false:=by rw [aL]; cases l with | nil=>exact absurd rfl hne | cons=>rfl
  refine KFB.if_not hlen ?_
  have hall:((T l).cps.all fun x=>decide (x < 128))=false:=by
    refine rr hw ?_; show (l.toArray.all fun x=>decide (x < 128))=_; exact List.all_toArray
  refine rl hall ?_; have hz:(16777216:Nat)=sizeLine:=rfl
  have htl:∀ n:Nat,n≤20000→Builtin.Str.tooLong n=false:=fun n hn=>by
    exact decide_eq_false (by exact B6 hz hn)
  refine wpAny_bind ?_; refine rr Array.forIn_toList ?_; refine mK (a:=a) (o:=o) _ ?_ l [] 0 [] false s _ ho (by exact B5 hl) fun n' ad' h' tk hn' hk=>?_
  · intro c p n kn ad s Q ho hn hq
    dsimp only; refine rl (htl n hn) (rl (if_neg Bool.false_ne_true) (rl (if_neg Bool.false_ne_true) ?_))
    by_cases hc:c=46
    · subst hc
      rw [if_pos rfl] at hq
      cases ad with
      | true =>
        refine uL rfl ?_; refine wpAny_bind (rX ho hD fun tk=>wpAny_pure (hq _ _ fun _ _ e=>e))
      | false =>
        refine uM Bool.false_ne_true ?_; refine wpAny_bind (rX ho hD fun tk=>wpAny_pure (hq _ _ fun _ _ e=>e))
    rw [if_neg hc] at hq
    cases ad with
    | true =>
      refine uL rfl ?_; refine wpAny_bind (mL hh ho hD hs hc fun h' tk hk=>?_); refine wpAny_bind (mL (s:={ s with heap:=h',toks:=tk }) hh (hk _ _ ho) hD hs hc fun h2 tk2 hk2=>?_); exact wpAny_pure (hq _ _ fun b o e=>hk2 b o (hk b o e))
    | false =>
      refine uM Bool.false_ne_true ?_; refine wpAny_bind (mL hh ho hD hs hc fun h' tk hk=>?_); exact wpAny_pure (hq _ _ hk)
  dsimp only; refine KFB.if_not (htl n' hn') ?_
  have e:(⟨((((l.filter (·≠46)).map fun c=>T [c]).reverse++[]).reverse.foldl (fun (acc:Array Nat) (p:Str)=>acc++p.cps) #[])⟩:Str)=T (l.filter (·≠46)):=by
    rw [List.append_nil,List.reverse_reverse,rU]; simp [T]
  refine rl e ?_
  have hfl:(T (l.filter (·≠46))).length≤sizeLine:=by
    rw [aL]; have:=List.length_filter_le (·≠46) l; exact Bj hz this hl
  exact wpAny_bind (wpAny_mkStr (wpAny_pure ⟨_,rfl,fun hsz _=>h _ _ _ hsz hk⟩) hfl)
end
end Mine
set_option maxRecDepth 100000
namespace Mine
section
variable {C:Cx} {d:Nat} {A:Around} {env:Env} {ρ:Loc} {H:List O} {ι:Ad} {X:List Addr} {s:Shared} {Q:D→List O→Prop}
theorem eH.size {prog:Program} {w:World} {K:Type} [DecidableEq K] {knd:KeyKind prog w K} {o:Obj} {kv:K × Value} (x:eH knd o [kv]) {es:Array DictEntry} {ep:Nat} (h:o.data = .dict es ep):es.size=1:=by
  obtain ⟨_,es',ep',h',_,hp,_⟩:=x; rw [h] at h'; cases h'; have:=hp.length; assumption
theorem vC {K:Type} [DecidableEq K] {knd:KeyKind C.prog C.w K} {o:Obj} {kv:K × Value} {a:Addr} (hv:VR s.heap ι X (.imm o) (.ref a)) (x:eH knd o [kv]):(a==sysModules)=false:=by
  cases e:(a==sysModules) with
  | false=>rfl
  | true =>
    obtain ⟨_,es,ep,hd,_⟩:=id x; exact absurd (x.size hd) (hv.jZ (by simpa using e) es ep hd)
theorem vH (O:C.Ok) (S:St C d A env ρ H ι X s) {o:Obj}:s.heap.objs.size=sysModules→∀ es ep,o.data = .dict es ep→es.size≠1:=fun e=>by
  exact absurd (Nat.lt_of_lt_of_le O.low S.big) (by refine rl e ?_; exact Nat.lt_irrefl _)
theorem eH.dY {K:Type} [DecidableEq K] {prog:Program} {w:World} {knd:KeyKind prog w K} {o:Obj} {kvs:List (K × Value)} (x:eH knd o kvs):o.cls≠.type "frame" := by
  refine rl x.1.1 ?_; exact not_eq_of_beq_eq_false rfl
theorem aj.maketrans {o:Obj} (O:C.Ok) (hD:eH (PySem.strKind C.prog C.w) o [(T [46],.none)]) (hq:∀ o',eH (PySem.intKind C.prog C.w) o' [((46:Int),.none)]→Q (.imm o') H):aj C d H (.builtin "str.maketrans") [.imm o] Q:=fun A env ρ s ι X vs S hv=>up S <| by
  obtain ⟨v,rfl,hw⟩:=hv.bL; obtain ⟨a,rfl,_,_,ho,_⟩:=hw.dU; refine yh ho hD (vC hw hD) fun h' tk o' hsz hk ho' hD'=>?_; exact PR.quiet S (.kept (Nat.le_of_lt hsz) hk) (.lF S.b3.1 S.b3.2 ho' hD'.dY (vH O S)) (hq o' hD')
theorem aj.translate {o:Obj} {l:List Nat} (O:C.Ok) (hD:eH (PySem.intKind C.prog C.w) o [((46:Int),.none)]) (hl:l.length≤10000) (hne:l≠[]) (hw:l.all (· < 128)=false) (hq:Q (.str (T (l.filter (·≠46)))) H) :
    aj C d H (.builtin "str.translate") [.str (T l),.imm o] Q:=fun A env ρ s ι X vs S hv=>up S <| by
  obtain ⟨v,v',rfl,hv1,hv2⟩:=hv.cD; obtain ⟨_,t,rfl⟩:=hv1.aM; obtain ⟨a,rfl,_,_,ho,_⟩:=hv2.dU; refine xA S.room.handled ho hD (vC hv2 hD) hl hne hw fun h' tk tt hsz hk=>?_; refine PR.quiet S (.kept hsz hk) (.eL ?_) hq; rw [aL]; have:=List.length_filter_le (·≠46) l; exact Bj (rfl:(16777216:Nat)=sizeLine) this hl
theorem lu.maketrans {x:Str}:lu C d H (.str x) "maketrans" (.builtin "str.maketrans"):=fun A env ρ s ι X v pl Q S hv hq=>by
  obtain ⟨_,t,rfl⟩:=hv.aM
  with_reducible exact yg (hq _ .toks (Nat.le_succ _))
theorem EV.fromkeys {f:Str} {p pos apos:Pos} {e:Expr} (O:C.Ok) (kf:env.kindOf f=some .globalImplicit) (hf:C.mg f=Option.none) (hf':C.mb f=some (.type "dict")) (hdb:(f==("__debug__" : Str))=false) (hl:(apos.endLine==pos.line)=true) (hns:isStarred e=false)
    (h:EV C d env ρ H e fun x H₁=>x = .str (T [46])∧∀ o,eH (PySem.strKind C.prog C.w) o [(T [46],.none)]→Q (.imm o) H₁) :
    EV C d env ρ H (.Call (.Attribute (.Name f p) "fromkeys" apos) [e] [] pos) Q:=fun A s ι X S=>by
  rw [arm_eval_Call,fF rfl]; refine wpAny_bind (aC ((EV.blt (Q:=fun x H₁=>x = .val (.type "dict")∧H₁=H) hdb O kf hf hf' ⟨rfl,rfl⟩:EV C d env ρ H (.Name f p) _) A s ι X S) (fun u s₁ x H₁ ι₁ q3_ S₁ v₁ g₁=>?_) zz); obtain ⟨rfl,rfl⟩:=q3_; obtain rfl:=v₁.cz; refine wpAny_bind (wpAny_standAt ?_); have hst:[e].all (fun e=>!isStarred e)=true:=by simp [hns]
  unfold methodCall; refine rl (iO hst (Nat.lt_of_sub_pos (by exact Nat.succ_pos 28)):methodCallForm ([e].length+([]:List Keyword).length) (backTo pos (starEach [e] env)) (backToKw pos (keywordEach [] env))=true) ?_; refine wpAny_bind (wpAny_holding ?_); unfold calleeOf; refine rl (if_pos rfl) ?_
  with_reducible refine yG (K:=C.K) (O.K.keeps S₁.base) ?_
  refine wpAny_bind (wpAny_of_eq (kG hl:methodCallPos true (.Name f p) env apos pos=pure pos) ?_); generalize hF:s₁.heap.objs.size=F; have x2:Ext C.B [] s₁ { s₁ with heap:=s₁.heap.push eZ,toks:=s₁.toks+1 }:=.vq
  have S₂:St C d A env ρ H₁ ι₁ ([F]++X) { s₁ with heap:=s₁.heap.push eZ,toks:=s₁.toks+1 }:=S₁.widen x2 (Nat.le_succ_of_le S₁.toks) fun a ha=>by
    refine rl (List.mem_singleton.mp ha) (rr hF ?_); exact ⟨Nat.le_refl _,by show _ < (s₁.heap.push _).objs.size; rw [Heap.size_push]; exact Nat.lt_succ_self _⟩
  have g2:Gr C.B ι₁ s₁ ι₁ { s₁ with heap:=s₁.heap.push eZ,toks:=s₁.toks+1 }:=.aB (x2.mono bu)
  have hkp:∀ h':Heap,h'.get? F=some eZ→∃ k,(k=Keeper.frame ∨ k=Keeper.machine ∨ k=Keeper.boundFrame)∧Looks C.M h' (keeperOf (.ref F)) k:=fun h' e=>by
    refine ⟨.machine,.inr (.inl rfl),fun A' Q' E' s' k' q'=>?_⟩; unfold keeperOf; refine wpAny_bind (wpAny_load (k' _ _ e) ?_); simp only [eZ,show (Value.type "builtin_function_or_method" != Value.type "method")=true by decide,show (Value.type "builtin_function_or_method" == Value.type "builtin_function_or_method" || Value.type "builtin_function_or_method" == Value.type "method-wrapper")=true by decide,if_true]; exact wpAny_pure q'
  refine callWith_of (P:=fun h=>h.get? F=some eZ) (by refine rl (b9 hst) ?_; rfl) hkp ?_; refine rl (bA hns) ?_; refine evalArgs_plain ?_; show wpAny C.M A (PySem.spliced ((false,eval e env)::backTo pos (starEach [] env))) _ _ _; refine spliced_cons (aC (h A _ ι₁ ([F]++X) S₂) (fun u s₃ x H₃ ι₃ q3_ S₃ v₃ g₃=>?_) zz); obtain ⟨rfl,hq⟩:=q3_; have hF3:s₃.heap.get? F=some eZ:=g₃.ext.get (hF ▸ Heap.get?_push_size _ rfl:(s₁.heap.push eZ).get? F=some eZ) (fun hm=>S₂.iR F hm (.head _:F∈[F]++X)) (by simp [eZ]); obtain ⟨_,t,rfl⟩:=v₃.aM; refine spliced_nil ⟨hF3,?_⟩; show wpAny C.M A (PySem.call (Value.ref F) [Value.str (T [46]) t]) _ _ _; have hsub:∀ a∈X,a∈[F]++X:=fun a h=>List.mem_append_right _ h; refine aC (up S₃ (Q:=Q) (rel:=VR) (yH S₃.room.handled hF3 fun h' tk o hsz hk ho hD=>PR.quiet S₃ (.kept hsz hk) (.lF S₃.b3.1 S₃.b3.2 ho hD.dY (vH O S₃)) (hq o hD))) (fun v s₄ y H₄ ι₄ hq4 S₄ v₄ g₄=>?_) zz; exact ⟨y,H₄,ι₄,hq4,S.narrow S₄ hsub,VR.aR (fun a h=>.inl (hsub a h)) v₄,((g₁.trans g2).trans g₃).trans g₄⟩
end
end Mine
namespace Mine
theorem WF.zf {C:Cx} (W:WF C):rN C.K 694 191 187:=by
  refine ⟨?_,W.k.vh,W.k.u9,W.k.ve,W.k.vg,sL W.k.vd⟩; obtain ⟨⟨oc,od,dt,sl⟩,e,h⟩:=of_map W.k.vf; obtain ⟨cd,hd,h⟩:=of_map h; obtain rfl:dt = .cls cd:=yQ hd; simp only [Bool.and_eq_true,Bool.not_eq_true',decide_eq_true_eq] at h; obtain ⟨⟨⟨⟨⟨h1,h2⟩,h3⟩,h4⟩,h5⟩,h6⟩:=h; exact ⟨oc,od,cd,sl,e,h1,h2,h3,h4,h5,h6⟩
noncomputable def gX:Obj:={ cls:=.type "dict",data:=.dict #[] }
section
variable {C:Cx} {d:Nat} {H:List O} {Q:D→List O→Prop}
theorem aO.ux {a b:Addr} {o o':Obj} (h1:C.h₀.get? a=some o) (h2:C.h₀.get? b=some o') (hne:a≠b) (hc:o.cls≠.type "tuple") (hq:Q (.bool true) H):aO C d H (.val (.ref a)) (.val (.ref b)) (compareOp .IsNot) Q:=fun A env ρ s ι X u v S hu hv=>up S <| by
  obtain rfl:=hu.cz; obtain rfl:=hv.cz; exact wpAny_isNot_ref_other hne (S.base _ _ h1) (S.base _ _ h2) hc (PR.quiet S .refl .bq hq)
theorem aO.uw {a:Addr} (hq:Q (.bool false) H):aO C d H (.val (.ref a)) (.val (.ref a)) (compareOp .IsNot) Q:=fun A env ρ s ι X u v S hu hv=>up S <| by
  obtain rfl:=hu.cz; obtain rfl:=hv.cz; exact wpAny_isNot_ref_self (PR.quiet S .refl .bq hq)
theorem vG (W:WF C) {x:Str}:aZ C (d+2) H (.ref 187) [.val (.ref 694),.str x] [] fun r H'=>r = .obj H.length∧H'=H++[.inst 694 []]:=by
  obtain ⟨bio,ob,hbio,hne,hob⟩:=W.E8; obtain ⟨os,hos,hoc⟩:=W.rZ; refine aZ.fnX (ds:=[("cls",.val (.ref 694)),("args",.tuple [.str x]),("kwargs",.imm gX)]) W.ok W.E9 (by kernel_rfl) (by kernel_rfl) (by kernel_rfl) ?_ (fun q cd L=>by kernel_rfl) fun q cd L=>?_
  · intro name qual kwd doc pm ann cd ct vs ks A s ι X R E hX hι hv hk hkv hR
    obtain ⟨v1,v2,rfl,w1,w2⟩:=hv.cD; have:ks=[]:=by cases ks with | nil=>rfl | cons=>cases hk
    subst this; refine rl (by kernel_rfl:bindArgs ⟨name,qual,eG (inClass 1 (ak 22)),.stmts (fnBody (inClass 1 (ak 22))),aK (inClass 1 (ak 22)),mainGlobals,[],.none,kwd,doc,pm,ann,cd,ct,builtinsNs⟩ ⟨[v1,v2],[]⟩=(do let t ← newTuple [v2]; let d ← alloc gX; pure [("cls",v1),("args",t),("kwargs",.ref d)])) ?_; refine wpAny_bind (wpAny_newObj_type (wpAny_bind (wpAny_alloc (wpAny_pure ?_))) (by show 1≤sizeLine; decide)); have x1:Ext C.B [] s { s with heap:=(s.heap.push (bF [v2] 0)).push gX }:=(Ext.push (s:=s)).trans (Ext.push (s:={ s with heap:=s.heap.push (bF [v2] 0) })); have nX:∀ b,s.heap.objs.size≤b→b ∉ X∧b ∉ br ι:=fun b hb=>⟨fun hm=>absurd (hX b hm) (Nat.not_lt.mpr hb),fun hm=>absurd (hι b hm) (Nat.not_lt.mpr hb)⟩; have g1:Gr C.B ι s ι { s with heap:=(s.heap.push (bF [v2] 0)).push gX }:=.aB (x1.mono bu); refine hR _ { s with heap:=(s.heap.push (bF [v2] 0)).push gX } x1 (Nat.le_refl _) rfl ?_; refine .aH (VR.gr g1 w1) (.aH (.fj (nX _ (Nat.le_refl _)).1 (nX _ (Nat.le_refl _)).2 (Heap.get?_push_of_some _ (Heap.get?_push_size _ rfl)) (by show 1≤sizeLine; decide) (.aH (VR.gr g1 w2) .bJ)) (.aH ?_ .bJ)); have hs:s.heap.objs.size≤(s.heap.push (bF [v2] 0)).objs.size:=by rw [Heap.size_push]; exact Nat.le_succ _
    exact .lF (nX _ hs).1 (nX _ hs).2 (Heap.get?_push_size _ rfl) (by simp [gX]) (fun _ es ep h=>by unfold gX at h; cases h; decide)
  refine aa.cons ?_; refine EX.if ?_; refine TV.and ?_; refine TV.cm ?_ ?_; rotate_left
  · kernel_rfl
  refine EV.nm (.val (.ref 694)) ?_ ?_ ?_
  · kernel_rfl
  · kernel_rfl
  refine EV.glob (by decide) W.ok (by kernel_rfl) hbio ?_; refine aO.ux hos hob (Ne.symm hne) hoc (TR.plain rfl ?_); refine TV.and ?_; refine TV.cm ?_ ?_; rotate_left
  · kernel_rfl
  refine EV.nm (.val (.ref 694)) ?_ ?_ ?_
  · kernel_rfl
  · kernel_rfl
  refine EV.glob (by decide) W.ok (by kernel_rfl) W.zA ?_; refine aO.uw (TR.plain rfl ?_); refine aa.nil ?_; refine aa.cons ?_; refine EX.rt ?_; refine EV.zx (by kernel_rfl) (by kernel_rfl) (by decide) (by kernel_rfl) ?_; refine EV.blt (by decide) W.ok (by kernel_rfl) W.qb.1 W.qb.2 ?_; refine ⟨_,lu.objNew W.ok,.builtin,?_⟩; refine az.c ?_; refine EV.nm (.val (.ref 694)) ?_ ?_ ?_
  · kernel_rfl
  · kernel_rfl
  refine az.n ?_; exact aj.objNew W.ok W.zf W.mT ⟨rfl,rfl⟩
end
noncomputable def cG (l:List Nat) (p:Nat):List (Str × D):=[("_StringIO__newline",.str (T [10])),("_StringIO__buf",.str (T l)),("_StringIO__pos",.int p)]
section
variable {C:Cx} {d:Nat} {H:List O} {Q:D→List O→Prop}
theorem qq (W:WF C) {k:Nat} {fs:List (Str × D)} {x:Str} (ho:H[k]?=some (.inst 694 fs)) (hf:fs.lookup ("_StringIO__newline" : Str)=some (.str (T [10]))) (hq:Q (.str x) H):aj C (d+2) H (.ref 471) [.obj k,.str x] Q:=by
  refine aj.fn (ns:=["self", "s"]) W.ok W.sS (by kernel_rfl) (by kernel_rfl) (by kernel_rfl) rfl ?_ (fun q cd L=>by kernel_rfl) fun q cd L=>?_
  · exact fun _ _ _ _ _ _ _ _=>Am fun _ _=>by kernel_rfl
  refine aa.cons ?_; refine EX.asg ?_ ?_
  · kernel_rfl
  refine EV.attr (k:=k) (cl:=694) (fs:=fs) (e:=.str (T [10])) W.ok W.dF W.A4 ?_ ?_
  · kernel_rfl
  refine EV.nm (.obj k) ?_ ?_ ?_
  · kernel_rfl
  · kernel_rfl
  refine ⟨rfl,ho,hf,rfl,?_⟩; refine aa.cons ?_; refine EX.if ?_; refine TV.cm ?_ ?_; rotate_left
  · kernel_rfl
  refine EV.nm (.str (T [10])) ?_ ?_ ?_
  · kernel_rfl
  · kernel_rfl
  refine EV.none ?_; refine aO.cmp ?_; refine TR.plain rfl (aa.nil ?_); refine aa.cons ?_; refine EX.if ?_; refine TV.or ?_; refine TV.cm ?_ ?_; rotate_left
  · kernel_rfl
  refine EV.nm (.str (T [10])) ?_ ?_ ?_
  · kernel_rfl
  · kernel_rfl
  refine EV.aY ([13]) ?_ (by decide) ?_
  · kernel_rfl
  refine aO.eqT (TR.plain rfl ?_); refine TV.or ?_; refine TV.cm ?_ ?_; rotate_left
  · kernel_rfl
  refine EV.nm (.str (T [10])) ?_ ?_ ?_
  · kernel_rfl
  · kernel_rfl
  refine EV.aY ([13,10]) ?_ (by decide) ?_
  · kernel_rfl
  refine aO.eqT (TR.plain rfl ?_); refine TV.Bc (aa.nil ?_); refine aa.cons ?_; refine EX.rt ?_; refine EV.nm (.str x) ?_ ?_ ?_
  · kernel_rfl
  · kernel_rfl
  exact hq
theorem qD (W:WF C) {l:List Nat} (hl:l.length≤10000):aZ C (d+3) [.inst 787 [],.inst 694 []] (.ref 464) [.obj 1,.str (T l)] [] fun r H'=>r = .none∧H'=[.inst 787 [],.inst 694 (cG l 0)]:=by
  obtain ⟨t,u,hd457⟩:=W.yT; have hz:(16777216:Nat)=sizeLine:=rfl; refine aZ.yE (ds:=[("self",.obj 1),("initial_value",.str (T l)),("newline",.str (T [10]))]) W.ok W.yI (by kernel_rfl) (by kernel_rfl) (by kernel_rfl) ?_ (fun q cd L=>by kernel_rfl) fun q cd L=>?_
  · intro name qual kwd doc pm ann cd ct vs ks s ι X hb hv hk hkv
    obtain ⟨v1,v2,rfl,w1,w2⟩:=hv.cD; have:ks=[]:=by cases ks with | nil=>rfl | cons=>cases hk
    subst this; exact ⟨[("self",v1),("initial_value",v2),("newline",.str (T [10]) u)],BindsTo.of_defaults rfl (hb _ _ hd457) rfl rfl rfl,rfl,.aH w1 (.aH w2 (.aH (.eL (by decide)) .bJ))⟩
  refine aa.cons ?_; refine EX.if ?_; refine TV.and ?_; refine TV.cm ?_ ?_; rotate_left
  · kernel_rfl
  refine EV.nm (.str (T [10])) ?_ ?_ ?_
  · kernel_rfl
  · kernel_rfl
  refine EV.none ?_; refine aO.cmp ?_; refine TR.plain rfl ?_; refine TV.and ?_; refine TV.cm ?_ ?_; rotate_left
  · kernel_rfl
  refine EV.bS W.ok W.rG .type ?_ ?_
  · kernel_rfl
  refine az.c ?_; refine EV.nm (.str (T [10])) ?_ ?_ ?_
  · kernel_rfl
  · kernel_rfl
  refine az.n ?_; refine aj.rS ?_; refine EV.blt (by decide) W.ok (by kernel_rfl) W.jM.1 W.jM.2 ?_; refine aO.cmp ⟨rfl,TR.plain rfl ?_⟩; refine aa.nil ?_; refine aa.cons ?_; refine EX.if ?_; refine TV.and ?_; refine TV.cm ?_ ?_; rotate_left
  · kernel_rfl
  refine EV.nm (.str (T [10])) ?_ ?_ ?_
  · kernel_rfl
  · kernel_rfl
  refine EV.none ?_; refine aO.cmp ?_; refine TR.plain rfl ?_; refine TV.and ?_; refine TV.cm ?_ ?_; rotate_left
  · kernel_rfl
  refine EV.nm (.str (T [10])) ?_ ?_ ?_
  · kernel_rfl
  · kernel_rfl
  refine EV.aY ([]) ?_ (by decide) ?_
  · kernel_rfl
  refine aO.neT (TR.plain rfl ?_); refine TV.and ?_; refine TV.cm ?_ ?_; rotate_left
  · kernel_rfl
  refine EV.nm (.str (T [10])) ?_ ?_ ?_
  · kernel_rfl
  · kernel_rfl
  refine EV.aY ([10]) ?_ (by decide) ?_
  · kernel_rfl
  refine aO.neT (TR.plain rfl ?_); refine aa.nil ?_; refine aa.cons ?_; refine EX.if ?_; refine TV.and ?_; refine TV.cm ?_ ?_; rotate_left
  · kernel_rfl
  refine EV.nm (.str (T l)) ?_ ?_ ?_
  · kernel_rfl
  · kernel_rfl
  refine EV.none ?_; refine aO.cmp ?_; refine TR.plain rfl ?_; refine TV.and ?_; refine TV.cm ?_ ?_; rotate_left
  · kernel_rfl
  refine EV.bS W.ok W.rG .type ?_ ?_
  · kernel_rfl
  refine az.c ?_; refine EV.nm (.str (T l)) ?_ ?_ ?_
  · kernel_rfl
  · kernel_rfl
  refine az.n ?_; refine aj.rS ?_; refine EV.blt (by decide) W.ok (by kernel_rfl) W.jM.1 W.jM.2 ?_; refine aO.cmp ⟨rfl,TR.plain rfl ?_⟩; refine aa.nil ?_; refine aa.cons ?_; refine EX.setAttr (k:=1) (cl:=694) (fs:=[]) W.ok W.dF W.A4 (ah rfl) ?_; refine EV.nm (.str (T [10])) ?_ ?_ ?_
  · kernel_rfl
  · kernel_rfl
  refine EV.nm (.obj 1) ?_ ?_ ?_
  · kernel_rfl
  · kernel_rfl
  refine ⟨rfl,rfl,by decide,?_⟩; refine aa.cons ?_; refine EX.setAttr (k:=1) (cl:=694) (fs:=[("_StringIO__newline",.str (T [10]))]) W.ok W.dF W.oK (ah rfl) ?_; refine EV.aY ([]) ?_ (by decide) ?_
  · kernel_rfl
  refine EV.nm (.obj 1) ?_ ?_ ?_
  · kernel_rfl
  · kernel_rfl
  refine ⟨rfl,?_,by decide,?_⟩
  · kernel_rfl
  refine aa.cons ?_; refine EX.setAttr (k:=1) (cl:=694) (fs:=[("_StringIO__newline",.str (T [10])),("_StringIO__buf",.str (T []))]) W.ok W.dF W.u7 (ah rfl) ?_; refine EV.int ?_; refine EV.nm (.obj 1) ?_ ?_ ?_
  · kernel_rfl
  · kernel_rfl
  refine ⟨rfl,?_,by decide,?_⟩
  · kernel_rfl
  refine aa.cons ?_; refine EX.if ?_; refine TV.cm ?_ ?_; rotate_left
  · kernel_rfl
  refine EV.nm (.str (T l)) ?_ ?_ ?_
  · kernel_rfl
  · kernel_rfl
  refine EV.none ?_; refine aO.cmp ?_; refine TR.plain rfl ?_; refine aa.cons ?_; refine EX.setAttr (k:=1) (cl:=694) (fs:=cG [] 0) W.ok W.dF W.oK (ah rfl) ?_; refine EV.b5 ?_ ?_
  · kernel_rfl
  refine EV.nm (.obj 1) ?_ ?_ ?_
  · kernel_rfl
  · kernel_rfl
  refine ⟨_,bY.inst (fs:=cG [] 0) W.ok W.dF W.xO W.u5 ?_ ?_,W.sS.kp,?_⟩
  · kernel_rfl
  · kernel_rfl
  refine az.c ?_; refine EV.nm (.str (T l)) ?_ ?_ ?_
  · kernel_rfl
  · kernel_rfl
  refine az.n ?_; refine qq (fs:=cG [] 0) W ?_ ?_ ?_
  · kernel_rfl
  · kernel_rfl
  refine EV.nm (.obj 1) ?_ ?_ ?_
  · kernel_rfl
  · kernel_rfl
  refine ⟨rfl,?_,by decide,?_⟩
  · kernel_rfl
  refine aa.nil ?_; refine aa.nil ⟨rfl,?_⟩; kernel_rfl
theorem uW (W:WF C) {l:List Nat} (hl:l.length≤10000) (hq:Q (.obj 1) [.inst 787 [],.inst 694 (cG l 0)]):aj C (d+4) [.inst 787 []] (.ref 694) [.str (T l)] Q:=by
  refine aZ.plain (aZ.yj W.ok W.zf W.zZ W.xQ (vG W) ((qD W hl).mono ?_)); rintro r H' ⟨rfl,rfl⟩; exact ⟨rfl,hq⟩
end
section
variable {C:Cx} {d:Nat} {H:List O} {Q:D→List O→Prop}
theorem qX (W:WF C) {x:Str} (hq:Q (.int 1) H):aj C (d+2) H (.ref 160) [.int 1,.str x] Q:=by
  refine aj.fn (ns:=["n", "what"]) W.ok W.sX (by kernel_rfl) (by kernel_rfl) (by kernel_rfl) rfl ?_ (fun q cd L=>by kernel_rfl) fun q cd L=>?_
  · exact fun _ _ _ _ _ _ _ _=>Am fun _ _=>by kernel_rfl
  refine aa.cons ?_; refine EX.if ?_; refine TV.and ?_; refine TV.cm ?_ ?_; rotate_left
  · kernel_rfl
  refine EV.bS W.ok W.rG .type ?_ ?_
  · kernel_rfl
  refine az.c ?_; refine EV.nm (.int 1) ?_ ?_ ?_
  · kernel_rfl
  · kernel_rfl
  refine az.n ?_; refine aj.xy ?_; refine EV.blt (by decide) W.ok (by kernel_rfl) W.w7.1 W.w7.2 ?_; refine aO.cmp ⟨rfl,TR.plain rfl ?_⟩; refine aa.nil ?_; refine aa.cons ?_; refine EX.asg ?_ ?_
  · kernel_rfl
  refine EV.bS W.ok W.w7 .type ?_ ?_
  · kernel_rfl
  refine az.c ?_; refine EV.nm (.int 1) ?_ ?_ ?_
  · kernel_rfl
  · kernel_rfl
  refine az.n ?_; refine aj.Ao ?_; refine aa.cons ?_; refine EX.if ?_; refine TV.or ?_; refine TV.cm ?_ ?_; rotate_left
  · kernel_rfl
  refine EV.nm (.int 1) ?_ ?_ ?_
  · kernel_rfl
  · kernel_rfl
  refine EV.int ?_; refine aO.cmp ?_; refine TR.plain rfl ?_; refine TV.or ?_; refine TV.cm ?_ ?_; rotate_left
  · kernel_rfl
  refine EV.nm (.int 1) ?_ ?_ ?_
  · kernel_rfl
  · kernel_rfl
  refine EV.unary ?_; refine EV.int ?_; refine Fy.neg ?_; refine aO.cmp ?_; refine TR.plain rfl ?_; refine TV.Bc (aa.nil ?_); refine aa.cons ?_; refine EX.rt ?_; refine EV.nm (.int 1) ?_ ?_ ?_
  · kernel_rfl
  · kernel_rfl
  exact hq
theorem rA (W:WF C) {k:Nat} {fs:List (Str × D)} {x:Str} (ho:H[k]?=some (.inst 694 fs)) (hf:fs.lookup ("_StringIO__buf" : Str)=some (.str x)) (hq:Q .none H):aj C (d+2) H (.ref 478) [.obj k] Q:=by
  refine aj.fn (ns:=["self"]) W.ok W.sY (by kernel_rfl) (by kernel_rfl) (by kernel_rfl) rfl ?_ (fun q cd L=>by kernel_rfl) fun q cd L=>?_
  · exact fun _ _ _ _ _ _ _ _=>gU fun _=>by kernel_rfl
  refine aa.cons ?_; refine EX.if ?_; refine TV.cm ?_ ?_; rotate_left
  · kernel_rfl
  refine EV.attr (k:=k) (cl:=694) (fs:=fs) (e:=.str x) W.ok W.dF W.oK ?_ ?_
  · kernel_rfl
  refine EV.nm (.obj k) ?_ ?_ ?_
  · kernel_rfl
  · kernel_rfl
  refine ⟨rfl,ho,hf,rfl,?_⟩; refine EV.none ?_; refine aO.cmp ?_; refine TR.plain rfl (aa.nil (aa.nil ?_)); exact hq
theorem mQ {l:List Nat} {p:Nat}:(cG l p).lookup ("_StringIO__buf" : Str)=some (.str (T l))∧(cG l p).lookup ("_StringIO__pos" : Str)=some (.int p):=⟨by kernel_rfl,by kernel_rfl⟩
theorem xM {l:List Nat} {p q:Nat}:aQ "_StringIO__pos" (.int q) (cG l p)=cG l q:=by kernel_rfl
theorem tY (W:WF C) {l:List Nat} {p:Nat} (hl:l.length≤10000) (ho:H[1]?=some (.inst 694 (cG l p)))
    (hq:match l[p]? with | none=>Q (.str (T [])) H | some c=>Q (.str (T [c])) (H.set 1 (.inst 694 (cG l (p+1))))):aj C (d+3) H (.ref 640) [.obj 1,.int 1] Q:=by
  have hz:(16777216:Nat)=sizeLine:=rfl; obtain ⟨t633,hd633⟩:=W.yS; refine aj.yE (ds:=[("self",.obj 1),("size",.int 1)]) W.ok W.wH (by kernel_rfl) (by kernel_rfl) (by kernel_rfl) ?_ (fun q cd L=>by kernel_rfl) fun q cd L=>?_
  · intro name qual kwd doc pm ann cd ct vs s ι X hb hv
    obtain ⟨v1,v2,rfl,w1,w2⟩:=hv.cD; exact ⟨[("self",v1),("size",v2)],BindsTo.of_defaults rfl (hb _ _ hd633) rfl rfl rfl,rfl,.aH w1 (.aH w2 .bJ)⟩
  refine aa.cons ?_; refine EX.if ?_; refine TV.cm ?_ ?_; rotate_left
  · kernel_rfl
  refine EV.nm (.int 1) ?_ ?_ ?_
  · kernel_rfl
  · kernel_rfl
  refine EV.none ?_; refine aO.cmp ?_; refine TR.plain rfl (aa.nil ?_); refine aa.cons ?_; refine EX.asg ?_ ?_
  · kernel_rfl
  refine EV.cL W.ok W.yz W.sX.kp ?_ ?_
  · kernel_rfl
  refine az.c ?_; refine EV.nm (.int 1) ?_ ?_ ?_
  · kernel_rfl
  · kernel_rfl
  refine az.c ?_; refine EV.str (by decide) ?_; refine az.n ?_; refine qX W ?_; refine aa.cons ?_; refine EX.exp ?_ ?_
  · kernel_rfl
  refine EV.b5 ?_ ?_
  · kernel_rfl
  refine EV.nm (.obj 1) ?_ ?_ ?_
  · kernel_rfl
  · kernel_rfl
  refine ⟨_,bY.inst W.ok W.dF W.xR W.vj ho ?_,W.sY.kp,?_⟩
  · kernel_rfl
  refine az.n ?_; refine rA W ho mQ.1 ⟨rfl,?_⟩; refine aa.cons ?_; refine EX.asg ?_ ?_
  · kernel_rfl
  refine EV.attr (k:=1) (cl:=694) (fs:=cG l p) (e:=.int p) W.ok W.dF W.u7 ?_ ?_
  · kernel_rfl
  refine EV.nm (.obj 1) ?_ ?_ ?_
  · kernel_rfl
  · kernel_rfl
  refine ⟨rfl,ho,mQ.2,rfl,?_⟩; refine aa.cons ?_; refine EX.asg ?_ ?_
  · kernel_rfl
  refine EV.bS W.ok W.w6 .builtin ?_ ?_
  · kernel_rfl
  refine az.c ?_; refine EV.attr (k:=1) (cl:=694) (fs:=cG l p) (e:=.str (T l)) W.ok W.dF W.oK ?_ ?_
  · kernel_rfl
  refine EV.nm (.obj 1) ?_ ?_ ?_
  · kernel_rfl
  · kernel_rfl
  refine ⟨rfl,ho,mQ.1,rfl,?_⟩; refine az.n ?_; refine aj.len_str ?_; rw [aL]; refine aa.cons ?_; refine EX.if ?_; refine TV.cm ?_ ?_; rotate_left
  · kernel_rfl
  refine EV.nm (.int p) ?_ ?_ ?_
  · kernel_rfl
  · kernel_rfl
  refine EV.nm (.int l.length) ?_ ?_ ?_
  · kernel_rfl
  · kernel_rfl
  refine aO.cmp ?_; refine TR.plain rfl ?_
  cases hp:l[p]? with
  | none =>
    rw [hp] at hq; have:l.length≤p:=List.getElem?_eq_none_iff.mp hp; refine rl (decide_eq_true (show (l.length:Int)≤(p:Int) by exact Int.ofNat_le.mpr this)) ?_; refine aa.cons ?_; refine EX.rt ?_; refine EV.aY ([]) ?_ (by decide) ?_
    · kernel_rfl
    exact hq
  | some c =>
    rw [hp] at hq; have hlt:p < l.length:=(List.getElem?_eq_some_iff.mp hp).1; refine rl (decide_eq_false (show ¬ (l.length:Int)≤(p:Int) by exact Gm hlt)) ?_; refine aa.nil ?_
    have etake:(l.drop p).take (p+1 - p)=[c]:=by
      refine rl (show p+1 - p=1 by exact Nat.add_sub_self_left _ 1) (rl (List.drop_eq_getElem_cons hlt) ?_)
      have:l[p]=c:=by
        have:=List.getElem?_eq_some_iff.mp hp; exact this.2
      simp [this]
    have fin:∀ ρ:Loc,ρ.lookup ("self" : Str)=some (.obj 1)→ρ.lookup ("start" : Str)=some (.int (p:Nat))→ρ.lookup ("stop" : Str)=some (.int ((p+1:Nat):Int))→aa C (d+1+1) (b8 (inClass 25 (ak 26)) q cd L 640) ρ H ((fnBody (inClass 25 (ak 26))).drop 7) fun fl _ H'=>Q (gD fl) H':=by
      intro ρ r1 r2 r3; refine aa.cons ?_; refine EX.setAttr (k:=1) (cl:=694) (fs:=cG l p) W.ok W.dF W.u7 ?_ ?_
      · exact ah rfl
      refine EV.nm (.int ((p+1:Nat):Int)) ?_ ?_ ?_
      · assumption
      · kernel_rfl
      refine EV.nm (.obj 1) ?_ ?_ ?_
      · assumption
      · kernel_rfl
      refine ⟨rfl,ho,by show 3≤900; decide,?_⟩; refine rl xM ?_; refine aa.cons ?_; refine EX.rt ?_; refine EV.zX ?_; refine EV.attr (k:=1) (cl:=694) (fs:=cG l (p+1)) (e:=.str (T l)) W.ok W.dF W.oK ?_ ?_
      · kernel_rfl
      refine EV.nm (.obj 1) ?_ ?_ ?_
      · assumption
      · kernel_rfl
      refine ⟨rfl,?_,mQ.1,rfl,?_⟩
      · have:1 < H.length:=(List.getElem?_eq_some_iff.mp ho).1
        exact rl (List.getElem?_set_self this) rfl
      refine EV.nm (.int (p:Nat)) ?_ ?_ ?_
      · assumption
      · kernel_rfl
      refine EV.nm (.int ((p+1:Nat):Int)) ?_ ?_ ?_
      · assumption
      · kernel_rfl
      refine ⟨l,p,p+1,rfl,rfl,rfl,by exact x9,hlt,?_⟩; refine rl etake ?_; exact hq
    refine aa.cons ?_; refine EX.if ?_; refine TV.and ?_; refine TV.cm ?_ ?_; rotate_left
    · kernel_rfl
    refine EV.nm (.int 1) ?_ ?_ ?_
    · kernel_rfl
    · kernel_rfl
    refine EV.int ?_; refine aO.cmp ?_; refine TR.plain rfl ?_; refine TV.and ?_; refine TV.cm ?_ ?_; rotate_left
    · kernel_rfl
    refine EV.bo ?_; refine EV.nm (.int p) ?_ ?_ ?_
    · kernel_rfl
    · kernel_rfl
    refine EV.nm (.int 1) ?_ ?_ ?_
    · kernel_rfl
    · kernel_rfl
    refine aO.yX ?_; refine EV.nm (.int l.length) ?_ ?_ ?_
    · kernel_rfl
    · kernel_rfl
    refine aO.cmp ?_; refine TR.plain rfl ?_
    by_cases hlast:p+1 < l.length
    · refine rl (decide_eq_true (show (p:Int)+1 < (l.length:Int) by exact Int.lt_of_toNat_lt hlast)) ?_
      refine TV.qc ?_; refine aa.cons ?_; refine EX.asg ?_ ?_
      · kernel_rfl
      refine EV.bo ?_; refine EV.nm (.int p) ?_ ?_ ?_
      · kernel_rfl
      · kernel_rfl
      refine EV.nm (.int 1) ?_ ?_ ?_
      · kernel_rfl
      · kernel_rfl
      refine aO.yX ?_; refine aa.nil ?_; refine fin _ ?_ ?_ ?_
      all_goals kernel_rfl
    refine rl (decide_eq_false (show ¬ (p:Int)+1 < (l.length:Int) by exact Gl hlast hlt)) ?_; refine aa.nil ?_; refine fin _ ?_ ?_ ?_
    · kernel_rfl
    · kernel_rfl
    refine rr (by exact Gk hlast hlt:l.length=p+1) ?_; kernel_rfl
end
noncomputable def AU:List Nat:=[97,98,99,100,102,101,103,104,105,106,107,108,109,110,111,112,113,114,115,116,117,118,119,120,121,122,65,66,67,68,69,70,71,72,73,74,75,76,77,78,79,80,81,82,83,84,85,86,87,88,89,90,48,49,50,51,52,53,54,55,56,57,95]
noncomputable def GR:List Nat:=[223,224,225,226,227,228,229,230,231,232,233,234,235,236,237,238,239,240,241,242,243,244,245,246,248,249,250,251,252,253,254,255,192,193,194,195,196,197,198,199,200,201,202,203,204,205,206,207,208,209,210,211,212,213,214,216,217,218,219,220,221,222]
noncomputable def zO:List Nat:=[126,45,46,47,42,63,61]
noncomputable def ig:List Nat:=AU++GR
noncomputable def zN:List Nat:=(ig++zO).filter (·≠46)
noncomputable def qE (com wc:List Nat) (FG:Bool) (st:D) (ln:Int) (tok A8:List Nat) (tail:List (Str × D)):List (Str × D) :=
  ([("instream",.obj 1),("infile",.none),("posix",.bool true),("eof",.none),("commenters",.str (T com)),("wordchars",.str (T wc)),("whitespace",.str (T [32,9,13,10])),("whitespace_split",.bool FG),("quotes",.str (T [39,34])),("escape",.str (T [92])),("escapedquotes",.str (T [34])),("state",st),("pushback",.obj 2),("lineno",.int ln),("debug",.int 0),("token",.str (T tok)),("filestack",.obj 3),("source",.none),("_punctuation_chars",.str (T A8))]:List (Str × D))++tail
noncomputable def uX (b:Bool) (l:List Nat):List O:=match b with
  | false=>[.inst 787 (qE [35] ig false (.str (T [32])) 1 [] [] []),.inst 694 (cG l 0),.deque [],.deque []]
  | true=>[.inst 787 (qE [35] zN false (.str (T [32])) 1 [] [46] [("_pushback_chars",.obj 4)]),.inst 694 (cG l 0),.deque [],.deque [],.deque []]
noncomputable def z4 (b:Bool):D:=if b=true then .str (T [46]) else .bool false
section
variable {C:Cx} {d:Nat} {H:List O} {Q:D→List O→Prop}
theorem lO (W:WF C) {l:List Nat} (hl:l.length≤10000) (b:Bool) (q:Str) (cd:Value) (L:Addr) :
    aa C (d+4) (b8 (inClass 0 (ak 28)) q cd L 711) (cy [("self",.obj 0),("instream",.str (T l)),("infile",.none),("posix",.bool true),("punctuation_chars",z4 b)]) [.inst 787 []] (fnBody (inClass 0 (ak 28))) fun fl _ H'=>gD fl = .none∧H'=uX b l:=by
  have hz:(16777216:Nat)=sizeLine:=rfl; refine aa.cons ?_; refine EX.if ?_; refine TV.plain ?_ (fun _=>rfl); refine EV.bS W.ok W.Fo .builtin ?_ ?_
  · kernel_rfl
  refine az.c ?_; refine EV.nm (.str (T l)) ?_ ?_ ?_
  · kernel_rfl
  · kernel_rfl
  refine az.c ?_; refine EV.blt (by decide) W.ok (by kernel_rfl) W.jM.1 W.jM.2 ?_; refine az.n ?_; refine aj.isStr (TR.plain rfl ?_); refine aa.cons ?_; refine EX.asg ?_ ?_
  · kernel_rfl
  refine EV.cL W.ok W.zA W.E2 ?_ ?_
  · kernel_rfl
  refine az.c ?_; refine EV.nm (.str (T l)) ?_ ?_ ?_
  · kernel_rfl
  · kernel_rfl
  refine az.n ?_; refine uW W hl ?_; refine aa.nil ?_; refine aa.cons ?_; refine EX.if ?_; refine TV.cm ?_ ?_; rotate_left
  · kernel_rfl
  refine EV.nm (.obj 1) ?_ ?_ ?_
  · kernel_rfl
  · kernel_rfl
  refine EV.none ?_; refine aO.cmp ?_; refine TR.plain rfl ?_; refine aa.cons ?_; refine EX.setAttr (k:=0) (cl:=787) (fs:=[]) W.ok W.aX (W.au "instream" (by decide +kernel)) (ah rfl) ?_; refine EV.nm (.obj 1) ?_ ?_ ?_
  · kernel_rfl
  · kernel_rfl
  refine EV.nm (.obj 0) ?_ ?_ ?_
  · kernel_rfl
  · kernel_rfl
  refine ⟨rfl,?_,?_,?_⟩
  · kernel_rfl
  · show 0≤900; decide
  refine aa.cons ?_; refine EX.setAttr (k:=0) (cl:=787) (fs:=[("instream",.obj 1)]) W.ok W.aX (W.au "infile" (by decide +kernel)) (ah rfl) ?_; refine EV.nm (.none) ?_ ?_ ?_
  · kernel_rfl
  · kernel_rfl
  refine EV.nm (.obj 0) ?_ ?_ ?_
  · kernel_rfl
  · kernel_rfl
  refine ⟨rfl,?_,?_,?_⟩
  · kernel_rfl
  · show 1≤900; decide
  refine aa.nil ?_; refine aa.cons ?_; refine EX.setAttr (k:=0) (cl:=787) (fs:=[("instream",.obj 1),("infile",.none)]) W.ok W.aX (W.au "posix" (by decide +kernel)) (ah rfl) ?_; refine EV.nm (.bool true) ?_ ?_ ?_
  · kernel_rfl
  · kernel_rfl
  refine EV.nm (.obj 0) ?_ ?_ ?_
  · kernel_rfl
  · kernel_rfl
  refine ⟨rfl,?_,?_,?_⟩
  · kernel_rfl
  · show 2≤900; decide
  refine aa.cons ?_; refine EX.if ?_; refine TV.plain ?_ (fun _=>rfl); refine EV.nm (.bool true) ?_ ?_ ?_
  · kernel_rfl
  · kernel_rfl
  refine TR.plain rfl ?_; refine aa.cons ?_; refine EX.setAttr (k:=0) (cl:=787) (fs:=[("instream",.obj 1),("infile",.none),("posix",.bool true)]) W.ok W.aX (W.au "eof" (by decide +kernel)) (ah rfl) ?_; refine EV.none ?_; refine EV.nm (.obj 0) ?_ ?_ ?_
  · kernel_rfl
  · kernel_rfl
  refine ⟨rfl,?_,?_,?_⟩
  · kernel_rfl
  · show 3≤900; decide
  refine aa.nil ?_; refine aa.cons ?_; refine EX.setAttr (k:=0) (cl:=787) (fs:=[("instream",.obj 1),("infile",.none),("posix",.bool true),("eof",.none)]) W.ok W.aX (W.au "commenters" (by decide +kernel)) (ah rfl) ?_; refine EV.aY ([35]) ?_ (by decide) ?_
  · kernel_rfl
  refine EV.nm (.obj 0) ?_ ?_ ?_
  · kernel_rfl
  · kernel_rfl
  refine ⟨rfl,?_,?_,?_⟩
  · kernel_rfl
  · show 4≤900; decide
  refine aa.cons ?_; refine EX.setAttr (k:=0) (cl:=787) (fs:=[("instream",.obj 1),("infile",.none),("posix",.bool true),("eof",.none),("commenters",.str (T [35]))]) W.ok W.aX (W.au "wordchars" (by decide +kernel)) (ah rfl) ?_; refine EV.aY (AU) ?_ (by decide) ?_
  · kernel_rfl
  refine EV.nm (.obj 0) ?_ ?_ ?_
  · kernel_rfl
  · kernel_rfl
  refine ⟨rfl,?_,?_,?_⟩
  · kernel_rfl
  · show 5≤900; decide
  refine aa.cons ?_; refine EX.if ?_; refine TV.plain ?_ (fun _=>rfl); refine EV.attr (k:=0) (cl:=787) (fs:=[("instream",.obj 1),("infile",.none),("posix",.bool true),("eof",.none),("commenters",.str (T [35])),("wordchars",.str (T AU))]) (e:=.bool true) W.ok W.aX (W.au "posix" (by decide +kernel)) (by kernel_rfl) ?_; refine EV.nm (.obj 0) ?_ ?_ ?_
  · kernel_rfl
  · kernel_rfl
  refine ⟨rfl,?_,?_,rfl,?_⟩
  · kernel_rfl
  · kernel_rfl
  refine TR.plain rfl ?_; refine aa.cons ?_; refine EX.j4 (k:=0) (cl:=787) (fs:=[("instream",.obj 1),("infile",.none),("posix",.bool true),("eof",.none),("commenters",.str (T [35])),("wordchars",.str (T AU))]) (a:=.str (T AU)) W.ok W.aX (W.au "wordchars" (by decide +kernel)) ?_; refine EV.nm (.obj 0) ?_ ?_ ?_
  · kernel_rfl
  · kernel_rfl
  refine ⟨rfl,?_,?_,rfl,?_⟩
  · kernel_rfl
  · kernel_rfl
  refine EV.aY (GR) ?_ (by decide) ?_
  · kernel_rfl
  refine aO.v8 ?_ ⟨?_,?_,?_⟩
  · decide
  · kernel_rfl
  · show 6≤900; decide
  rw [dX]; refine aa.nil ?_; refine aa.cons ?_; refine EX.setAttr (k:=0) (cl:=787) (fs:=[("instream",.obj 1),("infile",.none),("posix",.bool true),("eof",.none),("commenters",.str (T [35])),("wordchars",.str (T ig))]) W.ok W.aX (W.au "whitespace" (by decide +kernel)) (ah rfl) ?_; refine EV.aY ([32,9,13,10]) ?_ (by decide) ?_
  · kernel_rfl
  refine EV.nm (.obj 0) ?_ ?_ ?_
  · kernel_rfl
  · kernel_rfl
  refine ⟨rfl,?_,?_,?_⟩
  · kernel_rfl
  · show 6≤900; decide
  refine aa.cons ?_; refine EX.setAttr (k:=0) (cl:=787) (fs:=[("instream",.obj 1),("infile",.none),("posix",.bool true),("eof",.none),("commenters",.str (T [35])),("wordchars",.str (T ig)),("whitespace",.str (T [32,9,13,10]))]) W.ok W.aX (W.au "whitespace_split" (by decide +kernel)) (ah rfl) ?_; refine EV.bool ?_; refine EV.nm (.obj 0) ?_ ?_ ?_
  · kernel_rfl
  · kernel_rfl
  refine ⟨rfl,?_,?_,?_⟩
  · kernel_rfl
  · show 7≤900; decide
  refine aa.cons ?_; refine EX.setAttr (k:=0) (cl:=787) (fs:=[("instream",.obj 1),("infile",.none),("posix",.bool true),("eof",.none),("commenters",.str (T [35])),("wordchars",.str (T ig)),("whitespace",.str (T [32,9,13,10])),("whitespace_split",.bool false)]) W.ok W.aX (W.au "quotes" (by decide +kernel)) (ah rfl) ?_; refine EV.aY ([39,34]) ?_ (by decide) ?_
  · kernel_rfl
  refine EV.nm (.obj 0) ?_ ?_ ?_
  · kernel_rfl
  · kernel_rfl
  refine ⟨rfl,?_,?_,?_⟩
  · kernel_rfl
  · show 8≤900; decide
  refine aa.cons ?_; refine EX.setAttr (k:=0) (cl:=787) (fs:=[("instream",.obj 1),("infile",.none),("posix",.bool true),("eof",.none),("commenters",.str (T [35])),("wordchars",.str (T ig)),("whitespace",.str (T [32,9,13,10])),("whitespace_split",.bool false),("quotes",.str (T [39,34]))]) W.ok W.aX (W.au "escape" (by decide +kernel)) (ah rfl) ?_; refine EV.aY ([92]) ?_ (by decide) ?_
  · kernel_rfl
  refine EV.nm (.obj 0) ?_ ?_ ?_
  · kernel_rfl
  · kernel_rfl
  refine ⟨rfl,?_,?_,?_⟩
  · kernel_rfl
  · show 9≤900; decide
  refine aa.cons ?_; refine EX.setAttr (k:=0) (cl:=787) (fs:=[("instream",.obj 1),("infile",.none),("posix",.bool true),("eof",.none),("commenters",.str (T [35])),("wordchars",.str (T ig)),("whitespace",.str (T [32,9,13,10])),("whitespace_split",.bool false),("quotes",.str (T [39,34])),("escape",.str (T [92]))]) W.ok W.aX (W.au "escapedquotes" (by decide +kernel)) (ah rfl) ?_; refine EV.aY ([34]) ?_ (by decide) ?_
  · kernel_rfl
  refine EV.nm (.obj 0) ?_ ?_ ?_
  · kernel_rfl
  · kernel_rfl
  refine ⟨rfl,?_,?_,?_⟩
  · kernel_rfl
  · show 10≤900; decide
  refine aa.cons ?_; refine EX.setAttr (k:=0) (cl:=787) (fs:=[("instream",.obj 1),("infile",.none),("posix",.bool true),("eof",.none),("commenters",.str (T [35])),("wordchars",.str (T ig)),("whitespace",.str (T [32,9,13,10])),("whitespace_split",.bool false),("quotes",.str (T [39,34])),("escape",.str (T [92])),("escapedquotes",.str (T [34]))]) W.ok W.aX (W.au "state" (by decide +kernel)) (ah rfl) ?_; refine EV.aY ([32]) ?_ (by decide) ?_
  · kernel_rfl
  refine EV.nm (.obj 0) ?_ ?_ ?_
  · kernel_rfl
  · kernel_rfl
  refine ⟨rfl,?_,?_,?_⟩
  · kernel_rfl
  · show 11≤900; decide
  refine aa.cons ?_; refine EX.setAttr (k:=0) (cl:=787) (fs:=[("instream",.obj 1),("infile",.none),("posix",.bool true),("eof",.none),("commenters",.str (T [35])),("wordchars",.str (T ig)),("whitespace",.str (T [32,9,13,10])),("whitespace_split",.bool false),("quotes",.str (T [39,34])),("escape",.str (T [92])),("escapedquotes",.str (T [34])),("state",.str (T [32]))]) W.ok W.aX (W.au "pushback" (by decide +kernel)) (ah rfl) ?_; refine EV.cL W.ok W.nq .type ?_ ?_
  · kernel_rfl
  refine az.n ?_; refine aj.deque ?_; refine EV.nm (.obj 0) ?_ ?_ ?_
  · kernel_rfl
  · kernel_rfl
  refine ⟨rfl,?_,?_,?_⟩
  · kernel_rfl
  · show 12≤900; decide
  refine aa.cons ?_; refine EX.setAttr (k:=0) (cl:=787) (fs:=[("instream",.obj 1),("infile",.none),("posix",.bool true),("eof",.none),("commenters",.str (T [35])),("wordchars",.str (T ig)),("whitespace",.str (T [32,9,13,10])),("whitespace_split",.bool false),("quotes",.str (T [39,34])),("escape",.str (T [92])),("escapedquotes",.str (T [34])),("state",.str (T [32])),("pushback",.obj 2)]) W.ok W.aX (W.au "lineno" (by decide +kernel)) (ah rfl) ?_; refine EV.int ?_; refine EV.nm (.obj 0) ?_ ?_ ?_
  · kernel_rfl
  · kernel_rfl
  refine ⟨rfl,?_,?_,?_⟩
  · kernel_rfl
  · show 13≤900; decide
  refine aa.cons ?_; refine EX.setAttr (k:=0) (cl:=787) (fs:=[("instream",.obj 1),("infile",.none),("posix",.bool true),("eof",.none),("commenters",.str (T [35])),("wordchars",.str (T ig)),("whitespace",.str (T [32,9,13,10])),("whitespace_split",.bool false),("quotes",.str (T [39,34])),("escape",.str (T [92])),("escapedquotes",.str (T [34])),("state",.str (T [32])),("pushback",.obj 2),("lineno",.int 1)]) W.ok W.aX (W.au "debug" (by decide +kernel)) (ah rfl) ?_; refine EV.int ?_; refine EV.nm (.obj 0) ?_ ?_ ?_
  · kernel_rfl
  · kernel_rfl
  refine ⟨rfl,?_,?_,?_⟩
  · kernel_rfl
  · show 14≤900; decide
  refine aa.cons ?_; refine EX.setAttr (k:=0) (cl:=787) (fs:=[("instream",.obj 1),("infile",.none),("posix",.bool true),("eof",.none),("commenters",.str (T [35])),("wordchars",.str (T ig)),("whitespace",.str (T [32,9,13,10])),("whitespace_split",.bool false),("quotes",.str (T [39,34])),("escape",.str (T [92])),("escapedquotes",.str (T [34])),("state",.str (T [32])),("pushback",.obj 2),("lineno",.int 1),("debug",.int 0)]) W.ok W.aX (W.au "token" (by decide +kernel)) (ah rfl) ?_; refine EV.aY ([]) ?_ (by decide) ?_
  · kernel_rfl
  refine EV.nm (.obj 0) ?_ ?_ ?_
  · kernel_rfl
  · kernel_rfl
  refine ⟨rfl,?_,?_,?_⟩
  · kernel_rfl
  · show 15≤900; decide
  refine aa.cons ?_; refine EX.setAttr (k:=0) (cl:=787) (fs:=[("instream",.obj 1),("infile",.none),("posix",.bool true),("eof",.none),("commenters",.str (T [35])),("wordchars",.str (T ig)),("whitespace",.str (T [32,9,13,10])),("whitespace_split",.bool false),("quotes",.str (T [39,34])),("escape",.str (T [92])),("escapedquotes",.str (T [34])),("state",.str (T [32])),("pushback",.obj 2),("lineno",.int 1),("debug",.int 0),("token",.str (T []))]) W.ok W.aX (W.au "filestack" (by decide +kernel)) (ah rfl) ?_; refine EV.cL W.ok W.nq .type ?_ ?_
  · kernel_rfl
  refine az.n ?_; refine aj.deque ?_; refine EV.nm (.obj 0) ?_ ?_ ?_
  · kernel_rfl
  · kernel_rfl
  refine ⟨rfl,?_,?_,?_⟩
  · kernel_rfl
  · show 16≤900; decide
  refine aa.cons ?_; refine EX.setAttr (k:=0) (cl:=787) (fs:=[("instream",.obj 1),("infile",.none),("posix",.bool true),("eof",.none),("commenters",.str (T [35])),("wordchars",.str (T ig)),("whitespace",.str (T [32,9,13,10])),("whitespace_split",.bool false),("quotes",.str (T [39,34])),("escape",.str (T [92])),("escapedquotes",.str (T [34])),("state",.str (T [32])),("pushback",.obj 2),("lineno",.int 1),("debug",.int 0),("token",.str (T [])),("filestack",.obj 3)]) W.ok W.aX (W.au "source" (by decide +kernel)) (ah rfl) ?_; refine EV.none ?_; refine EV.nm (.obj 0) ?_ ?_ ?_
  · kernel_rfl
  · kernel_rfl
  refine ⟨rfl,?_,?_,?_⟩
  · kernel_rfl
  · show 17≤900; decide
  cases b with
  | false =>
    refine aa.cons ?_; refine EX.if ?_; refine TV.not (TV.plain ?_ (fun _=>rfl)); refine EV.nm (.bool false) ?_ ?_ ?_
    · kernel_rfl
    · kernel_rfl
    refine TR.plain rfl ?_; refine aa.cons ?_; refine EX.asg ?_ ?_
    · kernel_rfl
    refine EV.aY ([]) ?_ (by decide) ?_
    · kernel_rfl
    refine aa.nil ?_; refine aa.cons ?_; refine EX.setAttr (k:=0) (cl:=787) (fs:=[("instream",.obj 1),("infile",.none),("posix",.bool true),("eof",.none),("commenters",.str (T [35])),("wordchars",.str (T ig)),("whitespace",.str (T [32,9,13,10])),("whitespace_split",.bool false),("quotes",.str (T [39,34])),("escape",.str (T [92])),("escapedquotes",.str (T [34])),("state",.str (T [32])),("pushback",.obj 2),("lineno",.int 1),("debug",.int 0),("token",.str (T [])),("filestack",.obj 3),("source",.none)]) W.ok W.aX (W.au "_punctuation_chars" (by decide +kernel)) (ah rfl) ?_; refine EV.nm (.str (T [])) ?_ ?_ ?_
    · kernel_rfl
    · kernel_rfl
    refine EV.nm (.obj 0) ?_ ?_ ?_
    · kernel_rfl
    · kernel_rfl
    refine ⟨rfl,?_,?_,?_⟩
    · kernel_rfl
    · show 18≤900; decide
    refine aa.cons ?_; refine EX.if ?_; refine TV.plain ?_ (fun _=>rfl); refine EV.nm (.str (T [])) ?_ ?_ ?_
    · kernel_rfl
    · kernel_rfl
    refine TR.plain rfl ?_; refine aa.nil (aa.nil ⟨rfl,?_⟩); kernel_rfl
  | true =>
    refine aa.cons ?_; refine EX.if ?_; refine TV.not (TV.plain ?_ (fun _=>rfl)); refine EV.nm (.str (T [46])) ?_ ?_ ?_
    · kernel_rfl
    · kernel_rfl
    refine TR.plain rfl ?_; refine aa.cons ?_; refine EX.if ?_; refine TV.cm ?_ ?_; rotate_left
    · kernel_rfl
    refine EV.nm (.str (T [46])) ?_ ?_ ?_
    · kernel_rfl
    · kernel_rfl
    refine EV.bool ?_; refine aO.cmp ?_; refine TR.plain rfl (aa.nil (aa.nil ?_)); refine aa.cons ?_; refine EX.setAttr (k:=0) (cl:=787) (fs:=[("instream",.obj 1),("infile",.none),("posix",.bool true),("eof",.none),("commenters",.str (T [35])),("wordchars",.str (T ig)),("whitespace",.str (T [32,9,13,10])),("whitespace_split",.bool false),("quotes",.str (T [39,34])),("escape",.str (T [92])),("escapedquotes",.str (T [34])),("state",.str (T [32])),("pushback",.obj 2),("lineno",.int 1),("debug",.int 0),("token",.str (T [])),("filestack",.obj 3),("source",.none)]) W.ok W.aX (W.au "_punctuation_chars" (by decide +kernel)) (ah rfl) ?_; refine EV.nm (.str (T [46])) ?_ ?_ ?_
    · kernel_rfl
    · kernel_rfl
    refine EV.nm (.obj 0) ?_ ?_ ?_
    · kernel_rfl
    · kernel_rfl
    refine ⟨rfl,?_,?_,?_⟩
    · kernel_rfl
    · show 18≤900; decide
    refine aa.cons ?_; refine EX.if ?_; refine TV.plain ?_ (fun _=>rfl); refine EV.nm (.str (T [46])) ?_ ?_ ?_
    · kernel_rfl
    · kernel_rfl
    refine TR.plain rfl ?_; refine aa.cons ?_; refine EX.setAttr (k:=0) (cl:=787) (fs:=[("instream",.obj 1),("infile",.none),("posix",.bool true),("eof",.none),("commenters",.str (T [35])),("wordchars",.str (T ig)),("whitespace",.str (T [32,9,13,10])),("whitespace_split",.bool false),("quotes",.str (T [39,34])),("escape",.str (T [92])),("escapedquotes",.str (T [34])),("state",.str (T [32])),("pushback",.obj 2),("lineno",.int 1),("debug",.int 0),("token",.str (T [])),("filestack",.obj 3),("source",.none),("_punctuation_chars",.str (T [46]))]) W.ok W.aX (W.au "_pushback_chars" (by decide +kernel)) (ah rfl) ?_; refine EV.cL W.ok W.nq .type ?_ ?_
    · kernel_rfl
    refine az.n ?_; refine aj.deque ?_; refine EV.nm (.obj 0) ?_ ?_ ?_
    · kernel_rfl
    · kernel_rfl
    refine ⟨rfl,?_,?_,?_⟩
    · kernel_rfl
    · show 19≤900; exact Nat.le_of_ble_eq_true rfl
    refine aa.cons ?_; refine EX.j4 (k:=0) (cl:=787) (fs:=[("instream",.obj 1),("infile",.none),("posix",.bool true),("eof",.none),("commenters",.str (T [35])),("wordchars",.str (T ig)),("whitespace",.str (T [32,9,13,10])),("whitespace_split",.bool false),("quotes",.str (T [39,34])),("escape",.str (T [92])),("escapedquotes",.str (T [34])),("state",.str (T [32])),("pushback",.obj 2),("lineno",.int 1),("debug",.int 0),("token",.str (T [])),("filestack",.obj 3),("source",.none),("_punctuation_chars",.str (T [46])),("_pushback_chars",.obj 4)]) (a:=.str (T ig)) W.ok W.aX (W.au "wordchars" (by decide +kernel)) ?_; refine EV.nm (.obj 0) ?_ ?_ ?_
    · kernel_rfl
    · kernel_rfl
    refine ⟨rfl,?_,?_,rfl,?_⟩
    · kernel_rfl
    · kernel_rfl
    refine EV.aY (zO) ?_ (by decide) ?_
    · kernel_rfl
    refine aO.v8 ?_ ⟨?_,?_,?_⟩
    · decide
    · kernel_rfl
    · show 20≤900; decide
    rw [dX]; refine aa.cons ?_; refine EX.asg ?_ ?_
    · kernel_rfl
    refine EV.zx (by kernel_rfl) (by kernel_rfl) (by decide) (by kernel_rfl) ?_; refine EV.attr (k:=0) (cl:=787) (fs:=[("instream",.obj 1),("infile",.none),("posix",.bool true),("eof",.none),("commenters",.str (T [35])),("wordchars",.str (T (ig++zO))),("whitespace",.str (T [32,9,13,10])),("whitespace_split",.bool false),("quotes",.str (T [39,34])),("escape",.str (T [92])),("escapedquotes",.str (T [34])),("state",.str (T [32])),("pushback",.obj 2),("lineno",.int 1),("debug",.int 0),("token",.str (T [])),("filestack",.obj 3),("source",.none),("_punctuation_chars",.str (T [46])),("_pushback_chars",.obj 4)]) (e:=.str (T (ig++zO))) W.ok W.aX (W.au "wordchars" (by decide +kernel)) (by kernel_rfl) ?_; refine EV.nm (.obj 0) ?_ ?_ ?_
    · kernel_rfl
    · kernel_rfl
    refine ⟨rfl,?_,?_,rfl,?_⟩
    · kernel_rfl
    · kernel_rfl
    refine ⟨_,lu.maketrans,.builtin,?_⟩; refine az.c ?_; refine EV.fromkeys W.ok (by kernel_rfl) W.xd.1 W.xd.2 (by kernel_rfl) (by kernel_rfl) (by kernel_rfl) ?_; refine EV.nm (.str (T [46])) ?_ ?_ ?_
    · kernel_rfl
    · kernel_rfl
    refine ⟨rfl,fun o ho=>az.n ?_⟩; refine aj.maketrans W.ok ho fun o2 ho2=>?_; refine aa.cons ?_; refine EX.setAttr (k:=0) (cl:=787) (fs:=[("instream",.obj 1),("infile",.none),("posix",.bool true),("eof",.none),("commenters",.str (T [35])),("wordchars",.str (T (ig++zO))),("whitespace",.str (T [32,9,13,10])),("whitespace_split",.bool false),("quotes",.str (T [39,34])),("escape",.str (T [92])),("escapedquotes",.str (T [34])),("state",.str (T [32])),("pushback",.obj 2),("lineno",.int 1),("debug",.int 0),("token",.str (T [])),("filestack",.obj 3),("source",.none),("_punctuation_chars",.str (T [46])),("_pushback_chars",.obj 4)]) W.ok W.aX (W.au "wordchars" (by decide +kernel)) (ah rfl) ?_; refine EV.b5 ?_ ?_
    · kernel_rfl
    refine EV.attr (k:=0) (cl:=787) (fs:=[("instream",.obj 1),("infile",.none),("posix",.bool true),("eof",.none),("commenters",.str (T [35])),("wordchars",.str (T (ig++zO))),("whitespace",.str (T [32,9,13,10])),("whitespace_split",.bool false),("quotes",.str (T [39,34])),("escape",.str (T [92])),("escapedquotes",.str (T [34])),("state",.str (T [32])),("pushback",.obj 2),("lineno",.int 1),("debug",.int 0),("token",.str (T [])),("filestack",.obj 3),("source",.none),("_punctuation_chars",.str (T [46])),("_pushback_chars",.obj 4)]) (e:=.str (T (ig++zO))) W.ok W.aX (W.au "wordchars" (by decide +kernel)) (by kernel_rfl) ?_; refine EV.nm (.obj 0) ?_ ?_ ?_
    · kernel_rfl
    · kernel_rfl
    refine ⟨rfl,?_,?_,rfl,?_⟩
    · kernel_rfl
    · kernel_rfl
    refine ⟨_,bY.str PySem.F.slot_str_translate PySem.F.type_str_translate,.builtin,?_⟩; refine az.c ?_; refine EV.nm (.imm o2) ?_ ?_ ?_
    · kernel_rfl
    · kernel_rfl
    refine az.n ?_; refine aj.translate W.ok ho2 ?_ ?_ ?_ ?_
    · decide
    · intro h; cases h
    · decide
    refine EV.nm (.obj 0) ?_ ?_ ?_
    · kernel_rfl
    · kernel_rfl
    refine ⟨rfl,?_,?_,?_⟩
    · kernel_rfl
    · show 20≤900; decide
    refine aa.nil (aa.nil ⟨rfl,?_⟩); kernel_rfl
end
inductive Hy (h:Heap) (ι:Ad) (X:List Addr) (n:Str) (ns:List Str) (x:D) (xs:List D) (ks:List (Str × Value)):Prop
  | mk (v:Value) (r:List (Str × Value)) (e:ks=(n,v)::r) (a:VR h ι X x v) (hk:r.map (·.1)=ns) (hv:aE h ι X xs (r.map (·.2)))
theorem ng {h:Heap} {ι:Ad} {X:List Addr} {n:Str} {ns:List Str} {x:D} {xs:List D} {ks:List (Str × Value)} (hk:ks.map (·.1)=n::ns) (hv:aE h ι X (x::xs) (ks.map (·.2))):Hy h ι X n ns x xs ks:=by
  cases ks with
  | nil=>cases hk
  | cons p r =>
    obtain ⟨k,v⟩:=p; obtain ⟨u,r',e,a,b⟩:=hv.cons_of; have e1:=List.cons.inj hk; have e2:=List.cons.inj e; rw [← e2.1] at a; rw [← e2.2] at b; exact ⟨v,r,by exact rr e1.1 rfl,a,e1.2,b⟩
section
variable {C:Cx} {d:Nat} {H:List O} {Q:D→List O→Prop}
theorem oF (W:WF C) {l:List Nat} (hl:l.length≤10000) (hq:Q (.obj 0) (uX false l)):aZ C (d+6) [] (.ref 787) [.str (T l)] [("posix",.bool true)] Q:=by
  refine aZ.make W.ok W.j5 W.uN W.rP ?_; refine aZ.yE (ds:=[("self",.obj 0),("instream",.str (T l)),("infile",.none),("posix",.bool true),("punctuation_chars",z4 false)]) W.ok W.sR (by kernel_rfl) (by kernel_rfl) (by kernel_rfl) ?_ (fun q cd L=>by kernel_rfl) fun q cd L=>(lO W hl false q cd L).mono ?_
  · intro name qual kwd doc pm ann cd ct vs ks s ι X hb hv hk hkv
    obtain ⟨v1,v2,rfl,w1,w2⟩:=hv.cD; obtain ⟨v3,r,rfl,w3,hr,_⟩:=ng hk hkv; obtain rfl:=List.map_eq_nil_iff.mp hr; exact ⟨[("self",v1),("instream",v2),("infile",.none),("posix",v3),("punctuation_chars",.bool false)],BindsTo.of_defaults rfl (hb _ _ W.wU) rfl rfl rfl,rfl,.aH w1 (.aH w2 (.aH .none_ (.aH w3 (.aH .bq .bJ))))⟩
  rintro fl ρ H' ⟨h1,rfl⟩; exact ⟨h1,hq⟩
theorem oE (W:WF C) {l:List Nat} (hl:l.length≤10000) (hq:Q (.obj 0) (uX true l)):aZ C (d+6) [] (.ref 787) [.str (T l)] [("posix",.bool true),("punctuation_chars",.str (T [46]))] Q:=by
  refine aZ.make W.ok W.j5 W.uN W.rP ?_; refine aZ.yE (ds:=[("self",.obj 0),("instream",.str (T l)),("infile",.none),("posix",.bool true),("punctuation_chars",z4 true)]) W.ok W.sR (by kernel_rfl) (by kernel_rfl) (by kernel_rfl) ?_ (fun q cd L=>by kernel_rfl) fun q cd L=>(lO W hl true q cd L).mono ?_
  · intro name qual kwd doc pm ann cd ct vs ks s ι X hb hv hk hkv
    obtain ⟨v1,v2,rfl,w1,w2⟩:=hv.cD; obtain ⟨v3,r,rfl,w3,hr,hrv⟩:=ng hk hkv; obtain ⟨v4,r2,rfl,w4,hr2,_⟩:=ng hr hrv; obtain rfl:=List.map_eq_nil_iff.mp hr2; exact ⟨[("self",v1),("instream",v2),("infile",.none),("posix",v3),("punctuation_chars",v4)],BindsTo.of_defaults rfl (hb _ _ W.wU) rfl rfl rfl,rfl,.aH w1 (.aH w2 (.aH .none_ (.aH w3 (.aH w4 .bJ))))⟩
  rintro fl ρ H' ⟨h1,rfl⟩; exact ⟨h1,hq⟩
end
noncomputable def gY:Bool→List Nat
  | false=>[]
  | true=>[35]
noncomputable def j7:Bool→List Nat
  | false=>ig
  | true=>zN
noncomputable def mG:Bool→Bool
  | false=>true
  | true=>false
noncomputable def eU:Bool→List Nat
  | false=>[]
  | true=>[46]
noncomputable def AW:Bool→List (Str × D)
  | false=>[]
  | true=>[("_pushback_chars",.obj 4)]
noncomputable def F9 (pb:Option Nat):List D:=pb.toList.map fun c=>.str (T [c])
noncomputable def ES (b:Bool) (pb:Option Nat):List O:=match b with
  | false=>[]
  | true=>[.deque (F9 pb)]
noncomputable def AN:Option Nat→D
  | none=>.none
  | some c=>.str (T [c])
noncomputable def fO (b:Bool) (st:Option Nat) (ln:Int) (tok:List Nat):List (Str × D):=qE (gY b) (j7 b) (mG b) (AN st) ln tok (eU b) (AW b)
noncomputable def aT (b:Bool) (st:Option Nat) (ln:Int) (tok:List Nat) (l:List Nat) (p:Nat) (pb:Option Nat):List O :=
  [.inst 787 (fO b st ln tok),.inst 694 (cG l p),.deque [],.deque []]++ES b pb
theorem yw (st:Option Nat):hand (AN st)=true:=by cases st <;> rfl
theorem jU (b:Bool) (st:Option Nat) (ln:Int) (tok:List Nat):(fO b st ln tok).length≤900:=by
  cases b
  · show 19≤900; exact Nat.le_of_ble_eq_true rfl
  show 20≤900; decide
section
variable {C:Cx} {d:Nat} {env:Env} {ρ:Loc} {H:List O} {Q:D→List O→Prop} {R:Fl→Loc→List O→Prop} {b:Bool} {st:Option Nat} {ln:Int} {tok l:List Nat} {p:Nat} {pb:Option Nat}
theorem EV.cQ {name:Str} {e:D} {fs:List (Str × D)} {q1 q2:Pos} (W:WF C) (hn:findIn C.K (.ref 787) name=some Option.none) (hs:ρ.lookup ("self" : Str)=some (.obj 0)) (hf:fs.lookup name=some e) (hh:hand e=true) (ho:H[0]?=some (.inst 787 fs)) (hq:Q e H) :
    EV C d env ρ H (.Attribute (.Name "self" q1) name q2) Q :=
  EV.attr (k:=0) (cl:=787) (fs:=fs) (e:=e) W.ok W.aX hn rfl (EV.nm (.obj 0) hs (by kernel_rfl) ⟨rfl,ho,hf,hh,hq⟩)
theorem EX.A5 {name:Str} {e:D} {fs:List (Str × D)} {v:Expr} {q1 q2 q3:Pos} (W:WF C) (hn:findIn C.K (.ref 787) name=some Option.none) (hs:ρ.lookup ("self" : Str)=some (.obj 0)) (hl:fs.length≤900) (ho:H[0]?=some (.inst 787 fs)) (hc:jd v=true)
    (h:EV C d env ρ H v fun x H'=>x=e∧H'=H) (hr:R .next ρ (H.set 0 (.inst 787 (aQ name e fs)))):EX C d env ρ H (.Assign [.Attribute (.Name "self" q1) name q2] v q3) R :=
  EX.setAttr (k:=0) (cl:=787) (fs:=fs) W.ok W.aX hn (ah hc) (h.mono fun x H' hx=>by
    obtain ⟨rfl,rfl⟩:=hx
    exact EV.nm (.obj 0) hs (by kernel_rfl) ⟨rfl,ho,hl,hr⟩)
theorem EV.fG {q1 q2:Pos} (W:WF C) (hs:ρ.lookup ("self" : Str)=some (.obj 0)) (hq:Q (AN st) (aT b st ln tok l p pb)):EV C d env ρ (aT b st ln tok l p pb) (.Attribute (.Name "self" q1) "state" q2) Q:=by
  refine EV.cQ (e:=AN st) (fs:=fO b st ln tok) W (W.au _ (by decide +kernel)) hs ?_ (yw st) rfl hq; kernel_rfl
theorem EV.tE {q1 q2:Pos} (W:WF C) (hs:ρ.lookup ("self" : Str)=some (.obj 0)) (hq:Q (.str (T tok)) (aT b st ln tok l p pb)):EV C d env ρ (aT b st ln tok l p pb) (.Attribute (.Name "self" q1) "token" q2) Q:=by
  refine EV.cQ (e:=.str (T tok)) (fs:=fO b st ln tok) W (W.au _ (by decide +kernel)) hs ?_ (rfl) rfl hq; kernel_rfl
theorem EV.yY {q1 q2:Pos} (W:WF C) (hs:ρ.lookup ("self" : Str)=some (.obj 0)) (hq:Q (.bool true) (aT b st ln tok l p pb)):EV C d env ρ (aT b st ln tok l p pb) (.Attribute (.Name "self" q1) "posix" q2) Q:=by
  refine EV.cQ (e:=.bool true) (fs:=fO b st ln tok) W (W.au _ (by decide +kernel)) hs ?_ (rfl) rfl hq; kernel_rfl
theorem EV.iU {q1 q2:Pos} (W:WF C) (hs:ρ.lookup ("self" : Str)=some (.obj 0)) (hq:Q (.str (T [32,9,13,10])) (aT b st ln tok l p pb)):EV C d env ρ (aT b st ln tok l p pb) (.Attribute (.Name "self" q1) "whitespace" q2) Q:=by
  refine EV.cQ (e:=.str (T [32,9,13,10])) (fs:=fO b st ln tok) W (W.au _ (by decide +kernel)) hs ?_ (rfl) rfl hq; kernel_rfl
theorem EV.nZ {q1 q2:Pos} (W:WF C) (hs:ρ.lookup ("self" : Str)=some (.obj 0)) (hq:Q (.str (T (gY b))) (aT b st ln tok l p pb)):EV C d env ρ (aT b st ln tok l p pb) (.Attribute (.Name "self" q1) "commenters" q2) Q:=by
  refine EV.cQ (e:=.str (T (gY b))) (fs:=fO b st ln tok) W (W.au _ (by decide +kernel)) hs ?_ (rfl) rfl hq; kernel_rfl
theorem EV.qi {q1 q2:Pos} (W:WF C) (hs:ρ.lookup ("self" : Str)=some (.obj 0)) (hq:Q (.str (T [92])) (aT b st ln tok l p pb)):EV C d env ρ (aT b st ln tok l p pb) (.Attribute (.Name "self" q1) "escape" q2) Q:=by
  refine EV.cQ (e:=.str (T [92])) (fs:=fO b st ln tok) W (W.au _ (by decide +kernel)) hs ?_ (rfl) rfl hq; kernel_rfl
theorem EV.qe {q1 q2:Pos} (W:WF C) (hs:ρ.lookup ("self" : Str)=some (.obj 0)) (hq:Q (.str (T (j7 b))) (aT b st ln tok l p pb)):EV C d env ρ (aT b st ln tok l p pb) (.Attribute (.Name "self" q1) "wordchars" q2) Q:=by
  refine EV.cQ (e:=.str (T (j7 b))) (fs:=fO b st ln tok) W (W.au _ (by decide +kernel)) hs ?_ (rfl) rfl hq; kernel_rfl
theorem EV.qg {q1 q2:Pos} (W:WF C) (hs:ρ.lookup ("self" : Str)=some (.obj 0)) (hq:Q (.str (T [39,34])) (aT b st ln tok l p pb)):EV C d env ρ (aT b st ln tok l p pb) (.Attribute (.Name "self" q1) "quotes" q2) Q:=by
  refine EV.cQ (e:=.str (T [39,34])) (fs:=fO b st ln tok) W (W.au _ (by decide +kernel)) hs ?_ (rfl) rfl hq; kernel_rfl
theorem EV.jR {q1 q2:Pos} (W:WF C) (hs:ρ.lookup ("self" : Str)=some (.obj 0)) (hq:Q (.str (T [34])) (aT b st ln tok l p pb)):EV C d env ρ (aT b st ln tok l p pb) (.Attribute (.Name "self" q1) "escapedquotes" q2) Q:=by
  refine EV.cQ (e:=.str (T [34])) (fs:=fO b st ln tok) W (W.au _ (by decide +kernel)) hs ?_ (rfl) rfl hq; kernel_rfl
theorem EV.g9 {q1 q2:Pos} (W:WF C) (hs:ρ.lookup ("self" : Str)=some (.obj 0)) (hq:Q (.bool (mG b)) (aT b st ln tok l p pb)):EV C d env ρ (aT b st ln tok l p pb) (.Attribute (.Name "self" q1) "whitespace_split" q2) Q:=by
  refine EV.cQ (e:=.bool (mG b)) (fs:=fO b st ln tok) W (W.au _ (by decide +kernel)) hs ?_ (rfl) rfl hq; kernel_rfl
theorem EV.tG {q1 q2:Pos} (W:WF C) (hs:ρ.lookup ("self" : Str)=some (.obj 0)) (hq:Q (.int 0) (aT b st ln tok l p pb)):EV C d env ρ (aT b st ln tok l p pb) (.Attribute (.Name "self" q1) "debug" q2) Q:=by
  refine EV.cQ (e:=.int 0) (fs:=fO b st ln tok) W (W.au _ (by decide +kernel)) hs ?_ (rfl) rfl hq; kernel_rfl
theorem EV.rM {q1 q2:Pos} (W:WF C) (hs:ρ.lookup ("self" : Str)=some (.obj 0)) (hq:Q (.obj 1) (aT b st ln tok l p pb)):EV C d env ρ (aT b st ln tok l p pb) (.Attribute (.Name "self" q1) "instream" q2) Q:=by
  refine EV.cQ (e:=.obj 1) (fs:=fO b st ln tok) W (W.au _ (by decide +kernel)) hs ?_ (rfl) rfl hq; kernel_rfl
theorem EV.gF {q1 q2:Pos} (W:WF C) (hs:ρ.lookup ("self" : Str)=some (.obj 0)) (hq:Q (.str (T (eU b))) (aT b st ln tok l p pb)):EV C d env ρ (aT b st ln tok l p pb) (.Attribute (.Name "self" q1) "_punctuation_chars" q2) Q:=by
  refine EV.cQ (e:=.str (T (eU b))) (fs:=fO b st ln tok) W (W.au _ (by decide +kernel)) hs ?_ (rfl) rfl hq; kernel_rfl
theorem EV.rL {q1 q2:Pos} (W:WF C) (hs:ρ.lookup ("self" : Str)=some (.obj 0)) (hq:Q (.obj 2) (aT b st ln tok l p pb)):EV C d env ρ (aT b st ln tok l p pb) (.Attribute (.Name "self" q1) "pushback" q2) Q:=by
  refine EV.cQ (e:=.obj 2) (fs:=fO b st ln tok) W (W.au _ (by decide +kernel)) hs ?_ (rfl) rfl hq; kernel_rfl
theorem EV.qh {q1 q2:Pos} (W:WF C) (hs:ρ.lookup ("self" : Str)=some (.obj 0)) (hq:Q (.obj 3) (aT b st ln tok l p pb)):EV C d env ρ (aT b st ln tok l p pb) (.Attribute (.Name "self" q1) "filestack" q2) Q:=by
  refine EV.cQ (e:=.obj 3) (fs:=fO b st ln tok) W (W.au _ (by decide +kernel)) hs ?_ (rfl) rfl hq; kernel_rfl
theorem EV.xh {q1 q2:Pos} (W:WF C) (hs:ρ.lookup ("self" : Str)=some (.obj 0)) (hq:Q (.none) (aT b st ln tok l p pb)):EV C d env ρ (aT b st ln tok l p pb) (.Attribute (.Name "self" q1) "source" q2) Q:=by
  refine EV.cQ (e:=.none) (fs:=fO b st ln tok) W (W.au _ (by decide +kernel)) hs ?_ (rfl) rfl hq; kernel_rfl
theorem EV.tF {q1 q2:Pos} (W:WF C) (hs:ρ.lookup ("self" : Str)=some (.obj 0)) (hq:Q (.none) (aT b st ln tok l p pb)):EV C d env ρ (aT b st ln tok l p pb) (.Attribute (.Name "self" q1) "eof" q2) Q:=by
  refine EV.cQ (e:=.none) (fs:=fO b st ln tok) W (W.au _ (by decide +kernel)) hs ?_ (rfl) rfl hq; kernel_rfl
theorem EV.cV {q1 q2:Pos} (W:WF C) (hs:ρ.lookup ("self" : Str)=some (.obj 0)) (hq:Q (.obj 4) (aT true st ln tok l p pb)):EV C d env ρ (aT true st ln tok l p pb) (.Attribute (.Name "self" q1) "_pushback_chars" q2) Q:=by
  refine EV.cQ (e:=.obj 4) (fs:=fO true st ln tok) W (W.au _ (by decide +kernel)) hs ?_ rfl rfl hq; kernel_rfl
theorem EX.b6 {v:Expr} {q1 q2 q3:Pos} (W:WF C) (st':Option Nat) (hs:ρ.lookup ("self" : Str)=some (.obj 0)) (hc:jd v=true) (h:EV C d env ρ (aT b st ln tok l p pb) v fun x H'=>x=AN st'∧H'=aT b st ln tok l p pb) (hr:R .next ρ (aT b st' ln tok l p pb)) :
    EX C d env ρ (aT b st ln tok l p pb) (.Assign [.Attribute (.Name "self" q1) "state" q2] v q3) R:=by
  refine EX.A5 (fs:=fO b st ln tok) W (W.au _ (by decide +kernel)) hs (jU ..) rfl hc h ?_; refine rl (by kernel_rfl:(aT b st ln tok l p pb).set 0 (.inst 787 (aQ "state" (AN st') (fO b st ln tok)))=aT b st' ln tok l p pb) ?_; exact hr
theorem EX.gi {v:Expr} {q1 q2 q3:Pos} (W:WF C) (tok':List Nat) (hs:ρ.lookup ("self" : Str)=some (.obj 0)) (hc:jd v=true) (h:EV C d env ρ (aT b st ln tok l p pb) v fun x H'=>x = .str (T tok')∧H'=aT b st ln tok l p pb) (hr:R .next ρ (aT b st ln tok' l p pb)) :
    EX C d env ρ (aT b st ln tok l p pb) (.Assign [.Attribute (.Name "self" q1) "token" q2] v q3) R:=by
  refine EX.A5 (fs:=fO b st ln tok) W (W.au _ (by decide +kernel)) hs (jU ..) rfl hc h ?_; refine rl (by kernel_rfl:(aT b st ln tok l p pb).set 0 (.inst 787 (aQ "token" (.str (T tok')) (fO b st ln tok)))=aT b st ln tok' l p pb) ?_; exact hr
theorem EX.iM {v:Expr} {q1 q2 q3:Pos} {c:List Nat} (W:WF C) (hs:ρ.lookup ("self" : Str)=some (.obj 0)) (hl:tok.length+c.length≤16777216) (h:EV C d env ρ (aT b st ln tok l p pb) v fun x H'=>x = .str (T c)∧H'=aT b st ln tok l p pb) (hr:R .next ρ (aT b st ln (tok++c) l p pb)) :
    EX C d env ρ (aT b st ln tok l p pb) (.AugAssign (.Attribute (.Name "self" q1) "token" q2) .Add v q3) R:=by
  refine EX.j4 (k:=0) (cl:=787) (fs:=fO b st ln tok) (a:=.str (T tok)) W.ok W.aX (W.au _ (by decide +kernel)) ?_; refine EV.nm (.obj 0) hs (by kernel_rfl) ⟨rfl,rfl,?_,rfl,?_⟩
  · kernel_rfl
  refine h.mono fun x H' hx=>?_; obtain ⟨rfl,rfl⟩:=hx; refine aO.v8 (by rw [aL,aL]; exact hl) ⟨rfl,jU ..,?_⟩; rw [dX]; rw [(by kernel_rfl:(aT b st ln tok l p pb).set 0 (.inst 787 (aQ "token" (.str (T (tok++c))) (fO b st ln tok)))=aT b st ln (tok++c) l p pb)]; exact hr
theorem EX.wk {q1 q2 q3 q4:Pos} {k:Nat} (W:WF C) (hs:ρ.lookup ("self" : Str)=some (.obj 0)) (hr:R .next ρ (aT b st (ln+1) tok l p pb)) :
    EX C d env ρ (aT b st ln tok l p pb) (.AugAssign (.Attribute (.Name "self" q1) "lineno" q2) .Add (.Constant (.int 1) k q3) q4) R:=by
  refine EX.j4 (k:=0) (cl:=787) (fs:=fO b st ln tok) (a:=.int ln) W.ok W.aX (W.au _ (by decide +kernel)) ?_; refine EV.nm (.obj 0) hs (by kernel_rfl) ⟨rfl,rfl,?_,rfl,?_⟩
  · kernel_rfl
  refine EV.int (aO.E5 ⟨rfl,jU ..,?_⟩); refine rl (by kernel_rfl:(aT b st ln tok l p pb).set 0 (.inst 787 (aQ "lineno" (.int (ln+1)) (fO b st ln tok)))=aT b st (ln+1) tok l p pb) ?_; exact hr
theorem qK (W:WF C) (hq:Q (.str (T (eU b))) (aT b st ln tok l p pb)):aZ C (d+1) (aT b st ln tok l p pb) (.ref 718) [.obj 0] [] Q:=by
  refine aZ.fn (ns:=["self"]) W.ok W.yJ (by kernel_rfl) (by kernel_rfl) (by kernel_rfl) rfl ?_ (fun q cd L=>by kernel_rfl) fun q cd L=>?_
  · exact fun _ _ _ _ _ _ _ _=>gU fun _=>by kernel_rfl
  refine aa.cons (EX.ret ?_); refine EV.gF W ?_ hq; kernel_rfl
theorem EV.mX {q1 q2:Pos} (W:WF C) (hs:ρ.lookup ("self" : Str)=some (.obj 0)) (hq:Q (.str (T (eU b))) (aT b st ln tok l p pb)):EV C (d+2) env ρ (aT b st ln tok l p pb) (.Attribute (.Name "self" q1) "punctuation_chars" q2) Q:=by
  obtain ⟨rest,hrec⟩:=W.mC; refine EV.prop (k:=0) (fs:=fO b st ln tok) W.ok W.aX W.mF W.xu W.mD W.mz hrec rfl ?_; exact EV.nm (.obj 0) hs (by kernel_rfl) ⟨rfl,rfl,qK W ⟨rfl,hq⟩⟩
end
section
variable {C:Cx} {d:Nat} {env:Env} {ρ:Loc} {H:List O} {Q:D→List O→Prop} {TT:Bool→List O→Prop} {b:Bool} {st:Option Nat} {ln:Int} {tok l:List Nat} {p:Nat} {pb:Option Nat} {c:Nat} {q:Bool} {q1 q2 q3 q4 q5 q6 q7:Pos}
theorem TV.iz (W:WF C) {k:Nat} (hs:ρ.lookup ("self" : Str)=some (.obj 0)) (h:TT st.isNone (aT b st ln tok l p pb)):TV C (d+1) env ρ (aT b st ln tok l p pb) (.Compare (.Attribute (.Name "self" q1) "state" q2) [.Is] [.Constant .none k q3] q4) TT:=by
  refine TV.cmp (EV.fG W hs (EV.none ?_)) rfl
  cases st with
  | none=>exact aO.nh (TR.plain rfl h)
  | some c=>exact aO.cmp (show TR _ _ _ _ _ from TR.plain rfl h)
theorem TV.st_eq (W:WF C) {x:Str} {k a:Nat} (hx:x=T [a]) (hs:ρ.lookup ("self" : Str)=some (.obj 0)) (h:TT (c==a) (aT b (some c) ln tok l p pb)):TV C (d+1) env ρ (aT b (some c) ln tok l p pb) (.Compare (.Attribute (.Name "self" q1) "state" q2) [.Eq] [.Constant (.str x) k q3] q4) TT:=by
  refine TV.cmp (EV.fG W hs (EV.aY [a] hx (by show 1≤sizeLine; decide) ?_)) rfl; refine aO.eqT (TR.plain rfl ?_); have:([c]==[a])=(c==a):=by simp
  refine rl this ?_; exact h
theorem TV.sq {nc:List Nat} (hn:ρ.lookup ("nextchar" : Str)=some (.str (T nc))) (h:TT nc.isEmpty H):TV C d env ρ H (.UnaryOp .Not (.Name "nextchar" q1) q2) TT:=by
  refine TV.not (TV.plain (EV.nm (.str (T nc)) hn (by kernel_rfl) (TR.plain rfl ?_)) (fun _=>rfl)); have:(!((T nc).length != 0))=nc.isEmpty:=by rw [aL]; cases nc <;> simp
  refine rl this ?_; exact h
theorem TV.Ac (W:WF C) (hs:ρ.lookup ("self" : Str)=some (.obj 0)) (hn:ρ.lookup ("nextchar" : Str)=some (.str (T [c]))) (h:TT (decide (c∈[32,9,13,10])) (aT b st ln tok l p pb)):TV C (d+1) env ρ (aT b st ln tok l p pb) (.Compare (.Name "nextchar" q1) [.In] [.Attribute (.Name "self" q2) "whitespace" q3] q4) TT :=
  TV.cmp (EV.nm (.str (T [c])) hn (by kernel_rfl) (EV.iU W hs (aO.yr (TR.plain rfl h)))) rfl
theorem TV.yf (W:WF C) (hs:ρ.lookup ("self" : Str)=some (.obj 0)) (hn:ρ.lookup ("nextchar" : Str)=some (.str (T [c]))) (h:TT (!decide (c∈[32,9,13,10])) (aT b st ln tok l p pb)):TV C (d+1) env ρ (aT b st ln tok l p pb) (.Compare (.Name "nextchar" q1) [.NotIn] [.Attribute (.Name "self" q2) "whitespace" q3] q4) TT :=
  TV.cmp (EV.nm (.str (T [c])) hn (by kernel_rfl) (EV.iU W hs (aO.vE (TR.plain rfl h)))) rfl
theorem TV.vL (W:WF C) (hs:ρ.lookup ("self" : Str)=some (.obj 0)) (hn:ρ.lookup ("nextchar" : Str)=some (.str (T [c]))) (h:TT (decide (c∈gY b)) (aT b st ln tok l p pb)):TV C (d+1) env ρ (aT b st ln tok l p pb) (.Compare (.Name "nextchar" q1) [.In] [.Attribute (.Name "self" q2) "commenters" q3] q4) TT :=
  TV.cmp (EV.nm (.str (T [c])) hn (by kernel_rfl) (EV.nZ W hs (aO.yr (TR.plain rfl h)))) rfl
theorem TV.vK (W:WF C) (hs:ρ.lookup ("self" : Str)=some (.obj 0)) (hn:ρ.lookup ("nextchar" : Str)=some (.str (T [c]))) (h:TT (decide (c∈[92])) (aT b st ln tok l p pb)):TV C (d+1) env ρ (aT b st ln tok l p pb) (.Compare (.Name "nextchar" q1) [.In] [.Attribute (.Name "self" q2) "escape" q3] q4) TT :=
  TV.cmp (EV.nm (.str (T [c])) hn (by kernel_rfl) (EV.qi W hs (aO.yr (TR.plain rfl h)))) rfl
theorem TV.EM (W:WF C) (hs:ρ.lookup ("self" : Str)=some (.obj 0)) (hn:ρ.lookup ("nextchar" : Str)=some (.str (T [c]))) (h:TT (decide (c∈j7 b)) (aT b st ln tok l p pb)):TV C (d+1) env ρ (aT b st ln tok l p pb) (.Compare (.Name "nextchar" q1) [.In] [.Attribute (.Name "self" q2) "wordchars" q3] q4) TT :=
  TV.cmp (EV.nm (.str (T [c])) hn (by kernel_rfl) (EV.qe W hs (aO.yr (TR.plain rfl h)))) rfl
theorem TV.vI (W:WF C) (hs:ρ.lookup ("self" : Str)=some (.obj 0)) (hn:ρ.lookup ("nextchar" : Str)=some (.str (T [c]))) (h:TT (decide (c∈[39,34])) (aT b st ln tok l p pb)):TV C (d+1) env ρ (aT b st ln tok l p pb) (.Compare (.Name "nextchar" q1) [.In] [.Attribute (.Name "self" q2) "quotes" q3] q4) TT :=
  TV.cmp (EV.nm (.str (T [c])) hn (by kernel_rfl) (EV.qg W hs (aO.yr (TR.plain rfl h)))) rfl
theorem TV.zu (W:WF C) (hs:ρ.lookup ("self" : Str)=some (.obj 0)) (hn:ρ.lookup ("nextchar" : Str)=some (.str (T [c]))) (h:TT (decide (c∈eU b)) (aT b st ln tok l p pb)):TV C (d+2) env ρ (aT b st ln tok l p pb) (.Compare (.Name "nextchar" q1) [.In] [.Attribute (.Name "self" q2) "punctuation_chars" q3] q4) TT :=
  TV.cmp (EV.nm (.str (T [c])) hn (by kernel_rfl) (EV.mX W hs (aO.yr (TR.plain rfl h)))) rfl
theorem TV.vJ (W:WF C) (hs:ρ.lookup ("self" : Str)=some (.obj 0)) (hn:ρ.lookup ("nextchar" : Str)=some (.str (T [c]))) (h:TT (!decide (c∈eU b)) (aT b st ln tok l p pb)):TV C (d+2) env ρ (aT b st ln tok l p pb) (.Compare (.Name "nextchar" q1) [.NotIn] [.Attribute (.Name "self" q2) "punctuation_chars" q3] q4) TT :=
  TV.cmp (EV.nm (.str (T [c])) hn (by kernel_rfl) (EV.mX W hs (aO.vE (TR.plain rfl h)))) rfl
theorem TV.u6 (W:WF C) (hs:ρ.lookup ("self" : Str)=some (.obj 0)) (h:TT (decide (c∈[39,34])) (aT b (some c) ln tok l p pb)):TV C (d+1) env ρ (aT b (some c) ln tok l p pb) (.Compare (.Attribute (.Name "self" q1) "state" q2) [.In] [.Attribute (.Name "self" q3) "quotes" q4] q5) TT :=
  TV.cmp (EV.fG W hs (EV.qg W hs (aO.yr (TR.plain rfl h)))) rfl
theorem TV.zg (W:WF C) (hs:ρ.lookup ("self" : Str)=some (.obj 0)) (h:TT (decide (c∈[92])) (aT b (some c) ln tok l p pb)):TV C (d+1) env ρ (aT b (some c) ln tok l p pb) (.Compare (.Attribute (.Name "self" q1) "state" q2) [.In] [.Attribute (.Name "self" q3) "escape" q4] q5) TT :=
  TV.cmp (EV.fG W hs (EV.qi W hs (aO.yr (TR.plain rfl h)))) rfl
theorem TV.z0 (W:WF C) (hs:ρ.lookup ("self" : Str)=some (.obj 0)) (h:TT (decide (c∈[34])) (aT b (some c) ln tok l p pb)):TV C (d+1) env ρ (aT b (some c) ln tok l p pb) (.Compare (.Attribute (.Name "self" q1) "state" q2) [.In] [.Attribute (.Name "self" q3) "escapedquotes" q4] q5) TT :=
  TV.cmp (EV.fG W hs (EV.jR W hs (aO.yr (TR.plain rfl h)))) rfl
theorem TV.Gs (W:WF C) {a:Nat} (hs:ρ.lookup ("self" : Str)=some (.obj 0)) (hn:ρ.lookup ("nextchar" : Str)=some (.str (T [a]))) (h:TT (a==c) (aT b (some c) ln tok l p pb)):TV C (d+1) env ρ (aT b (some c) ln tok l p pb) (.Compare (.Name "nextchar" q1) [.Eq] [.Attribute (.Name "self" q2) "state" q3] q4) TT:=by
  refine TV.cmp (EV.nm (.str (T [a])) hn (by kernel_rfl) (EV.fG W hs (aO.eqT (TR.plain rfl ?_)))) rfl; have:([a]==[c])=(a==c):=by simp
  refine rl this ?_; exact h
theorem TV.posix (W:WF C) (hs:ρ.lookup ("self" : Str)=some (.obj 0)) (h:TT true (aT b st ln tok l p pb)):TV C d env ρ (aT b st ln tok l p pb) (.Attribute (.Name "self" q1) "posix" q2) TT :=
  TV.plain (EV.yY W hs (TR.plain rfl h)) (fun _=>rfl)
theorem TV.FG (W:WF C) (hs:ρ.lookup ("self" : Str)=some (.obj 0)) (h:TT (mG b) (aT b st ln tok l p pb)):TV C d env ρ (aT b st ln tok l p pb) (.Attribute (.Name "self" q1) "whitespace_split" q2) TT :=
  TV.plain (EV.g9 W hs (TR.plain rfl h)) (fun _=>rfl)
theorem TV.A8 (W:WF C) (hs:ρ.lookup ("self" : Str)=some (.obj 0)) (h:TT b (aT b st ln tok l p pb)):TV C (d+2) env ρ (aT b st ln tok l p pb) (.Attribute (.Name "self" q1) "punctuation_chars" q2) TT:=by
  refine TV.plain (EV.mX W hs (TR.plain rfl ?_)) (fun _=>rfl); have:((T (eU b)).length != 0)=b:=by cases b <;> rfl
  refine rl this ?_; exact h
theorem TV.debug (W:WF C) {k:Nat} {n:Int} (hn:0 < n) (hs:ρ.lookup ("self" : Str)=some (.obj 0)) (h:TT false (aT b st ln tok l p pb)):TV C (d+1) env ρ (aT b st ln tok l p pb) (.Compare (.Attribute (.Name "self" q1) "debug" q2) [.GtE] [.Constant (.int n) k q3] q4) TT:=by
  refine TV.cmp (EV.tG W hs (EV.int (aO.cmp (show TR _ _ _ _ _ from TR.plain rfl ?_)))) rfl; refine rl (decide_eq_false (by exact Int.not_le.mpr hn)) ?_; exact h
theorem TV.yN (W:WF C) {k:Nat} {n:Int} (hn:0 < n) (hs:ρ.lookup ("self" : Str)=some (.obj 0)) (h:TT false (aT b st ln tok l p pb)):TV C (d+1) env ρ (aT b st ln tok l p pb) (.Compare (.Attribute (.Name "self" q1) "debug" q2) [.Gt] [.Constant (.int n) k q3] q4) TT:=by
  refine TV.cmp (EV.tG W hs (EV.int (aO.cmp (show TR _ _ _ _ _ from TR.plain rfl ?_)))) rfl; refine rl (decide_eq_false (by exact Int.lt_asymm hn)) ?_; exact h
theorem TV.uS (W:WF C) (hs:ρ.lookup ("self" : Str)=some (.obj 0)) (hq:ρ.lookup ("quoted" : Str)=some (.bool q)) (h:TT (!tok.isEmpty || q) (aT b st ln tok l p pb)):TV C d env ρ (aT b st ln tok l p pb) (.BoolOp .Or [.Attribute (.Name "self" q1) "token" q2,.BoolOp .And [.Attribute (.Name "self" q3) "posix" q4,.Name "quoted" q5] q6] q7) TT:=by
  refine TV.or (TV.plain (EV.tE W hs (TR.plain rfl ?_)) (fun _=>rfl)); have e:((T tok).length != 0) = !tok.isEmpty:=by rw [aL]; cases tok <;> simp
  refine rl e ?_
  cases ht:tok.isEmpty with
  | false =>
    rw [ht] at h; exact h
  | true =>
    rw [ht] at h; refine TV.or (TV.and (TV.posix W hs ?_)); refine TV.and (TV.plain (EV.nm (.bool q) hq (by kernel_rfl) (TR.plain rfl ?_)) (fun _=>rfl))
    cases q with
    | true =>
      exact TV.qc h
    | false =>
      exact TV.Bc h
end
noncomputable abbrev Turn:=Bool × Option Nat × List Nat × Bool × Option Nat
noncomputable def fL (b:Bool) (tok:List Nat) (q:Bool):Option Nat→Option Turn
  | none=>some (true,none,tok,q,none)
  | some c =>
    if c∈[32,9,13,10] then some (!tok.isEmpty || q,some 32,tok,q,none)
    else if c∈gY b then none
    else if c∈[92] then none
    else if c∈j7 b then some (false,some 97,[c],q,none)
    else if c∈eU b then some (false,some 99,[c],q,none)
    else if c∈[39,34] then some (false,some c,tok,q,none)
    else if mG b=true then some (false,some 97,[c],q,none)
    else some (true,some 32,[c],q,none)
noncomputable def jt (s:Nat) (tok:List Nat):Option Nat→Option Turn
  | none=>none
  | some c =>
    if c=s then some (false,some 97,tok,true,none)
    else if c∈[92] then (if s∈[34] then none else some (false,some s,tok++[c],true,none))
    else some (false,some s,tok++[c],true,none)
noncomputable def eN (b:Bool) (tok:List Nat) (q:Bool):Option Nat→Option Turn
  | none=>some (true,none,tok,q,none)
  | some c =>
    if c∈[32,9,13,10] then some (!tok.isEmpty || q,some 32,tok,q,none)
    else if c∈gY b then none
    else if c∈[39,34] then some (false,some c,tok,q,none)
    else if c∈[92] then none
    else if c∈j7 b then some (false,some 97,tok++[c],q,none)
    else if mG b=true then (if c∈eU b then none else some (false,some 97,tok++[c],q,none))
    else if b=true then some (!tok.isEmpty || q,some 32,tok,q,some c)
    else none
noncomputable def kq (b:Bool) (tok:List Nat) (q:Bool):Option Nat→Option Turn
  | none=>some (true,none,tok,q,none)
  | some c =>
    if c∈[32,9,13,10] then some (!tok.isEmpty || q,some 32,tok,q,none)
    else if c∈gY b then none
    else if c∈eU b then some (false,some 99,tok++[c],q,none)
    else if b=true then some (true,some 32,tok,q,some c)
    else none
noncomputable def dw:List Stmt:=tN ((fnBody (inClass 6 (ak 28))).getD 2 (.Pass ⟨0,0,0,0⟩))
noncomputable def zI (ρ:Loc) (q:Bool):Prop:=ρ.lookup ("self" : Str)=some (.obj 0)∧ρ.lookup ("quoted" : Str)=some (.bool q)
noncomputable def GB (brk:Bool) (fl:Fl):Prop:=if brk=true then fl = .brk else fl = .next ∨ fl = .cont
section
variable {C:Cx} {d:Nat} {ρ:Loc} {R:Fl→Loc→List O→Prop} {b:Bool} {ln:Int} {tok l:List Nat} {p:Nat} {nc:Option Nat} {q:Bool} {qn:Str} {cd:Value} {L:Addr} {t:Turn}
noncomputable def After (R:Fl→Loc→List O→Prop) (b:Bool) (ln:Int) (l:List Nat) (p:Nat) (t:Turn):Prop :=
  ∀ fl ρ',GB t.1 fl→zI ρ' t.2.2.2.1→R fl ρ' (aT b t.2.1 ln t.2.2.1 l p t.2.2.2.2)
theorem tT (W:WF C) (hs:ρ.lookup ("self" : Str)=some (.obj 0)) (hq:ρ.lookup ("quoted" : Str)=some (.bool q)) (hR:After R b ln l p (true,none,[],q,none)) :
    aa C (d+3) (b8 (inClass 6 (ak 28)) qn cd L 755) ρ (aT b none ln tok l p none) (dw.drop 3) R:=by
  refine aa.cons ?_; refine EX.if ?_; refine TV.iz W hs ?_; refine aa.cons ?_; refine EX.gi W [] hs rfl (EV.aY [] (by kernel_rfl) (by decide) ⟨rfl,rfl⟩) ?_; refine aa.cons ?_; refine EX.brk ?_; exact hR .brk ρ rfl ⟨hs,hq⟩
theorem xK (W:WF C) (hs:ρ.lookup ("self" : Str)=some (.obj 0)) (hq:ρ.lookup ("quoted" : Str)=some (.bool q)) (hn:ρ.lookup ("nextchar" : Str)=some (.str (T nc.toList))) (ht:fL b tok q nc=some t) (hR:After R b ln l p t) :
    aa C (d+3) (b8 (inClass 6 (ak 28)) qn cd L 755) ρ (aT b (some 32) ln tok l p none) (dw.drop 3) R:=by
  refine aa.cons ?_; refine EX.if ?_; refine TV.iz W hs ?_; refine aa.cons ?_; refine EX.if ?_; refine TV.st_eq (a:=32) W ?_ hs ?_
  · kernel_rfl
  refine aa.cons ?_; refine EX.if ?_; refine TV.sq hn ?_
  cases nc with
  | none =>
    cases ht; refine aa.cons ?_; refine EX.b6 W none hs rfl (EV.none ⟨rfl,rfl⟩) ?_; refine aa.cons ?_; refine EX.brk ?_; exact hR .brk ρ rfl ⟨hs,hq⟩
  | some c =>
    unfold fL at ht; dsimp only at ht; show aa _ _ _ _ _ _ _; refine aa.cons ?_; refine EX.if ?_; refine TV.Ac W hs hn ?_
    by_cases h1:c∈[32,9,13,10]
    · rw [if_pos h1] at ht
      cases ht; refine rl (decide_eq_true h1) ?_; refine aa.cons ?_; refine EX.if ?_; refine TV.debug W (by decide) hs ?_; refine aa.nil ?_; refine aa.cons ?_; refine EX.if ?_; refine TV.uS W hs hq ?_
      cases hb:(!tok.isEmpty || q) with
      | true =>
        show aa _ _ _ _ _ _ _; refine aa.cons ?_; refine EX.brk ?_; exact hR .brk ρ (by show (if (!tok.isEmpty || q)=true then _ else _); refine rl hb ?_; rfl) ⟨hs,hq⟩
      | false =>
        show aa _ _ _ _ _ _ _; refine aa.cons ?_; refine EX.cont ?_; exact hR .cont ρ (by show (if (!tok.isEmpty || q)=true then _ else _); refine rl hb ?_; exact .inr rfl) ⟨hs,hq⟩
    rw [if_neg h1] at ht; refine rl (decide_eq_false h1) ?_; refine aa.cons ?_; refine EX.if ?_; refine TV.vL W hs hn ?_
    by_cases h2:c∈gY b
    · rw [if_pos h2] at ht; cases ht
    rw [if_neg h2] at ht; refine rl (decide_eq_false h2) ?_; refine aa.cons ?_; refine EX.if ?_; refine TV.and (TV.posix W hs ?_); refine TV.and (TV.vK W hs hn ?_)
    by_cases h3:c∈[92]
    · rw [if_pos h3] at ht; cases ht
    rw [if_neg h3] at ht; refine rl (decide_eq_false h3) ?_; refine aa.cons ?_; refine EX.if ?_; refine TV.EM W hs hn ?_
    by_cases h4:c∈j7 b
    · rw [if_pos h4] at ht
      cases ht; refine rl (decide_eq_true h4) ?_; refine aa.cons ?_; refine EX.gi W [c] hs rfl (EV.nm (.str (T [c])) hn (by kernel_rfl) ⟨rfl,rfl⟩) ?_; refine aa.cons ?_; refine EX.b6 W (some 97) hs rfl (EV.aY [97] (by kernel_rfl) (by decide) ⟨rfl,rfl⟩) ?_
      repeat (refine aa.nil ?_)
      exact hR .next ρ (.inl rfl) ⟨hs,hq⟩
    rw [if_neg h4] at ht; refine rl (decide_eq_false h4) ?_; refine aa.cons ?_; refine EX.if ?_; refine TV.zu W hs hn ?_
    by_cases h5:c∈eU b
    · rw [if_pos h5] at ht
      cases ht; refine rl (decide_eq_true h5) ?_; refine aa.cons ?_; refine EX.gi W [c] hs rfl (EV.nm (.str (T [c])) hn (by kernel_rfl) ⟨rfl,rfl⟩) ?_; refine aa.cons ?_; refine EX.b6 W (some 99) hs rfl (EV.aY [99] (by kernel_rfl) (by decide) ⟨rfl,rfl⟩) ?_
      repeat (refine aa.nil ?_)
      exact hR .next ρ (.inl rfl) ⟨hs,hq⟩
    rw [if_neg h5] at ht; refine rl (decide_eq_false h5) ?_; refine aa.cons ?_; refine EX.if ?_; refine TV.vI W hs hn ?_
    by_cases h6:c∈[39,34]
    · rw [if_pos h6] at ht
      cases ht; refine rl (decide_eq_true h6) ?_; refine aa.cons ?_; refine EX.if ?_; refine TV.not (TV.posix W hs ?_); refine aa.nil ?_; refine aa.cons ?_; refine EX.b6 W (some c) hs rfl (EV.nm (.str (T [c])) hn (by kernel_rfl) ⟨rfl,rfl⟩) ?_
      repeat (refine aa.nil ?_)
      exact hR .next ρ (.inl rfl) ⟨hs,hq⟩
    rw [if_neg h6] at ht; refine rl (decide_eq_false h6) ?_; refine aa.cons ?_; refine EX.if ?_; refine TV.FG W hs ?_
    cases h7:mG b with
    | true =>
      rw [h7,if_pos rfl] at ht; cases ht; refine aa.cons ?_; refine EX.gi W [c] hs rfl (EV.nm (.str (T [c])) hn (by kernel_rfl) ⟨rfl,rfl⟩) ?_; refine aa.cons ?_; refine EX.b6 W (some 97) hs rfl (EV.aY [97] (by kernel_rfl) (by decide) ⟨rfl,rfl⟩) ?_
      repeat (refine aa.nil ?_)
      exact hR .next ρ (.inl rfl) ⟨hs,hq⟩
    | false =>
      rw [h7,if_neg Bool.false_ne_true] at ht; cases ht; refine aa.cons ?_; refine EX.gi W [c] hs rfl (EV.nm (.str (T [c])) hn (by kernel_rfl) ⟨rfl,rfl⟩) ?_; refine aa.cons ?_; refine EX.if ?_; refine TV.uS W hs hq ?_; refine aa.cons ?_; refine EX.brk ?_; exact hR .brk ρ rfl ⟨hs,hq⟩
end
section
variable {C:Cx} {d:Nat} {env:Env} {ρ:Loc} {R:Fl→Loc→List O→Prop} {b:Bool} {ln:Int} {tok l:List Nat} {p:Nat} {nc:Option Nat} {q:Bool} {qn:Str} {cd:Value} {L:Addr} {t:Turn} {st:Option Nat}
theorem EX.putBack {q1 q2 q3 q4 q5 q6:Pos} {c:Nat} (W:WF C) (ok:qM (.Attribute (.Name "self" q1) "_pushback_chars" q2) [.Name "nextchar" q3] q4 q5=true) (hi:interactive env=false) (hs:ρ.lookup ("self" : Str)=some (.obj 0)) (hn:ρ.lookup ("nextchar" : Str)=some (.str (T [c]))) (hr:R .next ρ (aT true st ln tok l p (some c))) :
    EX C d env ρ (aT true st ln tok l p none) (.Expr (.Call (.Attribute (.Attribute (.Name "self" q1) "_pushback_chars" q2) "append" q4) [.Name "nextchar" q3] [] q5) q6) R:=by
  refine EX.expr hi (ah rfl) (EV.b5 ok (EV.cV W hs ⟨_,bY.deque (xs:=[]) rfl fY kY,.builtin,?_⟩)); refine az.c (EV.nm (.str (T [c])) hn (by kernel_rfl) (az.n ?_)); refine aj.wQ (xs:=[]) rfl (by decide) ⟨rfl,?_⟩; refine rl (by kernel_rfl:(aT true st ln tok l p none).set 4 (.deque ([]++[.str (T [c])]))=aT true st ln tok l p (some c)) ?_; exact hr
theorem TV.ze {x y:Str} {k1 k2 k3 a a1 a2:Nat} {q1 q2 q3 q4 q5 q6:Pos} {TT:Bool→List O→Prop} (W:WF C) (hx:x=T [a1]) (hy:y=T [a2]) (ha:a < 1114112) (h1:a1 < 1114112) (h2:a2 < 1114112) (hs:ρ.lookup ("self" : Str)=some (.obj 0)) (h:TT (decide (a∈[a1,a2])) (aT b (some a) ln tok l p none)) :
    TV C (d+1) env ρ (aT b (some a) ln tok l p none) (.Compare (.Attribute (.Name "self" q1) "state" q2) [.In] [.Tuple [.Constant (.str x) k1 q3,.Constant (.str y) k2 q4] k3 q5] q6) TT:=by
  subst hx hy; have okc:∀ c:Nat,c < 1114112→D.ok 8 (.str (T [c]))=true:=fun c hc=>kK fun z hz=>by refine rl (List.mem_singleton.mp hz) ?_; exact hc
  refine TV.cmp (EV.fG W hs (EV.tuple rfl (az.c (EV.aY [a1] rfl (by show 1≤sizeLine; decide) (az.c (EV.aY [a2] rfl (by show 1≤sizeLine; decide) (az.n ⟨by show 2≤sizeLine; decide,?_⟩))))))) rfl; refine aO.cmp ⟨rfl,⟨okc a ha,fun z hz=>?_⟩,TR.plain rfl ?_⟩
  · rcases List.mem_cons.mp hz with rfl | hz
    · exact okc a1 h1
    refine rl (List.mem_singleton.mp hz) ?_; exact okc a2 h2
  have:=tD [[a1],[a2]] [a]
  have e:((D.mW [.str (T [a1]),.str (T [a2])]).any fun y=>PyData.eqv y (D.str (T [a])).pd)=decide (a∈[a1,a2]):=by
    refine this.trans ?_; rw [Bool.eq_iff_iff]; simp
  refine rl e ?_; exact h
theorem zU (W:WF C) {s:Nat} (hsq:s∈[39,34]) (htl:tok.length≤100000) (hs:ρ.lookup ("self" : Str)=some (.obj 0)) (hn:ρ.lookup ("nextchar" : Str)=some (.str (T nc.toList))) (ht:jt s tok nc=some t) (hR:After R b ln l p t) :
    aa C (d+3) (b8 (inClass 6 (ak 28)) qn cd L 755) ρ (aT b (some s) ln tok l p none) (dw.drop 3) R:=by
  cases nc with
  | none=>cases ht
  | some c =>
    unfold jt at ht; dsimp only at ht; refine aa.cons ?_; refine EX.if ?_; refine TV.iz W hs ?_; show aa _ _ _ _ _ _ _; refine aa.cons ?_; refine EX.if ?_; refine TV.st_eq (a:=32) W ?_ hs ?_
    · kernel_rfl
    have e32:(s==32)=false:=by
      simp only [List.mem_cons,List.not_mem_nil,or_false] at hsq; rcases hsq with rfl | rfl <;> rfl
    refine rl e32 ?_; show aa _ _ _ _ _ _ _; refine aa.cons ?_; refine EX.if ?_; refine TV.u6 W hs ?_; refine rl (decide_eq_true hsq) ?_; show aa _ _ _ _ _ _ _; refine aa.cons ?_; refine EX.asg ?_ ?_
    · kernel_rfl
    refine EV.bool ?_; have hs':(aQ "quoted" (.bool true) ρ).lookup ("self" : Str)=some (.obj 0):=(jf (by decide +kernel)).trans hs; have hq':(aQ "quoted" (.bool true) ρ).lookup ("quoted" : Str)=some (.bool true):=bV; have hn':(aQ "quoted" (.bool true) ρ).lookup ("nextchar" : Str)=some (.str (T [c])):=(jf (by decide +kernel)).trans hn; refine aa.cons ?_; refine EX.if ?_; refine TV.sq hn' ?_; refine aa.nil ?_; refine aa.cons ?_; refine EX.if ?_; refine TV.Gs W hs' hn' ?_
    by_cases h1:c=s
    · rw [if_pos h1] at ht
      cases ht; refine rl (beq_iff_eq.mpr h1) ?_; show aa _ _ _ _ _ _ _; refine aa.cons ?_; refine EX.if ?_; refine TV.not (TV.posix W hs' ?_); show aa _ _ _ _ _ _ _; refine aa.cons ?_; refine EX.b6 W (some 97) hs' rfl (EV.aY [97] (by kernel_rfl) (by decide) ⟨rfl,rfl⟩) ?_
      repeat (refine aa.nil ?_)
      exact hR .next _ (.inl rfl) ⟨hs',hq'⟩
    rw [if_neg h1] at ht; refine rl (beq_eq_false_iff_ne.mpr h1) ?_; refine aa.cons ?_; refine EX.if ?_; refine TV.and (TV.posix W hs' ?_); refine TV.and (TV.vK W hs' hn' ?_)
    by_cases h3:c∈[92]
    · rw [if_pos h3] at ht
      by_cases h4:s∈[34]
      · rw [if_pos h4] at ht; cases ht
      rw [if_neg h4] at ht; refine rl (decide_eq_true h3) ?_; refine TV.and (TV.z0 W hs' ?_); refine rl (decide_eq_false h4) ?_; refine aa.cons ?_; refine EX.iM (c:=[c]) W hs' (by show _+1≤_; exact Bp htl) (EV.nm (.str (T [c])) hn' (by kernel_rfl) ⟨rfl,rfl⟩) ?_; cases ht
      repeat (refine aa.nil ?_)
      exact hR .next _ (.inl rfl) ⟨hs',hq'⟩
    rw [if_neg h3] at ht; refine rl (decide_eq_false h3) ?_; refine aa.cons ?_; refine EX.iM (c:=[c]) W hs' (by show _+1≤_; exact Bp htl) (EV.nm (.str (T [c])) hn' (by kernel_rfl) ⟨rfl,rfl⟩) ?_; cases ht
    repeat (refine aa.nil ?_)
    exact hR .next _ (.inl rfl) ⟨hs',hq'⟩
theorem zV (W:WF C) (htl:tok.length≤100000) (hs:ρ.lookup ("self" : Str)=some (.obj 0)) (hq:ρ.lookup ("quoted" : Str)=some (.bool q)) (hn:ρ.lookup ("nextchar" : Str)=some (.str (T nc.toList))) (ht:kq b tok q nc=some t) (hR:After R b ln l p t) :
    aa C (d+3) (b8 (inClass 6 (ak 28)) qn cd L 755) ρ (aT b (some 99) ln tok l p none) (dw.drop 3) R:=by
  refine aa.cons ?_; refine EX.if ?_; refine TV.iz W hs ?_; refine aa.cons ?_; refine EX.if ?_; refine TV.st_eq (a:=32) W ?_ hs ?_
  · kernel_rfl
  refine aa.cons ?_; refine EX.if ?_; refine TV.u6 W hs ?_; refine aa.cons ?_; refine EX.if ?_; refine TV.zg W hs ?_; refine aa.cons ?_; refine EX.if ?_; refine TV.ze (a1:=97) (a2:=99) W ?_ ?_ (by decide) (by decide) (by decide) hs ?_
  · kernel_rfl
  · kernel_rfl
  refine aa.cons ?_; refine EX.if ?_; refine TV.sq hn ?_
  cases nc with
  | none =>
    cases ht; refine aa.cons ?_; refine EX.b6 W none hs rfl (EV.none ⟨rfl,rfl⟩) ?_; refine aa.cons ?_; refine EX.brk ?_; exact hR .brk ρ rfl ⟨hs,hq⟩
  | some c =>
    unfold kq at ht; dsimp only at ht; show aa _ _ _ _ _ _ _; refine aa.cons ?_; refine EX.if ?_; refine TV.Ac W hs hn ?_
    by_cases h1:c∈[32,9,13,10]
    · rw [if_pos h1] at ht
      cases ht; refine rl (decide_eq_true h1) ?_; refine aa.cons ?_; refine EX.if ?_; refine TV.debug W (by decide) hs ?_; refine aa.nil ?_; refine aa.cons ?_; refine EX.b6 W (some 32) hs rfl (EV.aY [32] (by kernel_rfl) (by decide) ⟨rfl,rfl⟩) ?_; refine aa.cons ?_; refine EX.if ?_; refine TV.uS W hs hq ?_
      cases hb:(!tok.isEmpty || q) with
      | true =>
        show aa _ _ _ _ _ _ _; refine aa.cons ?_; refine EX.brk ?_; exact hR .brk ρ (by show (if (!tok.isEmpty || q)=true then _ else _); refine rl hb ?_; rfl) ⟨hs,hq⟩
      | false =>
        show aa _ _ _ _ _ _ _; refine aa.cons ?_; refine EX.cont ?_; exact hR .cont ρ (by show (if (!tok.isEmpty || q)=true then _ else _); refine rl hb ?_; exact .inr rfl) ⟨hs,hq⟩
    rw [if_neg h1] at ht; refine rl (decide_eq_false h1) ?_; refine aa.cons ?_; refine EX.if ?_; refine TV.vL W hs hn ?_
    by_cases h2:c∈gY b
    · rw [if_pos h2] at ht; cases ht
    rw [if_neg h2] at ht; refine rl (decide_eq_false h2) ?_; refine aa.cons ?_; refine EX.if ?_; refine TV.st_eq (a:=99) W ?_ hs ?_
    · kernel_rfl
    refine aa.cons ?_; refine EX.if ?_; refine TV.zu W hs hn ?_
    by_cases h3:c∈eU b
    · rw [if_pos h3] at ht
      cases ht; refine rl (decide_eq_true h3) ?_; refine aa.cons ?_; refine EX.iM (c:=[c]) W hs (by show _+1≤_; exact Bp htl) (EV.nm (.str (T [c])) hn (by kernel_rfl) ⟨rfl,rfl⟩) ?_
      repeat (refine aa.nil ?_)
      exact hR .next ρ (.inl rfl) ⟨hs,hq⟩
    rw [if_neg h3] at ht; refine rl (decide_eq_false h3) ?_; refine aa.cons ?_; refine EX.if ?_; refine TV.yf W hs hn ?_; refine rl (decide_eq_false h1) ?_
    cases b with
    | false=>rw [if_neg Bool.false_ne_true] at ht; cases ht
    | true =>
      rw [if_pos rfl] at ht; cases ht; refine aa.cons ?_; refine EX.putBack (c:=c) W ?_ ?_ hs hn ?_
      · kernel_rfl
      · kernel_rfl
      refine aa.nil ?_; refine aa.cons ?_; refine EX.b6 W (some 32) hs rfl (EV.aY [32] (by kernel_rfl) (by decide) ⟨rfl,rfl⟩) ?_; refine aa.cons ?_; refine EX.brk ?_; exact hR .brk ρ rfl ⟨hs,hq⟩
end
section
variable {C:Cx} {d:Nat} {env:Env} {ρ:Loc} {R:Fl→Loc→List O→Prop} {b:Bool} {ln:Int} {tok l:List Nat} {p:Nat} {nc:Option Nat} {q:Bool} {qn:Str} {cd:Value} {L:Addr} {t:Turn} {st:Option Nat}
theorem zW (W:WF C) (htl:tok.length≤100000) (hs:ρ.lookup ("self" : Str)=some (.obj 0)) (hq:ρ.lookup ("quoted" : Str)=some (.bool q)) (hn:ρ.lookup ("nextchar" : Str)=some (.str (T nc.toList))) (ht:eN b tok q nc=some t) (hR:After R b ln l p t) :
    aa C (d+3) (b8 (inClass 6 (ak 28)) qn cd L 755) ρ (aT b (some 97) ln tok l p none) (dw.drop 3) R:=by
  refine aa.cons ?_; refine EX.if ?_; refine TV.iz W hs ?_; refine aa.cons ?_; refine EX.if ?_; refine TV.st_eq (a:=32) W ?_ hs ?_
  · kernel_rfl
  refine aa.cons ?_; refine EX.if ?_; refine TV.u6 W hs ?_; refine aa.cons ?_; refine EX.if ?_; refine TV.zg W hs ?_; refine aa.cons ?_; refine EX.if ?_; refine TV.ze (a1:=97) (a2:=99) W ?_ ?_ (by decide) (by decide) (by decide) hs ?_
  · kernel_rfl
  · kernel_rfl
  refine aa.cons ?_; refine EX.if ?_; refine TV.sq hn ?_
  cases nc with
  | none =>
    cases ht; refine aa.cons ?_; refine EX.b6 W none hs rfl (EV.none ⟨rfl,rfl⟩) ?_; refine aa.cons ?_; refine EX.brk ?_; exact hR .brk ρ rfl ⟨hs,hq⟩
  | some c =>
    unfold eN at ht; dsimp only at ht; show aa _ _ _ _ _ _ _; refine aa.cons ?_; refine EX.if ?_; refine TV.Ac W hs hn ?_
    by_cases h1:c∈[32,9,13,10]
    · rw [if_pos h1] at ht
      cases ht; refine rl (decide_eq_true h1) ?_; refine aa.cons ?_; refine EX.if ?_; refine TV.debug W (by decide) hs ?_; refine aa.nil ?_; refine aa.cons ?_; refine EX.b6 W (some 32) hs rfl (EV.aY [32] (by kernel_rfl) (by decide) ⟨rfl,rfl⟩) ?_; refine aa.cons ?_; refine EX.if ?_; refine TV.uS W hs hq ?_
      cases hb:(!tok.isEmpty || q) with
      | true =>
        show aa _ _ _ _ _ _ _; refine aa.cons ?_; refine EX.brk ?_; exact hR .brk ρ (by show (if (!tok.isEmpty || q)=true then _ else _); refine rl hb ?_; rfl) ⟨hs,hq⟩
      | false =>
        show aa _ _ _ _ _ _ _; refine aa.cons ?_; refine EX.cont ?_; exact hR .cont ρ (by show (if (!tok.isEmpty || q)=true then _ else _); refine rl hb ?_; exact .inr rfl) ⟨hs,hq⟩
    rw [if_neg h1] at ht; refine rl (decide_eq_false h1) ?_; refine aa.cons ?_; refine EX.if ?_; refine TV.vL W hs hn ?_
    by_cases h2:c∈gY b
    · rw [if_pos h2] at ht; cases ht
    rw [if_neg h2] at ht; refine rl (decide_eq_false h2) ?_; refine aa.cons ?_; refine EX.if ?_; refine TV.st_eq (a:=99) W ?_ hs ?_
    · kernel_rfl
    refine aa.cons ?_; refine EX.if ?_; refine TV.and (TV.posix W hs ?_); refine TV.and (TV.vI W hs hn ?_)
    by_cases h3:c∈[39,34]
    · rw [if_pos h3] at ht
      cases ht; refine rl (decide_eq_true h3) ?_; refine TV.qc ?_; refine aa.cons ?_; refine EX.b6 W (some c) hs rfl (EV.nm (.str (T [c])) hn (by kernel_rfl) ⟨rfl,rfl⟩) ?_
      repeat (refine aa.nil ?_)
      exact hR .next ρ (.inl rfl) ⟨hs,hq⟩
    rw [if_neg h3] at ht; refine rl (decide_eq_false h3) ?_; refine aa.cons ?_; refine EX.if ?_; refine TV.and (TV.posix W hs ?_); refine TV.and (TV.vK W hs hn ?_)
    by_cases h4:c∈[92]
    · rw [if_pos h4] at ht; cases ht
    rw [if_neg h4] at ht; refine rl (decide_eq_false h4) ?_; refine aa.cons ?_; refine EX.if ?_; refine TV.or (TV.EM W hs hn ?_)
    by_cases h5:c∈j7 b
    · rw [if_pos h5] at ht
      cases ht; refine rl (decide_eq_true h5) ?_; refine aa.cons ?_; refine EX.iM (c:=[c]) W hs (by show _+1≤_; exact Bp htl) (EV.nm (.str (T [c])) hn (by kernel_rfl) ⟨rfl,rfl⟩) ?_
      repeat (refine aa.nil ?_)
      exact hR .next ρ (.inl rfl) ⟨hs,hq⟩
    rw [if_neg h5] at ht; refine rl (decide_eq_false h5) ?_; refine TV.or (TV.vI W hs hn ?_); refine rl (decide_eq_false h3) ?_; refine TV.or (TV.and (TV.FG W hs ?_))
    cases h6:mG b with
    | true =>
      rw [h6,if_pos rfl] at ht; refine TV.and (TV.vJ W hs hn ?_)
      by_cases h7:c∈eU b
      · rw [if_pos h7] at ht; cases ht
      rw [if_neg h7] at ht; cases ht; refine rl (decide_eq_false h7) ?_; refine TV.qc ?_; refine aa.cons ?_; refine EX.iM (c:=[c]) W hs (by show _+1≤_; exact Bp htl) (EV.nm (.str (T [c])) hn (by kernel_rfl) ⟨rfl,rfl⟩) ?_
      repeat (refine aa.nil ?_)
      exact hR .next ρ (.inl rfl) ⟨hs,hq⟩
    | false =>
      rw [h6,if_neg Bool.false_ne_true] at ht; refine TV.Bc ?_; refine aa.cons ?_; refine EX.if ?_; refine TV.A8 W hs ?_
      cases b with
      | false=>rw [if_neg Bool.false_ne_true] at ht; cases ht
      | true =>
        rw [if_pos rfl] at ht; cases ht; refine aa.cons ?_; refine EX.putBack (c:=c) W ?_ ?_ hs hn ?_
        · kernel_rfl
        · kernel_rfl
        refine aa.nil ?_; refine aa.cons ?_; refine EX.if ?_; refine TV.debug W (by decide) hs ?_; refine aa.nil ?_; refine aa.cons ?_; refine EX.b6 W (some 32) hs rfl (EV.aY [32] (by kernel_rfl) (by decide) ⟨rfl,rfl⟩) ?_; refine aa.cons ?_; refine EX.if ?_; refine TV.uS W hs hq ?_
        cases hb:(!tok.isEmpty || q) with
        | true =>
          refine aa.cons ?_; refine EX.brk ?_; exact hR .brk ρ (by show (if (!tok.isEmpty || q)=true then _ else _); refine rl hb ?_; rfl) ⟨hs,hq⟩
        | false =>
          refine aa.cons ?_; refine EX.cont ?_; exact hR .cont ρ (by show (if (!tok.isEmpty || q)=true then _ else _); refine rl hb ?_; exact .inr rfl) ⟨hs,hq⟩
end
noncomputable def aI (b:Bool) (st:Option Nat) (tok:List Nat) (q:Bool) (nc:Option Nat):Option Turn:=match st with
  | none=>some (true,none,[],q,none)
  | some s=>if s=32 then fL b tok q nc else if s∈[39,34] then jt s tok nc else if s=97 then eN b tok q nc else if s=99 then kq b tok q nc else none
noncomputable def dB (b:Bool):Nat→Option Nat→List Nat→Bool→List Nat→Option (Option Nat × List Nat × Bool × List Nat)
  | 0,_,_,_,_=>none
  | n+1,st,tok,q,inp=>match aI b st tok q inp.head? with
    | none=>none
    | some t=>if t.1=true then some (t.2.1,t.2.2.1,t.2.2.2.1,t.2.2.2.2.toList++inp.tail) else dB b n t.2.1 t.2.2.1 t.2.2.2.1 (t.2.2.2.2.toList++inp.tail)
theorem fS {b:Bool} {n:Nat} {st:Option Nat} {tok:List Nat} {q:Bool} {inp:List Nat}:dB b (n+1) st tok q inp=match aI b st tok q inp.head? with
    | none=>none
    | some t=>if t.1=true then some (t.2.1,t.2.2.1,t.2.2.2.1,t.2.2.2.2.toList++inp.tail) else dB b n t.2.1 t.2.2.1 t.2.2.2.1 (t.2.2.2.2.toList++inp.tail):=rfl
noncomputable def uK (b:Bool) (l inp:List Nat) (p:Nat) (pb:Option Nat):Prop:=inp=pb.toList++l.drop p∧(b=false→pb=none)
noncomputable def dj (b:Bool) (tok:List Nat) (o:Option Turn):Prop:=∀ t,o=some t→t.2.2.1.length≤tok.length+1∧(b=false→t.2.2.2.2=none)
section
variable {b x q:Bool} {tok:List Nat} {s:Option Nat} {c:Nat}
theorem dj.no:dj b tok none:=fun _ h=>cO h
theorem dj.of {y:List Nat} {z:Option Nat} (h1:y.length≤tok.length+1) (h2:b=false→z=none):dj b tok (some (x,s,y,q,z)):=fun _ h=>by cases h; exact ⟨h1,h2⟩
theorem dj.same:dj b tok (some (x,s,tok,q,none)):=.of (Nat.le_succ _) fun _=>rfl
theorem dj.one:dj b tok (some (x,s,[c],q,none)):=.of (Nat.succ_le_succ (Nat.zero_le _)) fun _=>rfl
theorem dj.add:dj b tok (some (x,s,tok++[c],q,none)):=.of (by rw [List.length_append]; exact Nat.le_refl _) fun _=>rfl
theorem dj.ite {p:Prop} [Decidable p] {u v:Option Turn} (h:dj b tok u) (h':dj b tok v):dj b tok (if p then u else v):=by
  by_cases hp:p
  · rw [if_pos hp]; exact h
  rw [if_neg hp]; exact h'
theorem dj.push:dj b tok (if b=true then some (x,s,tok,q,some c) else none):=by
  cases b with
  | true=>exact .of (Nat.le_succ _) fun e=>Bool.noConfusion e
  | false=>exact .no
theorem uV {st nc:Option Nat}:dj b tok (aI b st tok q nc):=by
  cases st with
  | none=>exact .of (Nat.zero_le _) fun _=>rfl
  | some s =>
    refine .ite ?_ (.ite ?_ (.ite ?_ (.ite ?_ .no))) <;> cases nc with
    | none=>first | exact .same | exact .no
    | some c=>first
      | exact .ite .same (.ite .no (.ite .no (.ite .one (.ite .one (.ite .same (.ite .one .one))))))
      | exact .ite .same (.ite (.ite .no .add) .add)
      | exact .ite .same (.ite .no (.ite .same (.ite .no (.ite .add (.ite (.ite .no .add) .push)))))
      | exact .ite .same (.ite .no (.ite .add .push))
end
section
variable {C:Cx} {d:Nat} {env:Env} {ρ:Loc} {R:Fl→Loc→List O→Prop} {b:Bool} {ln:Int} {tok l inp:List Nat} {p:Nat} {nc:Option Nat} {q:Bool} {qn:Str} {cd:Value} {L:Addr} {t:Turn} {st:Option Nat} {pb:Option Nat}
theorem step_any (W:WF C) (htl:tok.length≤100000) (hs:ρ.lookup ("self" : Str)=some (.obj 0)) (hq:ρ.lookup ("quoted" : Str)=some (.bool q)) (hn:ρ.lookup ("nextchar" : Str)=some (.str (T nc.toList))) (ht:aI b st tok q nc=some t) (hR:After R b ln l p t) :
    aa C (d+3) (b8 (inClass 6 (ak 28)) qn cd L 755) ρ (aT b st ln tok l p none) (dw.drop 3) R:=by
  unfold aI at ht
  cases st with
  | none=>cases ht; exact tT W hs hq hR
  | some s =>
    dsimp only at ht; split at ht
    · rename_i h; subst h; exact xK W hs hq hn ht hR
    split at ht
    · rename_i h1 h; exact zU W h htl hs hn ht hR
    split at ht
    · rename_i h; subst h; exact zW W htl hs hq hn ht hR
    split at ht
    · rename_i h; subst h; exact zV W htl hs hq hn ht hR
    cases ht
theorem tQ (W:WF C) (hl:l.length≤10000) (hs:ρ.lookup ("self" : Str)=some (.obj 0)) (hi:uK b l inp p pb)
    (h:∀ ln' p',uK b l inp.tail p' none→aa C (d+3) (b8 (inClass 6 (ak 28)) qn cd L 755) (aQ "nextchar" (.str (T inp.head?.toList)) ρ) (aT b st ln' tok l p' none) (dw.drop 3) R) :
    aa C (d+3) (b8 (inClass 6 (ak 28)) qn cd L 755) ρ (aT b st ln tok l p pb) dw R:=by
  obtain ⟨hinp,hpb⟩:=hi
  have rest:∀ p',uK b l inp.tail p' none→aa C (d+3) (b8 (inClass 6 (ak 28)) qn cd L 755) (aQ "nextchar" (.str (T inp.head?.toList)) ρ) (aT b st ln tok l p' none) (dw.drop 1) R:=fun p' hp'=>by
    have hs':(aQ "nextchar" (.str (T inp.head?.toList)) ρ).lookup ("self" : Str)=some (.obj 0):=(jf (by decide +kernel)).trans hs; have hn':(aQ "nextchar" (.str (T inp.head?.toList)) ρ).lookup ("nextchar" : Str)=some (.str (T inp.head?.toList)):=bV
    have dbg:∀ ln',aa C (d+3) (b8 (inClass 6 (ak 28)) qn cd L 755) (aQ "nextchar" (.str (T inp.head?.toList)) ρ) (aT b st ln' tok l p' none) (dw.drop 2) R:=fun ln'=>by
      refine aa.cons ?_; refine EX.if ?_; refine TV.debug W (by decide) hs' ?_; refine aa.nil ?_; exact h ln' p' hp'
    refine aa.cons ?_; refine EX.if ?_; refine TV.cm ?_ ?_; rotate_left
    · kernel_rfl
    refine EV.nm (.str (T inp.head?.toList)) ?_ ?_ ?_
    · exact bV
    · kernel_rfl
    refine EV.aY ([10]) ?_ (by decide) ?_
    · kernel_rfl
    refine aO.eqT (TR.plain rfl ?_)
    cases hc:(inp.head?.toList==[10]) with
    | true =>
      refine aa.cons ?_; refine EX.wk W hs' ?_; refine aa.nil ?_; exact dbg _
    | false =>
      refine aa.nil ?_; exact dbg _
  have fromStream:pb=none→aa C (d+3) (b8 (inClass 6 (ak 28)) qn cd L 755) ρ (aT b st ln tok l p none) (Ar (dw.getD 0 (.Pass ⟨0,0,0,0⟩))) (nx C (d+3) (b8 (inClass 6 (ak 28)) qn cd L 755) (dw.drop 1) R):=fun e=>by
    subst e; have hinp:inp=l.drop p:=hinp; refine aa.cons ?_; refine EX.asg ?_ ?_
    · kernel_rfl
    refine EV.b5 ?_ ?_
    · kernel_rfl
    refine EV.rM W hs ?_; refine ⟨_,bY.inst (fs:=cG l p) W.ok W.dF W.zY W.xP ?_ ?_,W.wH.kp,?_⟩
    · rfl
    · kernel_rfl
    refine az.c ?_; refine EV.int ?_; refine az.n ?_; refine tY W hl rfl ?_; have hhd:inp.head?=l[p]?:=by rw [hinp,List.head?_drop]
    cases hp:l[p]? with
    | none =>
      have hnil:inp=[]:=by
        rw [hp] at hhd; exact List.head?_eq_none_iff.mp hhd
      have:=rest p ⟨by rw [hnil] at hinp ⊢; exact hinp,fun _=>rfl⟩; rw [hnil] at this; refine aa.nil ?_; exact this
    | some c =>
      rw [(by kernel_rfl:(aT b st ln tok l p none).set 1 (.inst 694 (cG l (p+1)))=aT b st ln tok l (p+1) none)]; refine aa.nil ?_; have:=rest (p+1) ⟨(by rw [hinp,List.tail_drop]:inp.tail=l.drop (p+1)),fun _=>rfl⟩; rw [hhd,hp] at this; exact this
  cases b with
  | false =>
    have hp:=hpb rfl; subst hp; refine aa.cons ?_; refine EX.if ?_; refine TV.and (TV.A8 W hs ?_); exact fromStream rfl
  | true =>
    refine aa.cons ?_; refine EX.if ?_; refine TV.and (TV.A8 W hs ?_); refine TV.and (TV.plain (EV.cV W hs (TR.deque (xs:=F9 pb) rfl ?_ ?_)) (fun _=>rfl))
    · unfold F9; rw [List.length_map]
      cases pb with
      | none=>decide
      | some c=>show 1≤sizeLine; decide
    cases pb with
    | none=>exact fromStream rfl
    | some c =>
      refine TV.qc ?_; refine aa.cons ?_; refine EX.asg ?_ ?_
      · kernel_rfl
      refine EV.b5 ?_ ?_
      · kernel_rfl
      refine EV.cV W hs ?_; refine ⟨_,bY.deque (xs:=[.str (T [c])]) rfl jK pQ,.builtin,?_⟩; refine az.n ?_; refine aj.Fe (y:=.str (T [c])) rfl ?_; have e:(aT true st ln tok l p (some c)).set 4 (.deque [])=aT true st ln tok l p none:=by kernel_rfl
      refine rl e ?_; refine aa.nil ?_; have hinp:inp=c::l.drop p:=hinp; have:=rest p ⟨by refine rl hinp ?_; rfl,fun e=>by cases e⟩; rw [hinp] at this; exact this
end
noncomputable def lB (tok:List Nat) (q:Bool):D:=if (tok.isEmpty && !q)=true then .none else .str (T tok)
section
variable {C:Cx} {d:Nat} {Q:D→List O→Prop} {b:Bool} {ln:Int} {l inp:List Nat} {p:Nat} {st:Option Nat} {pb:Option Nat}
theorem tW (W:WF C) {n:Nat} {st':Option Nat} {tok':List Nat} {q':Bool} {inp':List Nat} (hl:l.length≤10000) (hn:n≤50000) (hi:uK b l inp p pb) (hr:dB b n st [] false inp=some (st',tok',q',inp'))
    (hq:∀ ln' p' pb',uK b l inp' p' pb'→Q (lB tok' q') (aT b st' ln' [] l p' pb')):aj C (d+4) (aT b st ln [] l p pb) (.ref 755) [.obj 0] Q:=by
  refine aj.fn (ns:=["self"]) W.ok W.wG (by kernel_rfl) (by kernel_rfl) (by kernel_rfl) rfl ?_ (fun q cd L=>by kernel_rfl) fun qn cd L=>?_
  · exact fun _ _ _ _ _ _ _ _=>gU fun _=>by kernel_rfl
  refine aa.cons ?_; refine EX.asg ?_ ?_
  · kernel_rfl
  refine EV.bool ?_; refine aa.cons ?_; refine EX.asg ?_ ?_
  · kernel_rfl
  refine EV.str (by decide) ?_; refine aa.cons ?_; refine EX.while (fun m ρ H=>∃ st tok q inp ln p pb,H=aT b st ln tok l p pb∧zI ρ q∧uK b l inp p pb∧tok.length+m≤100000∧dB b m st tok q inp=some (st',tok',q',inp')) ?_ n ?_
  · rintro m ρ H ⟨st,tok,q,inp,ln,p,pb,rfl,⟨hs,hqq⟩,hi,htl,hrun⟩
    refine TV.plain ?_ (fun _=>rfl); refine EV.bool ?_; refine TR.plain rfl ?_; refine tQ W hl hs hi fun ln' p' hi'=>?_
    cases m with
    | zero=>cases hrun
    | succ m =>
      rw [fS] at hrun
      cases hst:aI b st tok q inp.head? with
      | none=>rw [hst] at hrun; cases hrun
      | some t =>
        rw [hst] at hrun; dsimp only at hrun; obtain ⟨hlen,hpush⟩:=uV t hst; refine step_any W (by exact Nat.le_of_add_right_le htl) ((jf (by decide +kernel)).trans hs:(aQ "nextchar" (.str (T inp.head?.toList)) ρ).lookup ("self" : Str)=some (.obj 0)) ((jf (by decide +kernel)).trans hqq:(aQ "nextchar" (.str (T inp.head?.toList)) ρ).lookup ("quoted" : Str)=some (.bool q)) bV hst fun fl ρ' hfl hρ=>?_; have hi2:uK b l (t.2.2.2.2.toList++inp.tail) p' t.2.2.2.2:=⟨by refine rl hi'.1 ?_; rfl,hpush⟩
        cases hbrk:t.1 with
        | true =>
          rw [hbrk,if_pos rfl] at hrun; rw [hbrk] at hfl; have hfl:fl = .brk:=hfl; subst hfl; cases hrun; obtain ⟨hs2,hq2⟩:=hρ; refine aa.cons ?_; refine EX.asg ?_ ?_
          · kernel_rfl
          refine EV.tE W hs2 ?_; have hs3:(aQ "result" (.str (T t.2.2.1)) ρ').lookup ("self" : Str)=some (.obj 0):=(jf (by decide +kernel)).trans hs2; refine aa.cons ?_; refine EX.gi W [] hs3 rfl (EV.aY [] (by kernel_rfl) (by decide) ⟨rfl,rfl⟩) ?_
          have fin:∀ (ρ3:Loc) (D3:D),ρ3.lookup ("self" : Str)=some (.obj 0)→ρ3.lookup ("result" : Str)=some D3→D3=lB t.2.2.1 t.2.2.2.1→aa C (d+1+1+1) (b8 (inClass 6 (ak 28)) qn cd L 755) ρ3 (aT b t.2.1 ln' [] l p' t.2.2.2.2) ((fnBody (inClass 6 (ak 28))).drop 6) fun fl _ H'=>Q (gD fl) H':=by
            intro ρ3 D3 r1 r2 r3; refine aa.cons ?_; refine EX.if ?_; refine TV.yN W (by decide) r1 ?_; refine aa.nil ?_; refine aa.cons ?_; refine EX.rt ?_; refine EV.nm D3 r2 (by kernel_rfl) ?_; refine rl r3 ?_; exact hq ln' p' _ hi2
          refine aa.cons ?_; refine EX.if ?_; refine TV.and (TV.posix W hs3 ?_); refine TV.and (TV.not (TV.plain (EV.nm (.bool t.2.2.2.1) ((jf (by decide +kernel)).trans hq2:(aQ "result" (.str (T t.2.2.1)) ρ').lookup ("quoted" : Str)=some (.bool t.2.2.2.1)) (by kernel_rfl) (TR.plain rfl ?_)) (fun _=>rfl)))
          cases hqv:t.2.2.2.1 with
          | true =>
            refine aa.nil ?_; refine fin _ _ hs3 bV ?_; unfold lB; rw [hqv,Bool.not_true,Bool.and_false,if_neg Bool.false_ne_true]
          | false =>
            refine TV.and ?_; refine TV.cm ?_ ?_; rotate_left
            · kernel_rfl
            refine EV.nm (.str (T t.2.2.1)) ?_ ?_ ?_
            · exact bV
            · kernel_rfl
            refine EV.aY ([]) ?_ (by decide) ?_
            · kernel_rfl
            refine aO.eqT (TR.plain rfl ?_)
            cases htk:t.2.2.1 with
            | nil =>
              refine TV.qc ?_; refine aa.cons ?_; refine EX.asg ?_ ?_
              · kernel_rfl
              refine EV.none ?_; refine aa.nil ?_; rw [htk] at hs3; refine fin _ _ ((jf (by decide +kernel)).trans hs3) bV ?_; refine rl hqv (rl htk ?_); rfl
            | cons c r =>
              refine aa.nil ?_; rw [htk] at hs3; refine fin _ _ hs3 bV ?_; unfold lB; refine rl hqv (rl htk ?_); rfl
        | false =>
          rw [hbrk,if_neg Bool.false_ne_true] at hrun; rw [hbrk] at hfl; have hfl:fl = .next ∨ fl = .cont:=hfl; rcases hfl with rfl | rfl
          · exact ⟨m,Nat.lt_succ_self m,t.2.1,t.2.2.1,t.2.2.2.1,_,ln',p',_,rfl,hρ,hi2,by exact BA htl hlen,hrun⟩
          exact ⟨m,Nat.lt_succ_self m,t.2.1,t.2.2.1,t.2.2.2.1,_,ln',p',_,rfl,hρ,hi2,by exact BA htl hlen,hrun⟩
  exact ⟨st,[],false,inp,ln,p,pb,rfl,⟨by kernel_rfl,by kernel_rfl⟩,hi,by simp; exact EE hn,hr⟩
end
theorem pe {prog:Program} {w:World} {A:Around} {E:Value→Shared→Prop} {s:Shared} {env:Env} {outer:List Env} {L e:Addr} {oe:Obj} {vs:Array Value} {Q:Unit→Shared→Prop}
    (hfr:A.frames=some (env::outer)) (hl:s.heap.FunFrames {} (env::outer)) (hf:env.frame=some L) (he:s.heap.get? e=some oe) (hd:oe.data = .fields vs) (h1:vs[1]?=some .none)
    (h:∀ h',s.heap.objs.size≤h'.objs.size→(∀ b o,b≠e→s.heap.get? b=some o→(b ∉ (env::outer).filterMap (·.frame)→h'.get? b=some o)∧∃ sl,h'.get? b=some { o with slots:=sl })→(∃ oe',h'.get? e=some oe'∧oe'.cls=oe.cls)→Q () { s with heap:=h' }) :
    wpAny (model prog w) A (leaving env (.ref e)) Q E s:=by
  have hsz:1 < vs.size:=(Array.getElem?_eq_some_iff.mp h1).1; refine bI ?_; unfold leaving noteFrame; simp only [hf]; refine wpAny_bind (wpAny_bind (wpAny_field he hd h1 ?_)); refine uM (by decide) ?_
  have hene:e ∉ (env::outer).filterMap (·.frame):=fun hm=>by
    obtain ⟨_,o,ho,hnf⟩:=hl.mem hm; rw [he] at ho; injection ho with ho; subst ho; exact hnf vs hd
  refine wpAny_bind (wpAny_frameOf_fun hfr hl hf fun h₁ hs₁=>?_); refine wpAny_bind (wpAny_entryPlaceOf fun pl hpl=>?_); refine wpAny_bind (wpAny_newObj_type ?_ (hpl.sizeOk5 _ _ _ _ _)); have he₁:h₁.get? e=some oe:=(hs₁.2.1 e hene).trans he; generalize hT:({ cls:=.type "traceback",dict:=none,data:=.fields ([Value.none,.ref L,.none,rawInt L,.none]++(if pl.isEmpty then List.replicate 6 Value.none else pl)).toArray }:Obj)=Tb; have he₂:=Heap.get?_push_of_some (h:=h₁) Tb he₁; refine wpAny_setField he₂ hd hsz ?_; have hTe:h₁.objs.size≠e:=Nat.ne_of_gt (Heap.lt_size he₁); have hd₃:=Obj.data_mapFields hd (·.setIfInBounds 1 (Value.ref h₁.objs.size)); have he₃:=Heap.get?_update_self (Obj.mapFields (·.setIfInBounds 1 (Value.ref h₁.objs.size))) he₂ (Obj.isFreed_of_fields hd₃); have hTf:Tb.isFreed=false:=by refine rr hT ?_; rfl
  refine wpAny_bind (wpAny_field he₃ hd₃ (x:=.ref h₁.objs.size) (by simp [hsz]) ?_); refine uL (show (Value.ref h₁.objs.size != Value.none)=true from by simp) ?_; refine wpAny_setField ((Heap.get?_update_other (h₁.push Tb) (Obj.mapFields (·.setIfInBounds 1 (Value.ref h₁.objs.size))) (Ne.symm hTe)).trans (Heap.get?_push_size h₁ hTf)) (by exact rr hT rfl) (by simp only [List.size_toArray,List.length_append,List.length_cons,List.length_nil] <;> exact B4) ?_; intro hgrow _; refine h _ hgrow (fun b o hbe hb=>?_) ⟨_,(Heap.get?_update_other _ _ hTe).trans he₃,Obj.cls_mapFields _ _⟩
  have keep:∀ o',h₁.get? b=some o'→(((h₁.push Tb).update e (Obj.mapFields (·.setIfInBounds 1 (Value.ref h₁.objs.size)))).update h₁.objs.size (Obj.mapFields (·.setIfInBounds 3 ((none:Option Addr).elim Value.none fun f=>rawInt f)))).get? b=some o':=fun o' hb'=>by
    refine rl (Heap.get?_update_other _ _ (Nat.ne_of_gt (Heap.lt_size hb'):h₁.objs.size≠b)) (rl (Heap.get?_update_other _ _ (Ne.symm hbe)) ?_); exact Heap.get?_push_of_some _ hb'
  refine ⟨fun hbf=>keep o ((hs₁.2.1 b hbf).trans hb),?_⟩; obtain ⟨sl,hs⟩:=hs₁.2.2 b o hb; exact ⟨sl,keep _ hs⟩
theorem mH {α:Type} {M:Model} {A:Around} {s:Shared} {t:Sem α} {Q:α→Shared→Prop} {E:Value→Shared→Prop}
    (h:wpAny M A t Q (fun e s'=>s.heap.objs.size≤s'.heap.objs.size→E e s') s):wpAny M A t Q E s :=
  wpAny_mono (fun Γ p hΓ=>rQ M Γ _ t _ _ p s (Nat.le_refl _) (h Γ p hΓ):wpAny M A t (fun a s'=>s.heap.objs.size≤s'.heap.objs.size∧Q a s') (fun e s'=>s.heap.objs.size≤s'.heap.objs.size∧(s.heap.objs.size≤s'.heap.objs.size→E e s')) s)
    (fun _ _ x=>x.2) fun _ _ x=>x.2 x.1
inductive Hp (C:Cx) (d:Nat) (A:Around) (env:Env) (ι:Ad) (X:List Addr) (s:Shared) (QE:List O→Prop) (e:Value) (s':Shared):Prop
  | mk (s0:Shared) (ρ':Loc) (H':List O) (ι':Ad) (hq:QE H') (S:St C d A env ρ' H' ι' X s0) (g:ia C.B env ι s ι' s0) (a:Addr) (h':Heap) (he:e = .ref a) (hs:s' = { s0 with heap:=h' }) (hz:s0.heap.objs.size≤h'.objs.size) (hm:Heap.MadeExc s0.heap h' a "StopIteration" [])
noncomputable def XE (C:Cx) (d:Nat) (env:Env) (ρ:Loc) (H:List O) (b:List Stmt) (QE:List O→Prop):Prop :=
  ∀ A s ι X,St C d A env ρ H ι X s→wpAny C.M A (execs b env) (fun _ _=>False) (Hp C d A env ι X s QE) s
inductive Fw (C:Cx) (d:Nat) (A:Around) (env:Env) (ρ:Loc) (ι:Ad) (X:List Addr) (s:Shared) (QE:List O→Prop) (e:Value) (s':Shared):Prop
  | mk (H':List O) (ι':Ad) (hq:QE H') (S:St C d A env ρ H' ι' X s') (g:Gr C.B ι s ι' s') (a:Addr) (oe:Obj) (he:e = .ref a) (ho:s'.heap.get? a=some oe) (hc:oe.cls = .type "StopIteration")
section
variable {C:Cx} {d:Nat} {env:Env} {ρ:Loc} {H:List O} {QE:List O→Prop}
theorem XE.cons {st:Stmt} {rest:List Stmt} (h:EX C d env ρ H st fun fl ρ' H'=>fl = .next∧XE C d env ρ' H' rest QE):XE C d env ρ H (st::rest) QE:=fun A s ι X S =>
  wpAny_execs_cons (j9 (h A s ι X S) (fun f s₁ x ρ' H' κ q4_ S' hv g=>by
    obtain ⟨rfl,hx⟩:=q4_; cases (show f = .next from hv); refine wpAny_mono (hx A s₁ κ X S') (zz) fun e s2 q=>?_; obtain ⟨s0,ρ2,H2,ι2,h1,h2,h3,h4,h5,h6,h7,h8,h9⟩:=q
    exact ⟨s0,ρ2,H2,ι2,h1,h2,g.trans h3,h4,h5,h6,h7,h8,h9⟩) zz)
theorem XE.if {t:Expr} {b o rest:List Stmt} {pos:Pos} (h:TV C d env ρ H t fun c H₁=>c=true∧XE C d env ρ H₁ b QE):XE C d env ρ H (.If t b o pos::rest) QE:=fun A s ι X S =>
  wpAny_execs_cons (wpAny_If (aC (h A s ι X S) (fun c s₁ c' H' κ q3_ S' hb g=>by
    obtain ⟨rfl,hx⟩:=q3_; cases (show c=true from hb); refine wpAny_mono (hx A s₁ κ X S') (zz) fun e s2 q=>?_; obtain ⟨s0,ρ2,H2,ι2,h1,h2,h3,h4,h5,h6,h7,h8,h9⟩:=q
    exact ⟨s0,ρ2,H2,ι2,h1,h2,g.e.trans h3,h4,h5,h6,h7,h8,h9⟩) zz))
theorem XE.stop {x:Str} {np pos:Pos} {rest:List Stmt} (O:C.Ok) (k:env.kindOf x=some .globalImplicit) (h:C.mg x=none) (h':C.mb x=some (.type "StopIteration")) (hd:(x==("__debug__" : Str))=false) (hq:QE H):XE C d env ρ H (.Raise (some (.Name x np)) none pos::rest) QE:=fun A s ι X S =>
  wpAny_execs_cons (mH (owsi_raiseC S.room.handled (Name_function_global S.bR.kind k (loadGlobal_builtin (env:=env) (by refine rl S.bR.globals ?_; exact O.g.keeps S.base) h (by refine rl S.bR.builtins ?_; exact O.b.keeps S.base) h' ⟨rfl,rfl⟩) hd) fun h'' e hm hsz=>⟨s,ρ,H,ι,hq,S,.refl,e,h'',rfl,rfl,hsz,hm⟩))
theorem wm {A:Around} {envc:Env} {ρc:Loc} {s:Shared} {ι:Ad} {X:List Addr} {f:Addr} {fd:FuncData} {body:List Stmt} {bs:List (Str × Value)} {ds:List (Str × D)}
    (O:C.Ok) (S:St C (d+1) A envc ρc H ι X s) (hclo:fd.closure=[])
    (hg:fd.globals=mainGlobals) (hbl:fd.builtins=builtinsNs) (hk:fd.scope.kind = .function)
    (hbs:bs.map (·.1)=ds.map (·.1)) (hv:aE s.heap ι X (ds.map (·.2)) (bs.map (·.2))) (hb:∀ L,∀ p∈ds,binds (callEnvC fd L f) p.1=true)
    (h:∀ L,XE C d (callEnvC fd L f) (cy ds) H body QE) :
    wpAny C.M A.in1 (newFunctionEnv fd.scope fd.globals fd.closure bs (fd.qualname ++ ".<locals>.") (some f) fd.code none fd.builtins)
        (fun env s₂=>s₂.heap.NoLimit∧codeAny C.M A (.func body env) (XR (Fw C (d+1) A envc ρc ι X s QE)) s₂) (fun _ _=>False) s:=by
  refine rl hclo ?_; simp only [newFunctionEnv,Option.isSome_none,Bool.false_eq_true,if_false]; refine wpAny_bind (wpAny_alloc ?_); refine wpAny_bind (wpAny_layCells _ (fun name kind cells=>by cases hkc:kind==NameKind.cell <;> rfl) _ _ _ _ ?_); have ok:=cellsFrom_ok fd.scope.names (s.heap.push { cls:=.type "frame",data:=.dict #[] }) (s.heap.objs.size+1) [] ⟨fun _ _ hm=>(nomatch hm),List.Pairwise.nil⟩ (by rw [Heap.size_push]; exact Nat.le_refl _); rw [Heap.size_push] at ok; refine rl (show ({ s with heap:=s.heap.push { cls:=.type "frame",data:=.dict #[] } }:Shared).heap.objs.size=s.heap.objs.size+1 from Heap.size_push ..) ?_; generalize hh1:pushCells (s.heap.push { cls:=.type "frame",data:=.dict #[] }) fd.scope.names=h1 at ok; have keep1:∀ b o,s.heap.get? b=some o→h1.get? b=some o:=fun b o e=>hh1 ▸ pushCells_keeps _ _ b o (Heap.get?_push_of_some _ e)
  have size1:s.heap.objs.size+1≤h1.objs.size:=by
    have:=bO fd.scope.names (s.heap.push { cls:=.type "frame",data:=.dict #[] }); rw [hh1,Heap.size_push] at this; exact this
  have x1:Ext C.B [] s { s with heap:=h1 }:=.of_keep rfl rfl (by show _≤h1.objs.size; exact Nat.le_of_succ_le size1) fun b o e _=>keep1 b o e; have gL:h1.get? s.heap.objs.size=some { cls:=.type "frame",data:=.dict #[] }:=hh1 ▸ pushCells_keeps _ _ _ _ (Heap.get?_push_size _ rfl)
  have S1:St C d (A.deeper (callEnvC fd s.heap.objs.size f)) (callEnvC fd s.heap.objs.size f) [] H ι (b7 (callEnvC fd s.heap.objs.size f)++X) { s with heap:=h1 }:=by
    have own:∀ a∈b7 (callEnvC fd s.heap.objs.size f),s.heap.objs.size≤a∧a < h1.objs.size:=fun a ha=>by
      rcases dg ha with rfl | ⟨n,hm⟩
      · exact ⟨Nat.le_refl _,Heap.lt_size gL⟩
      have:=ok.empty n a (mem_of_lookup hm); exact ⟨Nat.le_of_succ_le this.2,this.1.lt⟩
    have hX:∀ a∈b7 (callEnvC fd s.heap.objs.size f)++X,a∈X ∨ s.heap.objs.size≤a:=fun a ha=>by
      rcases List.mem_append.mp ha with h | h
      · exact .inr (own a h).1
      exact .inl h
    refine ⟨⟨?_,?_,S.room.handled,S.room.guards⟩,⟨hk,hg,hbl,ok.apart⟩,fun b o e=>keep1 b o (S.base b o e),Nat.le_trans S.big x1.size,S.gens,S.os,fun a ha=>?_,fun a ha=>?_,S.nd,fun a ha hm=>?_,(fun _ _ e=>by cases e),?_,?_,?_,?_,S.toks⟩
    · exact AQ S.room.depth
    · exact FN S.room.units
    · rcases List.mem_append.mp ha with h | h
      · exact ⟨Nat.le_trans S.big (own a h).1,(own a h).2⟩
      exact ⟨(S.xs a h).1,Nat.lt_of_lt_of_le (S.xs a h).2 x1.size⟩
    · exact ⟨(S.is a ha).1,Nat.lt_of_lt_of_le (S.is a ha).2 x1.size⟩
    · rcases List.mem_append.mp hm with h | h
      · exact absurd (S.is a ha).2 (Nat.not_lt.mpr (own a h).1)
      exact S.iR a ha h
    · exact ⟨S.objs.1,fun i p o hp ho=>OR.gr (.aB (x1.mono bu)) x1 (by simp) (OR.aR hX (S.objs.2 i p o hp ho))⟩
    · exact ⟨List.mem_append_left _ (.head _),_,(hh1 ▸ (Heap.Ns.new s.heap (.type "frame")).keeps (pushCells_keeps _ _):h1.Ns s.heap.objs.size fun _=>none)⟩
    · intro n c hc
      exact ⟨List.mem_append_left _ (.tail _ (gb hc)),none,(ok.empty n c (mem_of_lookup hc)).1⟩
    obtain ⟨fr,hfr,hok⟩:=S.frs; refine ⟨callEnvC fd s.heap.objs.size f::fr,Around.frames_deeper hfr,fun fe hfe=>?_⟩; rcases List.mem_cons.mp hfe with rfl | hfe
    · exact ⟨by show fd.scope.kind≠_; refine rl hk ?_; simp,_,_,_,_,rfl,List.mem_append_left _ (.head _),gL,rfl,rfl⟩
    obtain ⟨k,L,o₁,es,n,a1,a2,a3,a4,a5⟩:=hok fe hfe; exact ⟨k,L,o₁,es,n,a1,List.mem_append_right _ a2,keep1 _ _ a3,a4,a5⟩
  have own:∀ a∈b7 (callEnvC fd s.heap.objs.size f),s.heap.objs.size≤a:=fun a ha=>by
    rcases dg ha with rfl | ⟨n,hm⟩
    · exact Nat.le_refl _
    exact Nat.le_of_succ_le (ok.empty n a (mem_of_lookup hm)).2
  have hX:∀ a∈b7 (callEnvC fd s.heap.objs.size f)++X,a∈X ∨ s.heap.objs.size≤a:=fun a ha=>by
    rcases List.mem_append.mp ha with h | h
    · exact .inr (own a h)
    exact .inl h
  refine wpAny_bind (iT (env:=callEnvC fd s.heap.objs.size f) _ (fun _ _ _=>rfl) bs ds [] { s with heap:=h1 } _ S1 hbs (aE.gr (.aB (x1.mono bu)) (aE.aR hX hv)) (hb _) (fun a ha=>List.mem_append_left _ ha) fun s2 S2 g2=>wpAny_pure ?_); refine ⟨O.nolimit.keeps S2.base,codeAny_func (wpAny_mono (h _ _ s2 ι _ S2) (zz) fun e s3 p=>?_)⟩; obtain ⟨s0,ρ',H',ι',hq,S0,g3,a,h',rfl,rfl,hsz3,hme⟩:=p; obtain ⟨fr0,hfr0,_⟩:=S.frs; obtain ⟨fr,hfr,hok⟩:=S0.frs; have hfe:fr=callEnvC fd s.heap.objs.size f::fr0:=Option.some.inj (hfr.symm.trans (Around.frames_deeper (env:=callEnvC fd s.heap.objs.size f) hfr0)); subst hfe; obtain ⟨t0,hoe,_⟩:=hme.there
  have hfun:∀ l:List Env,lN (b7 (callEnvC fd s.heap.objs.size f)++X) s0.heap l→Heap.FunFrames h' {} l:=by
    intro l
    induction l with
    | nil=>intro _; trivial
    | cons fe l ih =>
      intro hk; obtain ⟨k1,L,o,es,n,a1,a2,a3,a4,a5⟩:=hk fe (.head _); exact ⟨k1,⟨L,o,a1,rfl,hme.keeps _ _ a3,fun vs hv=>by rw [a5] at hv; cases hv⟩,ih fun fe' h=>hk fe' (.tail _ h)⟩
  have hmemf:∀ (l:List Env),lN (b7 (callEnvC fd s.heap.objs.size f)++X) s0.heap l→∀ b∈l.filterMap (·.frame),∃ o,s0.heap.get? b=some o∧o.cls = .type "frame" ∧ C.B≤b:=by
    intro l hk b hb; obtain ⟨fe,hfe,hfb⟩:=List.mem_filterMap.mp hb; obtain ⟨k1,L,o,es,n,a1,a2,a3,a4,a5⟩:=hk fe hfe; rw [a1] at hfb; cases hfb; exact ⟨o,a3,a4,(S0.xs _ a2).1⟩
  refine pe (s:={ s0 with heap:=h' }) hfr (hfun _ hok) rfl hoe rfl rfl fun h2 hsz2 hk2 hoe2=>?_; obtain ⟨oe',hoe',hcl⟩:=hoe2
  have x0:Ext C.B [] s0 { s0 with heap:=h2 }:=⟨Nat.le_trans hsz3 hsz2,fun b o hb _=>by
    have hba:b≠a:=fun e=>by rw [e,hme.new] at hb; cases hb
    obtain ⟨q1,sl,q2⟩:=hk2 b o hba (hme.keeps b o hb)
    by_cases hbf:b∈(callEnvC fd s.heap.objs.size f::fr0).filterMap (·.frame)
    · obtain ⟨o',ho',hc',hB⟩:=hmemf _ hok b hbf
      rw [hb] at ho'; cases ho'; exact ⟨_,q2,.inr ⟨hB,hc',sl,rfl⟩⟩
    exact ⟨o,q1 hbf,.inl rfl⟩,rfl,rfl⟩
  have S3:=S0.quiet x0 S0.toks; have g4:ia C.B (callEnvC fd s.heap.objs.size f) ι' s0 ι' { s0 with heap:=h2 }:=(Gr.aB (x0.mono bu)).e
  have gx:Gr C.B ι s ι' { s0 with heap:=h2 }:=by
    obtain ⟨⟨κ,e1,hκ⟩,ex⟩:=((g2.trans g3).trans g4); refine ⟨⟨κ,e1,fun a ha=>Nat.le_trans x1.size (hκ a ha)⟩,⟨Nat.le_trans x1.size ex.size,fun b o e hb=>?_,ex.gens,ex.os⟩⟩; refine ex.keep b o (keep1 b o e) fun hm=>?_; rcases List.mem_append.mp hm with h | h
    · exact hb h
    exact absurd (Heap.lt_size e) (Nat.not_lt.mpr (own b h))
  exact ⟨H',ι',hq,S.after gx S3.toks S3.is S3.nd ⟨S3.objs.1,fun i p o hp ho=>OR.aR (fun a ha=>.inl (List.mem_append_right _ ha):∀ a∈X,a∈b7 (callEnvC fd s.heap.objs.size f)++X ∨ h2.objs.size≤a) (S3.objs.2 i p o hp ho)⟩,gx,a,oe',rfl,hoe',hcl⟩
end
end Mine
set_option maxRecDepth 100000
namespace Mine
section
variable {C:Cx} {d:Nat} {H:List O} {QE:List O→Prop}
noncomputable def tK (C:Cx) (d:Nat) (H:List O) (f:Value) (xs:List D) (QE:List O→Prop):Prop :=
  ∀ A env ρ s ι X vs,St C d A env ρ H ι X s→aE s.heap ι X xs vs→codeAny C.M A (.call f ⟨vs,[]⟩) (XR (Fw C d A env ρ ι X s QE)) s
theorem tK.fn {a:Addr} {st:Stmt} {dv:Value} {xs:List D} {ns:List Str} (O:C.Ok) (F:FnAt C a st dv) (hk:(aK st).kind = .function) (hco:(aK st).isCoroutine=false) (hgen:(aK st).isGenerator=false) (hl:xs.length=ns.length)
    (hbind:∀ name qual kwd doc pm ann cd ct (vs:List Value),vs.length=ns.length→bindArgs ⟨name,qual,eG st,.stmts (fnBody st),aK st,mainGlobals,[],dv,kwd,doc,pm,ann,cd,ct,builtinsNs⟩ ⟨vs,[]⟩=pure (ns.zip vs))
    (hb:∀ q cd L,ns.all (fun p=>binds (b8 st q cd L a) p)=true)
    (h:∀ q cd L,XE C d (b8 st q cd L a) (cy (ns.zip xs)) H (fnBody st) QE):tK C (d+1) H (.ref a) xs QE:=fun A env ρ s ι X vs S hv=>by
  obtain ⟨o,name,qual,kwd,doc,pm,ann,cd,ct,ho,hd,hcd⟩:=F.ex; refine codeAny_call_function (FL S.room.depth) (S.base _ _ ho) hd hco hgen rfl (hcd.keeps S.base) ?_; refine rl (hbind name qual kwd doc pm ann cd ct vs (by rw [hv.length,hl])) ?_; refine wpAny_pure ?_; have hvl:=hv.length; refine wpAny_mono (wm (QE:=QE) (ds:=ns.zip xs) O S rfl rfl rfl hk ?_ ?_ (fun L p hp=>?_) fun L=>h qual cd L) (fun env s₂ q=>q) zz
  · exact rl (List.map_fst_zip (by exact xX hvl hl)) (rl (List.map_fst_zip (by exact Bf hl)) rfl)
  · refine rl (List.map_snd_zip (by exact Be hl)) (rl (List.map_snd_zip (by exact xW hvl hl)) ?_); exact hv
  exact List.all_eq_true.mp (hb qual cd L) p.1 (List.of_mem_zip hp).1
inductive FP (C:Cx) (d:Nat) (A:Around) (env:Env) (ρ:Loc) (H:List O) (ι:Ad) (X:List Addr) (s:Shared) (k:Nat) (x:Addr) (s':Shared):Prop
  | mk (ι':Ad) (S:St C d A env ρ H ι' X s') (g:Gr C.B ι s ι' s') (v:VR s'.heap ι' X (.obj k) (.ref x))
inductive Hx (C:Cx) (d:Nat) (A:Around) (env:Env) (ρ:Loc) (ι:Ad) (X:List Addr) (s:Shared) (Q:Option D→List O→Prop) (r:Option Value) (s':Shared):Prop
  | mk (y:Option D) (H':List O) (ι':Ad) (hq:Q y H') (S:St C d A env ρ H' ι' X s') (g:Gr C.B ι s ι' s') (hr:match y with | none=>r=none | some x=>∃ u,r=some u∧VR s'.heap ι' X x u)
noncomputable def NX (C:Cx) (d:Nat) (k:Nat) (H:List O) (Q:Option D→List O→Prop):Prop :=
  ∀ A env ρ s ι X v,St C d A env ρ H ι X s→VR s.heap ι X (.obj k) v→wpAny C.M A (pyNext v) (Hx C d A env ρ ι X s Q) (fun _ _=>False) s
theorem uU:isSubtype (.type "StopIteration") (.type "StopIteration")=pure true:=by rw [isSubtype_type]; kernel_rfl
variable {k:Nat} {cl f:Addr} {fs:List (Str × D)} {Q:Option D→List O→Prop}
theorem NX.item (O:C.Ok) (hf:findIn C.K (.ref cl) "__next__" = some (some (.ref f))) (ht:typeIn C.K (.ref f)=some (.type "function")) (ho:H[k]?=some (.inst cl fs)) (h:aj C d H (.ref f) [.obj k] fun x H'=>Q (some x) H'):NX C d k H Q:=fun A env ρ s ι X v S hv=>by
  obtain ⟨x,dx,es,n,rfl,hi,I,h2,h1,hl,hat⟩:=cC S hv ho; refine wpAny_bind (wpAny_attempt (special_fn (name := "__next__") (args:=[]) (O.K.keeps S.base) I hf ht (aC (h A env ρ s ι X [.ref x] S (.aH hv .bJ)) (fun v s' y H' ι' hq S' v' g'=>?_) zz))); exact wpAny_pure ⟨some y,H',ι',hq,S',g',v,rfl,v'⟩
theorem NX.stop (O:C.Ok) (hf:findIn C.K (.ref cl) "__next__" = some (some (.ref f))) (ht:typeIn C.K (.ref f)=some (.type "function")) (ho:H[k]?=some (.inst cl fs)) (h:tK C d H (.ref f) [.obj k] fun H'=>Q none H'):NX C d k H Q:=fun A env ρ s ι X v S hv=>by
  obtain ⟨x,dx,es,n,rfl,hi,I,h2,h1,hl,hat⟩:=cC S hv ho; refine wpAny_bind (wpAny_attempt (special_fn (name := "__next__") (args:=[]) (O.K.keeps S.base) I hf ht (wpAny_call (codeAny_mono (h A env ρ s ι X [.ref x] S (.aH hv .bJ)) fun r s' q=>?_))))
  cases r with
  | ok f=>exact q.elim
  | error e =>
    obtain ⟨H',ι',hq,S',g',a,oe,rfl,hoe,hc⟩:=q; refine wpAny_bind (wpAny_isInstance (T := "StopIteration") (b:=true) ⟨oe,hoe,hc⟩ uU ?_); refine uL rfl ?_; exact wpAny_pure ⟨none,H',ι',hq,S',g',rfl⟩
noncomputable def za (C:Cx) (d:Nat) (k:Nat):Nat→List D→List O→(List D→List O→Prop)→Prop
  | 0,_,_,_=>False
  | n+1,acc,H,R=>NX C d k H fun y H'=>match y with
    | none=>R acc H'
    | some x=>acc.length < 1000000∧za C d k n (acc++[x]) H' R
theorem ur {R:Value→Shared→Prop} {g:Addr} {A:Around} {env:Env} {ρ:Loc} {s:Shared} {ι:Ad} {X:List Addr} {v:Value} (O:C.Ok) (hf:findIn C.K (.ref cl) "__iter__" = some (some (.ref f))) (ht:typeIn C.K (.ref f)=some (.type "function")) (hg:findIn C.K (.ref cl) "__next__" = some (some (.ref g))) (ho:H[k]?=some (.inst cl fs))
    (hc:aj C d H (.ref f) [.obj k] fun x H'=>x = .obj k∧H'=H) (S:St C d A env ρ H ι X s) (hv:VR s.heap ι X (.obj k) v) (h:∀ s' ι',St C d A env ρ H ι' X s'→Gr C.B ι s ι' s'→VR s'.heap ι' X (.obj k) v→R v s'):wpAny C.M A (pyIter v) R (fun _ _=>False) s:=by
  obtain ⟨x,dx,es,n,rfl,hi,I,h2,h1,hl,hat⟩:=cC S hv ho; have hX:=O.K.keeps S.base
  have one:wpAny C.M A (call (.ref f) [.ref x]) (fun it s'=>it = .ref x∧FP C d A env ρ H ι X s k x s') (fun _ _=>False) s:=by
    refine aC (hc A env ρ s ι X [.ref x] S (.aH hv .bJ)) (fun it s' y H' ι' q3_ S' v' g'=>?_) zz; obtain ⟨rfl,rfl⟩:=q3_; obtain ⟨a1,r1,q1,rfl⟩:=v'.bf; obtain ⟨a2,r2,q2,e2⟩:=(VR.gr g' hv).bf; rw [q1] at q2; cases q2; cases e2; exact ⟨rfl,ι',S',g',v'⟩
  have two:∀ refuse:Sem Value,wpAny C.M A (callSpecialIfBoundUnlessNone? (.ref x) "__iter__" refuse) (fun r s'=>r=some (.ref x)∧FP C d A env ρ H ι X s k x s') (fun _ _=>False) s:=by
    intro refuse
    have fin:wpAny C.M A (call (.ref f) [.ref x] >>= fun v=>pure (some v)) (fun r s'=>r=some (.ref x)∧FP C d A env ρ H ι X s k x s') (fun _ _=>False) s :=
      wpAny_bind (wpAny_mono one (fun v s' h'=>wpAny_pure ⟨by exact rl h'.1 rfl,h'.2⟩) zz)
    simp only [callSpecialIfBoundUnlessNone?,bindSpecialIfBound?]; refine wpAny_holding (wpAny_bind (wpAny_bind (wpAny_bind (I.type.here ((looks_findIn hX hf).here ?_))))); refine wpAny_bind (wpAny_askSetting (wpAny_ite ?_))
    have fin2:wpAny C.M A (if (Value.ref f==Value.none)=true then (refuse >>= fun v=>pure (some v)) else (call (.ref f) [.ref x] >>= fun v=>pure (some v))) (fun r s'=>r=some (.ref x)∧FP C d A env ρ H ι X s k x s') (fun _ _=>False) s:=by
      refine uM (show ¬ ((Value.ref f==Value.none)=true) from Bool.false_ne_true) ?_; exact fin
    split
    · exact wpAny_bind ((bind_fn hX _ ht).here (wpAny_pure (by exact fin2)))
    exact wpAny_tryCatch (wpAny_bind ((bind_fn hX _ ht).here (wpAny_pure (by exact wpAny_mono fin2 (fun _ _ z=>z) zz))))
  refine wpAny_bind (wpAny_bind (I.type.here ((looks_findIn hX hf).here ?_))); refine wpAny_bind (wpAny_mono (two _) (fun r s' hr=>?_) zz); obtain ⟨rfl,ι',S',g',v'⟩:=hr; obtain ⟨x',dx',es',n',e',hi',I',_⟩:=cC S' v' ho; cases e'; refine wpAny_bind (wpAny_bind (I'.type.here ((looks_findIn (O.K.keeps S'.base) hg).here ?_))); exact wpAny_pure (h s' ι' S' g' v')
end
end Mine
set_option maxRecDepth 100000
namespace Mine
theorem iX.near {d:Nat} {A A':Around} (R:iX (d+1) A) (h1:A'.depth=A.depth) (h2:A'.units≤A.units+9) (h3:A'.handled=A.handled) (h4:A'.guards=A.guards):iX d A':=by
  refine ⟨?_,?_,h3.trans R.handled,h4.trans R.guards⟩
  · have:=R.depth; exact B3 this h1
  have:=R.units; exact B0 this h2
section
variable {C:Cx} {d:Nat} {H:List O} {A:Around} {env:Env} {ρ:Loc} {ι:Ad} {X:List Addr} {s:Shared} {k:Nat}
theorem pK {S₀:Addr} {v:Value} {Rr:Result→Shared→Prop} {X0:List Addr}:∀ (n:Nat) (acc:List D) (H:List O) (s:Shared) (ι:Ad) (R:List D→List O→Prop),za C d k n acc H R→acc.length≤1000000→St C d A.in1 env ρ H ι X s→VR s.heap ι X (.obj k) v→S₀∈X→(∀ a,v = .ref a→True)→(∃ vs c,s.heap.get? S₀=some (aA vs c)∧aE s.heap ι X acc vs) →
    (∀ acc' H' ι' s',R acc' H'→acc'.length≤1000000→St C d A.in1 env ρ H' ι' X s'→eK C.B [S₀] ι s ι' s'→(∃ vs c,s'.heap.get? S₀=some (aA vs c)∧aE s'.heap ι' X acc' vs)→Rr (.ok (.ret .none)) s') →
    codeAny C.M A (.builtin "list.extend.loop" ⟨[.ref S₀,v,.none],[]⟩) Rr s
  | 0,_,_,_,_,_,h,_,_,_,_,_,_,_=>h.elim
  | n+1,acc,H,s,ι,R,h,hal,S,hv,hS,hva,hacc,hR=>by
    refine codeAny_builtin PySem.F.entry_extend_loop ?_; refine rl (Around.under_plainId PySem.F.plain_extend_loop _) ?_; refine wpAny_bind (wpAny_mono (h A.in1 env ρ s ι X v S hv) (fun r s₁ p=>?_) zz); obtain ⟨y,H₁,ι₁,hq,S₁,g₁,hr⟩:=p; obtain ⟨vs,c,hS0,hvs⟩:=hacc; have hS1:s₁.heap.get? S₀=some (aA vs c):=g₁.ext.get hS0 (fun hm=>S.iR S₀ hm hS:S₀ ∉ br ι) fR
    cases y with
    | none =>
      subst hr; exact wpAny_pure (hR acc H₁ ι₁ s₁ hq hal S₁ g₁.y ⟨vs,c,hS1,aE.gr g₁ hvs⟩)
    | some x =>
      obtain ⟨u,rfl,vu⟩:=hr; have hlen:=hvs.length; have hz:(16777216:Nat)=sizeLine:=rfl; obtain ⟨hal2,hq⟩:=hq; refine wpAny_bind (wpAny_updateSeq hS1 rfl ?_ (by refine rl List.size_toArray ?_; exact BZ hz hlen hal2 hal) (by show (vs.toArray.push u).size≤sizeLine+1; rw [Array.size_push,List.size_toArray]; exact BY hz hlen hal2 hal))
      have e1:Obj.mapSeq (·.push u) (aA vs c) = { aA vs c with data:=.seq (vs.toArray.push u) (match (Obj.mapSeq (·.push u) (aA vs c)).data with | .seq _ m=>m | _=>0) }:=by
        unfold Obj.mapSeq aA; rfl
      obtain ⟨c',hc'⟩:∃ c',Obj.mapSeq (·.push u) (aA vs c)=aA (vs++[u]) c':=⟨_,e1.trans (by simp [aA]; rfl)⟩
      have hup:(s₁.heap.update S₀ (Obj.mapSeq (·.push u))).get? S₀=some (aA (vs++[u]) c'):=by
        exact rl (Heap.get?_update_self _ hS1 (by rw [hc']; rfl)) (rl hc' rfl)
      have x2:Ext C.B [S₀] s₁ { s₁ with heap:=s₁.heap.update S₀ (Obj.mapSeq (·.push u)) }:=Ext.same (t:=s₁.toks) (Heap.SameBut.update ..); have hY:∀ a∈[S₀],a∈br ι₁ ∨ a∈X:=fun a ha=>by refine rl (List.mem_singleton.mp ha) ?_; exact .inr hS
      refine wpAny_pure ⟨plainId_quiet PySem.F.plain_extend_loop _,?_⟩; refine pK (X0:=X0) n (acc++[x]) H₁ _ ι₁ R hq (by refine rl List.length_append (rl List.length_singleton ?_); exact BX hal2 hal hlen) (S₁.turn hS hS1 (.seq rfl) x2 S₁.toks) (VR.eF aW x2 hY (VR.gr g₁ hv)) hS hva ⟨vs++[u],c',hup,aE.eF aW x2 hY ((aE.gr g₁ hvs).append (.aH vu .bJ))⟩ fun acc' H' ι' s' q1 q2 q3 q4 q5=>?_; exact hR acc' H' ι' s' q1 q2 q3 ((g₁.y.trans (eK.aB x2)).trans q4) q5
theorem aj.yl {cl fIt fNx:Addr} {fs:List (Str × D)} {Q:D→List O→Prop} (n:Nat) (O:C.Ok) (hit:findIn C.K (.ref cl) "__iter__" = some (some (.ref fIt))) (hitT:typeIn C.K (.ref fIt)=some (.type "function")) (hnx:findIn C.K (.ref cl) "__next__" = some (some (.ref fNx)))
    (hlen:findIn C.K (.ref cl) "__len__" = some none) (hhint:findIn C.K (.ref cl) "__length_hint__" = some none) (ho:H[k]?=some (.inst cl fs))
    (hself:aj C d H (.ref fIt) [.obj k] fun x H'=>x = .obj k∧H'=H) (h:za C d k n [] H fun acc H'=>Q (.list acc) H'):aj C (d+1) H (.type "list") [.obj k] Q:=fun A env ρ s ι X vs S hv=>by
  obtain ⟨v,rfl,hw⟩:=hv.bL; obtain ⟨x,dx,es,m,rfl,hix,I,h2,h1,hl,hat⟩:=cC S hw ho; have hz:(16777216:Nat)=sizeLine:=rfl; refine callType_codes (Q₁:=fun obj s₁=>obj = .ref s.heap.objs.size∧s₁ = { s with heap:=s.heap.push { cls:=.type "list",data:=.seq #[] } }) PySem.F.called_list (PySem.F.typeCall_list_1 _) PySem.F.entry_list_init (code_list_new _ ⟨rfl,rfl⟩) fun obj s₁ h₁=>?_; obtain ⟨rfl,rfl⟩:=h₁; generalize hS₀:s.heap.objs.size=S₀; have hS:(s.heap.push { cls:=.type "list",data:=.seq #[] }).get? S₀=some (aA [] 0):=hS₀ ▸ Heap.get?_push_size _ rfl; refine ⟨⟨_,hS,rfl⟩,PySem.F.args_list_init_2 _ _,?_⟩
  have S1:St C (d+1) A env ρ H ι ([S₀]++X) { s with heap:=s.heap.push { cls:=.type "list",data:=.seq #[] } }:=S.widen .push S.toks fun a ha=>by
    refine rl (List.mem_singleton.mp ha) (rr hS₀ ?_); exact ⟨Nat.le_refl _,by show _ < (s.heap.push _).objs.size; rw [Heap.size_push]; exact Nat.lt_succ_self _⟩
  have hSX:S₀∈[S₀]++X:=.head _; have g1:Gr C.B ι s ι { s with heap:=s.heap.push { cls:=.type "list",data:=.seq #[] } }:=.aB .push
  have w1:VR (s.heap.push { cls:=.type "list",data:=.seq #[] }) ι ([S₀]++X) (.obj k) (.ref x):=by
    obtain ⟨a,r,e,e2⟩:=hw.bf; cases e2; exact .m6 e
  have hne:S₀≠x:=fun e=>by
    have:=Heap.lt_size h1; rw [← e,← hS₀] at this; exact Nat.lt_irrefl _ this
  show wpAny _ A.in1.in1 (do let old ← Builtin.List.listItems (.ref S₀); Builtin.List.listUpdate (.ref S₀) (fun _=>#[]); PySem.letGo old.toList.reverse; Builtin.List.listExtendWith (.ref S₀) (.ref x) .none) _ _ _; refine wpAny_bind ?_; refine wpAny_bind (wpAny_seqItems hS rfl (wpAny_pure ?_))
  have touch:∀ (f:Array Value→Array Value) (s:Shared) (vs:List Value) (c:Nat) (us:List Value) (Qq:Unit→Shared→Prop) (A:Around),St C (d+1) A env ρ H ι ([S₀]++X) s→s.heap.get? S₀=some (aA vs c)→f vs.toArray=us.toArray→vs.length≤10→us.length≤10 →
      (∀ h' c',h'.get? S₀=some (aA us c')→Ext C.B [S₀] s { s with heap:=h' }→St C (d+1) A env ρ H ι ([S₀]++X) { s with heap:=h' }→Qq () { s with heap:=h' })→∀ (A':Around) (E:Value→Shared→Prop),wpAny C.M A' (updateSeq S₀ f) Qq E s:=by
    intro f s vs c us Qq A S hg hf hl1 hl2 hq A' E; refine wpAny_updateSeq hg rfl ?_ (by refine rl List.size_toArray ?_; exact Bh hz hl1) (by refine rl hf (rl List.size_toArray ?_); exact Bg hz hl2)
    have e1:Obj.mapSeq f (aA vs c) = { aA vs c with data:=.seq (f vs.toArray) (match (Obj.mapSeq f (aA vs c)).data with | .seq _ m=>m | _=>0) }:=by
      unfold Obj.mapSeq aA; rfl
    obtain ⟨c',hc'⟩:∃ c',Obj.mapSeq f (aA vs c)=aA us c':=⟨_,e1.trans (by refine rl hf ?_; simp [aA]; rfl)⟩
    have hup:(s.heap.update S₀ (Obj.mapSeq f)).get? S₀=some (aA us c'):=by
      exact rl (Heap.get?_update_self _ hg (by rw [hc']; rfl)) (rl hc' rfl)
    have x2:Ext C.B [S₀] s { s with heap:=s.heap.update S₀ (Obj.mapSeq f) }:=Ext.same (t:=s.toks) (Heap.SameBut.update ..); exact hq _ c' hup x2 (S.turn hSX hg (.seq rfl) x2 S.toks)
  refine wpAny_bind (touch _ _ [] 0 [] _ A S1 hS rfl (by simp) (by simp) (fun h2 c2 hg2 x2 S2=>?_) _ _); refine wpAny_bind (wpAny_letGo ?_)
  have w2:VR h2 ι ([S₀]++X) (.obj k) (.ref x):=by
    obtain ⟨a,r,e,e2⟩:=hw.bf; cases e2; exact .m6 e
  obtain ⟨x',dx',es',n',e',hi',I2,_⟩:=cC S2 w2 ho; cases e'; refine wpAny_bind (I2.type.here ?_); have h1:Builtin.List.listSameRef (.ref S₀) (.ref x)=false:=by simp [Builtin.List.listSameRef,hne]
  have h2':(Value.ref cl==Value.type "list")=false:=by rfl
  have h3:(Value.ref cl==Value.type "tuple")=false:=by rfl
  simp only [h1,h2',h3,Bool.or_false,Bool.false_eq_true,if_false]; have R3:iX d A.in1.in1:=S.room.near rfl (by show A.units+1+1≤_; exact BW) rfl rfl; have S2':St C d A.in1.in1 env ρ H ι ([S₀]++X) { s with heap:=h2 }:=S2.move R3 rfl; refine wpAny_bind (wpAny_mono (ur (R:=fun v' s'=>v' = .ref x∧∃ ι',St C d A.in1.in1 env ρ H ι' ([S₀]++X) s'∧Gr C.B ι { s with heap:=h2 } ι' s'∧VR s'.heap ι' ([S₀]++X) (.obj k) (.ref x)) O hit hitT hnx ho hself S2' w2 fun s' ι' q1 q2 q3=>⟨rfl,ι',q1,q2,q3⟩) (fun v' s3 q=>?_) zz); obtain ⟨rfl,ι3,S3,g3,w3⟩:=q; obtain ⟨x',dx',es',n',e',hi',I3,_⟩:=cC S3 w3 ho; cases e'; have hX3:=O.K.keeps S3.base; refine wpAny_bind (wpAny_holding ?_); refine wpAny_bind (wpAny_bind (I3.type.here ((looks_findIn hX3 hlen).here ?_))); refine wpAny_bind (wpAny_bind (I3.type.here ((looks_findIn hX3 hhint).here ?_))); refine wpAny_pure ?_; refine wpAny_bind (wpAny_rule ?_); refine wpAny_bind ?_; have hg3:s3.heap.get? S₀=some (aA [] c2):=g3.ext.get hg2 (fun hm=>S1.iR S₀ hm hSX:S₀ ∉ br ι) fR
  have touch3:∀ (f:Array Value→Array Value) (s:Shared) (vs:List Value) (c:Nat) (us:List Value) (Qq:Unit→Shared→Prop),St C d A.in1.in1 env ρ H ι3 ([S₀]++X) s→s.heap.get? S₀=some (aA vs c)→f vs.toArray=us.toArray→vs.length≤10→us.length≤10 →
      (∀ h' c',h'.get? S₀=some (aA us c')→Ext C.B [S₀] s { s with heap:=h' }→St C d A.in1.in1 env ρ H ι3 ([S₀]++X) { s with heap:=h' }→Qq () { s with heap:=h' })→∀ (A':Around) (E:Value→Shared→Prop),wpAny C.M A' (updateSeq S₀ f) Qq E s:=by
    intro f s vs c us Qq S hg hf hl1 hl2 hq A' E; refine wpAny_updateSeq hg rfl ?_ (by refine rl List.size_toArray ?_; exact Bh hz hl1) (by refine rl hf (rl List.size_toArray ?_); exact Bg hz hl2)
    have e1:Obj.mapSeq f (aA vs c) = { aA vs c with data:=.seq (f vs.toArray) (match (Obj.mapSeq f (aA vs c)).data with | .seq _ m=>m | _=>0) }:=by
      unfold Obj.mapSeq aA; simp
    obtain ⟨c',hc'⟩:∃ c',Obj.mapSeq f (aA vs c)=aA us c':=⟨_,e1.trans (by refine rl hf ?_; simp [aA]; rfl)⟩
    have hup:(s.heap.update S₀ (Obj.mapSeq f)).get? S₀=some (aA us c'):=by
      exact rl (Heap.get?_update_self _ hg (by rw [hc']; rfl)) (rl hc' rfl)
    have x2:Ext C.B [S₀] s { s with heap:=s.heap.update S₀ (Obj.mapSeq f) }:=Ext.same (t:=s.toks) (Heap.SameBut.update ..); exact hq _ c' hup x2 (S.turn hSX hg (.seq rfl) x2 S.toks)
  refine wpAny_bind (touch3 _ _ [] c2 [.none] _ S3 hg3 (by simp) (by simp) (by simp) (fun h4 c4 hg4 x4 S4=>?_) _ _); refine touch3 _ _ [.none] c4 [] _ S4 hg4 (by simp) (by simp) (by simp) (fun h5 c5 hg5 x5 S5=>?_) _ _; refine wpAny_pure ⟨plainId_quiet PySem.F.plain_extend_loop _,?_⟩
  have w5:VR h5 ι3 ([S₀]++X) (.obj k) (.ref x):=by
    obtain ⟨a,r,e,e2⟩:=w3.bf; cases e2; exact .m6 e
  refine pK (X0:=X) n [] H _ ι3 _ h (by simp) S5 w5 hSX (fun _ _=>trivial) ⟨[],c5,hg5,.bJ⟩ fun acc' H' ι' s' q1 q2 q3 q4 q5=>?_; obtain ⟨vs',c',hg',hvs'⟩:=q5; refine ⟨rfl,?_⟩; have hfresh:∀ a∈[S₀],s.heap.objs.size≤a:=fun a ha=>by refine rl (List.mem_singleton.mp ha) (rl hS₀ ?_); exact Nat.le_refl _
  have hsub:∀ a∈X,a∈[S₀]++X:=fun a h=>List.mem_append_right _ h; have gg:Gr C.B ι s ι' s':=((((((g1.y.trans (eK.aB x2)).trans g3.y).trans (eK.aB x4)).trans (eK.aB x5)).trans q4):eK C.B [S₀] ι s ι' s').gr hfresh; have hSX':S₀ ∉ X:=fun hm=>absurd (S.xs S₀ hm).2 (Nat.not_lt.mpr (by refine rl hS₀ ?_; exact Nat.le_refl _)); exact ⟨.list acc',H',ι',q1,(S.narrow (q3.move S.room rfl) hsub:St C (d+1) A env ρ H' ι' X s'),.dZ hSX' (fun hm=>q3.iR S₀ hm hSX:S₀ ∉ br ι') hg' (by exact BV hz hvs'.length q2) (aE.aR (fun a h=>.inl (hsub a h)) hvs'),gg⟩
end
end Mine
namespace Mine
section
variable {C:Cx} {d:Nat} {Q:D→List O→Prop} {b:Bool} {ln:Int} {l inp:List Nat} {p:Nat} {st:Option Nat} {pb:Option Nat} {n:Nat} {st':Option Nat} {tok':List Nat} {q':Bool} {inp':List Nat}
theorem l8 (W:WF C) (hl:l.length≤10000) (hn:n≤50000) (hi:uK b l inp p pb) (hr:dB b n st [] false inp=some (st',tok',q',inp'))
    (hq:∀ ln' p' pb',uK b l inp' p' pb'→Q (lB tok' q') (aT b st' ln' [] l p' pb')):aj C (d+5) (aT b st ln [] l p pb) (.ref 748) [.obj 0] Q:=by
  refine aj.fn (ns:=["self"]) W.ok W.wJ (by kernel_rfl) (by kernel_rfl) (by kernel_rfl) rfl ?_ (fun q cd L=>by kernel_rfl) fun qn cd L=>?_
  · exact fun _ _ _ _ _ _ _ _=>gU fun _=>by kernel_rfl
  have hs0:(cy ((["self"]:List Str).zip [.obj 0])).lookup ("self" : Str)=some (.obj 0):=by kernel_rfl
  generalize cy ((["self"]:List Str).zip [.obj 0])=ρ0 at hs0; refine aa.cons ?_; refine EX.if ?_; refine TV.plain (EV.rL W hs0 (TR.deque (xs:=[]) rfl (by decide) ?_)) (fun _=>rfl); refine aa.nil ?_; refine aa.cons ?_; refine EX.asg ?_ ?_
  · kernel_rfl
  refine EV.b5 ?_ ?_
  · kernel_rfl
  refine EV.nm (.obj 0) ?_ ?_ ?_
  · assumption
  · kernel_rfl
  refine ⟨_,bY.inst (fs:=fO b st ln []) W.ok W.aX W.zK W.xr rfl ?_,W.wG.kp,?_⟩
  · cases b <;> kernel_rfl
  refine az.n ?_; refine tW W hl hn hi hr fun ln' p' pb' hi'=>?_; have hs:(aQ "raw" (lB tok' q') ρ0).lookup ("self" : Str)=some (.obj 0):=(jf (by decide +kernel)).trans hs0; have hraw:(aQ "raw" (lB tok' q') ρ0).lookup ("raw" : Str)=some (lB tok' q'):=bV; show nx _ _ _ _ _ _ (aQ "raw" (lB tok' q') ρ0) _; generalize aQ "raw" (lB tok' q') ρ0=ρ1 at hs hraw ⊢; have hfin:=hq ln' p' pb' hi'; refine aa.cons ?_; refine EX.if ?_; refine TV.cm ?_ ?_; rotate_left
  · kernel_rfl
  refine EV.xh W hs ?_; refine EV.none ?_; refine aO.cmp ?_; show TR _ _ _ _ _; refine TR.plain rfl (aa.nil ?_); refine aa.cons ?_; refine EX.while (fun m ρ H=>m=0∧ρ=ρ1∧H=aT b st' ln' [] l p' pb') ?_ 0 ⟨rfl,rfl,rfl⟩; rintro m ρ H ⟨rfl,rfl,rfl⟩; refine TV.cm ?_ ?_; rotate_left
  · kernel_rfl
  refine EV.nm _ hraw (by kernel_rfl) ?_; refine EV.tF W hs ?_; unfold lB at hfin hraw ⊢; split
  · rename_i hc
    rw [if_pos hc] at hfin; refine aO.cmp ⟨⟨rfl,rfl⟩,TR.plain rfl ?_⟩; refine aa.cons ?_; refine EX.if ?_; refine TV.not (TV.plain (EV.qh W hs (TR.deque (xs:=[]) rfl (by decide) ?_)) (fun _=>rfl)); refine aa.cons ?_; refine EX.rt ?_; refine EV.tF W hs ?_; exact hfin
  rename_i hc; rw [if_neg hc] at hfin hraw; refine aO.cmp ?_; refine TR.plain rfl ?_; refine aa.cons ?_; refine EX.if ?_; refine TV.debug W (by decide) hs ?_; refine aa.nil ?_; refine aa.cons ?_; refine EX.rt ?_; refine EV.nm _ hraw (by kernel_rfl) ?_; exact hfin
theorem yd (W:WF C) {QN:Option D→List O→Prop} (hl:l.length≤10000) (hn:n≤50000) (hi:uK b l inp p pb) (hr:dB b n st [] false inp=some (st',tok',q',inp'))
    (hq:∀ ln' p' pb',uK b l inp' p' pb'→QN (if (tok'.isEmpty && !q')=true then none else some (.str (T tok'))) (aT b st' ln' [] l p' pb')):NX C (d+6) 0 (aT b st ln [] l p pb) QN:=by
  by_cases hc:(tok'.isEmpty && !q')=true
  · refine NX.stop (fs:=fO b st ln []) W.ok W.qm W.rO rfl ?_
    refine tK.fn (ns:=["self"]) W.ok W.wI (by kernel_rfl) (by kernel_rfl) (by kernel_rfl) rfl ?_ (fun q cd L=>by kernel_rfl) fun qn cd L=>?_
    · exact fun _ _ _ _ _ _ _ _=>gU fun _=>by kernel_rfl
    have hs0:(cy ((["self"]:List Str).zip [.obj 0])).lookup ("self" : Str)=some (.obj 0):=by kernel_rfl
    generalize cy ((["self"]:List Str).zip [.obj 0])=ρ0 at hs0; refine XE.cons ?_; refine EX.asg ?_ ?_
    · kernel_rfl
    refine EV.b5 ?_ ?_
    · kernel_rfl
    refine EV.nm (.obj 0) ?_ ?_ ?_
    · assumption
    · kernel_rfl
    refine ⟨_,bY.inst (fs:=fO b st ln []) W.ok W.aX W.zc W.uO rfl ?_,W.wJ.kp,?_⟩
    · cases b <;> kernel_rfl
    refine az.n ?_; refine l8 W hl hn hi hr fun ln' p' pb' hi'=>⟨rfl,?_⟩; have hfin:=hq ln' p' pb' hi'; rw [if_pos hc] at hfin; have hs:(aQ "token" (lB tok' q') ρ0).lookup ("self" : Str)=some (.obj 0):=(jf (by decide +kernel)).trans hs0; have hraw:(aQ "token" (lB tok' q') ρ0).lookup ("token" : Str)=some (lB tok' q'):=bV; have hrt:lB tok' q' = .none:=by unfold lB; exact rl (if_pos hc) rfl
    rw [hrt] at hs hraw ⊢; refine XE.if ?_; refine TV.cm ?_ ?_; rotate_left
    · kernel_rfl
    refine EV.nm _ hraw (by kernel_rfl) ?_; refine EV.tF W hs ?_; refine aO.cmp ⟨⟨rfl,rfl⟩,TR.plain rfl ⟨rfl,?_⟩⟩; refine XE.stop W.ok ?_ W.wZ.1 W.wZ.2 ?_ hfin
    · kernel_rfl
    kernel_rfl
  refine NX.item (fs:=fO b st ln []) W.ok W.qm W.rO rfl ?_; refine aj.fn (ns:=["self"]) W.ok W.wI (by kernel_rfl) (by kernel_rfl) (by kernel_rfl) rfl ?_ (fun q cd L=>by kernel_rfl) fun qn cd L=>?_
  · exact fun _ _ _ _ _ _ _ _=>gU fun _=>by kernel_rfl
  have hs0:(cy ((["self"]:List Str).zip [.obj 0])).lookup ("self" : Str)=some (.obj 0):=by kernel_rfl
  generalize cy ((["self"]:List Str).zip [.obj 0])=ρ0 at hs0; refine aa.cons ?_; refine EX.asg ?_ ?_
  · kernel_rfl
  refine EV.b5 ?_ ?_
  · kernel_rfl
  refine EV.nm (.obj 0) ?_ ?_ ?_
  · assumption
  · kernel_rfl
  refine ⟨_,bY.inst (fs:=fO b st ln []) W.ok W.aX W.zc W.uO rfl ?_,W.wJ.kp,?_⟩
  · cases b <;> kernel_rfl
  refine az.n ?_; refine l8 W hl hn hi hr fun ln' p' pb' hi'=>?_; have hfin:=hq ln' p' pb' hi'; rw [if_neg hc] at hfin; have hs:(aQ "token" (lB tok' q') ρ0).lookup ("self" : Str)=some (.obj 0):=(jf (by decide +kernel)).trans hs0; have hraw:(aQ "token" (lB tok' q') ρ0).lookup ("token" : Str)=some (lB tok' q'):=bV; have hrt:lB tok' q' = .str (T tok'):=by unfold lB; exact rl (if_neg hc) rfl
  rw [hrt] at hs hraw ⊢; refine aa.cons ?_; refine EX.if ?_; refine TV.cm ?_ ?_; rotate_left
  · kernel_rfl
  refine EV.nm _ hraw (by kernel_rfl) ?_; refine EV.tF W hs ?_; refine aO.cmp ?_; refine TR.plain rfl (aa.nil ?_); refine aa.cons ?_; refine EX.rt ?_; refine EV.nm _ hraw (by kernel_rfl) ?_; exact hfin
theorem uu (W:WF C):aj C (d+1) (aT b st ln [] l p pb) (.ref 777) [.obj 0] fun x H'=>x = .obj 0∧H'=aT b st ln [] l p pb:=by
  refine aj.fn (ns:=["self"]) W.ok W.Ay (by kernel_rfl) (by kernel_rfl) (by kernel_rfl) rfl ?_ (fun q cd L=>by kernel_rfl) fun qn cd L=>?_
  · exact fun _ _ _ _ _ _ _ _=>gU fun _=>by kernel_rfl
  refine aa.cons ?_; refine EX.rt ?_; refine EV.nm (.obj 0) ?_ ?_ ?_
  · kernel_rfl
  · kernel_rfl
  exact ⟨rfl,rfl⟩
noncomputable def cT (b:Bool) (n:Nat):Nat→Option Nat→List Nat→Option (List (List Nat))
  | 0,_,_=>none
  | m+1,st,inp=>match dB b n st [] false inp with
    | none=>none
    | some (st',tok,q,inp')=>if (tok.isEmpty && !q)=true then some [] else (cT b n m st' inp').map (tok :: ·)
theorem o9 {b:Bool} {n m:Nat} {st:Option Nat} {inp:List Nat}:cT b n (m+1) st inp=match dB b n st [] false inp with
    | none=>none
    | some (st',tok,q,inp')=>if (tok.isEmpty && !q)=true then some [] else (cT b n m st' inp').map (tok :: ·):=rfl
theorem qd (W:WF C) (hl:l.length≤10000) (hn:n≤50000) {R:List D→List O→Prop}:∀ (m:Nat) (acc:List D) (st:Option Nat) (inp:List Nat) (ln:Int) (p:Nat) (pb:Option Nat) (ts:List (List Nat)),cT b n m st inp=some ts→uK b l inp p pb→acc.length+m≤1000000→(∀ H',R (acc++aq ts) H')→za C (d+6) 0 m acc (aT b st ln [] l p pb) R
  | 0,_,_,_,_,_,_,_,h,_,_,_=>by cases h
  | m+1,acc,st,inp,ln,p,pb,ts,h,hi,hm,hR=>by
    rw [o9] at h
    cases hr:dB b n st [] false inp with
    | none=>rw [hr] at h; cases h
    | some t =>
      obtain ⟨st',tok,q,inp'⟩:=t; rw [hr] at h; dsimp only at h; refine yd W hl hn hi hr fun ln' p' pb' hi'=>?_; split at h
      · rename_i hc
        refine rl (if_pos hc) ?_; cases h; have:=hR (aT b st' ln' [] l p' pb'); rw [show aq []=[] from rfl,List.append_nil] at this; exact this
      rename_i hc; refine rl (if_neg hc) ?_
      cases ha:cT b n m st' inp' with
      | none=>rw [ha] at h; cases h
      | some ts' =>
        rw [ha] at h; cases h; refine ⟨by exact ED hm,?_⟩; refine qd W hl hn m _ st' inp' ln' p' pb' ts' ha hi' (by refine rl List.length_append (rl List.length_singleton ?_); exact EC hm) fun H'=>?_; have:=hR H'; rw [List.append_assoc]; exact this
theorem l5 (W:WF C) {m:Nat} {ts:List (List Nat)} (hl:l.length≤10000) (hn:n≤50000) (hm:m≤1000000) (hi:uK b l inp p pb) (h:cT b n m st inp=some ts) (hq:∀ H',Q (.list (aq ts)) H'):aj C (d+7) (aT b st ln [] l p pb) (.type "list") [.obj 0] Q :=
  aj.yl (fs:=fO b st ln []) m W.ok W.zL W.xw W.qm W.x_len W.zM rfl (uu W) (qd W hl hn m [] st inp ln p pb ts h hi (by simpa using hm) fun H'=>hq H')
end
section
variable {C:Cx} {d:Nat} {Q:D→List O→Prop} {l:List Nat} {n m:Nat} {ts:List (List Nat)}
theorem qB (W:WF C) (hl:l.length≤10000) (hn:n≤50000) (hm:m≤1000000) (h:cT false n m (some 32) l=some ts) (hts:∀ t∈ts,∀ c∈t,c < 1114112) (hq:Q (.list (aq ts)) []):aj C (d+8) [] (.ref 799) [.str (T l)] Q:=by
  refine aj.fz ?_; refine aj.yE (ds:=[("s",.str (T l)),("comments",.bool false),("posix",.bool true)]) W.ok W.sU (by kernel_rfl) (by kernel_rfl) (by kernel_rfl) ?_ (fun q cd L=>by kernel_rfl) fun q cd L=>?_
  · intro name qual kwd doc pm ann cd ct vs s ι X hb hv
    obtain ⟨v1,rfl,w1⟩:=hv.bL; exact ⟨[("s",v1),("comments",.bool false),("posix",.bool true)],BindsTo.of_defaults rfl (hb _ _ W.yR) rfl rfl rfl,rfl,.aH w1 (.aH .bq (.aH .bq .bJ))⟩
  refine aa.cons ?_; refine EX.if ?_; refine TV.cm ?_ ?_; rotate_left
  · kernel_rfl
  refine EV.nm (.str (T l)) ?_ ?_ ?_
  · kernel_rfl
  · kernel_rfl
  refine EV.none ?_; refine aO.cmp ?_; refine TR.plain rfl (aa.nil ?_); refine aa.cons ?_; refine EX.asg ?_ ?_
  · kernel_rfl
  refine EV.wY (v:=.ref 787) ?_ ?_ W.sI ?_
  · kernel_rfl
  · kernel_rfl
  refine EV.glob (by decide) W.ok (by kernel_rfl) W.sP ⟨rfl,?_⟩; refine az.c ?_; refine EV.nm (.str (T l)) ?_ ?_ ?_
  · kernel_rfl
  · kernel_rfl
  refine az.n ?_; refine (EV.nm (.bool true) ?_ ?_ ?_:EV _ _ _ _ _ (.Name "posix" _) _)
  · kernel_rfl
  · kernel_rfl
  refine oF W hl ?_; refine aa.cons ?_; refine EX.setAttr (k:=0) (cl:=787) (fs:=qE [35] ig false (.str (T [32])) 1 [] [] []) W.ok W.aX (W.au "whitespace_split" (by decide +kernel)) (ah rfl) ?_; refine EV.bool ?_; refine EV.nm (.obj 0) ?_ ?_ ?_
  · kernel_rfl
  · kernel_rfl
  refine ⟨rfl,rfl,?_,?_⟩
  · show 19≤900; exact Nat.le_of_ble_eq_true rfl
  refine aa.cons ?_; refine EX.if ?_; refine TV.not (TV.plain ?_ (fun _=>rfl)); refine EV.nm (.bool false) ?_ ?_ ?_
  · kernel_rfl
  · kernel_rfl
  refine TR.plain rfl ?_; refine aa.cons ?_; refine EX.setAttr (k:=0) (cl:=787) (fs:=qE [35] ig true (.str (T [32])) 1 [] [] []) W.ok W.aX (W.au "commenters" (by decide +kernel)) (ah rfl) ?_; refine EV.aY ([]) ?_ (by decide) ?_
  · kernel_rfl
  refine EV.nm (.obj 0) ?_ ?_ ?_
  · kernel_rfl
  · kernel_rfl
  refine ⟨rfl,?_,?_,?_⟩
  · kernel_rfl
  · show 19≤900; exact Nat.le_of_ble_eq_true rfl
  refine aa.nil ?_; refine rl (by kernel_rfl:((uX false l).set 0 (.inst 787 (aQ "whitespace_split" (.bool true) (qE [35] ig false (.str (T [32])) 1 [] [] [])))).set 0 (.inst 787 (aQ "commenters" (.str (T [])) (qE [35] ig true (.str (T [32])) 1 [] [] [])))=aT false (some 32) 1 [] l 0 none) ?_; refine aa.cons ?_; refine EX.rt ?_; refine EV.bS W.ok W.g7 .type ?_ ?_
  · kernel_rfl
  refine az.c ?_; refine EV.nm (.obj 0) ?_ ?_ ?_
  · kernel_rfl
  · kernel_rfl
  refine az.n ?_; refine l5 W hl hn hm (inp:=l) ⟨rfl,fun _=>rfl⟩ h fun H'=>?_; exact ⟨_,.ok (cW hts),hq⟩
theorem xB (W:WF C) {env:Env} {ρ:Loc} {f g x:Str} {p1 p2 p3 p4 p5 p6 p7 p8 p9:Pos} {k1 k2:Nat} {y:Str} (hf:f = "list") (hg:g = "shlex") (hy:y=T [46]) (kf:env.kindOf f=some .globalImplicit) (kg:env.kindOf g=some .globalImplicit) (hx:ρ.lookup x=some (.str (T l))) (hxd:(x==("__debug__" : Str))=false)
    (hl:l.length≤10000) (hn:n≤50000) (hm:m≤1000000) (h:cT true n m (some 32) l=some ts) (hts:∀ t∈ts,∀ c∈t,c < 1114112) (hq:Q (.list (aq ts)) []) :
    EV C (d+7) env ρ [] (.Call (.Name f p1) [.Call (.Name g p2) [.Name x p3] [⟨some "posix",.Constant (.bool true) k1 p4,p5⟩,⟨some "punctuation_chars",.Constant (.str y) k2 p6,p7⟩] p8] [] p9) Q:=by
  subst hf hg hy; refine EV.fz ?_; refine EV.bS W.ok W.g7 .type ?_ ?_
  · unfold kL; refine rl kf ?_; rfl
  refine az.c ?_; refine EV.wY (v:=.ref 787) rfl rfl W.sI ?_; refine EV.glob (by kernel_rfl) W.ok kg W.sP ⟨rfl,?_⟩; refine az.c (EV.nm (.str (T l)) hx hxd (az.n ?_)); refine EV.bool ?_; refine EV.aY [46] rfl (by decide) ?_; refine oE W hl ?_; refine az.n ?_; refine rl (by kernel_rfl:uX true l=aT true (some 32) 1 [] l 0 none) ?_; refine l5 W hl hn hm (inp:=l) ⟨rfl,fun _=>rfl⟩ h fun H'=>?_; exact ⟨_,.ok (cW hts),hq⟩
end
noncomputable def vA (xs:List Int) (lo hi st:Option Int):List Int :=
  (sliceRange (sliceBounds lo hi st xs.length).1 (sliceBounds lo hi st xs.length).2.1 (sliceBounds lo hi st xs.length).2.2).filterMap (xs[·]?)
theorem uc (xs:List Int) (lo hi st:Option Int):jC (xs.map D.int) lo hi st=(vA xs lo hi st).map D.int:=by
  unfold jC vA; rw [List.length_map]; generalize sliceRange _ _ _=idx
  induction idx with
  | nil=>rfl
  | cons i idx ih =>
    rw [List.filterMap_cons,List.filterMap_cons,List.getElem?_map]
    cases xs[i]? with
    | none=>exact ih
    | some x=>simp only [Option.map_some,List.map_cons,ih]
noncomputable def Bb (k:Nat):Int:=([2,304,30208,1311,16]:List Int).getD k 0
noncomputable def cM (is:List Int) (k:Nat):Int:=Bb k+(vA is (some (k:Int)) none (some 5)).sum
noncomputable def aF:List (List Nat):=[[0],[1],[2],[0,0],[0,1],[0,2],[1,0],[1,1],[1,2],[2,0],[2,1],[2,2]]
noncomputable def ao (ws:List (List Nat)):List (List Nat):=aF.map fun pl=>[46].intercalate (pl.map fun i=>ws.getD i default)
noncomputable def aD (n:Int):List Nat:=(List.range 3).map fun k=>((n.fdiv (12 ^ k)).fmod 12).toNat
noncomputable def cU (n:Int):List Bool:=(List.range 12).map fun k=>decide ((n.fdiv (2 ^ k)).fmod 2=1)
noncomputable def jG (parted:List (List Nat)) (chosen:List Nat):List Nat:=[32].intercalate (chosen.map fun k=>parted.getD k default)
noncomputable def lT (ws:List (List Nat)) (chosen:List Nat):List (List Nat):=chosen.flatMap fun k=>gM ((aF.getD k default).map fun i=>ws.getD i default)
noncomputable def fZ (ws:List (List Nat)):List (List (List Nat)):=aF.map fun pl=>pl.flatMap fun i=>aV (ws.getD i default)
structure Plain (ws:List (List Nat)) (chosen:List Nat) (files:List Bool):Prop where
  split:cT false 5000 100 (some 32) (jG (ao (ws.map markL)) chosen)=some (chosen.map fun k=>(ao ws).getD k default)
  toks:cT true 5000 1000 (some 32) (jG (ao (ws.map markL)) chosen)=some (lT ws chosen)
  FY:lK (ao ws) chosen files=pP (ao ws) ((ao ws).map (aN 46)) chosen files
  FW:lK (ao (ws.map markL)) chosen files=pP (ao (ws.map markL)) (fZ ws) chosen files
  FU:lK ((ao ws).map markL) chosen files=pP ((ao ws).map markL) ((ao ws).map aV) chosen files
structure Words (ws:List (List Nat)):Prop where
  len:ws.length=3
  short:∀ w∈ws,w.length≤4
  small:∀ w∈ws,∀ c∈w,c < 1114112
theorem fH {y:List Nat} {c:Nat}:∀ {xs:List (List Nat)},c∈y.intercalate xs→c∈y ∨ ∃ x∈xs,c∈x
  | [],h=>by simp [List.intercalate] at h
  | [x],h=>.inr ⟨x,.head _,by simpa [List.intercalate] using h⟩
  | x::z::r,h=>by
    rw [(by simp [List.intercalate,List.intersperse]:y.intercalate (x::z::r)=x++(y++y.intercalate (z::r)))] at h; rcases List.mem_append.mp h with h | h
    · exact .inr ⟨x,.head _,h⟩
    rcases List.mem_append.mp h with h | h
    · exact .inl h
    rcases fH h with h | ⟨w,hw,hc⟩
    · exact .inl h
    exact .inr ⟨w,.tail _ hw,hc⟩
theorem cE {k c:Nat}:∀ {l p:List Nat},p∈aN k l→c∈p→c∈l
  | [],p,hp,hc=>by
    rw [iB,List.mem_singleton] at hp; subst hp; cases hc
  | a::r,p,hp,hc=>by
    rw [c8] at hp; split at hp
    · rcases List.mem_cons.mp hp with rfl | hp
      · cases hc
      exact .tail _ (cE hp hc)
    cases e:aN k r with
    | nil=>rw [e] at hp; rw [List.mem_singleton.mp hp] at hc; refine rl (List.mem_singleton.mp hc) ?_; exact .head _
    | cons q qs =>
      rw [e] at hp; rcases List.mem_cons.mp hp with rfl | hp
      · rcases List.mem_cons.mp hc with rfl | hc
        · exact .head _
        exact .tail _ (cE (by refine rl e ?_; exact .head _) hc)
      exact .tail _ (cE (by refine rl e ?_; exact .tail _ hp) hc)
theorem iJ {l:List Nat}:(markL l).length≤6*l.length+7∧∀ N,39 < N→34 < N→(∀ c∈l,c < N)→∀ c∈markL l,c < N:=by
  unfold markL; split
  · exact ⟨by exact Dv,fun N _ _ h=>h⟩
  unfold oN; refine ⟨?_,fun N h1 h2 h c hc=>?_⟩
  · have h1:=bH [39,34,39,34,39] (aN 39 l)
    have h2:=dP 39 l; unfold iw at h1; simp only [List.length_append,List.length_cons,List.length_nil] at h1 ⊢; omega
  rcases List.mem_append.mp hc with hc | hc
  · rcases List.mem_append.mp hc with hc | hc
    · refine rl (List.mem_singleton.mp hc) ?_; exact h1
    rcases fH hc with hc | ⟨w,hw,hc⟩
    · simp only [List.mem_cons,List.not_mem_nil,or_false] at hc
      rcases hc with rfl | rfl | rfl | rfl | rfl <;> assumption
    exact h c (cE hw hc)
  refine rl (List.mem_singleton.mp hc) ?_; exact h1
theorem kM {w:List Nat} (h:w.length≤4) (hs:∀ c∈w,c < 1114112):(markL w).length≤40∧∀ c∈markL w,c < 1114112 :=
  ⟨by have:=(iJ (l:=w)).1; exact Du this h,iJ.2 _ (by decide) (by decide) hs⟩
theorem kN {ws:List (List Nat)} {m N:Nat} (hl:ws.length=3) (h1:∀ w∈ws,w.length≤m∧∀ c∈w,c < N) (hN:46 < N):∀ t∈ao ws,t.length≤2*m+1∧∀ c∈t,c < N:=by
  have hg:∀ i:Nat,i < 3→ws.getD i default∈ws:=fun i hi=>by refine rl List.getD_eq_getElem?_getD (rl (List.getElem?_eq_getElem (by rw [hl]; exact hi)) ?_); exact List.getElem_mem _
  have hpl:∀ pl∈aF,(∃ i,i < 3∧pl=[i]) ∨ ∃ i j,i < 3∧j < 3∧pl=[i,j]:=by
    intro pl h; simp only [aF,List.mem_cons,List.not_mem_nil,or_false] at h; rcases h with rfl | rfl | rfl | rfl | rfl | rfl | rfl | rfl | rfl | rfl | rfl | rfl
    · exact .inl ⟨0,by decide,rfl⟩
    · exact .inl ⟨1,by decide,rfl⟩
    · exact .inl ⟨2,by decide,rfl⟩
    · exact .inr ⟨0,0,by decide,by decide,rfl⟩
    · exact .inr ⟨0,1,by decide,by decide,rfl⟩
    · exact .inr ⟨0,2,by decide,by decide,rfl⟩
    · exact .inr ⟨1,0,by decide,by decide,rfl⟩
    · exact .inr ⟨1,1,by decide,by decide,rfl⟩
    · exact .inr ⟨1,2,by decide,by decide,rfl⟩
    · exact .inr ⟨2,0,by decide,by decide,rfl⟩
    · exact .inr ⟨2,1,by decide,by decide,rfl⟩
    exact .inr ⟨2,2,by decide,by decide,rfl⟩
  intro t ht; obtain ⟨pl,hm,rfl⟩:=List.mem_map.mp ht; rcases hpl pl hm with ⟨i,hi,rfl⟩ | ⟨i,j,hi,hj,rfl⟩
  · have:=h1 _ (hg i hi)
    refine rl (by simp [List.intercalate]:[46].intercalate ([i].map fun i=>ws.getD i default)=ws.getD i default) ?_; exact ⟨by omega,this.2⟩
  have a:=h1 _ (hg i hi); have b:=h1 _ (hg j hj); have e:[46].intercalate ([i,j].map fun i=>ws.getD i default)=ws.getD i default++46::ws.getD j default:=by simp [List.intercalate,List.intersperse]
  refine rl e ?_; refine ⟨by refine rl List.length_append (rl List.length_cons ?_); omega,fun c hc=>?_⟩; rcases List.mem_append.mp hc with hc | hc
  · exact a.2 c hc
  rcases List.mem_cons.mp hc with rfl | hc
  · exact hN
  exact b.2 c hc
theorem cI {ws:List (List Nat)} (hw:Words ws):∀ t∈ao ws,t.length≤9∧∀ c∈t,c < 1114112 :=
  kN (m:=4) hw.len (fun w hwm=>⟨hw.short w hwm,hw.small w hwm⟩) (by decide)
theorem fq {ws:List (List Nat)} (hw:Words ws):∀ t∈ao (ws.map markL),t.length≤100∧∀ c∈t,c < 1114112:=by
  intro t ht
  have:=kN (ws:=ws.map markL) (m:=40) (N:=1114112) (by rw [List.length_map,hw.len]) (fun w hwm=>by
    obtain ⟨u,hu,rfl⟩:=List.mem_map.mp hwm; exact kM (hw.short u hu) (hw.small u hu)) (by decide) t ht
  exact ⟨by omega,this.2⟩
end Mine
namespace Mine
mutual
theorem VR.fy {h:Heap} {ι ι':Ad} {X X':List Addr} (hx:∀ a,a ∉ X→a ∉ br ι→a ∉ X'∧a ∉ br ι'):∀ (n:Nat) {x:D} {v:Value},D.ok n x=true→VR h ι X x v→VR h ι' X' x v
  | _,.none,_,_,a=>by refine rl a.none_of ?_; exact .none_
  | _,.bool _,_,_,a=>by refine rl a.dJ ?_; exact .bq
  | _,.int _,_,_,a=>by obtain ⟨t,rfl⟩:=a.bw; exact .fC
  | _,.str _,_,_,a=>by obtain ⟨hl,t,rfl⟩:=a.aM; exact .eL hl
  | 0,.list _,_,e,_=>(Bool.false_ne_true e).elim
  | 0,.tuple _,_,e,_=>(Bool.false_ne_true e).elim
  | n+1,.list xs,_,e,a=>by
    obtain ⟨b,vs,k,rfl,h1,h2,he,hl,r⟩:=a.bx; exact .dZ (hx b h1 h2).1 (hx b h1 h2).2 he hl (aE.fy hx n (fQ e) r)
  | n+1,.tuple xs,_,e,a=>by
    obtain ⟨b,vs,k,rfl,h1,h2,he,hl,r⟩:=a.cZ; exact .fj (hx b h1 h2).1 (hx b h1 h2).2 he hl (aE.fy hx n (fQ e) r)
  | n,.obj _,_,e,_=>(Bool.false_ne_true e).elim
  | n,.val _,_,e,_=>(Bool.false_ne_true e).elim
  | n,.imm _,_,e,_=>(Bool.false_ne_true e).elim
theorem aE.fy {h:Heap} {ι ι':Ad} {X X':List Addr} (hx:∀ a,a ∉ X→a ∉ br ι→a ∉ X'∧a ∉ br ι'):∀ (n:Nat) {xs:List D} {vs:List Value},(∀ x∈xs,D.ok n x=true)→aE h ι X xs vs→aE h ι' X' xs vs
  | _,[],_,_,a=>by refine rl a.nil_of ?_; exact .bJ
  | n,x::xs,_,e,a=>by
    obtain ⟨v,r,rfl,b,c⟩:=a.cons_of; exact .aH (VR.fy hx n (e x (.head _)) b) (aE.fy hx n (fun y hy=>e y (.tail _ hy)) c)
end
theorem aj.frame {C:Cx} {d:Nat} {H:List O} {f:Value} {xs:List D} {Q:D→List O→Prop} (hx:∀ x∈xs,D.ok 8 x=true) (h:aj C d [] f xs fun y H'=>D.ok 8 y=true∧Q y H):aj C d H f xs Q:=fun A env ρ s ι X vs S hv=>by
  have S0:St C d A env [] [] [] (br ι++X) s:=by
    have hX:∀ a∈X,a∈br ι++X:=fun a h=>List.mem_append_right _ h; refine ⟨S.room,S.bR,S.base,S.big,S.gens,S.os,fun a ha=>?_,by simp [br],by simp [br],by simp [br],(fun _ _ e=>by cases e),⟨rfl,fun i p o hp=>by simp at hp⟩,⟨hX _ S.ns.1,S.ns.2⟩,fun n c hc=>⟨hX _ (S.cells n c hc).1,(S.cells n c hc).2⟩,?_,S.toks⟩
    · rcases List.mem_append.mp ha with h | h
      · exact S.is a h
      exact S.xs a h
    obtain ⟨fr,a,b⟩:=S.frs; exact ⟨fr,a,b.aR hX⟩
  refine aC (h A env [] s [] (br ι++X) vs S0 (aE.fy (fun a h1 h2=>⟨fun hm=>(List.mem_append.mp hm).elim h2 h1,by simp [br]⟩) 8 hx hv)) (fun v s' y H' ι' q3_ S' v' g'=>?_) zz; obtain ⟨hok,hq⟩:=q3_; have x1:Ext C.B [] s s':=g'.ext; refine ⟨y,H,ι,hq,(S.quiet x1 S'.toks),VR.fy (fun a h1 _=>⟨fun hm=>h1 (List.mem_append_right _ hm),fun hm=>h1 (List.mem_append_left _ hm)⟩) 8 hok v',.aB (x1.mono bu)⟩
theorem uz {n:Nat} (ih:∀ x,D.ok n x=true→PyData.eqv x.pd x.pd=true) (xs:List D):(∀ x∈xs,D.ok n x=true)→PyData.eqvAll (D.mW xs) (D.mW xs)=true:=by
  induction xs with
  | nil=>exact fun _=>rfl
  | cons x xs hi=>exact fun h=>(Bool.and_eq_true _ _).mpr ⟨ih x (h x (.head _)),hi fun e he=>h e (.tail _ he)⟩
theorem mh (f:List D→Bool) (g:∀ xs,f xs=true→PyData.eqvAll (D.mW xs) (D.mW xs)=true) (x:D) (h:FJ f x=true):PyData.eqv x.pd x.pd=true:=by
  cases x with
  | bool=>exact beq_self_eq_true _
  | int=>exact beq_self_eq_true _
  | str=>exact beq_self_eq_true _
  | list xs=>exact g xs h
  | tuple xs=>exact g xs h
  | _=>exact rfl
theorem eqv_refl (n:Nat):∀ x:D,D.ok n x=true→PyData.eqv x.pd x.pd=true:=by
  induction n with
  | zero=>exact mh _ fun _ h=>(Bool.false_ne_true h).elim
  | succ n ih=>exact mh _ fun xs h=>uz ih xs (fQ h)
section
variable {C:Cx} {d:Nat} {H:List O} {Q:D→List O→Prop}
theorem aO.Gq {A B:List (List Nat)} (hA:∀ p∈A,∀ c∈p,c < 1114112) (hB:∀ p∈B,∀ c∈p,c < 1114112) (hq:Q (.bool (!(A==B))) H):aO C (d+1) H (.list (aq A)) (.list (aq B)) (compareOp .NotEq) Q :=
  aO.cmp ⟨⟨cW hA,cW hB⟩,by rw [pN]; exact hq⟩
theorem aO.Ab {x:List D} (hx:D.ok 8 (.tuple x)=true) (hq:Q (.bool false) H):aO C (d+1) H (.tuple x) (.tuple x) (compareOp .NotEq) Q :=
  aO.cmp ⟨⟨hx,hx⟩,by refine rl (eqv_refl 8 _ hx) ?_; exact hq⟩
theorem z5 {n:Nat} {st:List (List Nat × Int) × List (List Nat)} (h:lz n st):D.ok 8 (outD st)=true:=by
  refine mY ⟨cW fun t ht c hc=>?_,?_⟩
  · rcases h.d t ht with rfl | rfl <;> (refine rl (List.mem_singleton.mp hc) ?_; decide)
  refine fu fun x hx=>?_; obtain ⟨r,hr,rfl⟩:=List.mem_map.mp hx; exact mY ⟨kK (h.t r hr).2,rfl⟩
end
end Mine
namespace Mine
structure Start (C:Cx) (d:Nat) (A:Around) (s:Shared):Prop where
  room:iX d A
  base:∀ b o,C.h₀.get? b=some o→s.heap.get? b=some o
  big:C.B≤s.heap.objs.size
  gens:s.gens=#[]
  os:s.os=C.os
  frs:A.frames=some []
  toks:C.t0≤s.toks
noncomputable def FO (C:Cx) (d:Nat) (f:Value) (xs:List D) (Q:D→List O→Prop):Prop :=
  ∀ A s vs,Start C d A s→aE s.heap [] [] xs vs→wpAny C.M A (call f vs) (fun v s'=>∃ x H',Q x H'∧(∀ b,x = .bool b→v = .bool b)∧(∀ b o,C.h₀.get? b=some o→s'.heap.get? b=some o)∧s'.gens=#[]∧s'.os=C.os) (fun _ _=>False) s
section
variable {C:Cx} {d:Nat} {Q:D→List O→Prop}
theorem call_top {A:Around} {s:Shared} {f:Addr} {o:Obj} {fd:FuncData} {body:List Stmt} {args:Args} {bs:List (Str × Value)} {ds:List (Str × D)}
    (O:C.Ok) (S:Start C (d+1) A s) (ho:C.h₀.get? f=some o) (hd:o.data = .func fd) (hcd:C.h₀.CodeRec fd.code fd.qualname) (hbody:fd.body = .stmts body) (hclo:fd.closure=[])
    (hg:fd.globals=mainGlobals) (hbl:fd.builtins=builtinsNs) (hco:fd.scope.isCoroutine=false) (hgen:fd.scope.isGenerator=false) (hk:fd.scope.kind = .function)
    (hbind:BindsTo s fd args bs) (hbs:bs.map (·.1)=ds.map (·.1)) (hv:aE s.heap [] [] (ds.map (·.2)) (bs.map (·.2))) (hb:∀ L,∀ p∈ds,binds (callEnvC fd L f) p.1=true)
    (h:∀ L,aa C d (callEnvC fd L f) (cy ds) [] body fun fl _ H'=>Q (gD fl) H') :
    codeAny C.M A (.call (.ref f) args) (CR (fun v s'=>∃ x H',Q x H'∧(∀ b,x = .bool b→v = .bool b)∧(∀ b o,C.h₀.get? b=some o→s'.heap.get? b=some o)∧s'.gens=#[]∧s'.os=C.os) fun _ _=>False) s:=by
  have hlim:=O.nolimit.keeps S.base; refine codeAny_call_function (FL S.room.depth) (S.base _ _ ho) hd hco hgen hbody (hcd.keeps S.base) (hbind _ _ _ _ ?_); refine rl hclo ?_; simp only [newFunctionEnv,Option.isSome_none,Bool.false_eq_true,if_false]; refine wpAny_bind (wpAny_alloc ?_); refine wpAny_bind (wpAny_layCells _ (fun name kind cells=>by cases hkc:kind==NameKind.cell <;> rfl) _ _ _ _ ?_); have ok:=cellsFrom_ok fd.scope.names (s.heap.push { cls:=.type "frame",data:=.dict #[] }) (s.heap.objs.size+1) [] ⟨fun _ _ hm=>(nomatch hm),List.Pairwise.nil⟩ (by rw [Heap.size_push]; exact Nat.le_refl _); rw [Heap.size_push] at ok; refine rl (show ({ s with heap:=s.heap.push { cls:=.type "frame",data:=.dict #[] } }:Shared).heap.objs.size=s.heap.objs.size+1 from Heap.size_push ..) ?_; generalize hh1:pushCells (s.heap.push { cls:=.type "frame",data:=.dict #[] }) fd.scope.names=h1 at ok; have keep1:∀ b o,s.heap.get? b=some o→h1.get? b=some o:=fun b o e=>hh1 ▸ pushCells_keeps _ _ b o (Heap.get?_push_of_some _ e)
  have size1:s.heap.objs.size+1≤h1.objs.size:=by
    have:=bO fd.scope.names (s.heap.push { cls:=.type "frame",data:=.dict #[] }); rw [hh1,Heap.size_push] at this; exact this
  have x1:Ext C.B [] s { s with heap:=h1 }:=.of_keep rfl rfl (by show _≤h1.objs.size; exact Nat.le_of_succ_le size1) fun b o e _=>keep1 b o e; have gL:h1.get? s.heap.objs.size=some { cls:=.type "frame",data:=.dict #[] }:=hh1 ▸ pushCells_keeps _ _ _ _ (Heap.get?_push_size _ rfl)
  have own:∀ a∈b7 (callEnvC fd s.heap.objs.size f),s.heap.objs.size≤a∧a < h1.objs.size:=fun a ha=>by
    rcases dg ha with rfl | ⟨n,hm⟩
    · exact ⟨Nat.le_refl _,Heap.lt_size gL⟩
    have:=ok.empty n a (mem_of_lookup hm); exact ⟨Nat.le_of_succ_le this.2,this.1.lt⟩
  have S1:St C d (A.deeper (callEnvC fd s.heap.objs.size f)) (callEnvC fd s.heap.objs.size f) [] [] [] (b7 (callEnvC fd s.heap.objs.size f)) { s with heap:=h1 }:=by
    refine ⟨⟨?_,?_,S.room.handled,S.room.guards⟩,⟨hk,hg,hbl,ok.apart⟩,fun b o e=>keep1 b o (S.base b o e),Nat.le_trans S.big x1.size,S.gens,S.os,fun a ha=>?_,(fun a ha=>by cases ha),List.nodup_nil,(fun a ha=>by cases ha),(fun _ _ e=>by cases e),⟨rfl,fun i p o hp=>by simp at hp⟩,?_,?_,?_,S.toks⟩
    · exact AQ S.room.depth
    · exact FN S.room.units
    · exact ⟨Nat.le_trans S.big (own a ha).1,(own a ha).2⟩
    · exact ⟨.head _,_,(hh1 ▸ (Heap.Ns.new s.heap (.type "frame")).keeps (pushCells_keeps _ _):h1.Ns s.heap.objs.size fun _=>none)⟩
    · intro n c hc
      exact ⟨.tail _ (gb hc),none,(ok.empty n c (mem_of_lookup hc)).1⟩
    refine ⟨callEnvC fd s.heap.objs.size f::[],Around.frames_deeper S.frs,fun fe hfe=>?_⟩; rcases List.mem_cons.mp hfe with rfl | hfe
    · exact ⟨by show fd.scope.kind≠_; refine rl hk ?_; simp,_,_,_,_,rfl,.head _,gL,rfl,rfl⟩
    cases hfe
  refine wpAny_bind (iT (env:=callEnvC fd s.heap.objs.size f) _ (fun _ _ _=>rfl) bs ds [] { s with heap:=h1 } _ S1 hbs (aE.gr (.aB (x1.mono bu)) (aE.aR (fun a ha=>.inr (own a ha).1:∀ a∈b7 (callEnvC fd s.heap.objs.size f),a∈([]:List Addr) ∨ s.heap.objs.size≤a) hv)) (hb _) (fun a ha=>ha) fun s2 S2 g2=>wpAny_pure ?_); refine ⟨O.nolimit.keeps S2.base,codeAny_func (j9 (h _ _ s2 [] _ S2) (fun fl s3 x ρ' H' ι' hq S3 hr g3=>?_) zz)⟩; refine ⟨gD x,H',hq,fun b hb=>?_,S3.base,S3.gens,S3.os⟩
  cases x with
  | ret y =>
    obtain ⟨v,rfl,hv⟩:=hr; have hb:y = .bool b:=hb; subst hb; exact hv.dJ
  | next=>cases hb
  | brk=>cases hb
  | cont=>cases hb
theorem FO.fn {a:Addr} {st:Stmt} {dv:Value} {xs:List D} {ns:List Str} (O:C.Ok) (F:FnAt C a st dv) (hk:(aK st).kind = .function) (hco:(aK st).isCoroutine=false) (hgen:(aK st).isGenerator=false) (hl:xs.length=ns.length)
    (hbind:∀ name qual kwd doc pm ann cd ct (vs:List Value),vs.length=ns.length→bindArgs ⟨name,qual,eG st,.stmts (fnBody st),aK st,mainGlobals,[],dv,kwd,doc,pm,ann,cd,ct,builtinsNs⟩ ⟨vs,[]⟩=pure (ns.zip vs))
    (hb:∀ q cd L,ns.all (fun p=>binds (b8 st q cd L a) p)=true)
    (h:∀ q cd L,aa C d (b8 st q cd L a) (cy (ns.zip xs)) [] (fnBody st) fun fl _ H'=>Q (gD fl) H'):FO C (d+1) (.ref a) xs Q:=fun A s vs S hv=>by
  obtain ⟨o,name,qual,kwd,doc,pm,ann,cd,ct,ho,hd,hcd⟩:=F.ex; have hlen:=hv.length; refine wpAny_call (call_top (bs:=ns.zip vs) (ds:=ns.zip xs) O S ho hd hcd rfl rfl rfl rfl hco hgen hk (.of_eq (hbind name qual kwd doc pm ann cd ct vs (by exact rl hlen (rl hl rfl)))) ?_ ?_ (fun L p hp=>?_) fun L=>h qual cd L)
  · exact rl (List.map_fst_zip (by exact xX hlen hl)) (rl (List.map_fst_zip (by exact Bf hl)) rfl)
  · refine rl (List.map_snd_zip (by exact Be hl)) (rl (List.map_snd_zip (by exact xW hlen hl)) ?_); exact hv
  exact List.all_eq_true.mp (hb qual cd L) p.1 (List.of_mem_zip hp).1
end
theorem ju {k N:Nat} {l:List Nat} (h:∀ c∈l,c < N):∀ p∈aN k l,∀ c∈p,c < N:=fun _ hp c hc=>h c (cE hp hc)
theorem split_len (k:Nat) (l:List Nat):(aN k l).length≤l.length+1:=by have:=dP k l; exact Dt this
theorem jB {N:Nat} {l:List Nat} (h39:39 < N) (h:∀ c∈l,c < N):(aV l).length≤l.length+1∧∀ p∈aV l,∀ c∈p,c < N:=by
  unfold aV; split
  · exact ⟨split_len 46 l,ju h⟩
  refine ⟨by exact Nat.le_add_left [[39]++l].length l.length,fun p hp c hc=>?_⟩; rw [List.mem_singleton.mp hp] at hc; rcases List.mem_append.mp hc with hc | hc
  · refine rl (List.mem_singleton.mp hc) ?_; exact h39
  exact h c hc
theorem ya {rows:List (List (List Nat))} (h:∀ R∈rows,∀ p∈R,∀ c∈p,c < 1114112):D.ok 8 (.list (cu rows))=true:=by
  refine fu ?_; intro x hx; obtain ⟨R,hR,rfl⟩:=List.mem_map.mp hx; exact cW (h R hR)
theorem oV (files:List Bool):D.ok 8 (.list (cF files))=true:=by
  refine fu ?_; intro x hx; obtain ⟨b,_,rfl⟩:=List.mem_map.mp hx; cases b
  · exact kK (by simp)
  rfl
theorem r8 (ns:List Nat):D.ok 8 (.list (ns.map fun c:Nat=>.int c))=true:=by
  refine fu ?_; intro x hx; obtain ⟨b,_,rfl⟩:=List.mem_map.mp hx; rfl
noncomputable def jS:List Stmt:=j3 ((fnBody (ak 40)).getD 18 (.Pass ⟨0,0,0,0⟩))
theorem aa.ofEq {C:Cx} {d:Nat} {env:Env} {ρ:Loc} {H:List O} {b' b:List Stmt} {Q:Fl→Loc→List O→Prop} (h:b'=b) (X:aa C d env ρ H b Q):aa C d env ρ H b' Q:=by refine rl h ?_; exact X
noncomputable def m9 (b:Bool) (m:Nat):Option (Option Nat × List Nat × Bool × List Nat)→Option (List (List Nat))
  | none=>none
  | some (st',tok,q,inp')=>if (tok.isEmpty && !q)=true then some [] else (cT b 5000 m st' inp').map (tok :: ·)
noncomputable def Lx (b:Bool) (st:Option Nat) (tok:List Nat) (q:Bool) (inp:List Nat) (ts:List (List Nat)):Prop :=
  inp.length≤1000→∀ n m,inp.length+1≤n→ts.length≤m→m9 b m (dB b n st tok q inp)=some ts
theorem o8 (b:Bool) (m:Nat) (st:Option Nat) (inp:List Nat):cT b 5000 (m+1) st inp=m9 b m (dB b 5000 st [] false inp):=by
  rw [o9]; rfl
section
variable {b:Bool} {st st':Option Nat} {tok tok':List Nat} {q q':Bool} {inp r:List Nat} {ts:List (List Nat)} {c:Nat}
theorem Lx.all {m:Nat} (X:Lx b st [] false inp ts) (hl:inp.length≤1000) (hm:ts.length≤m):cT b 5000 (m+1) st inp=some ts:=by
  rw [o8]; exact X hl 5000 m (by exact DP hl) hm
theorem Lx.go (h:aI b st tok q (some c)=some (false,st',tok',q',none)) (X:Lx b st' tok' q' r ts):Lx b st tok q (c::r) ts:=by
  intro hl n m hn hm; rw [List.length_cons] at hl hn; obtain ⟨n,rfl⟩:∃ k,n=k+1:=⟨n - 1,by exact DO hn hl⟩; rw [fS]; simp only [List.head?_cons,h,List.tail_cons]; exact X (by exact DN hl) n m (by exact Nat.le_of_lt_succ hn) hm
theorem Lx.brk {pb:Option Nat} (h:aI b st tok q inp.head?=some (true,st',tok',q',pb)) (hpb:pb.toList++inp.tail=r) (hr:r.length≤inp.length) (htq:(tok'.isEmpty && !q')=false) (X:Lx b st' [] false r ts):Lx b st tok q inp (tok'::ts):=by
  intro hl n m hn hm; rw [List.length_cons] at hm; obtain ⟨n,rfl⟩:∃ k,n=k+1:=⟨n - 1,by exact DM hn hr⟩; obtain ⟨m,rfl⟩:∃ k,m=k+1:=⟨m - 1,by exact DL hm⟩; rw [fS]; simp only [h,hpb,if_true]; unfold m9; simp only [htq]; refine rl (X.all (by exact DK hr hl) (by exact Nat.le_of_lt_succ hm)) ?_; rfl
theorem Lx.cut (h:aI b st tok q (some c)=some (true,st',tok',q',none)) (htq:(tok'.isEmpty && !q')=false) (X:Lx b st' [] false r ts):Lx b st tok q (c::r) (tok'::ts) :=
  Lx.brk (inp:=c::r) h rfl (by simp) htq X
theorem Lx.back (h:aI b st tok q (some c)=some (true,st',tok',q',some c)) (htq:(tok'.isEmpty && !q')=false) (X:Lx b st' [] false (c::r) ts):Lx b st tok q (c::r) (tok'::ts) :=
  Lx.brk (inp:=c::r) h rfl (by exact Nat.le_refl ((some c).toList++(c::r).tail).length) htq X
theorem Lx.eof (h:aI b st tok q none=some (true,st',tok',q',none)) (htq:(tok'.isEmpty && !q')=false) (X:Lx b st' [] false [] ts):Lx b st tok q [] (tok'::ts) :=
  Lx.brk (inp:=[]) h rfl (by decide) htq X
theorem Lx.fin (h:aI b st [] false none=some (true,st',[],false,none)):Lx b st [] false [] []:=by
  intro hl n m hn hm; rw [List.length_nil] at hn; obtain ⟨n,rfl⟩:∃ k,n=k+1:=⟨n - 1,by exact DJ hn⟩; rw [fS]; simp only [List.head?_nil,h,if_true]; rfl
theorem Lx.same {st2:Option Nat} {tok2:List Nat} {q2:Bool} (h:aI b st tok q (some c)=aI b st2 tok2 q2 (some c)) (X:Lx b st2 tok2 q2 (c::r) ts):Lx b st tok q (c::r) ts:=by
  intro hl n m hn hm; have:=X hl n m hn hm; rw [List.length_cons] at hn; obtain ⟨n,rfl⟩:∃ k,n=k+1:=⟨n - 1,by exact DI hn⟩; rw [fS] at this ⊢; simp only [List.head?_cons,h] at this ⊢; exact this
end
noncomputable def dW (k:Nat) (y l:List Nat):List Nat:=l.flatMap fun c=>if c=k then y else [c]
theorem bk (y x:List Nat) (xs:List (List Nat)) (h:xs≠[]):y.intercalate (x::xs)=x++(y++y.intercalate xs):=by
  cases xs with
  | nil=>exact absurd rfl h
  | cons z r=>rfl
theorem bz (y x:List Nat):y.intercalate [x]=x:=by exact List.intercalate_singleton
theorem fM (k:Nat):∀ l,aN k l≠[]
  | []=>by rw [iB]; exact fun h=>by cases h
  | c::l=>by
    rw [c8]; split
    · exact fun h=>by cases h
    split <;> exact fun h=>by cases h
theorem fV (k:Nat) (y:List Nat):∀ l,y.intercalate (aN k l)=dW k y l
  | []=>by rw [iB,bz]; rfl
  | c::l=>by
    have e:dW k y (c::l)=(if c=k then y else [c])++dW k y l:=rfl; rw [e,← (fV k y l),c8]; split
    · rename_i h
      refine rl (bk _ _ _ (fM k l)) ?_; rfl
    rename_i h
    cases hs:aN k l with
    | nil=>exact absurd hs (fM k l)
    | cons q qs =>
      dsimp only
      cases qs with
      | nil=>rw [bz,bz]; rfl
      | cons z zs=>refine rl (bk y (c::q) (z::zs) (List.cons_ne_nil _ _)) (rl (bk y q (z::zs) (List.cons_ne_nil _ _)) ?_); rfl
theorem iH (l:List Nat):oN l=39::(dW 39 [39,34,39,34,39] l++[39]):=by
  unfold oN; rw [fV]; rfl
theorem eO:∀ c∈cj,c ∉ [32,9,13,10]∧c ∉ [39,34]∧c ∉ [92]∧c≠35:=by decide +kernel
theorem eS:∀ c∈cj,(c=46∧c ∉ zN∧m5.contains [c]=false) ∨ (c∈zN∧c≠46∧m5.contains [c]=false) ∨ (c≠46∧c ∉ zN∧m5.contains [c]=true):=by decide +kernel
theorem xV:∀ b,39 ∉ j7 b∧34 ∉ j7 b:=by decide +kernel
section
variable {b:Bool} {st st':Option Nat} {tok tok':List Nat} {q q':Bool} {inp r:List Nat} {ts:List (List Nat)} {c:Nat}
theorem um (b:Bool) (tok:List Nat) (q:Bool) (nc:Option Nat):aI b (some 97) tok q nc=eN b tok q nc:=rfl
theorem Ai (b:Bool) (tok:List Nat) (q:Bool) (nc:Option Nat):aI b (some 99) tok q nc=kq b tok q nc:=rfl
theorem Aj (b:Bool) (tok:List Nat) (q:Bool) (nc:Option Nat):aI b (some 32) tok q nc=fL b tok q nc:=rfl
theorem Gu (b:Bool) (tok:List Nat) (q:Bool) (nc:Option Nat):aI b (some 39) tok q nc=jt 39 tok nc:=rfl
theorem nP (b:Bool):39 ∉ gY b∧34 ∉ gY b∧39 ∉ eU b:=by cases b <;> decide
theorem gu:∀ (w tok:List Nat) (q:Bool),Lx b (some 97) (tok++w) true r ts→Lx b (some 39) tok q (dW 39 [39,34,39,34,39] w++39::r) ts
  | [],tok,q,X=>by
    rw [List.append_nil] at X; exact Lx.go (by rfl) X
  | c::w,tok,q,X=>by
    have e:dW 39 [39,34,39,34,39] (c::w)=(if c=39 then [39,34,39,34,39] else [c])++dW 39 [39,34,39,34,39] w:=rfl; refine rl e ?_; have X':Lx b (some 97) ((tok++[c])++w) true r ts:=by rw [List.append_assoc]; exact X
    by_cases hc:c=39
    · subst hc
      refine rl (if_pos rfl) ?_; have cq:=nP b; refine Lx.go (st':=some 97) (tok':=tok) (q':=true) (by simp [aI,jt]) ?_; refine Lx.go (st':=some 34) (tok':=tok) (q':=true) (by simp [aI,eN,cq]) ?_; refine Lx.go (st':=some 34) (tok':=tok++[39]) (q':=true) (by simp [aI,jt]) ?_; refine Lx.go (st':=some 97) (tok':=tok++[39]) (q':=true) (by simp [aI,jt]) ?_; refine Lx.go (st':=some 39) (tok':=tok++[39]) (q':=true) (by simp [aI,eN,cq]) ?_; exact (fun q=>gu w (tok++[39]) q X') true
    refine rl (if_neg hc) ?_; refine Lx.go (st':=some 39) (tok':=tok++[c]) (q':=true) ?_ (gu w (tok++[c]) true X'); rw [Gu,jt]; rw [if_neg hc]; split
    · exact rl (if_neg (by decide)) rfl
    rfl
theorem vQ {w:List Nat} (X:Lx b (some 97) (tok++w) true r ts):Lx b (some 97) tok q (oN w++r) ts:=by
  rw [iH,List.cons_append,List.append_assoc]; exact Lx.go (st':=some 39) (tok':=tok) (q':=q) (by simp [aI,eN,(nP b)]) (gu w tok q X)
theorem vR {w:List Nat} (X:Lx b (some 97) w true r ts):Lx b (some 32) [] false (oN w++r) ts:=by
  rw [iH,List.cons_append,List.append_assoc]; exact Lx.go (st':=some 39) (tok':=[]) (q':=false) (by simp [aI,fL,(nP b),(xV b)]) (gu w [] false X)
theorem je:∀ (u tok:List Nat),(∀ c∈u,c∈cj)→Lx false (some 97) (tok++u) q r ts→Lx false (some 97) tok q (u++r) ts
  | [],tok,_,X=>by rw [List.append_nil] at X; exact X
  | c::u,tok,h,X=>by
    have hn:=eO c (h c (.head _)); refine Lx.go (st':=some 97) (tok':=tok++[c]) (q':=q) ?_ (je u (tok++[c]) (fun x hx=>h x (.tail _ hx)) (by rw [List.append_assoc]; exact X)); rw [um,eN]; rw [if_neg hn.1,if_neg (show c ∉ gY false from List.not_mem_nil),if_neg hn.2.1,if_neg hn.2.2.1]; split
    · rfl
    exact rl (if_pos (show mG false=true from rfl)) (rl (if_neg (show c ∉ eU false from List.not_mem_nil)) rfl)
theorem uh:∀ c∈cj,aI false (some 32) [] false (some c)=aI false (some 97) [] false (some c):=fun c h =>
  of_decide_eq_true (List.all_eq_true.mp (show (cj.all fun c=>decide (aI false (some 32) [] false (some c)=aI false (some 97) [] false (some c)))=true by decide +kernel) c h)
theorem e9 {w:List Nat} (h:aJ w=true):w≠[]∧∀ c∈w,c∈cj:=by
  unfold aJ at h; rw [Bool.and_eq_true,List.all_eq_true] at h; refine ⟨fun e=>by rw [e] at h; exact absurd h.1 (by decide),fun c hc=>of_decide_eq_true (h.2 c hc)⟩
theorem sA {w:List Nat} (X:Lx false (some 97) (tok++w) (q || !aJ w) r ts):Lx false (some 97) tok q (markL w++r) ts:=by
  unfold markL; split
  · rename_i h
    rw [h,Bool.not_true,Bool.or_false] at X; exact je w tok (e9 h).2 X
  rename_i h; rw [Bool.eq_false_iff.mpr h,Bool.not_false,Bool.or_true] at X; exact vQ X
theorem sF:∀ (ws:List (List Nat)) (tok:List Nat) (q:Bool),Lx false (some 97) (tok++[46].intercalate ws) (q || ws.any fun w=>!aJ w) r ts→Lx false (some 97) tok q ([46].intercalate (ws.map markL)++r) ts
  | [],tok,q,X=>by
    have e:([46]:List Nat).intercalate []=[]:=rfl; rw [List.map_nil,e,List.nil_append]; rw [e,List.append_nil,List.any_nil,Bool.or_false] at X; exact X
  | [w],tok,q,X=>by
    rw [bz,List.any_cons,List.any_nil,Bool.or_false] at X; rw [List.map_cons,List.map_nil,bz]; exact sA X
  | w::z::ws,tok,q,X=>by
    rw [bk _ _ _ (List.cons_ne_nil _ _),List.any_cons] at X; rw [List.map_cons,bk _ _ _ (by rw [List.map_cons]; exact List.cons_ne_nil _ _),List.append_assoc]; refine sA ?_; have e46:∀ l:List Nat,([46]++l)=[46]++l:=fun _=>rfl; rw [List.append_assoc]; refine je [46] (tok++w) (by decide +kernel) ?_; refine sF (z::ws) (tok++w++[46]) (q || !aJ w) ?_; rw [Bool.or_assoc]
    simpa only [List.append_assoc] using X
theorem ug (w:List Nat):∃ c l,markL w=c::l∧(c∈cj ∨ c=39):=by
  unfold markL; split
  · rename_i h
    obtain ⟨h1,h2⟩:=e9 h
    cases w with
    | nil=>exact absurd rfl h1
    | cons c l=>exact ⟨c,l,rfl,.inl (h2 c (.head _))⟩
  exact ⟨39,_,iH w,.inr rfl⟩
theorem EW:aI false (some 32) [] false (some 39)=aI false (some 97) [] false (some 39):=by decide +kernel
theorem join_cons (w:List Nat) (ws:List (List Nat)):∃ c l,([46]:List Nat).intercalate ((w::ws).map markL)=c::l∧(c∈cj ∨ c=39):=by
  obtain ⟨c,l,e,h⟩:=ug w; refine rl List.map_cons (rl e ?_)
  cases ws with
  | nil=>exact ⟨c,l,bz _ _,h⟩
  | cons z ws=>exact ⟨c,_,by refine rl (bk _ _ _ (by rw [List.map_cons]; exact List.cons_ne_nil _ _)) ?_; rfl,h⟩
theorem jg (w:List Nat) (ws:List (List Nat)):((([46]:List Nat).intercalate (w::ws)).isEmpty && !(w::ws).any fun w=>!aJ w)=false:=by
  by_cases h:aJ w=true
  · obtain ⟨h1,_⟩:=e9 h
    have:([46]:List Nat).intercalate (w::ws)≠[]:=by
      cases ws with
      | nil=>rw [bz]; exact h1
      | cons z ws =>
        rw [bk _ _ _ (List.cons_ne_nil _ _)]; exact fun e=>h1 (List.append_eq_nil_iff.mp e).1
    rw [List.isEmpty_eq_false_iff.mpr this,Bool.false_and]
  rw [List.any_cons,Bool.eq_false_iff.mpr h,Bool.not_false,Bool.true_or,Bool.not_true,Bool.and_false]
theorem sD {w:List Nat} {ws:List (List Nat)} (X:Lx false (some 97) ([46].intercalate (w::ws)) ((w::ws).any fun w=>!aJ w) r ts):Lx false (some 32) [] false ([46].intercalate ((w::ws).map markL)++r) ts:=by
  have Y:Lx false (some 97) [] false ([46].intercalate ((w::ws).map markL)++r) ts:=sF (w::ws) [] false (by rw [List.nil_append,Bool.false_or]; exact X); obtain ⟨c,l,e,h⟩:=join_cons w ws; rw [e] at Y ⊢; refine Lx.same ?_ Y; rcases h with h | rfl
  · exact uh c h
  exact EW
theorem sE:∀ (W:List (List (List Nat))),(∀ ws∈W,ws≠[])→Lx false (some 32) [] false ([32].intercalate (W.map fun ws=>[46].intercalate (ws.map markL))) (W.map fun ws=>[46].intercalate ws)
  | [],_=>Lx.fin (st':=none) rfl
  | [ws],h=>by
    cases ws with
    | nil=>exact absurd rfl (h [] (.head _))
    | cons w ws =>
      rw [List.map_cons,List.map_nil,bz,← List.append_nil ([46].intercalate _)]; refine sD ?_; exact Lx.eof (st':=none) rfl (jg w ws) (Lx.fin (st':=none) rfl)
  | ws::zs::W,h=>by
    cases ws with
    | nil=>exact absurd rfl (h [] (.head _))
    | cons w ws =>
      refine rl List.map_cons (rl (bk _ _ _ (by rw [List.map_cons]; exact List.cons_ne_nil _ _)) ?_); refine sD ?_; refine Lx.cut (st':=some 32) (q':=(w::ws).any fun w=>!aJ w) ?_ (jg w ws) (sE (zs::W) (fun x hx=>h x (.tail _ hx))); have hf:=jg w ws; rw [um,eN]; rw [if_pos (by decide)]
      have:(!(([46]:List Nat).intercalate (w::ws)).isEmpty || (w::ws).any fun w=>!aJ w)=true:=by
        revert hf
        generalize (([46]:List Nat).intercalate (w::ws)).isEmpty=x; generalize ((w::ws).any fun w=>!aJ w)=y; cases x <;> cases y <;> decide
      exact rl this rfl
end
noncomputable abbrev TS:=List (List Nat) × List Nat
noncomputable def Cf (z:Bool) (s:TS) (pre:List (List Nat)) (st:Option Nat) (tok:List Nat) (q:Bool):Prop :=
  (s.2=fU∧st=some 97∧q=false∧tok≠[]∧s.1=pre++[tok]) ∨
  (s.2=iL∧st=some 99∧q=false∧tok≠[]∧s.1=pre++[tok]) ∨
  (z=true∧s.2=bQ∧st=some 97∧q=true∧s.1=pre++[tok]) ∨
  ((s.2=bQ ∨ s.2=cJ)∧st=some 32∧q=false∧tok=[]∧s.1=pre)
noncomputable def Gz (z:Bool) (s:TS) (inp:List Nat) (out:List (List Nat)):Prop :=
  ∀ pre st tok q,Cf z s pre st tok q→∃ ts,out=pre++ts∧Lx true st tok q inp ts
theorem Gz.weak {s:TS} {inp:List Nat} {out:List (List Nat)} (h:Gz true s inp out):Gz false s inp out:=fun pre st tok q c=>h pre st tok q <| by
  rcases c with c | c | c | c
  · exact .inl c
  · exact .inr (.inl c)
  · exact absurd c.1 (by decide)
  exact .inr (.inr (.inr c))
theorem dH {tok:List Nat} (h:tok≠[]) (q:Bool):(tok.isEmpty && q)=false:=by rw [List.isEmpty_eq_false_iff.mpr h,Bool.false_and]
theorem iN {tok:List Nat} (h:tok≠[]) (q:Bool):(!tok.isEmpty || q)=true:=by rw [List.isEmpty_eq_false_iff.mpr h,Bool.not_false,Bool.true_or]
theorem m8:Lx true none [] false [] []:=Lx.fin (st':=none) rfl
theorem Au (s:TS):Gz true s [] s.1:=by
  rintro pre st tok q (⟨_,rfl,rfl,ht,e⟩ | ⟨_,rfl,rfl,ht,e⟩ | ⟨_,_,rfl,rfl,e⟩ | ⟨_,rfl,rfl,rfl,e⟩)
  · exact ⟨[tok],e,Lx.eof (st':=none) rfl (dH ht _) m8⟩
  · exact ⟨[tok],e,Lx.eof (st':=none) rfl (dH ht _) m8⟩
  · exact ⟨[tok],e,Lx.eof (st':=none) rfl (by rw [Bool.not_true,Bool.and_false]) m8⟩
  exact ⟨[],by rw [e,List.append_nil],Lx.fin (st':=none) rfl⟩
theorem we (s:TS) {r:List Nat} {ts:List (List Nat)} (X:Lx true (some 32) [] false r ts):Gz true s (32::r) (s.1++ts):=by
  rintro pre st tok q (⟨_,rfl,rfl,ht,e⟩ | ⟨_,rfl,rfl,ht,e⟩ | ⟨_,_,rfl,rfl,e⟩ | ⟨_,rfl,rfl,rfl,e⟩)
  · refine ⟨tok::ts,by rw [e,List.append_assoc]; rfl,Lx.cut (st':=some 32) (q':=false) ?_ (dH ht _) X⟩
    rw [um,eN,if_pos (by decide),iN ht]
  · refine ⟨tok::ts,by rw [e,List.append_assoc]; rfl,Lx.cut (st':=some 32) (q':=false) ?_ (dH ht _) X⟩
    rw [Ai,kq,if_pos (by decide),iN ht]
  · refine ⟨tok::ts,by rw [e,List.append_assoc]; rfl,Lx.cut (st':=some 32) (q':=true) ?_ (by rw [Bool.not_true,Bool.and_false]) X⟩
    rw [um,eN,if_pos (by decide),Bool.or_true]
  exact ⟨ts,by exact rl e rfl,Lx.go (st':=some 32) (tok':=[]) (q':=false) rfl X⟩
theorem k7 {c:Nat} (h:c∈cj):c ∉ gY true:=fun hm=>(eO c h).2.2.2 (List.mem_singleton.mp hm)
theorem ie:j7 true=zN:=rfl
theorem eW {c:Nat} (h:c=46) (ho:m5.contains [c]=false):aU true [c]=iL:=by
  unfold aU; refine rl ho ?_; subst h; rfl
theorem eV {c:Nat} (h:c≠46) (ho:m5.contains [c]=false):aU true [c]=fU:=by
  unfold aU; refine rl ho ?_; rw [if_pos (by rfl),if_neg]; intro e; have:=eq_of_beq e; exact h (by injection this)
theorem iK {c:Nat} (ho:m5.contains [c]=true):aU true [c]=bQ:=by
  unfold aU; refine rl ho ?_; rfl
theorem pD {toks:List (List Nat)} {c:Nat} {r:List Nat} {out:List (List Nat)} (hc:c∈cj) (G:Gz false (toks++[[c]],aU true [c]) r out):∃ ts,out=toks++ts∧Lx true (some 32) [] false (c::r) ts:=by
  have hn:=eO c hc; have hcom:=k7 hc; rcases eS c hc with ⟨h1,h2,h3⟩ | ⟨h1,h2,h3⟩ | ⟨h1,h2,h3⟩
  · rw [eW h1 h3] at G
    obtain ⟨ts,e,X⟩:=G toks (some 99) [c] false (.inr (.inl ⟨rfl,rfl,rfl,List.cons_ne_nil _ _,rfl⟩)); refine ⟨ts,e,Lx.go ?_ X⟩; rw [Aj,fL,if_neg hn.1,if_neg hcom,if_neg hn.2.2.1,ie,if_neg h2,if_pos (show c∈eU true from h1 ▸ .head _)]
  · rw [eV h2 h3] at G
    obtain ⟨ts,e,X⟩:=G toks (some 97) [c] false (.inl ⟨rfl,rfl,rfl,List.cons_ne_nil _ _,rfl⟩); refine ⟨ts,e,Lx.go ?_ X⟩; rw [Aj,fL,if_neg hn.1,if_neg hcom,if_neg hn.2.2.1,ie,if_pos h1]
  rw [iK h3] at G; obtain ⟨ts,e,X⟩:=G (toks++[[c]]) (some 32) [] false (.inr (.inr (.inr ⟨.inl rfl,rfl,rfl,rfl,rfl⟩))); refine ⟨[c]::ts,by rw [e,List.append_assoc]; rfl,Lx.cut (q':=false) ?_ rfl X⟩; rw [Aj,fL,if_neg hn.1,if_neg hcom,if_neg hn.2.2.1,ie,if_neg h2,if_neg (show c ∉ eU true from fun hm=>h1 (List.mem_singleton.mp hm)),if_neg hn.2.1,if_neg (by decide)]
theorem ki {b:Bool} {s:TS} {u:List Nat} (h:aU b u≠s.2 ∨ aU b u=bQ):aP b s u=(s.1++[u],aU b u):=by
  unfold aP; rw [if_neg]; intro e; rw [Bool.and_eq_true] at e; rcases h with h | h
  · exact h (eq_of_beq e.1)
  rw [h] at e; exact absurd e.2 (by decide)
theorem kj {b:Bool} {s:TS} {u t:List Nat} {pre:List (List Nat)} (h:aU b u=s.2) (h2:aU b u≠bQ) (e:s.1=pre++[t]):aP b s u=(pre++[t++u],s.2):=by
  unfold aP; refine rl (if_pos (by rw [Bool.and_eq_true]; exact ⟨by rw [h]; exact beq_self_eq_true _,by rw [bne_iff_ne]; exact h2⟩)) ?_; refine rl e (rl List.reverse_append ?_); simp [h]
theorem rF {c:Nat} {tok:List Nat} {q:Bool} (hc:c∈cj) (hw:c ∉ zN) (ht:(!tok.isEmpty || q)=true):aI true (some 97) tok q (some c)=some (true,some 32,tok,q,some c):=by
  have hn:=eO c hc; rw [um,eN,if_neg hn.1,if_neg (k7 hc),if_neg hn.2.1,if_neg hn.2.2.1,ie,if_neg hw,if_neg (by decide),if_pos rfl,ht]
theorem rE {c:Nat} {tok:List Nat} {q:Bool} (h1:c ∉ [32,9,13,10]) (h2:c≠35) (hw:c≠46):aI true (some 99) tok q (some c)=some (true,some 32,tok,q,some c):=by
  rw [Ai,kq,if_neg h1,if_neg (show c ∉ gY true from fun hm=>h2 (List.mem_singleton.mp hm)),if_neg (show c ∉ eU true from fun hm=>hw (List.mem_singleton.mp hm)),if_pos rfl]
theorem kinds:iL≠fU∧bQ≠fU∧iL≠bQ∧fU≠iL∧bQ≠iL∧fU≠bQ∧iL≠cJ∧fU≠cJ∧bQ≠cJ:=by decide
theorem sN {z:Bool} {s:TS} {c:Nat} {r:List Nat} {out:List (List Nat)} (hc:c∈cj) (hz:z=true→c=46) (G:Gz false (aP true s [c]) r out):Gz z s (c::r) out:=by
  obtain ⟨n1,n2,n3,n4,n5,n6,n7,n8,n9⟩:=kinds; have hn:=eO c hc; have hcom:=k7 hc
  have new:∀ {pre:List (List Nat)} {st:Option Nat} {tok:List Nat} {q:Bool},(aU true [c]≠s.2 ∨ aU true [c]=bQ)→s.1=pre++[tok]→(tok.isEmpty && !q)=false→aI true st tok q (some c)=some (true,some 32,tok,q,some c)→∃ ts,out=pre++ts∧Lx true st tok q (c::r) ts:=by
    intro pre st tok q hk e ht hs; rw [ki hk] at G; obtain ⟨ts,e2,X⟩:=pD hc G; exact ⟨tok::ts,by rw [e2,e,List.append_assoc]; rfl,Lx.back hs ht X⟩
  rintro pre st tok q (⟨k,rfl,rfl,ht,e⟩ | ⟨k,rfl,rfl,ht,e⟩ | ⟨hz1,k,rfl,rfl,e⟩ | ⟨k,rfl,rfl,rfl,e⟩)
  · rcases eS c hc with ⟨h1,h2,h3⟩ | ⟨h1,h2,h3⟩ | ⟨h1,h2,h3⟩
    · exact new (.inl (by refine rl (eW h1 h3) (rl k ?_); exact n1)) e (dH ht _) (rF hc h2 (iN ht _))
    · rw [kj (by exact rl (eV h2 h3) (rl k rfl)) (by refine rl (eV h2 h3) ?_; exact n6) e] at G
      obtain ⟨ts,e2,X⟩:=G pre (some 97) (tok++[c]) false (.inl ⟨k,rfl,rfl,by exact List.concat_ne_nil c tok,rfl⟩); refine ⟨ts,e2,Lx.go ?_ X⟩; rw [um,eN,if_neg hn.1,if_neg hcom,if_neg hn.2.1,if_neg hn.2.2.1,ie,if_pos h1]
    exact new (.inr (iK h3)) e (dH ht _) (rF hc h2 (iN ht _))
  · rcases eS c hc with ⟨h1,h2,h3⟩ | ⟨h1,h2,h3⟩ | ⟨h1,h2,h3⟩
    · rw [kj (by exact rl (eW h1 h3) (rl k rfl)) (by refine rl (eW h1 h3) ?_; exact n3) e] at G
      obtain ⟨ts,e2,X⟩:=G pre (some 99) (tok++[c]) false (.inr (.inl ⟨k,rfl,rfl,by exact List.concat_ne_nil c tok,rfl⟩)); refine ⟨ts,e2,Lx.go ?_ X⟩; rw [Ai,kq,if_neg hn.1,if_neg hcom,if_pos (show c∈eU true from h1 ▸ .head _)]
    · exact new (.inl (by refine rl (eV h2 h3) (rl k ?_); exact n4)) e (dH ht _) (rE hn.1 hn.2.2.2 h2)
    exact new (.inr (iK h3)) e (dH ht _) (rE hn.1 hn.2.2.2 h1)
  · have h46:=hz hz1
    rcases eS c hc with ⟨h1,h2,h3⟩ | ⟨h1,h2,h3⟩ | ⟨h1,h2,h3⟩
    · exact new (.inl (by rw [eW h1 h3,k]; exact n3)) e (by rw [Bool.not_true,Bool.and_false]) (rF hc h2 (by rw [Bool.or_true]))
    · exact absurd h46 h2
    exact absurd h46 h1
  have hk:aU true [c]≠s.2 ∨ aU true [c]=bQ:=by
    rcases eS c hc with ⟨h1,h2,h3⟩ | ⟨h1,h2,h3⟩ | ⟨h1,h2,h3⟩
    · refine .inl ?_
      refine rl (eW h1 h3) ?_; rcases k with k | k <;> rw [k] <;> assumption
    · refine .inl ?_
      refine rl (eV h2 h3) ?_; rcases k with k | k <;> rw [k] <;> assumption
    exact .inr (iK h3)
  rw [ki hk] at G; obtain ⟨ts,e2,X⟩:=pD hc G; exact ⟨ts,by exact rl e2 (rl e rfl),X⟩
theorem sO:∀ (u:List Nat) (s:TS) {r:List Nat} {out:List (List Nat)},(∀ c∈u,c∈cj)→Gz false ((u.map fun c=>[c]).foldl (aP true) s) r out→Gz false s (u++r) out
  | [],s,r,out,_,G=>G
  | c::u,s,r,out,h,G=>sN (h c (.head _)) (fun e=>by cases e) (sO u _ (fun x hx=>h x (.tail _ hx)) G)
theorem sM {w:List Nat} {s:TS} {r:List Nat} {out:List (List Nat)} (hs:s.2=iL ∨ s.2=cJ) (G:Gz true (bC s w) r out):Gz false s (markL w++r) out:=by
  obtain ⟨n1,n2,n3,n4,n5,n6,n7,n8,n9⟩:=kinds; unfold bC cR at G; unfold markL; split
  · rename_i h
    rw [h,if_pos rfl] at G; exact sO w s (e9 h).2 G.weak
  rename_i h; rw [Bool.eq_false_iff.mpr h] at G; have e1:(if false=true then w.map (fun c=>[c]) else [w])=[w]:=rfl; rw [e1,List.foldl_cons,List.foldl_nil,ki (.inr rfl)] at G; obtain ⟨ts,e,X⟩:=(G s.1 (some 97) w true (.inr (.inr (.inl ⟨rfl,rfl,rfl,rfl,rfl⟩)))); have Y:Lx true (some 32) [] false (oN w++r) ts:=vR X; rintro pre st tok q (⟨k,rfl,rfl,ht,e2⟩ | ⟨k,rfl,rfl,ht,e2⟩ | ⟨hz1,k,rfl,rfl,e2⟩ | ⟨k,rfl,rfl,rfl,e2⟩)
  · rw [k] at hs; rcases hs with hs | hs
    · exact absurd hs n4
    exact absurd hs n8
  · refine ⟨tok::ts,by rw [e,e2,List.append_assoc]; rfl,?_⟩
    rw [iH,List.cons_append] at Y ⊢; exact Lx.back (rE (by decide) (by decide) (by decide)) (dH ht _) Y
  · cases hz1
  exact ⟨ts,by exact rl e (rl e2 rfl),Y⟩
theorem Av {s:TS} {r:List Nat} {out:List (List Nat)} (G:Gz false (bC s [46]) r out):Gz true s (46::r) out:=by
  rw [(rfl:bC s [46]=aP true s [46])] at G; exact sN (by decide +kernel) (fun _=>rfl) G
theorem yM (s:TS):(bC s [46]).2=iL:=by
  have e:bC s [46]=aP true s [46]:=rfl; refine rl e ?_; unfold aP; split <;> rfl
theorem xN (w:List Nat):eB [w]=[w]:=rfl
theorem uZ (w z:List Nat) (ws:List (List Nat)):eB (w::z::ws)=w::[46]::eB (z::ws):=rfl
theorem nk:∀ (w:List Nat) (ws:List (List Nat)) (s:TS) {r:List Nat} {out:List (List Nat)},(s.2=iL ∨ s.2=cJ)→Gz true ((eB (w::ws)).foldl bC s) r out→Gz false s ([46].intercalate ((w::ws).map markL)++r) out
  | w,[],s,r,out,hs,G=>by
    rw [xN,List.foldl_cons,List.foldl_nil] at G; rw [List.map_cons,List.map_nil,bz]; exact sM hs G
  | w,z::ws,s,r,out,hs,G=>by
    rw [uZ,List.foldl_cons,List.foldl_cons] at G; rw [List.map_cons,bk _ _ _ (by rw [List.map_cons]; exact List.cons_ne_nil _ _),List.append_assoc]; exact sM hs (Av (nk z ws _ (.inl (yM _)) G))
theorem sC:∀ (W:List (List (List Nat))),(∀ ws∈W,ws≠[])→Lx true (some 32) [] false ([32].intercalate (W.map fun ws=>[46].intercalate (ws.map markL))) (W.flatMap gM)
  | [],_=>Lx.fin (st':=none) rfl
  | [ws],h=>by
    cases ws with
    | nil=>exact absurd rfl (h [] (.head _))
    | cons w ws =>
      rw [List.map_cons,List.map_nil,bz]; obtain ⟨ts,e,X⟩:=nk w ws ([],cJ) (.inr rfl) (Au _) [] (some 32) [] false (.inr (.inr (.inr ⟨.inr rfl,rfl,rfl,rfl,rfl⟩))); rw [List.flatMap_cons,List.flatMap_nil,List.append_nil]; rw [List.append_nil] at X; have e2:gM (w::ws)=ts:=e; rw [e2]; exact X
  | ws::zs::W,h=>by
    cases ws with
    | nil=>exact absurd rfl (h [] (.head _))
    | cons w ws =>
      refine rl List.map_cons (rl (bk _ _ _ (by rw [List.map_cons]; exact List.cons_ne_nil _ _)) ?_); obtain ⟨ts,e,X⟩:=nk w ws ([],cJ) (.inr rfl) (we _ (sC (zs::W) (fun x hx=>h x (.tail _ hx)))) [] (some 32) [] false (.inr (.inr (.inr ⟨.inr rfl,rfl,rfl,rfl,rfl⟩))); refine rl List.flatMap_cons ?_; refine rl (e:gM (w::ws)++(zs::W).flatMap gM=ts) ?_; exact X
noncomputable def Rest (X:List Nat):Prop:=X=[] ∨ ∃ r,X=46::r
noncomputable def uJ (G:List Nat→Prop) (f:List Nat→List Nat):Prop :=
  ∀ a b,G a→G b→∀ X Y,Rest X→Rest Y→f a++X=f b++Y→a=b∧X=Y
noncomputable def joinR (f:List Nat→List Nat) (A:List (List Nat)):List Nat:=[46].intercalate (A.map f)
noncomputable def dc (f:List Nat→List Nat):List (List Nat)→List Nat
  | []=>[]
  | b::B=>46::joinR f (b::B)
theorem cK (f:List Nat→List Nat) (a:List Nat) (A:List (List Nat)):joinR f (a::A)=f a++dc f A:=by
  cases A with
  | nil=>unfold joinR dc; rw [List.map_cons,List.map_nil,bz,List.append_nil]
  | cons b B=>unfold joinR; refine rl List.map_cons (rl (bk _ _ _ (by rw [List.map_cons]; exact List.cons_ne_nil _ _)) ?_); rfl
theorem gq (f:List Nat→List Nat) (A:List (List Nat)):Rest (dc f A):=by
  cases A with
  | nil=>exact .inl rfl
  | cons b B=>exact .inr ⟨_,rfl⟩
theorem uv {a b:List (List Nat)}:jH a b=true↔∃ r,b=a++r:=by
  unfold jH; rw [beq_iff_eq]
  constructor
  · intro h
    exact ⟨b.drop a.length,by have:=List.take_append_drop a.length b; rw [h] at this; exact this.symm⟩
  rintro ⟨r,rfl⟩; exact rl List.take_left rfl
section
variable {G:List Nat→Prop} {f:List Nat→List Nat}
theorem gQ (U:uJ G f):∀ (a:List Nat) (A:List (List Nat)) (b:List Nat) (B:List (List Nat)),(∀ p∈a::A,G p)→(∀ p∈b::B,G p) →
    ((joinR f (b::B)=joinR f (a::A) ∨ ∃ r,joinR f (b::B)=joinR f (a::A)++46::r)↔∃ r,b::B=(a::A)++r)
  | a,[],b,B,hA,hB=>by
    rw [cK,cK]; have e0:dc f []=[]:=rfl; rw [e0,List.append_nil]
    constructor
    · rintro (h | ⟨r,h⟩)
      · have:=U b a (hB b (.head _)) (hA a (.head _)) (dc f B) [] (gq f B) (.inl rfl) (by rw [h,List.append_nil])
        exact ⟨B,by refine rl this.1 ?_; rfl⟩
      have:=U b a (hB b (.head _)) (hA a (.head _)) (dc f B) (46::r) (gq f B) (.inr ⟨r,rfl⟩) h; exact ⟨B,by refine rl this.1 ?_; rfl⟩
    rintro ⟨r,h⟩
    injection h with h1 h2
    subst h1
    cases B with
    | nil=>exact .inl (List.append_nil _)
    | cons z B=>exact .inr ⟨_,rfl⟩
  | a,a2::A,b,B,hA,hB=>by
    refine rl (cK f b B) (rl (cK f a (a2::A)) ?_); have e1:dc f (a2::A)=46::joinR f (a2::A):=rfl
    constructor
    · intro h
      have key:∃ Y,Rest Y∧f b++dc f B=f a++Y∧(Y=dc f (a2::A) ∨ ∃ r,Y=dc f (a2::A)++46::r):=by
        rcases h with h | ⟨r,h⟩
        · exact ⟨_,gq f _,h,.inl rfl⟩
        exact ⟨dc f (a2::A)++46::r,.inr ⟨_,by rw [e1]; rfl⟩,by rw [h,List.append_assoc],.inr ⟨r,rfl⟩⟩
      obtain ⟨Y,hY,he,hc⟩:=key; obtain ⟨h1,h2⟩:=U b a (hB b (.head _)) (hA a (.head _)) _ _ (gq f B) hY he; subst h1
      cases B with
      | nil =>
        rw [(rfl:dc f []=[])] at h2; subst h2; rcases hc with hc | ⟨r,hc⟩ <;> (rw [e1] at hc; cases hc)
      | cons b2 B =>
        rw [← h2,e1,(rfl:dc f (b2::B)=46::joinR f (b2::B))] at hc
        have:=(gQ U a2 A b2 B (fun p hp=>hA p (.tail _ hp)) (fun p hp=>hB p (.tail _ hp))).mp (by
          rcases hc with hc | ⟨r,hc⟩
          · injection hc with _ hc; exact .inl hc
          rw [List.cons_append] at hc; injection hc with _ hc; exact .inr ⟨r,hc⟩)
        obtain ⟨r,e⟩:=this; exact ⟨r,by refine rl e ?_; rfl⟩
    rintro ⟨r,h⟩
    injection h with h1 h2
    subst h1
    cases B with
    | nil=>cases h2
    | cons b2 B =>
      have e2:dc f (b2::B)=46::joinR f (b2::B):=rfl; have:=(gQ U a2 A b2 B (fun p hp=>hA p (.tail _ hp)) (fun p hp=>hB p (.tail _ hp))).mpr ⟨r,h2⟩; refine rl e1 (rl e2 ?_); rcases this with h | ⟨r,h⟩
      · exact .inl (by exact rl h rfl)
      exact .inr ⟨r,by rw [h,List.append_assoc]; rfl⟩
theorem tZ (U:uJ G f) {A B:List (List Nat)} (nA:A≠[]) (nB:B≠[]) (hA:∀ p∈A,G p) (hB:∀ p∈B,G p) :
    (joinR f B==joinR f A || (joinR f A++[46]).isPrefixOf (joinR f B))=jH A B:=by
  cases A with
  | nil=>exact absurd rfl nA
  | cons a A =>
    cases B with
    | nil=>exact absurd rfl nB
    | cons b B =>
      rw [Bool.eq_iff_iff,Bool.or_eq_true,uv,← gQ U a A b B hA hB,beq_iff_eq,List.isPrefixOf_iff_prefix]; refine or_congr Iff.rfl ⟨fun ⟨r,h⟩=>⟨r,by rw [← h,List.append_assoc]; rfl⟩,fun ⟨r,h⟩=>⟨r,by rw [h,List.append_assoc]; rfl⟩⟩
end
theorem uf {G:List Nat→Prop} {f:List Nat→List Nat} (U:uJ G f) {rows:List (List (List Nat))} (hn:∀ R∈rows,R≠[]) (hG:∀ R∈rows,∀ p∈R,G p) {chosen:List Nat} (hc:∀ c∈chosen,c < rows.length) {files:List Bool} {k:Nat} (hk:k < rows.length) :
    bG (chosen.map fun c=>(rows.map (joinR f)).getD c default) (files.getD k default) ((rows.map (joinR f)).getD k default)=nH rows chosen files k:=by
  have hget:∀ c,c < rows.length→(rows.map (joinR f)).getD c default=joinR f (rows.getD c default)∧rows.getD c default∈rows:=fun c h=>by
    rw [List.getD_eq_getElem?_getD,List.getD_eq_getElem?_getD,List.getElem?_map,List.getElem?_eq_getElem h]; exact ⟨rfl,List.getElem_mem _⟩
  unfold bG nH
  have:((chosen.map fun c=>(rows.map (joinR f)).getD c default).contains ((rows.map (joinR f)).getD k default) || (chosen.map fun c=>(rows.map (joinR f)).getD c default).any fun m=>(m++[46]).isPrefixOf ((rows.map (joinR f)).getD k default))=decide (0 < (chosen.filter fun c=>jH (rows.getD c default) (rows.getD k default)).length):=by
    rw [(hget k hk).1,Bool.eq_iff_iff,Bool.or_eq_true,decide_eq_true_eq,List.contains_iff_mem,List.any_eq_true,List.length_pos_iff_exists_mem]
    have one:∀ c∈chosen,((joinR f (rows.getD k default)=joinR f (rows.getD c default) ∨ ((joinR f (rows.getD c default)++[46]).isPrefixOf (joinR f (rows.getD k default)))=true)↔jH (rows.getD c default) (rows.getD k default)=true):=fun c h=>by
      rw [← tZ U (hn _ (hget c (hc c h)).2) (hn _ (hget k hk).2) (hG _ (hget c (hc c h)).2) (hG _ (hget k hk).2),Bool.or_eq_true,beq_iff_eq]
    constructor
    · rintro (h | ⟨m,h,hp⟩)
      · obtain ⟨c,hcm,e⟩:=List.mem_map.mp h
        rw [(hget c (hc c hcm)).1] at e; exact ⟨c,List.mem_filter.mpr ⟨hcm,(one c hcm).mp (.inl e.symm)⟩⟩
      obtain ⟨c,hcm,e⟩:=List.mem_map.mp h; rw [(hget c (hc c hcm)).1] at e; subst e; exact ⟨c,List.mem_filter.mpr ⟨hcm,(one c hcm).mp (.inr hp)⟩⟩
    rintro ⟨c,h⟩; obtain ⟨hcm,hp⟩:=List.mem_filter.mp h; rcases (one c hcm).mpr hp with e | e
    · exact .inl (List.mem_map.mpr ⟨c,hcm,by refine rl ((hget c (hc c hcm)).1) ?_; exact e.symm⟩)
    exact .inr ⟨_,List.mem_map.mpr ⟨c,hcm,(hget c (hc c hcm)).1⟩,e⟩
  exact rl this rfl
theorem fold_same {α β:Type} {f g:α→β→α}:∀ (l:List β) (a:α),(∀ a,∀ x∈l,f a x=g a x)→l.foldl f a=l.foldl g a
  | [],_,_=>rfl
  | x::l,a,h=>by
    refine rl List.foldl_cons (rl List.foldl_cons (rl (h a x (.head _)) ?_)); exact fold_same l _ fun a y hy=>h a y (.tail _ hy)
theorem nU {G:List Nat→Prop} {f:List Nat→List Nat} (U:uJ G f) {rows:List (List (List Nat))} (hl:rows.length=12) (hn:∀ R∈rows,R≠[]) (hG:∀ R∈rows,∀ p∈R,G p) {chosen:List Nat} (hc:∀ c∈chosen,c < 12) {files:List Bool} :
    lK (rows.map (joinR f)) chosen files=pP (rows.map (joinR f)) rows chosen files:=by
  refine fold_same _ _ fun st k hk=>?_; unfold bN bh bT; exact rl (uf U hn hG (by rw [hl]; exact hc) (by rw [hl]; exact List.mem_range.mp hk)) rfl
theorem eT {c:Nat} {X:List Nat} (h:Rest (c::X)):c=46:=by
  rcases h with h | ⟨r,h⟩
  · cases h
  injection h
theorem gK:∀ (a b:List Nat),46 ∉ a→46 ∉ b→∀ X Y,Rest X→Rest Y→a++X=b++Y→a=b∧X=Y
  | [],[],_,_,X,Y,_,_,h=>⟨rfl,h⟩
  | [],c::b,_,hb,X,Y,hX,_,h=>by
    have h:X=c::(b++Y):=h; rw [h] at hX; exact absurd (show 46∈c::b by refine rl (eT hX) ?_; exact .head _) hb
  | c::a,[],ha,_,X,Y,_,hY,h=>by
    have h:c::(a++X)=Y:=h; rw [← h] at hY; exact absurd (show 46∈c::a by refine rl (eT hY) ?_; exact .head _) ha
  | c::a,e::b,ha,hb,X,Y,hX,hY,h=>by
    rw [List.cons_append,List.cons_append] at h
    injection h with h1 h2
    have:=gK a b (fun hm=>ha (.tail _ hm)) (fun hm=>hb (.tail _ hm)) X Y hX hY h2; exact ⟨by exact rl h1 (rl this.1 rfl),this.2⟩
theorem j8:∀ (a b:List Nat),∀ X Y,Rest X→Rest Y→dW 39 [39,34,39,34,39] a++39::X=dW 39 [39,34,39,34,39] b++39::Y→a=b∧X=Y
  | [],[],X,Y,_,_,h=>⟨rfl,by injection h⟩
  | [],c::b,X,Y,hX,_,h=>by
    have e:dW 39 [39,34,39,34,39] (c::b)=(if c=39 then [39,34,39,34,39] else [c])++dW 39 [39,34,39,34,39] b:=rfl; rw [e] at h
    by_cases hc:c=39
    · rw [if_pos hc] at h
      injection h with _ h
      have h:X=34::([39,34,39]++dW 39 [39,34,39,34,39] b++39::Y):=h; rw [h] at hX; exact absurd (eT hX) (by decide)
    rw [if_neg hc] at h
    injection h with h _
    exact absurd h.symm hc
  | c::a,[],X,Y,_,hY,h=>by
    have e:dW 39 [39,34,39,34,39] (c::a)=(if c=39 then [39,34,39,34,39] else [c])++dW 39 [39,34,39,34,39] a:=rfl; rw [e] at h
    by_cases hc:c=39
    · rw [if_pos hc] at h
      injection h with _ h
      have h:34::([39,34,39]++dW 39 [39,34,39,34,39] a++39::X)=Y:=h; rw [← h] at hY; exact absurd (eT hY) (by decide)
    rw [if_neg hc] at h
    injection h with h _
    exact absurd h hc
  | c::a,g::b,X,Y,hX,hY,h=>by
    have e1:dW 39 [39,34,39,34,39] (c::a)=(if c=39 then [39,34,39,34,39] else [c])++dW 39 [39,34,39,34,39] a:=rfl; have e2:dW 39 [39,34,39,34,39] (g::b)=(if g=39 then [39,34,39,34,39] else [g])++dW 39 [39,34,39,34,39] b:=rfl; rw [e1,e2] at h
    by_cases hc:c=39
    · by_cases hg:g=39
      · rw [if_pos hc,if_pos hg,List.append_assoc,List.append_assoc] at h
        have:=j8 a b X Y hX hY (List.append_cancel_left h); exact ⟨by exact rl hc (rl hg (rl this.1 rfl)),this.2⟩
      rw [if_pos hc,if_neg hg] at h
      injection h with h _
      exact absurd h.symm hg
    by_cases hg:g=39
    · rw [if_neg hc,if_pos hg] at h
      injection h with h _
      exact absurd h hc
    rw [if_neg hc,if_neg hg] at h
    injection h with h1 h2
    have:=j8 a b X Y hX hY h2; exact ⟨by exact rl h1 (rl this.1 rfl),this.2⟩
noncomputable def lC (p:List Nat):List Nat:=if p.head?=some 39 then oN p.tail else p
noncomputable def zJ (p:List Nat):Prop:=(39 ∉ p∧46 ∉ p) ∨ ∃ w,p=39::w
theorem dQ {p:List Nat} (h:39 ∉ p):lC p=p:=by
  unfold lC; rw [if_neg]; intro e
  cases p with
  | nil=>cases e
  | cons c p=>injection e with e; exact h (e ▸ .head _)
theorem iE (w:List Nat):lC (39::w)=39::(dW 39 [39,34,39,34,39] w++[39]):=by rw [← iH]; rfl
theorem mixed {a w X Y:List Nat} (h:39 ∉ a) (hX:Rest X) (e:a++X=39::(w++Y)):False:=by
  cases a with
  | nil =>
    have e:X=39::(w++Y):=e; rw [e] at hX; exact absurd (eT hX) (by decide)
  | cons c a =>
    injection e with e _
    exact h (e ▸ .head _)
theorem oz:uJ zJ lC:=by
  rintro a b (⟨ha1,ha2⟩ | ⟨w,rfl⟩) (⟨hb1,hb2⟩ | ⟨v,rfl⟩) X Y hX hY h
  · rw [dQ ha1,dQ hb1] at h
    exact gK a b ha2 hb2 X Y hX hY h
  · rw [dQ ha1,iE] at h
    exact (mixed ha1 hX h).elim
  · rw [dQ hb1,iE] at h
    exact (mixed hb1 hY h.symm).elim
  rw [iE,iE,List.cons_append,List.cons_append,List.append_assoc,List.append_assoc] at h
  injection h with _ h
  have:=j8 w v X Y hX hY h; exact ⟨by exact rl this.1 rfl,this.2⟩
theorem xx:uJ (fun p=>46 ∉ p) id:=fun a b ha hb X Y hX hY h=>gK a b ha hb X Y hX hY h
theorem pM (k:Nat):∀ l,dW k [k] l=l
  | []=>rfl
  | c::l=>by
    have e:dW k [k] (c::l)=(if c=k then [k] else [c])++dW k [k] l:=rfl; refine rl e (rl (pM k l) ?_); split
    · rename_i h; refine rl h ?_; rfl
    rfl
theorem join_split (l:List Nat):[46].intercalate (aN 46 l)=l:=by rw [fV,pM]
theorem cN (k:Nat):∀ (l:List Nat),∀ p∈aN k l,k ∉ p
  | [],p,hp=>by rw [iB,List.mem_singleton] at hp; subst hp; exact List.not_mem_nil
  | c::l,p,hp=>by
    rw [c8] at hp; split at hp
    · rcases List.mem_cons.mp hp with rfl | hp
      · exact List.not_mem_nil
      exact cN k l p hp
    rename_i hck
    cases e:aN k l with
    | nil=>exact absurd e (fM k l)
    | cons q qs =>
      rw [e] at hp; rcases List.mem_cons.mp hp with rfl | hp
      · intro hm
        rcases List.mem_cons.mp hm with h | hm
        · exact hck h.symm
        exact cN k l q (by refine rl e ?_; exact .head _) hm
      exact cN k l p (by refine rl e ?_; exact .tail _ hp)
theorem m7 {f:List Nat→List Nat}:∀ (A:List (List Nat)),(∀ p∈A,f p=p)→A.map f=A
  | [],_=>rfl
  | a::A,h=>by exact rl List.map_cons (rl (h a (.head _)) (rl (m7 A fun p hp=>h p (.tail _ hp)) rfl))
theorem iI (l:List Nat):aV l≠[]:=by
  unfold aV; split
  · exact fM 46 l
  exact List.cons_ne_nil _ _
theorem tC {l:List Nat} (h:aJ l=true):39 ∉ l:=fun hm=>absurd (show (39:Nat)∈[39,34] from .head _) (eO 39 ((e9 h).2 39 hm)).2.1
theorem kH (l:List Nat):∀ p∈aV l,zJ p:=by
  unfold aV; split
  · rename_i h
    exact fun p hp=>.inl ⟨fun hm=>tC h (cE hp hm),cN 46 l p hp⟩
  intro p hp; refine rl (List.mem_singleton.mp hp) ?_; exact .inr ⟨l,rfl⟩
theorem gR (l:List Nat):joinR lC (aV l)=markL l:=by
  unfold aV markL joinR; split
  · rename_i h
    rw [m7 _ fun p hp=>dQ fun hm=>tC h (cE hp hm),join_split]
  rw [List.map_cons,List.map_nil,bz]; rfl
theorem pA (f:List Nat→List Nat):∀ (A B:List (List Nat)),A≠[]→B≠[]→joinR f (A++B)=joinR f A++([46]++joinR f B)
  | [],_,h,_=>absurd rfl h
  | [a],B,_,hB=>by
    cases B with
    | nil=>exact absurd rfl hB
    | cons b B=>refine rl (cK f a []) ?_; show joinR f (a::b::B)=_; refine rl (cK f a (b::B)) ?_; rw [show dc f []=[] from rfl,List.append_nil]; rfl
  | a::a2::A,B,_,hB=>by
    refine rl (cK f a (a2::A)) (rl (show dc f (a2::A)=46::joinR f (a2::A) from rfl) ?_); show joinR f (a::(a2::(A++B)))=_; rw [cK f a,show dc f (a2::(A++B))=46::joinR f (a2::(A++B)) from rfl]; have e:joinR f (a2::(A++B))=joinR f (a2::A)++([46]++joinR f B):=(pA f (a2::A) B (List.cons_ne_nil _ _) hB); rw [e,List.append_assoc]; rfl
theorem l7:∀ (l:List (List Nat)),l≠[]→joinR lC (l.flatMap aV)=[46].intercalate (l.map markL)∧l.flatMap aV≠[]
  | [],h=>absurd rfl h
  | [w],_=>by
    rw [List.flatMap_cons,List.flatMap_nil,List.append_nil,List.map_cons,List.map_nil,bz]; exact ⟨gR w,iI w⟩
  | w::z::l,_=>by
    have ih:=l7 (z::l) (List.cons_ne_nil _ _); rw [List.flatMap_cons,List.map_cons,bk _ _ _ (by rw [List.map_cons]; exact List.cons_ne_nil _ _),pA lC _ _ (iI w) ih.2,gR,ih.1]; exact ⟨rfl,fun h=>iI w (List.append_eq_nil_iff.mp h).1⟩
theorem cS:∀ pl∈aF,pl≠[]∧pl.length≤2∧∀ i∈pl,i < 3:=by decide +kernel
theorem words_of (is:List Int):Words [bM (cM is 0),bM (cM is 1),bM (cM is 2)]:=by
  have short:∀ n:Int,(bM n).length≤4:=fun n=>by
    unfold bM; rw [List.length_map,List.length_range]; refine rl (Int.fdiv_eq_ediv_of_nonneg _ (by decide):(n.fmod 10).fdiv 2=(n.fmod 10) / 2) ?_; exact DH (Int.fmod_nonneg_of_pos n (b:=10) (by decide)) (Int.fmod_lt_of_pos n (b:=10) (by decide))
  refine ⟨rfl,fun w hw=>?_,fun w hw=>?_⟩
  · simp only [List.mem_cons,List.not_mem_nil,or_false] at hw
    rcases hw with rfl | rfl | rfl <;> exact short _
  simp only [List.mem_cons,List.not_mem_nil,or_false] at hw; rcases hw with rfl | rfl | rfl <;> exact j6 _
theorem k8 (n:Int):(aD n).length=3∧∀ c∈aD n,c < 12:=by
  refine ⟨by unfold aD; rw [List.length_map]; rfl,fun c hc=>?_⟩; obtain ⟨k,_,rfl⟩:=List.mem_map.mp hc; exact DG (Int.fmod_nonneg_of_pos (n.fdiv (12 ^ k)) (b:=12) (by decide)) (Int.fmod_lt_of_pos (n.fdiv (12 ^ k)) (b:=12) (by decide))
noncomputable def wordsAt (ws:List (List Nat)) (k:Nat):List (List Nat):=(aF.getD k default).map fun i=>ws.getD i default
section
variable {ws:List (List Nat)} {chosen:List Nat}
theorem gj {k:Nat} (h:k < 12):aF.getD k default∈aF:=by
  refine rl List.getD_eq_getElem?_getD (rl (List.getElem?_eq_getElem (show k < aF.length from h)) ?_); exact List.getElem_mem _
theorem plain_at {k:Nat} (h:k < 12):(ao ws).getD k default=[46].intercalate (wordsAt ws k):=by
  unfold ao wordsAt; refine rl List.getD_eq_getElem?_getD (rl List.getD_eq_getElem?_getD (rl List.getElem?_map (rl (List.getElem?_eq_getElem (show k < aF.length from h)) ?_))); rfl
theorem wg (hw:ws.length=3) {i:Nat} (h:i < 3):(ws.map markL).getD i default=markL (ws.getD i default):=by
  refine rl List.getD_eq_getElem?_getD (rl List.getD_eq_getElem?_getD (rl List.getElem?_map (rl (List.getElem?_eq_getElem (by rw [hw]; exact h)) ?_))); rfl
theorem sy (hw:ws.length=3) {pl:List Nat} (h:∀ i∈pl,i < 3):(pl.map fun i=>(ws.map markL).getD i default)=(pl.map fun i=>ws.getD i default).map markL:=by
  refine rl List.map_map ?_; exact List.map_congr_left fun i hi=>wg hw (h i hi)
theorem ud (hw:ws.length=3) {k:Nat} (h:k < 12):(ao (ws.map markL)).getD k default=[46].intercalate ((wordsAt ws k).map markL):=by
  refine rl (plain_at h) ?_; unfold wordsAt; exact rl (sy hw (cS _ (gj h)).2.2) rfl
theorem qo {k:Nat} (h:k < 12):wordsAt ws k≠[]:=by
  intro e; exact (cS _ (gj h)).1 (List.map_eq_nil_iff.mp e)
theorem gG (hw:Words ws) {k:Nat} (h:k < 12):(wordsAt ws k).length≤2∧∀ w∈wordsAt ws k,w.length≤4:=by
  unfold wordsAt; refine ⟨by rw [List.length_map]; exact (cS _ (gj h)).2.1,fun w hm=>?_⟩; obtain ⟨i,hi,rfl⟩:=List.mem_map.mp hm; refine hw.short _ ?_; refine rl List.getD_eq_getElem?_getD (rl (List.getElem?_eq_getElem (by rw [hw.len]; exact ((cS _ (gj h)).2.2 i hi))) ?_); exact List.getElem_mem _
theorem lR:∀ (ws:List (List Nat)) (st:TS),(∀ w∈ws,w.length≤4)→tot (ws.foldl bC st)≤tot st+9*ws.length
  | [],st,_=>by simp
  | w::ws,st,h=>by
    simp only [List.foldl_cons,List.length_cons]; exact DF (lR ws (bC st w) fun x hx=>h x (.tail _ hx)) (iu (aJ w) (cR w) st) (iY w) (h w (.head _))
theorem qu {l:List (List Nat)} (h1:l.length≤2) (h2:∀ w∈l,w.length≤4):(gM l).length≤36:=by
  have hs:∀ w∈eB l,w.length≤4:=fun w hwm=>by
    obtain ⟨w',hw',hw2⟩:=List.mem_flatMap.mp (List.mem_of_mem_drop hwm); rcases List.mem_cons.mp hw2 with rfl | hw2
    · decide
    refine rl (List.mem_singleton.mp hw2) ?_; exact h2 w' hw'
  have hl:(eB l).length≤4:=by
    refine rl List.length_drop ?_
    have h3:∀ l:List (List Nat),(l.flatMap fun w=>[[46],w]).length=2*l.length:=by
      intro l
      induction l with
      | nil=>rfl
      | cons a l ih =>
        refine rl List.flatMap_cons (rl List.length_append (rl ih (rl (rfl:([[46],a]:List (List Nat)).length=2) (rl List.length_cons ?_)))); exact z9
    rw [h3]; exact DE h1
  have:=lR (eB l) ([],cJ) hs; rw [(rfl:tot (([],cJ):TS)=0)] at this; exact DC hl this
theorem line_eq (hw:ws.length=3) (hc:∀ c∈chosen,c < 12):jG (ao (ws.map markL)) chosen=[32].intercalate ((chosen.map (wordsAt ws)).map fun l=>[46].intercalate (l.map markL)):=by
  unfold jG; refine rl List.map_map ?_
  congr 1
  exact List.map_congr_left fun c h=>ud hw (hc c h)
theorem o7:∀ (l:List (List Nat)),(∀ t∈l,t.length≤100)→([32].intercalate l).length≤101*l.length
  | [],_=>by simp [List.intercalate]
  | [t],h=>by rw [bz]; have:=h t (.head _); simp only [List.length_cons,List.length_nil]; exact DB this
  | t::z::l,h=>by
    have ih:=o7 (z::l) fun x hx=>h x (.tail _ hx); have:=h t (.head _); refine rl (bk _ _ _ (List.cons_ne_nil _ _)) ?_; simp only [List.length_append,List.length_cons,List.length_nil] at ih ⊢; exact DA this ih
theorem pI {f:Nat→List (List Nat)}:∀ (l:List Nat),(∀ c∈l,(f c).length≤36)→(l.flatMap f).length≤36*l.length
  | [],_=>by exact Nat.le_mul_self (List.flatMap f []).length
  | c::l,h=>by
    have:=pI l fun x hx=>h x (.tail _ hx); have:=h c (.head _); refine rl List.flatMap_cons (rl List.length_append (rl List.length_cons ?_)); exact Dz this ‹_›
theorem vv (hw:Words ws) (hl:chosen.length=3) (hc:∀ c∈chosen,c < 12) (files:List Bool):Plain ws chosen files:=by
  have hpn:∀ v:List (List Nat),(ao v).length=12:=fun v=>by unfold ao; rw [List.length_map]; rfl
  have hlen:(jG (ao (ws.map markL)) chosen).length≤1000:=by
    have:=o7 (chosen.map fun k=>(ao (ws.map markL)).getD k default) fun t ht=>by
      obtain ⟨k,hk,rfl⟩:=List.mem_map.mp ht; refine (fq hw _ ?_).1; refine rl List.getD_eq_getElem?_getD (rl (List.getElem?_eq_getElem (by rw [hpn]; exact hc k hk)) ?_); exact List.getElem_mem _
    rw [List.length_map,hl] at this; exact Dy this
  have hne:∀ l∈chosen.map (wordsAt ws),l≠[]:=fun l hm=>by
    obtain ⟨k,hk,rfl⟩:=List.mem_map.mp hm; exact qo (hc k hk)
  refine ⟨?_,?_,?_,?_,?_⟩
  · have e:(chosen.map fun k=>(ao ws).getD k default)=(chosen.map (wordsAt ws)).map fun l=>[46].intercalate l:=by
      refine rl List.map_map ?_; exact List.map_congr_left fun c h=>plain_at (hc c h)
    refine rl e ?_; refine Lx.all (m:=99) ?_ hlen (by rw [List.length_map,List.length_map,hl]; decide); refine rl (line_eq hw.len hc) ?_; exact sE _ hne
  · have e:lT ws chosen=(chosen.map (wordsAt ws)).flatMap gM:=by
      rw [List.flatMap_map]; rfl
    have hm:(lT ws chosen).length≤999:=by
      have:=pI (f:=fun k=>gM (wordsAt ws k)) chosen fun c h=>qu (gG hw (hc c h)).1 (gG hw (hc c h)).2; rw [hl] at this; exact Nat.le_trans this (by decide)
    refine Lx.all (m:=999) ?_ hlen hm; rw [line_eq hw.len hc,e]; exact sC _ hne
  · have e:((ao ws).map (aN 46)).map (joinR id)=ao ws:=by
      refine rl List.map_map ?_; refine m7 _ fun p _=>?_; show [46].intercalate ((aN 46 p).map id)=p; rw [List.map_id,join_split]
    have:=nU xx (rows:=(ao ws).map (aN 46)) (by rw [List.length_map,hpn]) (fun R hR=>by obtain ⟨t,_,rfl⟩:=List.mem_map.mp hR; exact fM 46 t) (fun R hR=>by obtain ⟨t,_,rfl⟩:=List.mem_map.mp hR; exact cN 46 t) hc (files:=files); rw [e] at this; exact this
  · have key:∀ pl∈aF,joinR lC (pl.flatMap fun i=>aV (ws.getD i default))=[46].intercalate (pl.map fun i=>(ws.map markL).getD i default)∧(pl.flatMap fun i=>aV (ws.getD i default))≠[]:=fun pl hm=>by
      have h1:=l7 (pl.map fun i=>ws.getD i default) (fun e=>(cS pl hm).1 (List.map_eq_nil_iff.mp e)); rw [List.flatMap_map] at h1; refine rl (sy hw.len (cS pl hm).2.2) ?_; exact h1
    have e:(fZ ws).map (joinR lC)=ao (ws.map markL):=by
      refine rl List.map_map ?_; exact List.map_congr_left fun pl hm=>(key pl hm).1
    have:=nU oz (rows:=fZ ws) (by unfold fZ; rw [List.length_map]; rfl) (fun R hR=>by obtain ⟨pl,hm,rfl⟩:=List.mem_map.mp hR; exact (key pl hm).2) (fun R hR p hp=>by
      obtain ⟨pl,hm,rfl⟩:=List.mem_map.mp hR; obtain ⟨i,_,hp⟩:=List.mem_flatMap.mp hp
      exact kH _ p hp) hc (files:=files)
    rw [e] at this; exact this
  have e:((ao ws).map aV).map (joinR lC)=(ao ws).map markL:=by
    rw [List.map_map]; exact List.map_congr_left fun t _=>gR t
  have:=nU oz (rows:=(ao ws).map aV) (by rw [List.length_map,hpn]) (fun R hR=>by obtain ⟨t,_,rfl⟩:=List.mem_map.mp hR; exact iI t) (fun R hR=>by obtain ⟨t,_,rfl⟩:=List.mem_map.mp hR; exact kH t) hc (files:=files); rw [e] at this; exact this
end
theorem qy {α:Type} (f:α→Nat) {b:Nat}:∀ l:List α,(∀ i∈l,f i≤b)→(l.map f).sum≤b*l.length
  | [],_=>Nat.zero_le _
  | i::l,h=>by
    rw [List.map_cons,List.sum_cons,List.length_cons,Nat.mul_succ]; exact Ds (h i (.head _)) (qy f l fun j hj=>h j (.tail _ hj))
theorem nu {α β:Type} (f:α→List β) {b:Nat} (l:List α) (h:∀ i∈l,(f i).length≤b):(l.flatMap f).length≤b*l.length:=by
  refine rl List.length_flatMap ?_; exact qy (fun i=>(f i).length) l h
theorem qt {sep:List Nat} {A:List (List Nat)} {l:List Nat} {b:Nat} (h:∀ i∈l,(A.getD i default).length≤b):iw sep (l.map fun i=>A.getD i default)≤(b+sep.length)*l.length:=by
  unfold iw; rw [List.length_map,List.map_map,Nat.add_mul,Nat.mul_comm sep.length]; exact Nat.add_le_add_right (qy (fun i=>(A.getD i default).length) l h) _
theorem lY:∀ pl∈aF,pl.length≤2∧∀ i∈pl,i < 3:=by decide
theorem cA {α:Type} (f:α→List Nat) (l:List α):l.map (fun x=>D.str (T (f x)))=aq (l.map f):=by unfold aq; refine rl List.map_map ?_; rfl
theorem i8 {α:Type} (f:α→List (List Nat)) (l:List α):l.map (fun x=>D.list (aq (f x)))=cu (l.map f):=by unfold cu; refine rl List.map_map ?_; rfl
theorem oB (A B:List (List Nat)):aq A++aq B=aq (A++B):=by unfold aq; exact rl List.map_append rfl
theorem c7 (A:List (List Nat)):(aq A).length=A.length:=by unfold aq; rw [List.length_map]
theorem i6 {α:Type} (f:α→List (List Nat)) (l:List α):(l.flatMap fun x=>aq (f x))=aq (l.flatMap f):=by unfold aq; exact rl List.map_flatMap rfl
theorem item_str {A:List (List Nat)} {k:Nat} (h:k < A.length):d7 (aq A) (k:Int)=some (.str (T (A.getD k default))):=bZ (fun w=>.str (T w)) A rfl h
theorem getD_in {A:List (List Nat)} {k:Nat} (h:k < A.length):A.getD k default∈A:=by refine rl List.getD_eq_getElem?_getD (rl (List.getElem?_eq_getElem h) ?_); exact List.getElem_mem _
theorem mV (ws:List (List Nat)):(ao ws).length=12:=by unfold ao; rw [List.length_map]; rfl
theorem yV (ws:List (List Nat)):(fZ ws).length=12:=by unfold fZ; rw [List.length_map]; rfl
theorem nQ (n:Int):(aD n).length=3:=by unfold aD; rw [List.length_map]; rfl
theorem wu (n:Int):(cU n).length=12:=by unfold cU; rw [List.length_map]; rfl
theorem zG (n:Int) (k:Nat):0≤(n.fdiv (12 ^ k)).fmod 12∧(n.fdiv (12 ^ k)).fmod 12 < 12:=⟨Int.fmod_nonneg_of_pos _ (by decide),Int.fmod_lt_of_pos _ (by decide)⟩
theorem jL {n:Int}:∀ c∈aD n,c < 12:=fun c hc=>by
  obtain ⟨k,_,rfl⟩:=List.mem_map.mp hc; have:=zG n k; exact Dr this
section
variable {ws:List (List Nat)} {n:Int}
theorem lP (hw:Words ws) {i:Nat} (hi:i < 3):ws.getD i default∈ws:=getD_in (by refine rl hw.len ?_; exact hi)
theorem zw (hw:Words ws):∀ w∈ws,(markL w).length≤40∧∀ c∈markL w,c < 1114112:=fun w hwm=>kM (hw.short w hwm) (hw.small w hwm)
theorem Ag (hw:Words ws) {i:Nat} (hi:i < 3):((ws.map markL).getD i default).length≤40:=by
  have hm:=getD_in (A:=ws.map markL) (k:=i) (by rw [List.length_map,hw.len]; exact hi); obtain ⟨w,hwm,e⟩:=List.mem_map.mp hm; refine rr e ?_; exact (zw hw w hwm).1
theorem zh (hw:Words ws):∀ t∈ao ws,(markL t).length≤100∧∀ c∈markL t,c < 1114112:=fun t ht=>by
  have h:=cI hw t ht; have:=(iJ (l:=t)).1; exact ⟨by omega,iJ.2 _ (by decide) (by decide) h.2⟩
theorem AH (hw:Words ws):∀ p∈(ws++ao ws).map markL,∀ c∈p,c < 1114112:=fun p hp=>by
  obtain ⟨w,hwm,rfl⟩:=List.mem_map.mp hp; rcases List.mem_append.mp hwm with h | h
  · exact (zw hw w h).2
  exact (zh hw w h).2
theorem xg (hw:Words ws):∀ w∈ws++ao ws,w.length≤9:=fun w hwm=>by
  rcases List.mem_append.mp hwm with h | h
  · have:=hw.short w h; exact Dq this
  exact (cI hw w h).1
theorem sH (hw:Words ws):iw [32] ((aD n).map fun k=>(ao (ws.map markL)).getD k default)≤1000:=by
  have:=qt (sep:=[32]) (A:=ao (ws.map markL)) (l:=aD n) (b:=100) fun k hk=>(fq hw _ (getD_in (by rw [mV]; exact jL k hk))).1; rw [nQ] at this; simp only [List.length_singleton] at this; exact Dp this
theorem Ak (hw:Words ws):(jG (ao (ws.map markL)) (aD n)).length≤1000:=Nat.le_trans (bH _ _) (sH hw)
theorem A9 (hw:Words ws):∀ t∈(aD n).map fun k=>(ao ws).getD k default,∀ c∈t,c < 1114112:=fun t ht=>by
  obtain ⟨k,hk,rfl⟩:=List.mem_map.mp ht; exact (cI hw _ (getD_in (by rw [mV]; exact jL k hk))).2
theorem vt {k:Nat} (hk:k∈aD n):aF.getD k default∈aF:=getD_in (jL k hk)
theorem rR (hw:Words ws) {k:Nat} (hk:k∈aD n):((aF.getD k default).map fun i=>ws.getD i default).length≤2∧∀ w∈(aF.getD k default).map fun i=>ws.getD i default,w.length≤4∧∀ c∈w,c < 1114112:=by
  obtain ⟨h1,h2⟩:=lY _ (vt hk); refine ⟨by rw [List.length_map]; exact h1,fun w hwm=>?_⟩; obtain ⟨i,hi,rfl⟩:=List.mem_map.mp hwm; exact ⟨hw.short _ (lP hw (h2 i hi)),hw.small _ (lP hw (h2 i hi))⟩
theorem uY {l:List (List Nat)} {P:List Nat→Prop} (h0:P [46]) (h:∀ w∈l,P w):∀ w∈eB l,P w:=fun w hwm=>by
  obtain ⟨w',hw',hw2⟩:=List.mem_flatMap.mp (List.mem_of_mem_drop hwm); rcases List.mem_cons.mp hw2 with rfl | hw2
  · exact h0
  refine rl (List.mem_singleton.mp hw2) ?_; exact h w' hw'
theorem AV (hw:Words ws):∀ t∈lT ws (aD n),∀ c∈t,c < 1114112:=fun t ht=>by
  obtain ⟨k,hk,ht⟩:=List.mem_flatMap.mp ht; refine iy (uY ⟨by decide,by decide⟩ fun w hwm=>?_) t ht; have:=(rR hw hk).2 w hwm; exact ⟨by omega,this.2⟩
theorem xC (hw:Words ws) {k:Nat} (hk:k∈aD n):(gM ((aF.getD k default).map fun i=>ws.getD i default)).length≤10000:=by
  have h1:=iZ (eB ((aF.getD k default).map fun i=>ws.getD i default)) ([],cJ) (uY (by decide) fun w hwm=>by have:=((rR hw hk).2 w hwm).1; exact Bw this)
  have h2:(eB ((aF.getD k default).map fun i=>ws.getD i default)).length≤4:=by
    refine rl List.length_drop ?_; have:=(rR hw hk).1; exact Dn (nu (fun w:List Nat=>([[46],w]:List (List Nat))) (b:=2) ((aF.getD k default).map fun i=>ws.getD i default) fun _ _=>Nat.le_refl _) this
  unfold tot at h1; rw [(rfl:(((([],cJ):List (List Nat) × List Nat).1.map (·.length)).sum+(([],cJ):List (List Nat) × List Nat).1.length)=0)] at h1; have h4:201*(eB ((aF.getD k default).map fun i=>ws.getD i default)).length≤201*4:=Nat.mul_le_mul_left _ h2; exact Dm h2 h1
theorem xD (hw:Words ws):((aD n).flatMap fun k=>aq (gM ((aF.getD k default).map fun i=>ws.getD i default))).length≤30000:=by
  have:=nu (fun k=>aq (gM ((aF.getD k default).map fun i=>ws.getD i default))) (b:=10000) (aD n) fun k hk=>by rw [c7]; exact xC hw hk
  rw [nQ] at this; exact this
theorem zj (hw:Words ws) {i:Nat} (hi:i < 3):(aV (ws.getD i default)).length≤5∧∀ p∈aV (ws.getD i default),∀ c∈p,c < 1114112:=by
  have h1:=jB (N:=1114112) (by decide) (hw.small _ (lP hw hi)); have h2:=hw.short _ (lP hw hi); exact ⟨by omega,h1.2⟩
theorem wV (hw:Words ws) {l:List Nat} (h:∀ i∈l,i < 3):(l.flatMap fun i=>aV (ws.getD i default)).length≤5*l.length:=nu (fun i=>aV (ws.getD i default)) l fun i hi=>(zj hw (h i hi)).1
theorem AE (hw:Words ws):∀ R∈fZ ws,R.length≤10000∧∀ p∈R,∀ c∈p,c < 1114112:=fun R hR=>by
  obtain ⟨pl,hpm,rfl⟩:=List.mem_map.mp hR; obtain ⟨h1,h2⟩:=lY pl hpm; refine ⟨by have:=wV hw h2; exact Dl this h1,fun p hp=>?_⟩; obtain ⟨i,hi,hp⟩:=List.mem_flatMap.mp hp; exact (zj hw (h2 i hi)).2 p hp
theorem A7 (hw:Words ws):∀ R∈(ao ws).map (aN 46),R.length≤10000∧∀ p∈R,∀ c∈p,c < 1114112:=fun R hR=>by
  obtain ⟨t,ht,rfl⟩:=List.mem_map.mp hR; have:=cI hw t ht; exact ⟨by have:=split_len 46 t; omega,ju this.2⟩
theorem A6 (hw:Words ws):∀ R∈(ao ws).map aV,R.length≤10000∧∀ p∈R,∀ c∈p,c < 1114112:=fun R hR=>by
  obtain ⟨t,ht,rfl⟩:=List.mem_map.mp hR; have:=cI hw t ht; have h1:=jB (N:=1114112) (by decide) this.2; exact ⟨by omega,h1.2⟩
theorem EP (hw:Words ws):∀ t∈(ao ws).map markL,t.length≤10000∧∀ c∈t,c < 1114112:=fun t ht=>by
  obtain ⟨u,hu,rfl⟩:=List.mem_map.mp ht; have:=zh hw u hu; exact ⟨by omega,this.2⟩
end
noncomputable def E0 (is:List Int) (ws:List (List Nat)) (n3 n4:Int):Loc:=[("script",.list (is.map .int)),("own",.list [.int 2,.int 304,.int 30208,.int 1311,.int 16]),("numbers",.list ((List.range 5).map fun k=>.int (cM is k))),("words",.list (aq ws)),("marked",.list (aq (ws.map markL))),("places",.list (aF.map fun pl=>.list (pl.map fun i:Nat=>.int i))),("plain",.list (aq (ao ws))),("parted",.list (aq (ao (ws.map markL)))),("whole",.list (aq ((ao ws).map markL))),("chosen",.list ((aD n3).map fun c:Nat=>.int c)),("files",.list (cF (cU n4))),("line",.str (T (jG (ao (ws.map markL)) (aD n3)))),("tokens",.list (aq (lT ws (aD n3)))),("cuts",.list (cu (fZ ws))),("ways",.obj 0)]
noncomputable def Kn (n:Nat) (l ρ:Loc):Prop:=∀ x v,(l.take n).lookup x=some v→ρ.lookup x=some v
theorem Kn.get {n:Nat} {l ρ:Loc} {x:Str} {v:D} (k:Kn n l ρ) (h:(l.take n).lookup x=some v):ρ.lookup x=some v:=k x v h
theorem oZ {x:Str}:∀ {l m:Loc},(l++m).lookup x=(match l.lookup x with | some v=>some v | none=>m.lookup x)
  | [],_=>rfl
  | (y,w)::l,m=>by
    rw [List.cons_append,List.lookup_cons,List.lookup_cons]
    cases x==y with
    | true=>rfl
    | false=>exact oZ
theorem Kn.set {n:Nat} {l ρ:Loc} {x:Str} {v:D} (k:Kn n l ρ) (e:l[n]?=some (x,v)) (f:(l.take n).lookup x=none):Kn (n+1) l (aQ x v ρ):=fun y w h=>by
  rw [List.take_succ,e,oZ] at h; rw [bB]
  by_cases q:y=x
  · subst q
    rw [f] at h; rw [if_pos rfl]; have h2:(match y==y with | true=>some v | false=>none)=some w:=h; rw [beq_self_eq_true] at h2; exact h2
  rw [if_neg q]
  cases hl:(l.take n).lookup y with
  | some u=>rw [hl] at h; exact k y w (hl.trans h)
  | none =>
    rw [hl] at h; have h2:(match y==x with | true=>some v | false=>none)=some w:=h; rw [beq_eq_false_iff_ne.mpr q] at h2; cases h2
section
variable {C:Cx} {d:Nat} {env:Env} {H:List O} {R:Fl→Loc→List O→Prop}
theorem Kn.over {n:Nat} {l ρ:Loc} {x:Str} {v:D} (f:(l.take n).lookup x=none) (k:Kn n l ρ):Kn n l (aQ x v ρ):=fun y w h=>by
  rw [bB,if_neg ?_]
  · exact k y w h
  rintro rfl; rw [f] at h; cases h
theorem aa.kn {n:Nat} {l ρ:Loc} {x:Str} {v:D} {b:List Stmt} (k:Kn n l ρ) (e:l[n]?=some (x,v)) (f:(l.take n).lookup x=none) (h:∀ ρ',Kn (n+1) l ρ'→aa C d env ρ' H b R):aa C d env (aQ x v ρ) H b R:=h _ (k.set e f)
end
section
variable {C:Cx} {d:Nat} {Q:D→List O→Prop}
theorem mJ (W:WF C) {is:List Int} {ws:List (List Nat)} {n3 n4:Int} {q:Str} {cd:Value} {L:Addr} {H:List O} {R:Fl→Loc→List O→Prop} {ρ:Loc} {texts:List (List Nat)} {rows:List (List (List Nat))} (K:Kn 15 (E0 is ws n3 n4) ρ)
    (h1:texts.length=12) (h2:rows.length=12) (h3:∀ t∈texts,t.length≤10000∧∀ c∈t,c < 1114112) (h4:∀ R∈rows,R.length≤10000∧∀ p∈R,∀ c∈p,c < 1114112) (h5:lK texts (aD n3) (cU n4)=pP texts rows (aD n3) (cU n4))
    (hR:R .next (aQ "rows" (.list (cu rows)) (aQ "texts" (.list (aq texts)) ρ)) H):aa C (d+8) (b8 (ak 40) q cd L 851) (aQ "rows" (.list (cu rows)) (aQ "texts" (.list (aq texts)) ρ)) H jS R:=by
  have okst:=lg (ms:=(aD n3).map fun c=>texts.getD c default) (files:=cU n4) h3 (List.range 12) 0 ([(dO,1)],[]) (fun k hk=>by rw [h1]; exact List.mem_range.mp hk) ⟨by exact Nat.le_add_right ([(dO,1)],[]).fst.length 0,rfl,by intro p hp; rw [List.mem_singleton.mp hp]; exact .inr rfl,by intro p hp; rw [List.mem_singleton.mp hp]; decide,by intro t ht; cases ht⟩; have oko:=z5 okst; rw [(rfl:(List.range 12).foldl (bN texts ((aD n3).map fun c=>texts.getD c default) (cU n4)) ([(dO,1)],[])=lK texts (aD n3) (cU n4))] at oko; have hcl:=nQ n3; have hcn:aD n3≠[]:=fun e=>by rw [e] at hcl; cases hcl
  have okt:D.ok 8 (.list (aq texts))=true:=cW fun t ht=>(h3 t ht).2; refine aa.cons ?_; refine EX.if ?_; refine TV.cm ?_ ?_; rotate_left
  · kernel_rfl
  refine EV.cL W.ok W.yC W.sZ.kp ?_ ?_
  · kernel_rfl
  refine az.c ?_; refine EV.nm (.list (aq texts)) ?_ ?_ ?_
  · exact l2 (by kernel_rfl) bV
  · kernel_rfl
  refine az.c ?_; refine EV.nm (.list ((aD n3).map fun c:Nat=>.int c)) ?_ ?_ ?_
  · exact l2 (by kernel_rfl) (l2 (by kernel_rfl) (K.get (by kernel_rfl)))
  · kernel_rfl
  refine az.c ?_; refine EV.nm (.list (cF (cU n4))) ?_ ?_ ?_
  · exact l2 (by kernel_rfl) (l2 (by kernel_rfl) (K.get (by kernel_rfl)))
  · kernel_rfl
  refine az.n ?_; refine aj.frame ?_ (rI W h1 (wu n4) ⟨by exact EB hcl,jL⟩ hcn h3 ⟨oko,?_⟩)
  · intro x hx
    simp only [List.mem_cons,List.not_mem_nil,or_false] at hx; rcases hx with rfl | rfl | rfl
    · exact okt
    · exact r8 _
    exact oV _
  refine EV.cL W.ok W.E7 W.zB.kp ?_ ?_
  · kernel_rfl
  refine az.c ?_; refine EV.nm (.list (aq texts)) ?_ ?_ ?_
  · exact l2 (by kernel_rfl) bV
  · kernel_rfl
  refine az.c ?_; refine EV.nm (.list (cu rows)) ?_ ?_ ?_
  · exact bV
  · kernel_rfl
  refine az.c ?_; refine EV.nm (.list ((aD n3).map fun c:Nat=>.int c)) ?_ ?_ ?_
  · exact l2 (by kernel_rfl) (l2 (by kernel_rfl) (K.get (by kernel_rfl)))
  · kernel_rfl
  refine az.c ?_; refine EV.nm (.list (cF (cU n4))) ?_ ?_ ?_
  · exact l2 (by kernel_rfl) (l2 (by kernel_rfl) (K.get (by kernel_rfl)))
  · kernel_rfl
  refine az.n ?_; refine aj.frame ?_ (wM W ⟨h1,h2,wu n4,⟨by exact EA hcl,jL⟩,h3,h4⟩ ⟨by rw [← h5]; exact oko,?_⟩)
  · intro x hx
    simp only [List.mem_cons,List.not_mem_nil,or_false] at hx; rcases hx with rfl | rfl | rfl | rfl
    · exact okt
    · exact (ya fun R hR=>(h4 R hR).2:D.ok 8 (.list (cu rows))=true)
    · exact r8 _
    exact oV _
  rw [← h5]; refine aO.Ab oko (TR.plain rfl ?_); exact aa.nil (aa.nil hR)
set_option maxHeartbeats 2000000 in
theorem yq (W:WF C) {is:List Int} (hw:Words [bM (cM is 0),bM (cM is 1),bM (cM is 2)]) (hp:Plain [bM (cM is 0),bM (cM is 1),bM (cM is 2)] (aD (cM is 3)) (cU (cM is 4)))
    (hq:∀ H',Q (.bool true) H'):FO C (d+9) (.ref 851) [.list (is.map .int)] Q:=by
  have hz:(16777216:Nat)=sizeLine:=rfl; refine FO.fn (ns:=["script"]) W.ok W.Fb (by kernel_rfl) (by kernel_rfl) (by kernel_rfl) rfl ?_ (fun q cd L=>by kernel_rfl) fun q cd L=>?_
  · exact fun _ _ _ _ _ _ _ _=>gU fun _=>by kernel_rfl
  generalize hws:[bM (cM is 0),bM (cM is 1),bM (cM is 2)]=ws at hw hp; have ew:([0,1,2]:List Nat).map (fun k=>D.str (T (bM (cM is k))))=aq ws:=by rw [← hws]; rfl
  clear hws; generalize hn3:cM is 3=n3 at hp; generalize hn4:cM is 4=n4 at hp; have K:Kn 1 (E0 is ws n3 n4) (cy ((["script"]:List Str).zip [.list (is.map .int)])):=fun _ _ h=>h; generalize cy ((["script"]:List Str).zip [.list (is.map .int)])=ρ at K; refine aa.cons ?_; refine EX.asg ?_ ?_
  · kernel_rfl
  refine EV.list ?_ ?_
  · kernel_rfl
  refine az.c ?_; refine EV.int ?_; refine az.c ?_; refine EV.int ?_; refine az.c ?_; refine EV.int ?_; refine az.c ?_; refine EV.int ?_; refine az.c ?_; refine EV.int ?_; refine az.n ⟨by decide,?_⟩; refine aa.kn K rfl (by kernel_rfl) fun ρ K=>?_; refine aa.cons ?_; refine EX.assign ?_ ?_ ?_
  · kernel_rfl
  · kernel_rfl
  refine EV.cP ?_ ?_
  · kernel_rfl
  refine EV.bS W.ok W.dK .type ?_ ?_
  · kernel_rfl
  refine az.c ?_; refine EV.int ?_; refine az.n ?_; refine aj.fP fun t u v=>⟨_,dm.xS (by exact zp) (by exact zo) (by decide) (by decide),fun Ca=>?_⟩; refine aG (fun i:Nat=>.int (0+(i:Nat))) (fun k=>.int (cM is k)) (by exact trivial) (List.range 5) [] (by decide) (fun k hk P hP=>?_) ?_
  · have hk:=List.mem_range.mp hk
    refine EV.bo ?_; refine EV.sb (fun _ _=>rfl) ?_; refine EV.nm (.list [.int 2,.int 304,.int 30208,.int 1311,.int 16]) ?_ ?_ ?_
    · exact l2 (by kernel_rfl) (jX (by kernel_rfl) (K.get (by kernel_rfl)))
    · kernel_rfl
    refine EV.nm (.int (0+(k:Nat))) ?_ ?_ ?_
    · exact bV
    · kernel_rfl
    refine ⟨.int (Bb k),bZ (fun i=>.int i) [2,304,30208,1311,16] (Int.zero_add _) hk,?_⟩; refine EV.bS W.ok W.Fi .builtin ?_ ?_
    · kernel_rfl
    refine az.c ?_; refine EV.slice ?_; refine EV.nm (.list (is.map .int)) ?_ ?_ ?_
    · exact l2 (by kernel_rfl) (jX (by kernel_rfl) (K.get (by kernel_rfl)))
    · kernel_rfl
    show EV _ _ _ _ _ _ _; refine EV.nm (.int (0+(k:Nat))) ?_ ?_ ?_
    · exact bV
    · kernel_rfl
    show EV _ _ _ _ _ _ _; refine EV.int ?_; refine ⟨is.map .int,some (0+(k:Nat)),none,some 5,rfl,.int _,.none,.int _,by decide,?_⟩; rw [uc]; show az _ _ _ _ _ _ _; refine az.n ?_; refine aj.sum ?_; refine aO.yX ?_; rw [Int.zero_add]; exact hP
  rw [List.nil_append]; refine aa.kn K rfl (by kernel_rfl) fun ρ K=>?_
  have numAt:∀ k:Nat,k < 5→d7 ((List.range 5).map fun k=>D.int (cM is k)) (k:Int)=some (.int (cM is k)):=fun k hk=>by
    have:=bZ (fun k=>D.int (cM is k)) (List.range 5) rfl (by rw [List.length_range]; exact hk); rw [this,List.getD_eq_getElem?_getD,List.getElem?_range hk]; rfl
  refine aa.cons ?_; refine EX.assign ?_ ?_ ?_
  · kernel_rfl
  · kernel_rfl
  refine EV.cP ?_ ?_
  · kernel_rfl
  refine EV.slice ?_; refine EV.nm (.list ((List.range 5).map fun k=>.int (cM is k))) ?_ ?_ ?_
  · exact K.get (by kernel_rfl)
  · kernel_rfl
  show EV _ _ _ _ _ _ _; refine EV.int ?_; refine ⟨_,none,some ((3:Nat):Int),none,rfl,.none,.int _,.none,by simp,?_⟩; rw [kI,(rfl:((List.range 5).map fun k=>D.int (cM is k)).take 3=([0,1,2]:List Nat).map fun k=>D.int (cM is k))]; refine ⟨_,.list,fun Ca=>?_⟩; refine aG (fun k:Nat=>.int (cM is k)) (fun k=>.str (T (bM (cM is k)))) (by exact trivial) [0,1,2] [] (by decide) (fun k hk P hP=>?_) ?_
  · refine EV.cL W.ok W.Aw W.wF.kp ?_ ?_
    · kernel_rfl
    refine az.c ?_; refine EV.nm (.int (cM is k)) ?_ ?_ ?_
    · exact bV
    · kernel_rfl
    refine az.n ?_; exact tM W hP
  rw [List.nil_append,ew]; refine aa.kn K rfl (by kernel_rfl) fun ρ K=>?_; refine aa.cons ?_; refine EX.assign ?_ ?_ ?_
  · kernel_rfl
  · kernel_rfl
  refine EV.cP ?_ ?_
  · kernel_rfl
  refine EV.nm (.list (aq ws)) ?_ ?_ ?_
  · exact K.get (by kernel_rfl)
  · kernel_rfl
  refine ⟨_,.list,fun Ca=>?_⟩; refine aG (fun w:List Nat=>.str (T w)) (fun w=>.str (T (markL w))) (by exact trivial) ws [] ?_ (fun w hwm P hP=>?_) ?_
  · rw [hw.len]; decide
  · refine EV.cL W.ok W.pG W.kU.kp ?_ ?_
    · kernel_rfl
    refine az.c ?_; refine EV.nm (.str (T w)) ?_ ?_ ?_
    · exact bV
    · kernel_rfl
    refine az.n ?_; exact jE W (by have:=hw.short w hwm; exact By this) hP
  rw [List.nil_append,cA]; refine aa.kn K rfl (by kernel_rfl) fun ρ K=>?_; have e1:(fJ 0 (3 - 0:Int).toNat)=([0,1,2]:List Nat).map fun i:Nat=>D.int i:=by kernel_rfl
  refine aa.cons ?_; refine EX.asg ?_ ?_
  · kernel_rfl
  refine EV.bo ?_; refine EV.cP ?_ ?_
  · kernel_rfl
  refine EV.bS W.ok W.dK .type ?_ ?_
  · kernel_rfl
  refine az.c ?_; refine EV.int ?_; refine az.n ?_; refine aj.fP fun t u v=>⟨_,dm.xS (by exact zp) (by exact zo) (by exact Int.neg_ofNat_le_ofNat 1000 3) (by exact x8),fun Ca=>?_⟩; rw [e1]; refine aG (fun i:Nat=>.int i) (fun i=>.list [.int i]) (by exact trivial) [0,1,2] [] (by decide) (fun i hi P hP=>?_) ?_
  · refine EV.list ?_ ?_
    · kernel_rfl
    refine az.c ?_; refine EV.nm (.int i) ?_ ?_ ?_
    · exact bV
    · kernel_rfl
    exact az.n ⟨by show 1≤sizeLine; decide,hP⟩
  refine EV.cP ?_ ?_
  · kernel_rfl
  refine EV.bS W.ok W.dK .type ?_ ?_
  · kernel_rfl
  refine az.c ?_; refine EV.int ?_; refine az.n ?_; refine aj.fP fun t u v=>⟨_,dm.xS (by exact zp) (by exact zo) (by exact Int.neg_ofNat_le_ofNat 1000 3) (by exact x8),fun Ca=>?_⟩; rw [e1]; refine dN (fun i:Nat=>.int i) (fun i=>([0,1,2]:List Nat).map fun j:Nat=>.list [.int i,.int j]) (by exact trivial) [0,1,2] [] (fun i hi acc P hlen hP=>?_) ?_ ?_
  · show EV _ _ _ _ _ _ _
    refine EV.bS W.ok W.dK .type ?_ ?_
    · kernel_rfl
    refine az.c ?_; refine EV.int ?_; refine az.n ?_; refine aj.fP fun t u v=>⟨_,dm.xS (by exact zp) (by exact zo) (by exact Int.neg_ofNat_le_ofNat 1000 3) (by exact x8),?_⟩; rw [e1]; refine aG (fun j:Nat=>.int j) (fun j=>.list [.int i,.int j]) (by exact trivial) [0,1,2] acc (by simpa using hlen) (fun j hj P hP=>?_) ?_
    · refine EV.list ?_ ?_
      · kernel_rfl
      refine az.c ?_; refine EV.nm (.int i) ?_ ?_ ?_
      · exact l2 (by kernel_rfl) bV
      · kernel_rfl
      refine az.c ?_; refine EV.nm (.int j) ?_ ?_ ?_
      · exact bV
      · kernel_rfl
      exact az.n ⟨by show 2≤sizeLine; decide,hP⟩
    exact hP
  · decide
  rw [List.nil_append,List.nil_append]; refine aO.nY (by decide) ?_; rw [(by rfl:(([0,1,2]:List Nat).map fun i:Nat=>D.list [.int i])++(([0,1,2]:List Nat).flatMap fun i:Nat=>([0,1,2]:List Nat).map fun j:Nat=>D.list [.int i,.int j])=aF.map fun pl=>D.list (pl.map fun i:Nat=>D.int i))]; refine aa.kn K rfl (by kernel_rfl) fun ρ K=>?_; refine aa.cons ?_; refine EX.assign ?_ ?_ ?_
  · kernel_rfl
  · kernel_rfl
  refine EV.cP ?_ ?_
  · kernel_rfl
  refine EV.nm (.list (aF.map fun pl=>.list (pl.map fun i:Nat=>.int i))) ?_ ?_ ?_
  · exact K.get (by kernel_rfl)
  · kernel_rfl
  refine ⟨_,.list,fun Ca=>?_⟩; refine aG (fun pl:List Nat=>.list (pl.map fun i:Nat=>.int i)) (fun pl=>.str (T ([46].intercalate (pl.map fun i=>ws.getD i default)))) (by exact trivial) aF [] (by decide) (fun pl hpm P hP=>?_) ?_
  · obtain ⟨hl2,hl3⟩:=lY pl hpm
    refine EV.b5 ?_ ?_
    · kernel_rfl
    refine EV.aY ([46]) ?_ (by decide) ?_
    · kernel_rfl
    refine ⟨_,bY.str PySem.F.slot_str_join PySem.F.type_str_join,.builtin,?_⟩; refine az.c ?_; refine EV.cP ?_ ?_
    · kernel_rfl
    refine EV.nm (.list (pl.map fun i:Nat=>.int i)) ?_ ?_ ?_
    · exact bV
    · kernel_rfl
    refine ⟨_,.list,fun Ca=>?_⟩; refine aG (fun i:Nat=>.int i) (fun i=>.str (T (ws.getD i default))) (by exact trivial) pl [] (by rw [List.length_nil]; exact Bx hz hl2) (fun i hi P hP=>?_) ?_
    · refine EV.sb (fun _ _=>rfl) ?_
      refine EV.nm (.list (aq ws)) ?_ ?_ ?_
      · exact l2 (by kernel_rfl) (jX (by kernel_rfl) (l2 (by kernel_rfl) (jX (by kernel_rfl) (K.get (by kernel_rfl)))))
      · kernel_rfl
      refine EV.nm (.int i) ?_ ?_ ?_
      · exact bV
      · kernel_rfl
      exact ⟨_,item_str (by rw [hw.len]; exact hl3 i hi),hP⟩
    rw [List.nil_append,cA]; show az _ _ _ _ _ _ _; refine az.n ?_; refine aj.sJ ?_ hP; have:=qt (sep:=[46]) (A:=ws) (l:=pl) (b:=40) fun i hi=>Nat.le_trans (hw.short _ (lP hw (hl3 i hi))) (by decide); rw [List.length_singleton] at this; omega
  rw [List.nil_append,cA]; refine aa.kn K rfl (by kernel_rfl) fun ρ K=>?_; refine aa.cons ?_; refine EX.assign ?_ ?_ ?_
  · kernel_rfl
  · kernel_rfl
  refine EV.cP ?_ ?_
  · kernel_rfl
  refine EV.nm (.list (aF.map fun pl=>.list (pl.map fun i:Nat=>.int i))) ?_ ?_ ?_
  · exact K.get (by kernel_rfl)
  · kernel_rfl
  refine ⟨_,.list,fun Ca=>?_⟩; refine aG (fun pl:List Nat=>.list (pl.map fun i:Nat=>.int i)) (fun pl=>.str (T ([46].intercalate (pl.map fun i=>(ws.map markL).getD i default)))) (by exact trivial) aF [] (by decide) (fun pl hpm P hP=>?_) ?_
  · obtain ⟨hl2,hl3⟩:=lY pl hpm
    refine EV.b5 ?_ ?_
    · kernel_rfl
    refine EV.aY ([46]) ?_ (by decide) ?_
    · kernel_rfl
    refine ⟨_,bY.str PySem.F.slot_str_join PySem.F.type_str_join,.builtin,?_⟩; refine az.c ?_; refine EV.cP ?_ ?_
    · kernel_rfl
    refine EV.nm (.list (pl.map fun i:Nat=>.int i)) ?_ ?_ ?_
    · exact bV
    · kernel_rfl
    refine ⟨_,.list,fun Ca=>?_⟩; refine aG (fun i:Nat=>.int i) (fun i=>.str (T ((ws.map markL).getD i default))) (by exact trivial) pl [] (by rw [List.length_nil]; exact Bx hz hl2) (fun i hi P hP=>?_) ?_
    · refine EV.sb (fun _ _=>rfl) ?_
      refine EV.nm (.list (aq (ws.map markL))) ?_ ?_ ?_
      · exact l2 (by kernel_rfl) (jX (by kernel_rfl) (l2 (by kernel_rfl) (jX (by kernel_rfl) (K.get (by kernel_rfl)))))
      · kernel_rfl
      refine EV.nm (.int i) ?_ ?_ ?_
      · exact bV
      · kernel_rfl
      exact ⟨_,item_str (by rw [List.length_map,hw.len]; exact hl3 i hi),hP⟩
    rw [List.nil_append,cA]; show az _ _ _ _ _ _ _; refine az.n ?_; refine aj.sJ ?_ hP; have:=qt (sep:=[46]) (A:=(ws.map markL)) (l:=pl) (b:=40) fun i hi=>Ag hw (hl3 i hi); rw [List.length_singleton] at this; omega
  rw [List.nil_append,cA]; refine aa.kn K rfl (by kernel_rfl) fun ρ K=>?_; have hpls:=cI hw; have hpln:=mV ws; refine aa.cons ?_; refine EX.rJ ?_ ?_ ?_
  · kernel_rfl
  · kernel_rfl
  refine EV.nm (.list (aq (ao ws))) ?_ ?_ ?_
  · exact K.get (by kernel_rfl)
  · kernel_rfl
  refine ⟨_,.list,fun Ca=>?_⟩; refine aG (fun w:List Nat=>.str (T w)) (fun w=>.str (T (markL w))) (by exact trivial) (ao ws) [] ?_ (fun w hwm P hP=>?_) ?_
  · rw [hpln]; decide
  · refine EV.cL W.ok W.pG W.kU.kp ?_ ?_
    · kernel_rfl
    refine az.c ?_; refine EV.nm (.str (T w)) ?_ ?_ ?_
    · exact bV
    · kernel_rfl
    refine az.n ?_; exact jE W (by have:=(hpls w hwm).1; exact Aa this) hP
  rw [List.nil_append,cA]; refine aa.kn K rfl (by kernel_rfl) fun ρ K=>?_; have hall:=AH hw; refine aa.cons ?_; refine EX.if ?_; refine TV.cm ?_ ?_; rotate_left
  · kernel_rfl
  refine EV.cP ?_ ?_
  · kernel_rfl
  refine EV.bo ?_; refine EV.nm (.list (aq ws)) ?_ ?_ ?_
  · exact K.get (by kernel_rfl)
  · kernel_rfl
  refine EV.nm (.list (aq (ao ws))) ?_ ?_ ?_
  · exact K.get (by kernel_rfl)
  · kernel_rfl
  refine aO.nY (by rw [c7,c7,hw.len,hpln]; decide) ?_; rw [oB]; refine ⟨_,.list,fun Ca=>?_⟩; refine aG (fun w:List Nat=>.str (T w)) (fun w=>.str (T (markL w))) (by exact trivial) (ws++ao ws) [] ?_ (fun w hwm P hP=>?_) ?_
  · rw [List.length_append,hw.len,hpln]; decide
  · refine EV.cL W.ok W.yy W.sV.kp ?_ ?_
    · kernel_rfl
    refine az.c ?_; refine EV.nm (.str (T w)) ?_ ?_ ?_
    · exact bV
    · kernel_rfl
    refine az.n ?_; exact qG W (by have:=xg hw w hwm; exact Aa this) hP
  rw [List.nil_append,cA]; refine EV.bo ?_; refine EV.nm (.list (aq (ws.map markL))) ?_ ?_ ?_
  · exact K.get (by kernel_rfl)
  · kernel_rfl
  refine EV.nm (.list (aq ((ao ws).map markL))) ?_ ?_ ?_
  · exact K.get (by kernel_rfl)
  · kernel_rfl
  refine aO.nY (by rw [c7,c7,List.length_map,List.length_map,hw.len,hpln]; decide) ?_; rw [oB,← List.map_append]; refine aO.Gq hall hall (TR.plain rfl ?_); rw [beq_self_eq_true]; refine aa.nil ?_; refine aa.cons ?_; refine EX.rJ ?_ ?_ ?_
  · kernel_rfl
  · kernel_rfl
  refine EV.bS W.ok W.dK .type ?_ ?_
  · kernel_rfl
  refine az.c ?_; refine EV.int ?_; refine az.n ?_; refine aj.fP fun t u v=>⟨_,dm.xS (by exact zp) (by exact zo) (by exact Int.neg_ofNat_le_ofNat 1000 3) (by exact x8),fun Ca=>?_⟩; rw [(rfl:(fJ 0 (3 - 0:Int).toNat)=(List.range 3).map fun i:Nat=>D.int (0+(i:Nat)))]; refine aG (fun i:Nat=>.int (0+(i:Nat))) (fun k=>.int (((n3.fdiv (12 ^ k)).fmod 12).toNat:Nat)) (by exact trivial) (List.range 3) [] (by decide) (fun k hk P hP=>?_) ?_
  · have hk:=List.mem_range.mp hk
    refine EV.bo ?_; refine EV.bo ?_; refine EV.sb (fun _ _=>rfl) ?_; refine EV.nm (.list ((List.range 5).map fun k=>.int (cM is k))) ?_ ?_ ?_
    · exact l2 (by kernel_rfl) (jX (by kernel_rfl) (K.get (by kernel_rfl)))
    · kernel_rfl
    refine EV.int ?_; refine ⟨_,numAt 3 (by decide),?_⟩; rw [hn3]; refine EV.bo ?_; refine EV.int ?_; refine EV.nm (.int (0+(k:Nat))) ?_ ?_ ?_
    · exact bV
    · kernel_rfl
    refine aO.bin ⟨⟨by exact Int.zero_le_ofNat (0+_),by exact Ez hk,by decide⟩,?_⟩; rw [Int.zero_add,Int.toNat_natCast]; refine aO.bin ⟨⟨Int.pow_pos (by decide),i9 (n:=3) (by decide) (by decide) hk⟩,?_⟩; refine EV.int ?_; refine aO.bin ⟨by decide,?_⟩; rw [Int.toNat_of_nonneg (zG n3 k).1] at hP; exact hP
  have ec:(List.range 3).map (fun k:Nat=>D.int (((n3.fdiv (12 ^ k)).fmod 12).toNat:Nat))=(aD n3).map fun c:Nat=>.int c:=by unfold aD; rw [List.map_map]; rfl
  rw [List.nil_append,ec]; refine aa.kn K rfl (by kernel_rfl) fun ρ K=>?_; refine aa.cons ?_; refine EX.rJ ?_ ?_ ?_
  · kernel_rfl
  · kernel_rfl
  refine EV.bS W.ok W.dK .type ?_ ?_
  · kernel_rfl
  refine az.c ?_; refine EV.int ?_; refine az.n ?_; refine aj.fP fun t u v=>⟨_,dm.xS (by exact zp) (by exact zo) (by decide) (by decide),fun Ca=>?_⟩; rw [(rfl:(fJ 0 (12 - 0:Int).toNat)=(List.range 12).map fun i:Nat=>D.int (0+(i:Nat)))]; refine aG (fun i:Nat=>.int (0+(i:Nat))) (fun k=>e7 (decide ((n4.fdiv (2 ^ k)).fmod 2=1))) (by exact trivial) (List.range 12) [] (by decide) (fun k hk P hP=>?_) ?_
  · have hk:=List.mem_range.mp hk
    refine EV.jI ?_; refine TV.cm ?_ ?_; rotate_left
    · kernel_rfl
    refine EV.bo ?_; refine EV.bo ?_; refine EV.sb (fun _ _=>rfl) ?_; refine EV.nm (.list ((List.range 5).map fun k=>.int (cM is k))) ?_ ?_ ?_
    · exact l2 (by kernel_rfl) (jX (by kernel_rfl) (K.get (by kernel_rfl)))
    · kernel_rfl
    refine EV.int ?_; refine ⟨_,numAt 4 (by decide),?_⟩; rw [hn4]; refine EV.bo ?_; refine EV.int ?_; refine EV.nm (.int (0+(k:Nat))) ?_ ?_ ?_
    · exact bV
    · kernel_rfl
    refine aO.bin ⟨⟨by exact Ey hk,by exact Ex hk,by decide⟩,?_⟩; rw [Int.zero_add,Int.toNat_natCast]; refine aO.bin ⟨⟨Int.pow_pos (by decide),i9 (n:=12) (by decide) (by decide) hk⟩,?_⟩; refine EV.int ?_; refine aO.bin ⟨by decide,?_⟩; refine EV.int ?_; refine aO.cmp ?_; show TR _ _ _ _ _; refine TR.plain rfl ?_
    by_cases h1:(n4.fdiv (2 ^ k)).fmod 2=1
    · rw [decide_eq_true h1] at hP
      rw [beq_iff_eq.mpr h1]; show EV _ _ _ _ _ _ _; refine EV.none ?_; exact hP
    rw [decide_eq_false h1] at hP; rw [beq_eq_false_iff_ne.mpr h1]; show EV _ _ _ _ _ _ _; refine EV.aY ([]) ?_ (by decide) ?_
    · kernel_rfl
    exact hP
  have ef:(List.range 12).map (fun k:Nat=>e7 (decide ((n4.fdiv (2 ^ k)).fmod 2=1)))=cF (cU n4):=by unfold cF cU; rw [List.map_map]; rfl
  rw [List.nil_append,ef]; refine aa.kn K rfl (by kernel_rfl) fun ρ K=>?_; have hptn:=mV (ws.map markL); have hcl:=nQ n3; have hll:=Ak (n:=n3) hw; refine aa.cons ?_; refine EX.asg ?_ ?_
  · kernel_rfl
  refine EV.b5 ?_ ?_
  · kernel_rfl
  refine EV.aY ([32]) ?_ (by decide) ?_
  · kernel_rfl
  refine ⟨_,bY.str PySem.F.slot_str_join PySem.F.type_str_join,.builtin,?_⟩; refine az.c ?_; refine EV.cP ?_ ?_
  · kernel_rfl
  refine EV.nm (.list ((aD n3).map fun c:Nat=>.int c)) ?_ ?_ ?_
  · exact K.get (by kernel_rfl)
  · kernel_rfl
  refine ⟨_,.list,fun Ca=>?_⟩; refine aG (fun k:Nat=>.int k) (fun k=>.str (T ((ao (ws.map markL)).getD k default))) (by exact trivial) (aD n3) [] ?_ (fun k hk P hP=>?_) ?_
  · rw [hcl]; decide
  · refine EV.sb (fun _ _=>rfl) ?_
    refine EV.nm (.list (aq (ao (ws.map markL)))) ?_ ?_ ?_
    · exact l2 (by kernel_rfl) (jX (by kernel_rfl) (K.get (by kernel_rfl)))
    · kernel_rfl
    refine EV.nm (.int k) ?_ ?_ ?_
    · exact bV
    · kernel_rfl
    exact ⟨_,item_str (by rw [hptn]; exact jL k hk),hP⟩
  rw [List.nil_append,cA]; show az _ _ _ _ _ _ _; refine az.n ?_; refine aj.sJ (by exact Ew (sH (n:=n3) hw)) ?_; refine aa.kn K rfl (by kernel_rfl) fun ρ K=>?_; have hsm1:=A9 (n:=n3) hw; refine aa.cons ?_; refine EX.if ?_; refine TV.cm ?_ ?_; rotate_left
  · kernel_rfl
  refine EV.cL W.ok W.g_split W.sU.kp ?_ ?_
  · kernel_rfl
  refine az.c ?_; refine EV.nm (.str (T (jG (ao (ws.map markL)) (aD n3)))) ?_ ?_ ?_
  · exact K.get (by kernel_rfl)
  · kernel_rfl
  refine az.n ?_; refine qB W (by exact xZ hll) (by decide) (by decide) hp.split hsm1 ?_; refine EV.cP ?_ ?_
  · kernel_rfl
  refine EV.nm (.list ((aD n3).map fun c:Nat=>.int c)) ?_ ?_ ?_
  · exact K.get (by kernel_rfl)
  · kernel_rfl
  refine ⟨_,.list,fun Ca=>?_⟩; refine aG (fun k:Nat=>.int k) (fun k=>.str (T ((ao ws).getD k default))) (by exact trivial) (aD n3) [] ?_ (fun k hk P hP=>?_) ?_
  · rw [hcl]; decide
  · refine EV.sb (fun _ _=>rfl) ?_
    refine EV.nm (.list (aq (ao ws))) ?_ ?_ ?_
    · exact l2 (by kernel_rfl) (jX (by kernel_rfl) (K.get (by kernel_rfl)))
    · kernel_rfl
    refine EV.nm (.int k) ?_ ?_ ?_
    · exact bV
    · kernel_rfl
    exact ⟨_,item_str (by rw [hpln]; exact jL k hk),hP⟩
  rw [List.nil_append,cA]; refine aO.Gq hsm1 hsm1 (TR.plain rfl ?_); rw [beq_self_eq_true]; refine aa.nil ?_; refine aa.cons ?_; refine EX.rJ ?_ ?_ ?_
  · kernel_rfl
  · kernel_rfl
  refine EV.nm (.list ((aD n3).map fun c:Nat=>.int c)) ?_ ?_ ?_
  · exact K.get (by kernel_rfl)
  · kernel_rfl
  refine ⟨_,.list,fun Ca=>?_⟩; refine dN (fun k:Nat=>.int k) (fun k=>aq (gM ((aF.getD k default).map fun i=>ws.getD i default))) (by exact trivial) (aD n3) [] (fun k hk acc P hlen hP=>?_) ?_ ?_
  · show EV _ _ _ _ _ _ _
    have hpk:=lY _ (vt hk); refine EV.cL W.ok W.wj W.pL.kp ?_ ?_
    · kernel_rfl
    refine az.c ?_; refine EV.cP ?_ ?_
    · kernel_rfl
    refine EV.sb (fun _ _=>rfl) ?_; refine EV.nm (.list (aF.map fun pl=>.list (pl.map fun i:Nat=>.int i))) ?_ ?_ ?_
    · exact l2 (by kernel_rfl) (jX (by kernel_rfl) (K.get (by kernel_rfl)))
    · kernel_rfl
    refine EV.nm (.int k) ?_ ?_ ?_
    · exact bV
    · kernel_rfl
    refine ⟨_,bZ (fun pl:List Nat=>.list (pl.map fun i:Nat=>.int i)) aF rfl (jL k hk),_,.list,fun Ca=>?_⟩; refine aG (fun i:Nat=>.int i) (fun i=>.str (T (ws.getD i default))) (by exact trivial) (aF.getD k default) [] ?_ (fun i hi P hP=>?_) ?_
    · have:=hpk.1
      rw [List.length_nil]; omega
    · refine EV.sb (fun _ _=>rfl) ?_
      refine EV.nm (.list (aq ws)) ?_ ?_ ?_
      · exact l2 (by kernel_rfl) (jX (by kernel_rfl) (l2 (by kernel_rfl) (jX (by kernel_rfl) (K.get (by kernel_rfl)))))
      · kernel_rfl
      refine EV.nm (.int i) ?_ ?_ ?_
      · exact bV
      · kernel_rfl
      exact ⟨_,item_str (by rw [hw.len]; exact hpk.2 i hi),hP⟩
    rw [List.nil_append,cA]; show az _ _ _ _ _ _ _; refine az.n ?_; have hwk:=rR hw hk; refine oA W (fun w hwm=>by have:=(hwk.2 w hwm).1; exact Bw this) (by have:=hwk.1; omega) (fun w hwm=>(hwk.2 w hwm).2) ?_; refine ⟨_,.list,?_⟩; refine aG (fun w:List Nat=>.str (T w)) (fun w=>.str (T w)) (by exact trivial) (gM ((aF.getD k default).map fun i=>ws.getD i default)) acc (by rw [c7] at hlen; exact hlen) (fun w hwm P hP=>?_) hP; refine EV.nm (.str (T w)) ?_ ?_ ?_
    · exact bV
    · kernel_rfl
    exact hP
  · have:=xD (n:=n3) hw
    rw [List.length_nil]; exact Eu hz this
  rw [List.nil_append,i6]; refine aa.kn K rfl (by kernel_rfl) fun ρ K=>?_; have hsm2:=AV (n:=n3) hw; refine aa.cons ?_; refine EX.if ?_; refine TV.cm ?_ ?_; rotate_left
  · kernel_rfl
  refine xB W ?_ ?_ ?_ ?_ ?_ (K.get (by kernel_rfl)) ?_ (by exact xZ hll) (by decide) (by decide) hp.toks hsm2 ?_
  · kernel_rfl
  · kernel_rfl
  · kernel_rfl
  · kernel_rfl
  · kernel_rfl
  · kernel_rfl
  refine EV.nm (.list (aq (lT ws (aD n3)))) ?_ ?_ ?_
  · exact K.get (by kernel_rfl)
  · kernel_rfl
  refine aO.Gq hsm2 hsm2 (TR.plain rfl ?_); rw [beq_self_eq_true]; refine aa.nil ?_; refine aa.cons ?_; refine EX.rJ ?_ ?_ ?_
  · kernel_rfl
  · kernel_rfl
  refine EV.nm (.list (aF.map fun pl=>.list (pl.map fun i:Nat=>.int i))) ?_ ?_ ?_
  · exact K.get (by kernel_rfl)
  · kernel_rfl
  refine ⟨_,.list,fun Ca=>?_⟩; refine aG (fun pl:List Nat=>.list (pl.map fun i:Nat=>.int i)) (fun pl=>.list (aq (pl.flatMap fun i=>aV (ws.getD i default)))) (by exact trivial) aF [] (by decide) (fun pl hpm P hP=>?_) ?_
  · obtain ⟨hl2,hl3⟩:=lY pl hpm
    refine EV.cP ?_ ?_
    · kernel_rfl
    refine EV.nm (.list (pl.map fun i:Nat=>.int i)) ?_ ?_ ?_
    · exact bV
    · kernel_rfl
    refine ⟨_,.list,fun Ca=>?_⟩; refine dN (fun i:Nat=>.int i) (fun i=>aq (aV (ws.getD i default))) (by exact trivial) pl [] (fun i hi acc P hlen hP=>?_) ?_ ?_
    · show EV _ _ _ _ _ _ _
      refine EV.cL W.ok W.pF W.kT.kp ?_ ?_
      · kernel_rfl
      refine az.c ?_; refine EV.sb (fun _ _=>rfl) ?_; refine EV.nm (.list (aq ws)) ?_ ?_ ?_
      · exact l2 (by kernel_rfl) (jX (by kernel_rfl) (l2 (by kernel_rfl) (jX (by kernel_rfl) (K.get (by kernel_rfl)))))
      · kernel_rfl
      refine EV.nm (.int i) ?_ ?_ ?_
      · exact bV
      · kernel_rfl
      refine ⟨_,item_str (by rw [hw.len]; exact hl3 i hi),?_⟩; refine az.n ?_; refine jA W (by have:=hw.short _ (lP hw (hl3 i hi)); exact By this) ?_; refine ⟨_,.list,?_⟩; refine aG (fun w:List Nat=>.str (T w)) (fun w=>.str (T w)) (by exact trivial) (aV (ws.getD i default)) acc (by rw [c7] at hlen; exact hlen) (fun w hwm P hP=>?_) hP; refine EV.nm (.str (T w)) ?_ ?_ ?_
      · exact bV
      · kernel_rfl
      exact hP
    · rw [i6,c7,List.length_nil]; exact Et hz (wV hw hl3) hl2
    rw [List.nil_append,i6]; exact hP
  rw [List.nil_append,i8]; refine aa.kn K rfl (by kernel_rfl) fun ρ K=>?_; refine aa.cons ?_; refine EX.asg ?_ ?_
  · kernel_rfl
  refine EV.sG ?_ ?_
  · kernel_rfl
  refine az.c ?_; refine EV.list ?_ ?_
  · kernel_rfl
  refine az.c ?_; refine EV.nm (.list (aq (ao ws))) ?_ ?_ ?_
  · exact K.get (by kernel_rfl)
  · kernel_rfl
  refine az.c ?_; refine EV.cP ?_ ?_
  · kernel_rfl
  refine EV.nm (.list (aq (ao ws))) ?_ ?_ ?_
  · exact K.get (by kernel_rfl)
  · kernel_rfl
  refine ⟨_,.list,fun Ca=>?_⟩; refine aG (fun w:List Nat=>.str (T w)) (fun w=>.list (aq (aN 46 w))) (by exact trivial) (ao ws) [] ?_ (fun w hwm P hP=>?_) ?_
  · rw [hpln]; decide
  · refine EV.b5 ?_ ?_
    · kernel_rfl
    refine EV.nm (.str (T w)) ?_ ?_ ?_
    · exact bV
    · kernel_rfl
    refine ⟨_,bY.str PySem.F.slot_str_split PySem.F.type_str_split,.builtin,?_⟩; refine az.c ?_; refine EV.aY ([46]) ?_ (by decide) ?_
    · kernel_rfl
    refine az.n ?_; exact aj.qC (by have:=(hpls w hwm).1; exact Bv this) hP
  rw [List.nil_append,i8]; show az _ _ _ _ _ _ _; refine az.n ⟨by show 2≤sizeLine; decide,?_⟩; refine az.c ?_; refine EV.list ?_ ?_
  · kernel_rfl
  refine az.c ?_; refine EV.nm (.list (aq (ao (ws.map markL)))) ?_ ?_ ?_
  · exact K.get (by kernel_rfl)
  · kernel_rfl
  refine az.c ?_; refine EV.nm (.list (cu (fZ ws))) ?_ ?_ ?_
  · exact K.get (by kernel_rfl)
  · kernel_rfl
  refine az.n ⟨by show 2≤sizeLine; decide,?_⟩; refine az.n ⟨by show 2≤sizeLine; decide,?_⟩; refine aa.kn K rfl (by kernel_rfl) fun ρ K=>?_; refine aa.cons ?_; refine EX.exp ?_ ?_
  · kernel_rfl
  refine EV.b5 ?_ ?_
  · kernel_rfl
  refine EV.nm (.obj 0) ?_ ?_ ?_
  · exact K.get (by kernel_rfl)
  · kernel_rfl
  refine ⟨_,bY.list rfl slot_list_append type_list_append,.builtin,?_⟩; refine az.c ?_; refine EV.list ?_ ?_
  · kernel_rfl
  refine az.c ?_; refine EV.nm (.list (aq ((ao ws).map markL))) ?_ ?_ ?_
  · exact K.get (by kernel_rfl)
  · kernel_rfl
  refine az.c ?_; refine EV.cP ?_ ?_
  · kernel_rfl
  refine EV.nm (.list (aq (ao ws))) ?_ ?_ ?_
  · exact K.get (by kernel_rfl)
  · kernel_rfl
  refine ⟨_,.list,fun Ca=>?_⟩; refine aG (fun w:List Nat=>.str (T w)) (fun w=>.list (aq (aV w))) (by exact trivial) (ao ws) [] ?_ (fun w hwm P hP=>?_) ?_
  · rw [hpln]; decide
  · refine EV.cL W.ok W.pF W.kT.kp ?_ ?_
    · kernel_rfl
    refine az.c ?_; refine EV.nm (.str (T w)) ?_ ?_ ?_
    · exact bV
    · kernel_rfl
    refine az.n ?_; exact jA W (by have:=(hpls w hwm).1; exact Aa this) hP
  rw [List.nil_append,i8]; show az _ _ _ _ _ _ _; refine az.n ⟨by show 2≤sizeLine; decide,?_⟩; refine az.n ?_; refine aj.append rfl (by show 2 < sizeLine; decide) ⟨rfl,?_⟩; show nx _ _ _ _ _ _ _ [.list [.list [.list (aq (ao ws)),.list (cu ((ao ws).map (aN 46)))],.list [.list (aq (ao (ws.map markL))),.list (cu (fZ ws))],.list [.list (aq ((ao ws).map markL)),.list (cu ((ao ws).map aV))]]]; have hpts:=fq hw; have hml:((ao ws).map markL).length=12:=by rw [List.length_map]; exact hpln
  refine aa.cons ?_; refine EX.for (fun _=>rfl) ?_; refine EV.nm (.obj 0) ?_ ?_ ?_
  · exact K.get (by kernel_rfl)
  · kernel_rfl
  refine ⟨[.list [.list (aq (ao ws)),.list (cu ((ao ws).map (aN 46)))],.list [.list (aq (ao (ws.map markL))),.list (cu (fZ ws))],.list [.list (aq ((ao ws).map markL)),.list (cu ((ao ws).map aV))]],.obj,?_⟩; refine ⟨rfl,AS.pair (by kernel_rfl) (by kernel_rfl) ?_⟩; refine aa.ofEq (b:=jS) ?_ ?_
  · kernel_rfl
  refine mJ W K hpln (by rw [List.length_map]; exact hpln) (fun t ht=>⟨by have:=(hpls t ht).1; exact Bv this,(hpls t ht).2⟩) (A7 hw) hp.FY ?_; refine ⟨rfl,AS.pair (by kernel_rfl) (by kernel_rfl) ?_⟩; refine aa.ofEq (b:=jS) ?_ ?_
  · kernel_rfl
  refine mJ W (Kn.over (by kernel_rfl) (Kn.over (by kernel_rfl) K)) hptn (yV ws) (fun t ht=>⟨by have:=(hpts t ht).1; exact Es this,(hpts t ht).2⟩) (AE hw) hp.FW ?_; refine ⟨rfl,AS.pair (by kernel_rfl) (by kernel_rfl) ?_⟩; refine aa.ofEq (b:=jS) ?_ ?_
  · kernel_rfl
  refine mJ W (Kn.over (by kernel_rfl) (Kn.over (by kernel_rfl) (Kn.over (by kernel_rfl) (Kn.over (by kernel_rfl) K)))) hml (by rw [List.length_map]; exact hpln) (EP hw) (A6 hw) hp.FU ?_; refine ⟨rfl,?_⟩; show aa _ _ _ _ _ _ _; refine aa.cons ?_; refine EX.rt ?_; refine EV.bool ?_; exact hq _
end
theorem lQ {P:Params} {h:Heap}:∀ (is:List Int) (vs:List Value),WellAll P h vs (ofPys (is.map .int))→aE h [] [] (is.map .int) vs∧vs.length=is.length
  | [],vs,x=>by
    rw [List.map_nil,ofPys] at x; cases x; exact ⟨.bJ,rfl⟩
  | i::is,vs,x=>by
    rw [List.map_cons,ofPys,ofPy] at x
    cases x with
    | cons a b =>
      cases a; have:=lQ is _ b; exact ⟨.aH .fC this.1,by exact rl List.length_cons (rl List.length_cons (rl this.2 rfl))⟩
theorem vW {w:World} {s₀ s₁:Shared} {args:List WData} {vals:List Value} {as:List Addr} (hpre:PySem.Challenge.rw_nq0244_01.row.claim.pre args=true) (hlay:WData.layableAll args=true)
    (hrd:ReadsAllW PySem.Challenge.rw_nq0244_01.row.records (classAt s₀.heap) s₁.heap vals args as) (hwl:WellAll w.params s₁.heap vals args) (hlo:∀ a,a∈as→(a==sysModules)=false) :
    ∃ (is:List Int) (a:Addr),vals=[.ref a]∧VR s₁.heap [] [] (.list (is.map .int)) (.ref a):=by
  wrow_args hpre hlay hrd hwl hlo
  rename_i is _ _ _ _ _ _ _ a _ _ _ _ w1 _ _ _ hlen _; refine ⟨is,a,rfl,?_⟩; rw [ofPy] at w1
  cases w1 with
  | list e x =>
    obtain ⟨h1,h2⟩:=lQ is _ x; refine .dZ (n:=0) List.not_mem_nil (by simp [br]) e ?_ h1; exact Gn (rfl:(16777216:Nat)=sizeLine) hlen h2
theorem yp {args:List WData} {s₁ s':Shared} {cl:Str→Option Addr} {mean:ExcName→Option Value} (hk:∀ b o,s₁.heap.get? b=some o→s'.heap.get? b=some o) (hos:s'.os=s₁.os) (hg:s'.gens=#[]) :
    GoodWG PySem.Challenge.rw_nq0244_01.row.claim cl mean args s₁ (.ok (.ret (.bool true))) s':=by
  refine ⟨.inl ⟨.bool true,.bool true,[],rfl,fun _=>rfl,?_,?_,fun _=>⟨List.nodup_nil,fun a ha=>by cases ha⟩⟩,.of_keep hk,hos,.of_eq hg⟩
  · constructor
  wrow_post
theorem An {p:Program} {loose:List Str} {R:WRecords} {XP:(Str→Option Value)→Heap→Prop} {w:World} {s₀ s₁:Shared} {mg mb:Str→Option Value} {K:Frag} {fa:Addr} {args:List WData} {vals:List Value} {as:List Addr}
    (G:Ground p loose R XP w s₀ mg mb s₁.heap) (KX:K.In s₁.heap) (hmg:mg (Str.ofString "law")=some (.ref fa)) (hg:s₁.gens=#[])
    (hpre:PySem.Challenge.rw_nq0244_01.row.claim.pre args=true) (hlay:WData.layableAll args=true)
    (hrd:ReadsAllW PySem.Challenge.rw_nq0244_01.row.records (classAt s₀.heap) s₁.heap vals args as) (hwl:WellAll w.params s₁.heap vals args) (hlo:∀ a,a∈as→(a==sysModules)=false)
    (hl:nsIn K mainGlobals "law" = some (some (.ref 851))) (k:G1 K) :
    wpAny (model PySem.Challenge.rw_nq0244_01.row.prog w) callerA (call (.ref fa) vals) (fun v s'=>GoodWG PySem.Challenge.rw_nq0244_01.row.claim (classAt s₀.heap) (ExcName.means s₀.heap) args s₁ (.ok (.ret v)) s')
      (fun e s'=>GoodWG PySem.Challenge.rw_nq0244_01.row.claim (classAt s₀.heap) (ExcName.means s₀.heap) args s₁ (.error e) s') s₁:=by
  obtain ⟨is,a,rfl,hv⟩:=vW hpre hlay hrd hwl hlo; have e:=mg_of KX G.T.g hl; rw [(e:mg (Str.ofString "law")=some (.ref 851))] at hmg; cases hmg
  have O:Cx.Ok ⟨PySem.Challenge.rw_nq0244_01.row.prog,w,s₁.heap,s₁.os,K,mg,mb,0⟩:=by
    refine ⟨KX,G.T.g,G.T.b,G.T.nolimit,G.T.nodigits,G.low,?_⟩; obtain ⟨mc,hns,_⟩:=G.T.nodigits; exact ⟨mc,hns,ns_none_of KX hns k.booked⟩
  refine wpAny_mono (yq (d:=0) (Q:=fun x _=>x = .bool true) (⟨O,G.T.builtins,k⟩:WF ⟨PySem.Challenge.rw_nq0244_01.row.prog,w,s₁.heap,s₁.os,K,mg,mb,0⟩) (words_of is) (vv (words_of is) (k8 _).1 (k8 _).2 _) (fun _=>rfl) callerA s₁ [.ref a] (⟨⟨by decide +kernel,by decide +kernel,rfl,rfl⟩,fun _ _ e=>e,Nat.le_refl _,hg,rfl,rfl,Nat.zero_le _⟩:Start ⟨PySem.Challenge.rw_nq0244_01.row.prog,w,s₁.heap,s₁.os,K,mg,mb,0⟩ 9 callerA s₁) (.aH hv .bJ)) (fun v s' p=>?_) fun _ _ z=>z.elim; obtain ⟨x,H',rfl,hb,hk,hgn,hos⟩:=p; refine rl (hb true rfl) ?_; exact yp hk hos hgn
end Mine
namespace Mine.top
noncomputable def tw10001883323181062329:=0
noncomputable def tw10008474027749305400:=0
noncomputable def tw10017263926548143515:=0
noncomputable def tw1007256952997204316:=0
noncomputable def tw10079171474624433434:=0
noncomputable def tw10090393231696489298:=0
noncomputable def tw10101883924317870271:=0
noncomputable def tw10180943152330463961:=0
noncomputable def tw10187264123177260123:=0
noncomputable def tw10187724287525710026:=0
noncomputable def tw10194810499950245846:=0
noncomputable def tw10195997230039290492:=0
noncomputable def tw10219655510578893393:=0
noncomputable def tw10239475785048107997:=0
noncomputable def tw10242591131026960117:=0
noncomputable def tw10248073240650190340:=0
noncomputable def tw10252623693936335467:=0
noncomputable def tw10276331973627342096:=0
noncomputable def tw10296497611174029103:=0
noncomputable def tw10314897760869050033:=0
noncomputable def tw10317287140990440334:=0
noncomputable def tw10328360990557673835:=0
noncomputable def tw10341860258655708415:=0
noncomputable def tw10350142207108426684:=0
noncomputable def tw10353446712322349686:=0
noncomputable def tw10361075674979980167:=0
noncomputable def tw10362775142378211054:=0
noncomputable def tw10367675484739944270:=0
noncomputable def tw10372856604765933493:=0
noncomputable def tw10399464001100048223:=0
noncomputable def tw10404823597219466188:=0
noncomputable def tw1040915598704419856:=0
noncomputable def tw10414433010598505635:=0
noncomputable def tw1043701613660472097:=0
noncomputable def tw104434173382791472:=0
noncomputable def tw10448899703829047738:=0
noncomputable def tw10467260515200827399:=0
noncomputable def tw1047907039808853306:=0
noncomputable def tw10505224238033894595:=0
noncomputable def tw10512489437642701289:=0
noncomputable def tw105208000716104510:=0
noncomputable def tw1054488965285714247:=0
noncomputable def tw10548783162686979305:=0
noncomputable def tw10549977736560136457:=0
noncomputable def tw10558761922227201614:=0
noncomputable def tw10562855833978642645:=0
noncomputable def tw10567129059001840431:=0
noncomputable def tw10574840078274726829:=0
noncomputable def tw10577272966987657301:=0
noncomputable def tw10579768621468169598:=0
noncomputable def tw10617020205504526918:=0
noncomputable def tw10643057118474118344:=0
noncomputable def tw10657950659306570408:=0
noncomputable def tw1068965626710143233:=0
noncomputable def tw10694878333477680388:=0
noncomputable def tw10763682846017881258:=0
noncomputable def tw10768140376307724812:=0
noncomputable def tw10773188271377071773:=0
noncomputable def tw10774637447528242797:=0
noncomputable def tw10783129329504250043:=0
noncomputable def tw10783980745131425670:=0
noncomputable def tw10797620697341660853:=0
noncomputable def tw10801874191123338550:=0
noncomputable def tw10836530967397901330:=0
noncomputable def tw10864713392326063847:=0
noncomputable def tw10871174231137468428:=0
noncomputable def tw10885322118463539834:=0
noncomputable def tw1088946173253831356:=0
noncomputable def tw10892192912376451201:=0
noncomputable def tw10915162052029792233:=0
noncomputable def tw10936122117785486979:=0
noncomputable def tw10956490626425055710:=0
noncomputable def tw10987319290404115282:=0
noncomputable def tw10996937224433265937:=0
noncomputable def tw11018626870962244460:=0
noncomputable def tw11045010717311733409:=0
noncomputable def tw11053662475850362967:=0
noncomputable def tw1107088416671253978:=0
noncomputable def tw11072019736110318841:=0
noncomputable def tw1108800333578037850:=0
noncomputable def tw11093206078495630212:=0
noncomputable def tw11116745826364501430:=0
noncomputable def tw11126170383844797631:=0
noncomputable def tw1112988674713690477:=0
noncomputable def tw11131206648525784891:=0
noncomputable def tw11133666699803404755:=0
noncomputable def tw11134249225346278790:=0
noncomputable def tw11141966352661209427:=0
noncomputable def tw11145643937294416527:=0
noncomputable def tw11153979150802330146:=0
noncomputable def tw11159431927160009238:=0
noncomputable def tw1117029662656177491:=0
noncomputable def tw11173010173815179391:=0
noncomputable def tw11189890337720088615:=0
noncomputable def tw11199532085631943738:=0
noncomputable def tw11199710921928265848:=0
noncomputable def tw11203750815551599093:=0
noncomputable def tw1123975283337734383:=0
noncomputable def tw11240886729373846589:=0
noncomputable def tw1124271682379634556:=0
noncomputable def tw11263669390164206178:=0
noncomputable def tw11279390925490393535:=0
noncomputable def tw11334203419191126389:=0
noncomputable def tw11334350811105764591:=0
noncomputable def tw11334415319851112604:=0
noncomputable def tw1137235612907882162:=0
noncomputable def tw11377482038585738817:=0
noncomputable def tw11383000496634168614:=0
noncomputable def tw11384800866962632227:=0
noncomputable def tw1139600151236580504:=0
noncomputable def tw11408453963512735496:=0
noncomputable def tw11423202765487971197:=0
noncomputable def tw1142415686869020238:=0
noncomputable def tw1142465760834251562:=0
noncomputable def tw11430207588045935325:=0
noncomputable def tw11443710868159068359:=0
noncomputable def tw11457754044182789617:=0
noncomputable def tw11459358961799972967:=0
noncomputable def tw11466170419677230873:=0
noncomputable def tw11468358511172941013:=0
noncomputable def tw11470690223818410786:=0
noncomputable def tw114735475811551136:=0
noncomputable def tw1147548669246485465:=0
noncomputable def tw1149218181149386328:=0
noncomputable def tw11503242561204267055:=0
noncomputable def tw11520865232209809239:=0
noncomputable def tw11542710104232473196:=0
noncomputable def tw11561652810962717471:=0
noncomputable def tw11561827921928013385:=0
noncomputable def tw11577829705659331004:=0
noncomputable def tw11582926029173025856:=0
noncomputable def tw11584198869435930015:=0
noncomputable def tw11592465598724292549:=0
noncomputable def tw11593399256984752444:=0
noncomputable def tw11596120818537772718:=0
noncomputable def tw11613256710310857696:=0
noncomputable def tw11620634932572840514:=0
noncomputable def tw11634041833544832627:=0
noncomputable def tw11689902799995417681:=0
noncomputable def tw1169771345039838236:=0
noncomputable def tw11732849358908057107:=0
noncomputable def tw11735923915801401282:=0
noncomputable def tw11760055953109336660:=0
noncomputable def tw11762496359356365647:=0
noncomputable def tw11765434788231831023:=0
noncomputable def tw11779653239440661071:=0
noncomputable def tw11803689641445798100:=0
noncomputable def tw11827501331788009604:=0
noncomputable def tw11828478481110319688:=0
noncomputable def tw11840804652615492782:=0
noncomputable def tw11842451847925006096:=0
noncomputable def tw11845233108574324481:=0
noncomputable def tw11858546649754279707:=0
noncomputable def tw11862920568910387298:=0
noncomputable def tw1186331607622873149:=0
noncomputable def tw11889597043561437815:=0
noncomputable def tw11917448952958348678:=0
noncomputable def tw11922380849998532372:=0
noncomputable def tw1192657577511650299:=0
noncomputable def tw1195175773429642966:=0
noncomputable def tw11960245374511038805:=0
noncomputable def tw11961350612320602522:=0
noncomputable def tw11982747722937265360:=0
noncomputable def tw11994683656316670133:=0
noncomputable def tw12012865196380796599:=0
noncomputable def tw12031303853943761323:=0
noncomputable def tw12033610942823940228:=0
noncomputable def tw12043218685254973450:=0
noncomputable def tw12080426169559351053:=0
noncomputable def tw12094960947251128927:=0
noncomputable def tw1209819496270969543:=0
noncomputable def tw12105128591322288922:=0
noncomputable def tw12115226907548353492:=0
noncomputable def tw12117888159696746259:=0
noncomputable def tw1212798325632107971:=0
noncomputable def tw12155368727211783949:=0
noncomputable def tw12157284967251751451:=0
noncomputable def tw12166907935582030026:=0
noncomputable def tw12182655422080760471:=0
noncomputable def tw12191294079412454307:=0
noncomputable def tw12193372218175167114:=0
noncomputable def tw12209182163369298222:=0
noncomputable def tw12210559395081530917:=0
noncomputable def tw12216630987165489725:=0
noncomputable def tw12218787953657430602:=0
noncomputable def tw12256363837256957063:=0
noncomputable def tw12263070956244924665:=0
noncomputable def tw12287887523310495049:=0
noncomputable def tw12317137736924338119:=0
noncomputable def tw12318557346453588183:=0
noncomputable def tw12329864456250741675:=0
noncomputable def tw12340227926317113386:=0
noncomputable def tw12342655685612074800:=0
noncomputable def tw12344959425885527253:=0
noncomputable def tw12352127080789022532:=0
noncomputable def tw1236304545764765349:=0
noncomputable def tw12376051458212225564:=0
noncomputable def tw12379415707883124570:=0
noncomputable def tw12385144161495827662:=0
noncomputable def tw12392516345856041104:=0
noncomputable def tw12415523145999629524:=0
noncomputable def tw12425085872883035938:=0
noncomputable def tw12427389293880184781:=0
noncomputable def tw12443789822770055382:=0
noncomputable def tw1245559373397905713:=0
noncomputable def tw12483720753089274532:=0
noncomputable def tw12488038555639769405:=0
noncomputable def tw12507017104952529904:=0
noncomputable def tw12520176845478516731:=0
noncomputable def tw12521587561680038787:=0
noncomputable def tw12540527436937284434:=0
noncomputable def tw12545222027267286695:=0
noncomputable def tw12554540806306477360:=0
noncomputable def tw12559286593441436923:=0
noncomputable def tw12564220515667953714:=0
noncomputable def tw12603656398198563500:=0
noncomputable def tw12609604535291364189:=0
noncomputable def tw12622177474791663080:=0
noncomputable def tw12625694945159114441:=0
noncomputable def tw12638030207367898728:=0
noncomputable def tw12643491718579748851:=0
noncomputable def tw12643520174271941249:=0
noncomputable def tw12718909917080609646:=0
noncomputable def tw12725264436868645240:=0
noncomputable def tw12734148187753135964:=0
noncomputable def tw12751139281825843639:=0
noncomputable def tw12756434147638494346:=0
noncomputable def tw1275901062530889299:=0
noncomputable def tw12762922103008790111:=0
noncomputable def tw12764151676501842404:=0
noncomputable def tw12777601194060584777:=0
noncomputable def tw12783364522390391256:=0
noncomputable def tw12787338502077490372:=0
noncomputable def tw12795912674786347063:=0
noncomputable def tw12819366960792805191:=0
noncomputable def tw1284575025550258836:=0
noncomputable def tw12865423146811077096:=0
noncomputable def tw12879618353801967718:=0
noncomputable def tw12882150407414578134:=0
noncomputable def tw12894197372075662830:=0
noncomputable def tw1291508964198565346:=0
noncomputable def tw12930217345280339350:=0
noncomputable def tw12931362102233154023:=0
noncomputable def tw1293289543672728842:=0
noncomputable def tw12932905502366258525:=0
noncomputable def tw1294077662247117797:=0
noncomputable def tw12944596839952905832:=0
noncomputable def tw12958502747184954254:=0
noncomputable def tw12958664272152378060:=0
noncomputable def tw12960919825447276754:=0
noncomputable def tw1297684725254868899:=0
noncomputable def tw13001836021917841797:=0
noncomputable def tw13007260833023717011:=0
noncomputable def tw13012589842206080548:=0
noncomputable def tw13029900630750994668:=0
noncomputable def tw13044034144603486326:=0
noncomputable def tw1304757597395314617:=0
noncomputable def tw13047834502658803893:=0
noncomputable def tw13068111086705522682:=0
noncomputable def tw13090165191389475591:=0
noncomputable def tw13091174067606910046:=0
noncomputable def tw13120753694373217308:=0
noncomputable def tw1312780250039628139:=0
noncomputable def tw13134186033006778460:=0
noncomputable def tw13160728816969591200:=0
noncomputable def tw13167462122316868159:=0
noncomputable def tw13170930900943818190:=0
noncomputable def tw13177472732611162249:=0
noncomputable def tw13178059906610389163:=0
noncomputable def tw13187519465064655849:=0
noncomputable def tw13191473780850816973:=0
noncomputable def tw1321871150748368714:=0
noncomputable def tw13223034962123697568:=0
noncomputable def tw13261893007816960818:=0
noncomputable def tw13264354339760550358:=0
noncomputable def tw13272337422414781067:=0
noncomputable def tw13290321428070320777:=0
noncomputable def tw132903981291199154:=0
noncomputable def tw13303987763403120937:=0
noncomputable def tw13305523845174962083:=0
noncomputable def tw13307591127769906961:=0
noncomputable def tw13310400573052568472:=0
noncomputable def tw13318506193475082254:=0
noncomputable def tw13326734554550294991:=0
noncomputable def tw13345470168829271861:=0
noncomputable def tw13359135706311490777:=0
noncomputable def tw13369591340354186047:=0
noncomputable def tw13370185576492129568:=0
noncomputable def tw13370750898655102155:=0
noncomputable def tw13385244156195431271:=0
noncomputable def tw13385996262653078937:=0
noncomputable def tw13420762306968818387:=0
noncomputable def tw13424702798527927301:=0
noncomputable def tw13432635357386499347:=0
noncomputable def tw13474863142627684814:=0
noncomputable def tw13500427573557490136:=0
noncomputable def tw13501252493785611398:=0
noncomputable def tw13525443076416275642:=0
noncomputable def tw13532860479073427719:=0
noncomputable def tw1353657120722975067:=0
noncomputable def tw13546161746385187788:=0
noncomputable def tw13549259019975226677:=0
noncomputable def tw13571448547899197161:=0
noncomputable def tw13576654369662418201:=0
noncomputable def tw13633771914396775234:=0
noncomputable def tw1366310378809935829:=0
noncomputable def tw13664746368384525793:=0
noncomputable def tw1368107221856924347:=0
noncomputable def tw13706816188851595723:=0
noncomputable def tw13710211086531791108:=0
noncomputable def tw13713866747541496747:=0
noncomputable def tw13743916774706631149:=0
noncomputable def tw13759081321499198575:=0
noncomputable def tw13762209637798829341:=0
noncomputable def tw137813150952109960:=0
noncomputable def tw13799840507378627052:=0
noncomputable def tw13802547742096326172:=0
noncomputable def tw13820912127525551613:=0
noncomputable def tw13822267516522204269:=0
noncomputable def tw13829181886748113429:=0
noncomputable def tw13830271770371739309:=0
noncomputable def tw13844505572957833930:=0
noncomputable def tw13852830345959847167:=0
noncomputable def tw13864677062968915208:=0
noncomputable def tw13889309363888878346:=0
noncomputable def tw13889484949932952446:=0
noncomputable def tw13890846271309207196:=0
noncomputable def tw13896958669275611876:=0
noncomputable def tw13899568491130100285:=0
noncomputable def tw13901205277877782832:=0
noncomputable def tw13902025155065610156:=0
noncomputable def tw13915387964903991752:=0
noncomputable def tw13922054642007902626:=0
noncomputable def tw13928562000808390012:=0
noncomputable def tw1394568958698188020:=0
noncomputable def tw13968125046926948103:=0
noncomputable def tw13975414291046593716:=0
noncomputable def tw13983857475226248213:=0
noncomputable def tw13985988839938425345:=0
noncomputable def tw13987285891283452908:=0
noncomputable def tw13990698242589431971:=0
noncomputable def tw13994475860397038760:=0
noncomputable def tw1400011881503588481:=0
noncomputable def tw14020629218432114621:=0
noncomputable def tw14029182922437419836:=0
noncomputable def tw14034850653259400592:=0
noncomputable def tw14042817526060737062:=0
noncomputable def tw14065501367340364311:=0
noncomputable def tw14082171712413598185:=0
noncomputable def tw14114763150826241340:=0
noncomputable def tw14120148312427719287:=0
noncomputable def tw14142502885225118848:=0
noncomputable def tw14145802354927516647:=0
noncomputable def tw14166325574356235509:=0
noncomputable def tw14168018189251442112:=0
noncomputable def tw14214649769353832295:=0
noncomputable def tw14214845130331304391:=0
noncomputable def tw1421504965699865390:=0
noncomputable def tw14235281626263879747:=0
noncomputable def tw14248925298954806443:=0
noncomputable def tw14263998999751124003:=0
noncomputable def tw14277827659066580250:=0
noncomputable def tw14282377253939248939:=0
noncomputable def tw14301671488300290737:=0
noncomputable def tw14308104382005812605:=0
noncomputable def tw14309182039651084788:=0
noncomputable def tw14317375437502057738:=0
noncomputable def tw14349089067433371257:=0
noncomputable def tw14371913498598963198:=0
noncomputable def tw14390669486469195807:=0
noncomputable def tw14399976873020721970:=0
noncomputable def tw14429230371299607918:=0
noncomputable def tw14450715343900746980:=0
noncomputable def tw14453841093610474573:=0
noncomputable def tw14459580976405569124:=0
noncomputable def tw14466935161476858967:=0
noncomputable def tw14510474431719978317:=0
noncomputable def tw14526540143163920134:=0
noncomputable def tw14537839394382259888:=0
noncomputable def tw14562072457839527476:=0
noncomputable def tw14593118503983289666:=0
noncomputable def tw14597223018079223185:=0
noncomputable def tw14608685727046917156:=0
noncomputable def tw14615657086365298920:=0
noncomputable def tw14627970841177157368:=0
noncomputable def tw14632489290957082403:=0
noncomputable def tw14645912567700417926:=0
noncomputable def tw14657780768301432306:=0
noncomputable def tw14671331368771545958:=0
noncomputable def tw14677765105775291144:=0
noncomputable def tw146815374380898660:=0
noncomputable def tw14687197162769931945:=0
noncomputable def tw14697636140705633519:=0
noncomputable def tw14705559076539443318:=0
noncomputable def tw14707807475535933493:=0
noncomputable def tw14713311804777202560:=0
noncomputable def tw14724332232928298890:=0
noncomputable def tw14747140909534839006:=0
noncomputable def tw14751435942891637570:=0
noncomputable def tw14762295962024373759:=0
noncomputable def tw14771320824794740959:=0
noncomputable def tw14786789198576647004:=0
noncomputable def tw14789260269991461300:=0
noncomputable def tw14796646475526232899:=0
noncomputable def tw14810493832863049995:=0
noncomputable def tw14823308797102314842:=0
noncomputable def tw14826035006057030972:=0
noncomputable def tw14851680436948445374:=0
noncomputable def tw14852717503937887844:=0
noncomputable def tw14861896470697024400:=0
noncomputable def tw1486479319815781832:=0
noncomputable def tw14901070454687303710:=0
noncomputable def tw14917401599646851644:=0
noncomputable def tw1492452104121835379:=0
noncomputable def tw14983691940233647259:=0
noncomputable def tw14987219478266130788:=0
noncomputable def tw15003358760713899574:=0
noncomputable def tw15008207993883188931:=0
noncomputable def tw15024216053386777475:=0
noncomputable def tw15029563650323070435:=0
noncomputable def tw15058813355848621054:=0
noncomputable def tw15073315481182737699:=0
noncomputable def tw15092371282622821202:=0
noncomputable def tw15094253936282614329:=0
noncomputable def tw15095372191486117680:=0
noncomputable def tw15125931889511115149:=0
noncomputable def tw151297168226168136:=0
noncomputable def tw15142870575455682722:=0
noncomputable def tw15151295755643613229:=0
noncomputable def tw1516213087968936877:=0
noncomputable def tw15166127791298437107:=0
noncomputable def tw15169761463676818070:=0
noncomputable def tw15177526630643400193:=0
noncomputable def tw15212760480394562756:=0
noncomputable def tw1522322319653140107:=0
noncomputable def tw15234444972351076034:=0
noncomputable def tw15240379268576122478:=0
noncomputable def tw15242500199121756853:=0
noncomputable def tw15245507539482535896:=0
noncomputable def tw15248220891095644897:=0
noncomputable def tw15254643099363442306:=0
noncomputable def tw15262977503361262276:=0
noncomputable def tw15271675978053873483:=0
noncomputable def tw15286249088069653756:=0
noncomputable def tw15299407806266782574:=0
noncomputable def tw15330153412207162294:=0
noncomputable def tw15349318334595610263:=0
noncomputable def tw15360274220829721888:=0
noncomputable def tw15361541807878343388:=0
noncomputable def tw15362295582089109014:=0
noncomputable def tw1536312445118062077:=0
noncomputable def tw15379823853619803926:=0
noncomputable def tw15383718091736126541:=0
noncomputable def tw15401514717468139301:=0
noncomputable def tw15404454927644166670:=0
noncomputable def tw15438179002428589006:=0
noncomputable def tw15451780782824253742:=0
noncomputable def tw15491019914900986176:=0
noncomputable def tw15498596964979890660:=0
noncomputable def tw15503665604740900718:=0
noncomputable def tw15506382734810221985:=0
noncomputable def tw15508944514630427714:=0
noncomputable def tw1551491737661789689:=0
noncomputable def tw15525995667512963556:=0
noncomputable def tw15542334942015070624:=0
noncomputable def tw15569959144833144457:=0
noncomputable def tw1559226430018442191:=0
noncomputable def tw15632945934887979474:=0
noncomputable def tw15638586536077026902:=0
noncomputable def tw15646934709686841381:=0
noncomputable def tw156775121503410738:=0
noncomputable def tw15687709949711836451:=0
noncomputable def tw15690355392615275366:=0
noncomputable def tw15696354942287192291:=0
noncomputable def tw15722756333993289495:=0
noncomputable def tw15735037969156040135:=0
noncomputable def tw15740088241188596515:=0
noncomputable def tw15740948416001004644:=0
noncomputable def tw15743347864482560488:=0
noncomputable def tw15744752440731449612:=0
noncomputable def tw15748125925826647682:=0
noncomputable def tw15755962551988530747:=0
noncomputable def tw15766219058475960075:=0
noncomputable def tw15777967143563870555:=0
noncomputable def tw15792855516104148348:=0
noncomputable def tw15799541711010589177:=0
noncomputable def tw15817181387143870920:=0
noncomputable def tw15823732540823425666:=0
noncomputable def tw15833254233020807429:=0
noncomputable def tw15836908640704697380:=0
noncomputable def tw1584292188352093569:=0
noncomputable def tw1585457916280141200:=0
noncomputable def tw15860264024139754761:=0
noncomputable def tw15873491276070852124:=0
noncomputable def tw15874363893724204672:=0
noncomputable def tw15877122091014420850:=0
noncomputable def tw15878805988109762761:=0
noncomputable def tw15911569825323301435:=0
noncomputable def tw15918733279669447828:=0
noncomputable def tw1592229195962567352:=0
noncomputable def tw1595350964381101642:=0
noncomputable def tw15966430410579761919:=0
noncomputable def tw15976228082101565994:=0
noncomputable def tw15985680467844229196:=0
noncomputable def tw15996449679401966620:=0
noncomputable def tw16004416686337608138:=0
noncomputable def tw16007503158450755388:=0
noncomputable def tw1601500998369573665:=0
noncomputable def tw16034636559557993077:=0
noncomputable def tw16044733080236030384:=0
noncomputable def tw16054190913257422852:=0
noncomputable def tw16058212318047004132:=0
noncomputable def tw16068562728529669930:=0
noncomputable def tw16085473023203611486:=0
noncomputable def tw16104615914030681952:=0
noncomputable def tw16120041803238788101:=0
noncomputable def tw16123964013534891561:=0
noncomputable def tw16128028805679967097:=0
noncomputable def tw16149628235652541579:=0
noncomputable def tw16155163154822807229:=0
noncomputable def tw16157251822727197267:=0
noncomputable def tw16166457384891526456:=0
noncomputable def tw1617357707322924660:=0
noncomputable def tw16174758807025615021:=0
noncomputable def tw16196420915677631385:=0
noncomputable def tw16204670001084760307:=0
noncomputable def tw16240068400928781132:=0
noncomputable def tw16258771989139608452:=0
noncomputable def tw16262243036561855896:=0
noncomputable def tw16264823338695392855:=0
noncomputable def tw16273406610938067001:=0
noncomputable def tw16281582537960229878:=0
noncomputable def tw16307090917165222298:=0
noncomputable def tw16326585352142918636:=0
noncomputable def tw16342770487823414484:=0
noncomputable def tw16345600495311464638:=0
noncomputable def tw16352630495959832749:=0
noncomputable def tw16354691339474908690:=0
noncomputable def tw16357309143852133390:=0
noncomputable def tw1638113669730673903:=0
noncomputable def tw16414630628198896168:=0
noncomputable def tw16415559393655328363:=0
noncomputable def tw16420938139371093754:=0
noncomputable def tw16439428074185983240:=0
noncomputable def tw16440359332931480483:=0
noncomputable def tw16441578918305252802:=0
noncomputable def tw16453443671601555132:=0
noncomputable def tw16487795177693110071:=0
noncomputable def tw16509065781470453940:=0
noncomputable def tw16525863338940772298:=0
noncomputable def tw16526113553464788058:=0
noncomputable def tw16533540343700365917:=0
noncomputable def tw16541100652227675460:=0
noncomputable def tw16542083797698202722:=0
noncomputable def tw16550210197400561554:=0
noncomputable def tw1655259298481077034:=0
noncomputable def tw16566732070832655097:=0
noncomputable def tw16597617366809209970:=0
noncomputable def tw16612331741718818515:=0
noncomputable def tw16615598289260009181:=0
noncomputable def tw16656781636731879198:=0
noncomputable def tw16659674399394625376:=0
noncomputable def tw16663787254893796032:=0
noncomputable def tw16674975167109581930:=0
noncomputable def tw1670607248958778201:=0
noncomputable def tw16713831800681072344:=0
noncomputable def tw16719718919923625709:=0
noncomputable def tw16721989186581611170:=0
noncomputable def tw16734371015571099844:=0
noncomputable def tw16736118626332596326:=0
noncomputable def tw16739174306508632950:=0
noncomputable def tw16740903820413294359:=0
noncomputable def tw16753658254399821694:=0
noncomputable def tw16759092144687519636:=0
noncomputable def tw16759193500350966715:=0
noncomputable def tw1676862907878916244:=0
noncomputable def tw16770000883354449096:=0
noncomputable def tw16782997733028217545:=0
noncomputable def tw16793365374058956912:=0
noncomputable def tw16795567611416646642:=0
noncomputable def tw16800595933775061595:=0
noncomputable def tw16809779246217341487:=0
noncomputable def tw16821654228018055803:=0
noncomputable def tw16836452506482946331:=0
noncomputable def tw16840627104734473223:=0
noncomputable def tw16843226685827341786:=0
noncomputable def tw16844067456194695469:=0
noncomputable def tw16866024460163772082:=0
noncomputable def tw16867195051817565849:=0
noncomputable def tw16878204669230926818:=0
noncomputable def tw16882738081622503669:=0
noncomputable def tw16885616592811714743:=0
noncomputable def tw16896751376397280635:=0
noncomputable def tw16900427199656544559:=0
noncomputable def tw1697544655201012999:=0
noncomputable def tw16982378080980825192:=0
noncomputable def tw16994376123345812558:=0
noncomputable def tw17009415399725018624:=0
noncomputable def tw17022078359063049780:=0
noncomputable def tw17030962893124633753:=0
noncomputable def tw17033825039287860005:=0
noncomputable def tw17046948494117081484:=0
noncomputable def tw17049420803911359082:=0
noncomputable def tw17050326753033342646:=0
noncomputable def tw1706793611546318481:=0
noncomputable def tw17085176360113175178:=0
noncomputable def tw17089494485692210459:=0
noncomputable def tw17103177528636943170:=0
noncomputable def tw17103585973383926153:=0
noncomputable def tw17104280840954017025:=0
noncomputable def tw17135812771915316397:=0
noncomputable def tw17138679496734019247:=0
noncomputable def tw17157282023139344501:=0
noncomputable def tw17160434163424456010:=0
noncomputable def tw17176029603704830031:=0
noncomputable def tw17177869089781658578:=0
noncomputable def tw1717825165581474212:=0
noncomputable def tw17219337458794519322:=0
noncomputable def tw17226846203573267761:=0
noncomputable def tw17240160907184977327:=0
noncomputable def tw17253974145678602553:=0
noncomputable def tw17315540178315561739:=0
noncomputable def tw17316021358764173963:=0
noncomputable def tw1732150942055357024:=0
noncomputable def tw17323899518341599180:=0
noncomputable def tw17336350906216195740:=0
noncomputable def tw17337222044243258637:=0
noncomputable def tw17342085116792181814:=0
noncomputable def tw17346259052997144950:=0
noncomputable def tw17355269125676882429:=0
noncomputable def tw1736530178072539846:=0
noncomputable def tw17366924284538989914:=0
noncomputable def tw17377934564383891116:=0
noncomputable def tw17391775962083533515:=0
noncomputable def tw17395277212465857529:=0
noncomputable def tw17412589854805754852:=0
noncomputable def tw17428532607074087071:=0
noncomputable def tw17431308487043992063:=0
noncomputable def tw17434308400759680031:=0
noncomputable def tw17444329988762607307:=0
noncomputable def tw17469865338272021226:=0
noncomputable def tw17470836177267949868:=0
noncomputable def tw17474498911051797155:=0
noncomputable def tw17486766287000646611:=0
noncomputable def tw17489137672866753323:=0
noncomputable def tw17492772389151264855:=0
noncomputable def tw17520232983638268411:=0
noncomputable def tw17542608870123051758:=0
noncomputable def tw1754339480302792767:=0
noncomputable def tw17545328352263074274:=0
noncomputable def tw17555251805378815213:=0
noncomputable def tw17565814175750979855:=0
noncomputable def tw17566744294597663674:=0
noncomputable def tw17576949682797635024:=0
noncomputable def tw17576975557295073227:=0
noncomputable def tw17582957951858275007:=0
noncomputable def tw17586783052614405119:=0
noncomputable def tw1759469698184221871:=0
noncomputable def tw17594962761535629368:=0
noncomputable def tw17595191090738125544:=0
noncomputable def tw17620759639134147866:=0
noncomputable def tw1763668968349606248:=0
noncomputable def tw17676611151829563924:=0
noncomputable def tw17683472795295644477:=0
noncomputable def tw17686751531330978220:=0
noncomputable def tw17709558473723601244:=0
noncomputable def tw17723266017964189186:=0
noncomputable def tw17735899436944072409:=0
noncomputable def tw17741875731164886585:=0
noncomputable def tw17774833976778514315:=0
noncomputable def tw17781115878593249900:=0
noncomputable def tw17783859843131274014:=0
noncomputable def tw17785818512168800811:=0
noncomputable def tw17788931634197215145:=0
noncomputable def tw17794366733547915435:=0
noncomputable def tw17795014544551873601:=0
noncomputable def tw17807222030613408314:=0
noncomputable def tw17810072253543177317:=0
noncomputable def tw17828378304095215089:=0
noncomputable def tw17861464445857800736:=0
noncomputable def tw17886615442053742456:=0
noncomputable def tw17916939684832112104:=0
noncomputable def tw17921175469725437805:=0
noncomputable def tw1792224892710378537:=0
noncomputable def tw17953984050398360512:=0
noncomputable def tw17958866498819703998:=0
noncomputable def tw17964300760807480141:=0
noncomputable def tw17981982808018919739:=0
noncomputable def tw18008055252877512497:=0
noncomputable def tw18016941796951652274:=0
noncomputable def tw1803303928475200142:=0
noncomputable def tw18034075008235765660:=0
noncomputable def tw1805163160381243805:=0
noncomputable def tw18062624165398249997:=0
noncomputable def tw18063644159110109576:=0
noncomputable def tw18064794426631996164:=0
noncomputable def tw18085771088847121727:=0
noncomputable def tw18086089286151905521:=0
noncomputable def tw18121752080927795069:=0
noncomputable def tw18125790051192882503:=0
noncomputable def tw18134043772397237400:=0
noncomputable def tw18137363274558907533:=0
noncomputable def tw1814787853859245837:=0
noncomputable def tw18164388396756303480:=0
noncomputable def tw18177719399980262173:=0
noncomputable def tw18183325599244532410:=0
noncomputable def tw18185382058313985135:=0
noncomputable def tw18186074749648716422:=0
noncomputable def tw18200808041648558556:=0
noncomputable def tw18201758440048473509:=0
noncomputable def tw18229784292405043182:=0
noncomputable def tw18236624570336363585:=0
noncomputable def tw18237780215024852062:=0
noncomputable def tw18245740138792012028:=0
noncomputable def tw18257218023933744409:=0
noncomputable def tw18289109515434150305:=0
noncomputable def tw18297691965846887475:=0
noncomputable def tw18326957874037197240:=0
noncomputable def tw18330144715369815205:=0
noncomputable def tw1833847959688406909:=0
noncomputable def tw18367679650794681301:=0
noncomputable def tw18371284783138465269:=0
noncomputable def tw18374746225686918389:=0
noncomputable def tw18386854893347148238:=0
noncomputable def tw18394268562011335289:=0
noncomputable def tw18404935858338921730:=0
noncomputable def tw18420766472879879878:=0
noncomputable def tw1843344800811705456:=0
noncomputable def tw18444284757076569719:=0
noncomputable def tw1867163669062818997:=0
noncomputable def tw1869187583165140508:=0
noncomputable def tw1870156818490238407:=0
noncomputable def tw1880918794155911695:=0
noncomputable def tw1886144042066472794:=0
noncomputable def tw1897025099450329940:=0
noncomputable def tw1950521091445644615:=0
noncomputable def tw196536941598035525:=0
noncomputable def tw1970226141267450039:=0
noncomputable def tw1971433849790844608:=0
noncomputable def tw1974259917200649262:=0
noncomputable def tw1981915974141516567:=0
noncomputable def tw1988063486488863061:=0
noncomputable def tw1990408344712342385:=0
noncomputable def tw1999819345807860298:=0
noncomputable def tw2007660962349395123:=0
noncomputable def tw2009410202504348048:=0
noncomputable def tw2029088862249889922:=0
noncomputable def tw2047080938173012442:=0
noncomputable def tw2047500489365003465:=0
noncomputable def tw2063449620868658059:=0
noncomputable def tw2093333464667377861:=0
noncomputable def tw2095105360761779985:=0
noncomputable def tw2103985501979894447:=0
noncomputable def tw2104741419117168686:=0
noncomputable def tw2105017259488925948:=0
noncomputable def tw2122979085204505989:=0
noncomputable def tw2126296398998916975:=0
noncomputable def tw2145171640123136144:=0
noncomputable def tw216529984938456764:=0
noncomputable def tw2165817408578904141:=0
noncomputable def tw2167618695193717045:=0
noncomputable def tw2175593866937868789:=0
noncomputable def tw2218668502564051296:=0
noncomputable def tw2220570432770164149:=0
noncomputable def tw2248615004971204189:=0
noncomputable def tw2249405535684624136:=0
noncomputable def tw2267912224990424062:=0
noncomputable def tw2287362676942042354:=0
noncomputable def tw2307138979858485370:=0
noncomputable def tw2312856594315299383:=0
noncomputable def tw231919175587332662:=0
noncomputable def tw2341375176344054394:=0
noncomputable def tw2365566498512967660:=0
noncomputable def tw2369445192022557226:=0
noncomputable def tw2377541652452675900:=0
noncomputable def tw2387695369934537081:=0
noncomputable def tw2404127567346610951:=0
noncomputable def tw2405475915293451298:=0
noncomputable def tw2411195145006440666:=0
noncomputable def tw2417791160451022400:=0
noncomputable def tw2424727229257130912:=0
noncomputable def tw2443449257678562572:=0
noncomputable def tw2446451932059125521:=0
noncomputable def tw2446586112883488508:=0
noncomputable def tw2462062305354472974:=0
noncomputable def tw2464713573024523455:=0
noncomputable def tw2479311146797828861:=0
noncomputable def tw2502181453436431679:=0
noncomputable def tw2506305409684761478:=0
noncomputable def tw2511388062720753356:=0
noncomputable def tw2514443458684651071:=0
noncomputable def tw2529601377429677153:=0
noncomputable def tw2544169868661182894:=0
noncomputable def tw2555065506035805374:=0
noncomputable def tw2564807258711394888:=0
noncomputable def tw2565563351968343141:=0
noncomputable def tw2580922434103091657:=0
noncomputable def tw2581206410525282061:=0
noncomputable def tw2592109501493986082:=0
noncomputable def tw2596539476470345881:=0
noncomputable def tw2601905985415302144:=0
noncomputable def tw2617181576586992344:=0
noncomputable def tw2617719716777270872:=0
noncomputable def tw2619622883677149074:=0
noncomputable def tw2630061898475652689:=0
noncomputable def tw2665807947273092163:=0
noncomputable def tw2670627174450433442:=0
noncomputable def tw2675166985342186458:=0
noncomputable def tw2683898200743741643:=0
noncomputable def tw2685012915969955173:=0
noncomputable def tw2685745773621513544:=0
noncomputable def tw2686433634493928565:=0
noncomputable def tw2707679213066786127:=0
noncomputable def tw2712389131950775728:=0
noncomputable def tw2722852734226103192:=0
noncomputable def tw2727672472851901052:=0
noncomputable def tw2731995056826638727:=0
noncomputable def tw2732273902793177162:=0
noncomputable def tw2737145857125637188:=0
noncomputable def tw2742194189697913485:=0
noncomputable def tw2752453847809088016:=0
noncomputable def tw2758071753971750899:=0
noncomputable def tw2770239361232196585:=0
noncomputable def tw2770563814800254177:=0
noncomputable def tw2782073688633401757:=0
noncomputable def tw2788377495573325354:=0
noncomputable def tw2809488002615124206:=0
noncomputable def tw2812155379371279736:=0
noncomputable def tw2822501910515967889:=0
noncomputable def tw283044589724301:=0
noncomputable def tw2835187731363253809:=0
noncomputable def tw2847958352784047137:=0
noncomputable def tw2859833716702649255:=0
noncomputable def tw2867133514656366558:=0
noncomputable def tw2878843996050045342:=0
noncomputable def tw2879243146029554076:=0
noncomputable def tw2896640688883821729:=0
noncomputable def tw2907113945770861938:=0
noncomputable def tw2910609919460849807:=0
noncomputable def tw2924597203103170677:=0
noncomputable def tw2926424126403749041:=0
noncomputable def tw2965125352208521119:=0
noncomputable def tw2968346561183084112:=0
noncomputable def tw2972514686349903234:=0
noncomputable def tw2975709217455756120:=0
noncomputable def tw297971269722091814:=0
noncomputable def tw2985252069258134486:=0
noncomputable def tw2988451766255067171:=0
noncomputable def tw3002795768020413707:=0
noncomputable def tw3033006917804047512:=0
noncomputable def tw304654302220672320:=0
noncomputable def tw305557533498188196:=0
noncomputable def tw3087888393795971977:=0
noncomputable def tw3095723055068941187:=0
noncomputable def tw3120133295221510679:=0
noncomputable def tw3140898538269762758:=0
noncomputable def tw3143785405151724282:=0
noncomputable def tw314455870634268127:=0
noncomputable def tw3195522803047326042:=0
noncomputable def tw3195968871104189447:=0
noncomputable def tw3207569582813703071:=0
noncomputable def tw3217022616335106338:=0
noncomputable def tw3254097082911018636:=0
noncomputable def tw3261557481417251176:=0
noncomputable def tw3265191590900254762:=0
noncomputable def tw32865551896584297:=0
noncomputable def tw3315250197877816394:=0
noncomputable def tw3331421620988305804:=0
noncomputable def tw3337584539547039419:=0
noncomputable def tw3347922821702440152:=0
noncomputable def tw3357215229441099570:=0
noncomputable def tw3378803678994701225:=0
noncomputable def tw3389129807090800087:=0
noncomputable def tw339143206060000330:=0
noncomputable def tw3392894077380570524:=0
noncomputable def tw3422688185749166683:=0
noncomputable def tw342308947776675178:=0
noncomputable def tw3423177367516475676:=0
noncomputable def tw3452388546124629858:=0
noncomputable def tw3453223234828964814:=0
noncomputable def tw3465488137227279516:=0
noncomputable def tw3466367673801967747:=0
noncomputable def tw3473093325804163894:=0
noncomputable def tw3474246075231452896:=0
noncomputable def tw3479634599624807885:=0
noncomputable def tw3484022092364678248:=0
noncomputable def tw3486219094355674750:=0
noncomputable def tw350670483859837877:=0
noncomputable def tw3512812017678644602:=0
noncomputable def tw3548060758652744671:=0
noncomputable def tw3561193834555079511:=0
noncomputable def tw3570499242123996262:=0
noncomputable def tw3581848524822189991:=0
noncomputable def tw3584897518013459382:=0
noncomputable def tw3605147657684821369:=0
noncomputable def tw3612091147836175635:=0
noncomputable def tw3623408313619004113:=0
noncomputable def tw3644161924160858147:=0
noncomputable def tw3657543652526465285:=0
noncomputable def tw3663364146628395187:=0
noncomputable def tw3664424711883983056:=0
noncomputable def tw3669314199184481253:=0
noncomputable def tw3695669965767098725:=0
noncomputable def tw3696473221133414273:=0
noncomputable def tw3704924817259034979:=0
noncomputable def tw370947364307004932:=0
noncomputable def tw3712731000106771831:=0
noncomputable def tw3715792687998586317:=0
noncomputable def tw372964977893139469:=0
noncomputable def tw3730354652608582461:=0
noncomputable def tw3739144386018749749:=0
noncomputable def tw3764141193738528704:=0
noncomputable def tw3767615275625035234:=0
noncomputable def tw3776753064480771068:=0
noncomputable def tw3796891538752321733:=0
noncomputable def tw381845443943030031:=0
noncomputable def tw3820434133910038737:=0
noncomputable def tw3831216023754155268:=0
noncomputable def tw3843465024185675410:=0
noncomputable def tw3846862658102513837:=0
noncomputable def tw3855276242980373810:=0
noncomputable def tw3871027444623705763:=0
noncomputable def tw3874152929960365753:=0
noncomputable def tw3901323768455840569:=0
noncomputable def tw3909029901177050473:=0
noncomputable def tw390997316461189296:=0
noncomputable def tw3976154599441133093:=0
noncomputable def tw3995942328266245912:=0
noncomputable def tw4002441696211005659:=0
noncomputable def tw4004272951703288521:=0
noncomputable def tw4010397242664982755:=0
noncomputable def tw401921906979044612:=0
noncomputable def tw4023782888421380502:=0
noncomputable def tw4046864289407762814:=0
noncomputable def tw4047667213573674445:=0
noncomputable def tw4052878762203253943:=0
noncomputable def tw405421117753717134:=0
noncomputable def tw4058662728301269685:=0
noncomputable def tw4076138812419527698:=0
noncomputable def tw408693308722189009:=0
noncomputable def tw4098906973650278043:=0
noncomputable def tw4111001743050654279:=0
noncomputable def tw411662067469150650:=0
noncomputable def tw4117511757204851855:=0
noncomputable def tw4131498621145694574:=0
noncomputable def tw4134505453457115739:=0
noncomputable def tw4154345032738424160:=0
noncomputable def tw4158126171336067921:=0
noncomputable def tw4159251561096739476:=0
noncomputable def tw4166218997396506358:=0
noncomputable def tw4177254973167742082:=0
noncomputable def tw4181406029030974548:=0
noncomputable def tw4186445540838780016:=0
noncomputable def tw419386298079150103:=0
noncomputable def tw4205137553216949640:=0
noncomputable def tw4213018616267185653:=0
noncomputable def tw4231656071295301730:=0
noncomputable def tw4232285709927190386:=0
noncomputable def tw4250876409542091131:=0
noncomputable def tw4250950275838387964:=0
noncomputable def tw4258143625173308034:=0
noncomputable def tw4269943819458244956:=0
noncomputable def tw427269002284569659:=0
noncomputable def tw427420600052151026:=0
noncomputable def tw4292522238394942308:=0
noncomputable def tw4299629679881509495:=0
noncomputable def tw4321519831107876412:=0
noncomputable def tw4331257952254489624:=0
noncomputable def tw4345882819342510227:=0
noncomputable def tw4364441335898809636:=0
noncomputable def tw4383139521930768336:=0
noncomputable def tw4386051856896618312:=0
noncomputable def tw439095664309466517:=0
noncomputable def tw4392038535549328194:=0
noncomputable def tw443688265066261825:=0
noncomputable def tw4468942710605802240:=0
noncomputable def tw4491576736643003783:=0
noncomputable def tw4498253355057717688:=0
noncomputable def tw4501217679856968648:=0
noncomputable def tw450566749975022562:=0
noncomputable def tw4526881389914513428:=0
noncomputable def tw453181688931711583:=0
noncomputable def tw4547018644641229820:=0
noncomputable def tw4547113066930546574:=0
noncomputable def tw4551080515912023512:=0
noncomputable def tw4555866861457887817:=0
noncomputable def tw4566856676736034171:=0
noncomputable def tw4571971715460732019:=0
noncomputable def tw4586369020291528013:=0
noncomputable def tw4596429891927722243:=0
noncomputable def tw4597200072644226624:=0
noncomputable def tw4626048006780466326:=0
noncomputable def tw462939625794472801:=0
noncomputable def tw4655869559712951663:=0
noncomputable def tw4656485037274611717:=0
noncomputable def tw4671429814451907529:=0
noncomputable def tw4691186174975459493:=0
noncomputable def tw4695670854781333657:=0
noncomputable def tw46980244435833615:=0
noncomputable def tw4699463449715708850:=0
noncomputable def tw4705723845826882120:=0
noncomputable def tw47109162367338493:=0
noncomputable def tw4713442408853163898:=0
noncomputable def tw4730768163679209282:=0
noncomputable def tw4736427724481360342:=0
noncomputable def tw4758991174889311326:=0
noncomputable def tw4778504736273101941:=0
noncomputable def tw4784893810139332661:=0
noncomputable def tw479018264907363369:=0
noncomputable def tw4791253341166991637:=0
noncomputable def tw4796303294375832693:=0
noncomputable def tw4807402645868434406:=0
noncomputable def tw4807692442873511580:=0
noncomputable def tw4828031223510198475:=0
noncomputable def tw4835499133494076262:=0
noncomputable def tw4840481374290595910:=0
noncomputable def tw4856909995586565122:=0
noncomputable def tw4859757453598101857:=0
noncomputable def tw4885547446624616799:=0
noncomputable def tw4898356984482387957:=0
noncomputable def tw4916261283513009128:=0
noncomputable def tw492879137614061493:=0
noncomputable def tw4940147422707163885:=0
noncomputable def tw4977374598719398275:=0
noncomputable def tw5005317128667965579:=0
noncomputable def tw501154541418245514:=0
noncomputable def tw5071412327939943321:=0
noncomputable def tw5072613934562372735:=0
noncomputable def tw5077617475879078156:=0
noncomputable def tw5078243831526850631:=0
noncomputable def tw5088376156974544275:=0
noncomputable def tw5090403379997645153:=0
noncomputable def tw5105846836358774362:=0
noncomputable def tw5113399926031042000:=0
noncomputable def tw5118827330378232414:=0
noncomputable def tw5149389405684931422:=0
noncomputable def tw5151264090131730833:=0
noncomputable def tw516228168201391017:=0
noncomputable def tw5163715390036670947:=0
noncomputable def tw517144808224063464:=0
noncomputable def tw5176459694589498394:=0
noncomputable def tw5184316447030610940:=0
noncomputable def tw5186518429493523239:=0
noncomputable def tw5196900775432865589:=0
noncomputable def tw5225153198818245361:=0
noncomputable def tw5225916559131626549:=0
noncomputable def tw5235370132326077648:=0
noncomputable def tw5240389563564037448:=0
noncomputable def tw5240762971458559404:=0
noncomputable def tw5244899138074338376:=0
noncomputable def tw5245862010334584759:=0
noncomputable def tw5251713544086459897:=0
noncomputable def tw5278709424875269971:=0
noncomputable def tw5290597957214086601:=0
noncomputable def tw5303079699428457377:=0
noncomputable def tw53344730913325255:=0
noncomputable def tw5341934141677670832:=0
noncomputable def tw5365650347091420665:=0
noncomputable def tw5372818933009108603:=0
noncomputable def tw5380135791562185454:=0
noncomputable def tw5398424786039705171:=0
noncomputable def tw5405092056839124451:=0
noncomputable def tw5444345374180229054:=0
noncomputable def tw5472114250418208992:=0
noncomputable def tw5476889619067714990:=0
noncomputable def tw5478984987465852783:=0
noncomputable def tw5483185372664623402:=0
noncomputable def tw5507162329139097715:=0
noncomputable def tw5513142621748847562:=0
noncomputable def tw5523086135645875356:=0
noncomputable def tw5535988348211436712:=0
noncomputable def tw5536038536531405202:=0
noncomputable def tw5552270689369575618:=0
noncomputable def tw5556493977086137149:=0
noncomputable def tw5568030912866071158:=0
noncomputable def tw5571243529121415630:=0
noncomputable def tw5581607755468803823:=0
noncomputable def tw5590232498371695878:=0
noncomputable def tw5596365628329696591:=0
noncomputable def tw5609151216138764652:=0
noncomputable def tw5647976800219259906:=0
noncomputable def tw5648408011753718230:=0
noncomputable def tw5667650583090716360:=0
noncomputable def tw5691087667936548404:=0
noncomputable def tw5692499903750754813:=0
noncomputable def tw5702910450625016506:=0
noncomputable def tw5705847716771211507:=0
noncomputable def tw5728218623943512802:=0
noncomputable def tw5738303106652476479:=0
noncomputable def tw575894324575664597:=0
noncomputable def tw5764397981948056254:=0
noncomputable def tw5766051744304087583:=0
noncomputable def tw5771795636922677268:=0
noncomputable def tw5786237608948540331:=0
noncomputable def tw5790966258338625528:=0
noncomputable def tw5804503181746721162:=0
noncomputable def tw5839659824258004927:=0
noncomputable def tw5850499497852442878:=0
noncomputable def tw5860347150701562758:=0
noncomputable def tw5868845118606482295:=0
noncomputable def tw5889316905344633881:=0
noncomputable def tw5915399644114372684:=0
noncomputable def tw5922324665105752571:=0
noncomputable def tw5925500843972428364:=0
noncomputable def tw5938664839603501006:=0
noncomputable def tw5938710623178642122:=0
noncomputable def tw594810645892935528:=0
noncomputable def tw5958459099580689026:=0
noncomputable def tw5969682004907312646:=0
noncomputable def tw5969987386201385886:=0
noncomputable def tw5970215366352900667:=0
noncomputable def tw5983031951866500094:=0
noncomputable def tw6042063481754889096:=0
noncomputable def tw6057728870046649322:=0
noncomputable def tw6065713072024180384:=0
noncomputable def tw6075534854705499898:=0
noncomputable def tw6093381724317392397:=0
noncomputable def tw6124053682588569230:=0
noncomputable def tw6127594578889010139:=0
noncomputable def tw6176384092110617959:=0
noncomputable def tw6185767955086497853:=0
noncomputable def tw6187478851450931391:=0
noncomputable def tw6189502492464219833:=0
noncomputable def tw6196800358849779857:=0
noncomputable def tw620129878449983639:=0
noncomputable def tw6203543418390704334:=0
noncomputable def tw6211089042160764376:=0
noncomputable def tw6220391956798857122:=0
noncomputable def tw6240597372359344220:=0
noncomputable def tw6240723676877644813:=0
noncomputable def tw6263863080660174929:=0
noncomputable def tw6265675901050258516:=0
noncomputable def tw6265701101103706036:=0
noncomputable def tw6276886402236213621:=0
noncomputable def tw6286779285267259847:=0
noncomputable def tw6287420888163001789:=0
noncomputable def tw6292954644110606532:=0
noncomputable def tw6333448901615975916:=0
noncomputable def tw6370870915552960936:=0
noncomputable def tw6381231289166406305:=0
noncomputable def tw6383614241601562808:=0
noncomputable def tw6427072779572263022:=0
noncomputable def tw6430265229019958763:=0
noncomputable def tw6431110157172167083:=0
noncomputable def tw6432616177841060128:=0
noncomputable def tw6438537300738474071:=0
noncomputable def tw6448850889433096767:=0
noncomputable def tw6459276657848829223:=0
noncomputable def tw6460121766331871944:=0
noncomputable def tw6468107147075657394:=0
noncomputable def tw6480638250107114081:=0
noncomputable def tw6487610083215253720:=0
noncomputable def tw6491118196486620199:=0
noncomputable def tw649594095290182367:=0
noncomputable def tw650146959520709813:=0
noncomputable def tw6503730183909636620:=0
noncomputable def tw6505410396798821541:=0
noncomputable def tw6509661102738689577:=0
noncomputable def tw6520327441239513222:=0
noncomputable def tw657111498738832265:=0
noncomputable def tw6572447435987645144:=0
noncomputable def tw6583040956863952856:=0
noncomputable def tw65929781887070819:=0
noncomputable def tw6594526768476950845:=0
noncomputable def tw661290744650703789:=0
noncomputable def tw6623532728838073528:=0
noncomputable def tw6624316729101989866:=0
noncomputable def tw6659320528611288953:=0
noncomputable def tw6662652255960138227:=0
noncomputable def tw6664487174759623829:=0
noncomputable def tw6674990990233134667:=0
noncomputable def tw668136137496459709:=0
noncomputable def tw6694047246710070196:=0
noncomputable def tw6698198892039521366:=0
noncomputable def tw6699709698940308603:=0
noncomputable def tw672699306608606093:=0
noncomputable def tw6733462575251390621:=0
noncomputable def tw6746510453823603384:=0
noncomputable def tw6749217079512962374:=0
noncomputable def tw6754034310392073148:=0
noncomputable def tw6756851087969907010:=0
noncomputable def tw6756868429301003459:=0
noncomputable def tw6761616313442571491:=0
noncomputable def tw6786057226368545225:=0
noncomputable def tw679676368844127653:=0
noncomputable def tw6812286434817487243:=0
noncomputable def tw681777741448182936:=0
noncomputable def tw682014064893787789:=0
noncomputable def tw6859976401760118174:=0
noncomputable def tw6883741973766446791:=0
noncomputable def tw6885214360128481674:=0
noncomputable def tw6893477703608230032:=0
noncomputable def tw6898770573198911631:=0
noncomputable def tw6900192571869012848:=0
noncomputable def tw6906291655842520137:=0
noncomputable def tw6912233166142098652:=0
noncomputable def tw6916252892733821390:=0
noncomputable def tw6919701780365589675:=0
noncomputable def tw6930518751129746686:=0
noncomputable def tw6933892841690572062:=0
noncomputable def tw6942226510957090829:=0
noncomputable def tw6973401727384321114:=0
noncomputable def tw6995156244289063730:=0
noncomputable def tw7033079012710635876:=0
noncomputable def tw705360758644809490:=0
noncomputable def tw7059692629156357883:=0
noncomputable def tw7079599612431449588:=0
noncomputable def tw708234853630380328:=0
noncomputable def tw7108139096449030536:=0
noncomputable def tw7109474655260566790:=0
noncomputable def tw7138430578808182737:=0
noncomputable def tw7150219430624708079:=0
noncomputable def tw7158002623345892728:=0
noncomputable def tw7160269749354968344:=0
noncomputable def tw7160873610591055699:=0
noncomputable def tw7188692134583612594:=0
noncomputable def tw7191137982244381804:=0
noncomputable def tw7198060816514059695:=0
noncomputable def tw7204493036743257322:=0
noncomputable def tw7204998973626084599:=0
noncomputable def tw7213333562754528385:=0
noncomputable def tw7215319984434753242:=0
noncomputable def tw72247145696351765:=0
noncomputable def tw7230903212357928904:=0
noncomputable def tw7249705126575804556:=0
noncomputable def tw7250933059871147345:=0
noncomputable def tw7273676953221729872:=0
noncomputable def tw7280543176740627685:=0
noncomputable def tw728428047077509346:=0
noncomputable def tw729201693064108563:=0
noncomputable def tw7313339093194340965:=0
noncomputable def tw7314081408670574914:=0
noncomputable def tw7325726471975496349:=0
noncomputable def tw7358114872323791358:=0
noncomputable def tw7360070258638436176:=0
noncomputable def tw7381879191629600215:=0
noncomputable def tw7386116660499605909:=0
noncomputable def tw7387763944681370771:=0
noncomputable def tw7414872774492366064:=0
noncomputable def tw7417887686044952416:=0
noncomputable def tw7429413206186439793:=0
noncomputable def tw7436774141650363327:=0
noncomputable def tw7438316178485321408:=0
noncomputable def tw7444641836354208208:=0
noncomputable def tw7458633546980236471:=0
noncomputable def tw7475746777092488413:=0
noncomputable def tw7522852383072776753:=0
noncomputable def tw7527032243904285869:=0
noncomputable def tw7538252964068480738:=0
noncomputable def tw7541902462831936723:=0
noncomputable def tw7557910624720293991:=0
noncomputable def tw7587601194962177611:=0
noncomputable def tw7600245330811189008:=0
noncomputable def tw76412952228603488:=0
noncomputable def tw7661422722574676068:=0
noncomputable def tw7669972870368051581:=0
noncomputable def tw7671549972530922468:=0
noncomputable def tw7673058066778466091:=0
noncomputable def tw7675417749720738473:=0
noncomputable def tw7681529838311687354:=0
noncomputable def tw7702549930194098719:=0
noncomputable def tw7714757148821155124:=0
noncomputable def tw7715697345341360870:=0
noncomputable def tw7717162694582976202:=0
noncomputable def tw7737320934136571279:=0
noncomputable def tw7740461459972228597:=0
noncomputable def tw7743179893348639699:=0
noncomputable def tw7744093853086628109:=0
noncomputable def tw7750674698935896394:=0
noncomputable def tw7750763615657719005:=0
noncomputable def tw7761843605638006849:=0
noncomputable def tw7781603739153083191:=0
noncomputable def tw7798038017242356590:=0
noncomputable def tw7799483888651840948:=0
noncomputable def tw7817637940432870852:=0
noncomputable def tw7830913209206220567:=0
noncomputable def tw7845129631348957993:=0
noncomputable def tw7847352863974893604:=0
noncomputable def tw7847650389618582240:=0
noncomputable def tw7855079511596107753:=0
noncomputable def tw7864126584600172346:=0
noncomputable def tw788273225186049534:=0
noncomputable def tw7892811243723596987:=0
noncomputable def tw7896245365604500681:=0
noncomputable def tw7908083297732987344:=0
noncomputable def tw7913636548009798097:=0
noncomputable def tw7926136590108786892:=0
noncomputable def tw795583310449317561:=0
noncomputable def tw7980593446034420393:=0
noncomputable def tw7990429038631628895:=0
noncomputable def tw8013090884974467112:=0
noncomputable def tw8025738503920905074:=0
noncomputable def tw8043003576528973991:=0
noncomputable def tw8054331753737935190:=0
noncomputable def tw8069049012094873728:=0
noncomputable def tw8107780213005350392:=0
noncomputable def tw8139039716903228087:=0
noncomputable def tw8140125068956082859:=0
noncomputable def tw8143265674769528471:=0
noncomputable def tw8148004212497801138:=0
noncomputable def tw8150499350492408157:=0
noncomputable def tw8163011886388404031:=0
noncomputable def tw8170299122808406783:=0
noncomputable def tw81815255157605957:=0
noncomputable def tw8204474986945543665:=0
noncomputable def tw8212240652046128837:=0
noncomputable def tw8234982856072565626:=0
noncomputable def tw8235891563360409721:=0
noncomputable def tw8237333600419904120:=0
noncomputable def tw8243169916365450940:=0
noncomputable def tw8265191368974092141:=0
noncomputable def tw8265311939077410998:=0
noncomputable def tw8297286125493194097:=0
noncomputable def tw8311017846404947139:=0
noncomputable def tw8321918168302905379:=0
noncomputable def tw832561496525075734:=0
noncomputable def tw8327351992414209593:=0
noncomputable def tw8336415144858002973:=0
noncomputable def tw83393220934416808:=0
noncomputable def tw8340158742958640245:=0
noncomputable def tw8345894832289464959:=0
noncomputable def tw8347795973495727564:=0
noncomputable def tw8363718466572441477:=0
noncomputable def tw8369368087495890639:=0
noncomputable def tw8372035913837991250:=0
noncomputable def tw8374938949443298174:=0
noncomputable def tw8376602336982375544:=0
noncomputable def tw8387846086841660427:=0
noncomputable def tw8388089289598778967:=0
noncomputable def tw8393700709775954928:=0
noncomputable def tw8410488445778877200:=0
noncomputable def tw84136930442132756:=0
noncomputable def tw8420165910927482534:=0
noncomputable def tw8443935842833279946:=0
noncomputable def tw8455645898260960030:=0
noncomputable def tw8472579005086612782:=0
noncomputable def tw8475934720593444888:=0
noncomputable def tw8485949089215259265:=0
noncomputable def tw8497195503638393647:=0
noncomputable def tw8500458220134822360:=0
noncomputable def tw8507776931139520737:=0
noncomputable def tw8523463495250067690:=0
noncomputable def tw8529706226740600733:=0
noncomputable def tw8538268897159353584:=0
noncomputable def tw8541664164027344294:=0
noncomputable def tw8547604310838440241:=0
noncomputable def tw8559696506817466502:=0
noncomputable def tw8560541052185303311:=0
noncomputable def tw8566151710794823266:=0
noncomputable def tw8571864745642015655:=0
noncomputable def tw859137505422859605:=0
noncomputable def tw8598144960395782539:=0
noncomputable def tw860223938195835975:=0
noncomputable def tw8620165645458168473:=0
noncomputable def tw8622502720953521162:=0
noncomputable def tw8628236747792435071:=0
noncomputable def tw8637452081102412489:=0
noncomputable def tw8640399195822439974:=0
noncomputable def tw8640417174963836015:=0
noncomputable def tw8645369167282567922:=0
noncomputable def tw864819663365544661:=0
noncomputable def tw8657480035899644758:=0
noncomputable def tw8672883130414831044:=0
noncomputable def tw8679839319945467846:=0
noncomputable def tw8687831153774095200:=0
noncomputable def tw8689318265317240412:=0
noncomputable def tw8693662901424576113:=0
noncomputable def tw8694864300669457046:=0
noncomputable def tw8716659796364181309:=0
noncomputable def tw8720027088463671890:=0
noncomputable def tw8722410040271553984:=0
noncomputable def tw8729362747519067210:=0
noncomputable def tw8735323631387419056:=0
noncomputable def tw8746941081350896204:=0
noncomputable def tw8764386038893188826:=0
noncomputable def tw877433047237710547:=0
noncomputable def tw8779778587388263019:=0
noncomputable def tw8800459187187324500:=0
noncomputable def tw8810280945414196856:=0
noncomputable def tw8813761850579938390:=0
noncomputable def tw8814567910327776732:=0
noncomputable def tw8817415213059835157:=0
noncomputable def tw8823455108540655025:=0
noncomputable def tw8833053369097974544:=0
noncomputable def tw8833944927944761889:=0
noncomputable def tw8874702517807110003:=0
noncomputable def tw887695700811335699:=0
noncomputable def tw8892184565913893157:=0
noncomputable def tw8903290554218469011:=0
noncomputable def tw8912170899635468890:=0
noncomputable def tw8922926602274725614:=0
noncomputable def tw8968299171318014206:=0
noncomputable def tw8973803690348224638:=0
noncomputable def tw8975108423156789194:=0
noncomputable def tw8985709366574770022:=0
noncomputable def tw8987010028205321725:=0
noncomputable def tw8999917154711486175:=0
noncomputable def tw9016798869158615873:=0
noncomputable def tw9038659593494541401:=0
noncomputable def tw9041457687873607070:=0
noncomputable def tw9059672392935016618:=0
noncomputable def tw9059832203979395877:=0
noncomputable def tw9063741608606530840:=0
noncomputable def tw9075757514644619006:=0
noncomputable def tw908825868028484722:=0
noncomputable def tw9104712851299545879:=0
noncomputable def tw9106217408553126167:=0
noncomputable def tw9108098604805947806:=0
noncomputable def tw913810622518204374:=0
noncomputable def tw9149571693438533347:=0
noncomputable def tw9152664641465651067:=0
noncomputable def tw9166809390415177425:=0
noncomputable def tw9178861053002065721:=0
noncomputable def tw9195894827357321740:=0
noncomputable def tw9227057690007400460:=0
noncomputable def tw9227541089923242437:=0
noncomputable def tw9229161468869434483:=0
noncomputable def tw9233335307524088747:=0
noncomputable def tw9238823003894178615:=0
noncomputable def tw9259421805112917234:=0
noncomputable def tw9272544492142499777:=0
noncomputable def tw9287724387753133302:=0
noncomputable def tw93012567124736588:=0
noncomputable def tw9305691244287143441:=0
noncomputable def tw9319964216562750351:=0
noncomputable def tw9326722878772556681:=0
noncomputable def tw9328819404386307858:=0
noncomputable def tw9332579688445097367:=0
noncomputable def tw9335426496214029073:=0
noncomputable def tw9358617607463016204:=0
noncomputable def tw9361663168868926718:=0
noncomputable def tw9366391650621772374:=0
noncomputable def tw9378254376102152143:=0
noncomputable def tw9382581127745807760:=0
noncomputable def tw9407396174263392564:=0
noncomputable def tw9410359166525395380:=0
noncomputable def tw9429129263215473398:=0
noncomputable def tw9442318146202087700:=0
noncomputable def tw9456006794991739263:=0
noncomputable def tw9486757043174368735:=0
noncomputable def tw9503340733035011235:=0
noncomputable def tw9514800995652322822:=0
noncomputable def tw9516688046558066552:=0
noncomputable def tw953821971998124167:=0
noncomputable def tw956089473029861405:=0
noncomputable def tw956942650209027819:=0
noncomputable def tw9572121911122791463:=0
noncomputable def tw9576743257966636567:=0
noncomputable def tw9589608677651300831:=0
noncomputable def tw9590619109379692515:=0
noncomputable def tw9590735534726013551:=0
noncomputable def tw9601329371697537090:=0
noncomputable def tw9614876229902214918:=0
noncomputable def tw9622763587122877835:=0
noncomputable def tw9631074621892390191:=0
noncomputable def tw9635476784945057844:=0
noncomputable def tw965346924571166687:=0
noncomputable def tw9666326922614434849:=0
noncomputable def tw9673933992889287130:=0
noncomputable def tw9682687983338836895:=0
noncomputable def tw9684699057600944294:=0
noncomputable def tw9694206877528517478:=0
noncomputable def tw9723989250521069032:=0
noncomputable def tw9730117847529262572:=0
noncomputable def tw9739860059890490050:=0
noncomputable def tw9743097575036673082:=0
noncomputable def tw9759319705405543751:=0
noncomputable def tw9768079942903668216:=0
noncomputable def tw9777375502002234229:=0
noncomputable def tw9800703332001039478:=0
noncomputable def tw9806617501295524395:=0
noncomputable def tw9811366534603930577:=0
noncomputable def tw9822532417609929294:=0
noncomputable def tw9831455883205970180:=0
noncomputable def tw9833397302626899308:=0
noncomputable def tw9835852885743449411:=0
noncomputable def tw9843447840031818808:=0
noncomputable def tw9843949296442739443:=0
noncomputable def tw984902984118615328:=0
noncomputable def tw9851269098105209369:=0
noncomputable def tw9854310039474760501:=0
noncomputable def tw9854493187847425173:=0
noncomputable def tw9866974324488430755:=0
noncomputable def tw987869383939708018:=0
noncomputable def tw9908339238214195531:=0
noncomputable def tw9908739903337578654:=0
noncomputable def tw9913501989792142831:=0
noncomputable def tw9919435345466941130:=0
noncomputable def tw9930815651645962114:=0
noncomputable def tw9936536881743500907:=0
noncomputable def tw99440450732166138:=0
noncomputable def tw9951221954081769418:=0
noncomputable def tw9953747333497923681:=0
noncomputable def tw995497684801637723:=0
noncomputable def tw9961057766049560675:=0
noncomputable def tw9962302188120564619:=0
noncomputable def tw9979761617814169885:=0
noncomputable def tw9989051494896439582:=0
noncomputable def tw9990226795618131978:=0
end Mine.top
set_option Elab.async true
set_option maxRecDepth 100000 in
set_option maxHeartbeats 8000000 in
theorem Mine.top:PySem.Challenge.rw_nq0244_01.Holds:=by
  w_on
  o_law
  k_head
  case hw=>w_witness2
  intro w s₀ s₁ mg mb G Y fa o pm cd doc dV kV ho hd hcd hD hmg hg args vals as hpre hlay hrd hwl hlo; have KX:=kIn_of Y; refine Mine.An G KX hmg hg hpre hlay hrd hwl hlo ?_ ?_
  · kernel_rfl
  exact { fp:=by kernel_rfl,fd:=by kernel_rfl,fc:=by kernel_rfl,g:=by kernel_rfl,b:=by kernel_rfl,n:=by kernel_rfl,ta:=by kernel_rfl,i:=by kernel_rfl,t:=by kernel_rfl,kp:=by kernel_rfl,zy:=by kernel_rfl,booked:=by kernel_rfl,dh:=⟨by kernel_rfl,by kernel_rfl,by kernel_rfl,by kernel_rfl⟩,dF:=⟨by kernel_rfl,by kernel_rfl,by kernel_rfl,by kernel_rfl⟩,aX:=⟨by kernel_rfl,by kernel_rfl,by kernel_rfl,by kernel_rfl⟩,nj:=by kernel_rfl,j5:=by kernel_rfl,mF:=by kernel_rfl,yU:=by kernel_rfl,yT:=by kernel_rfl,yS:=by kernel_rfl,wU:=by kernel_rfl,yR:=by kernel_rfl,vn:=by kernel_rfl,xT:=by kernel_rfl,xU:=by kernel_rfl,rZ:=by kernel_rfl,vf:=by kernel_rfl,vh:=by kernel_rfl,u9:=by kernel_rfl,ve:=by kernel_rfl,vg:=by kernel_rfl,vd:=by kernel_rfl,mT:=fun S=>by kernel_rfl,mD:=by kernel_rfl,mz:=by kernel_rfl,mC:=by kernel_rfl }
theorem PySem.Challenge.cw_nq0244_01_holds : PySem.Challenge.rw_nq0244_01.Holds := by
  exact Mine.top
