import PyProof.Rows.All
import Wide.All
import OpenK.AllK
import Wide.FinOn
import PySem.Challenge.RW_pu0011_01
set_option Elab.async false
set_option maxRecDepth 10000
set_option linter.unusedSimpArgs false
set_option linter.unusedVariables false
set_option linter.unusedSectionVars false
set_option bootstrap.genMatcherCode false
set_option genSizeOf false
set_option genInjectivity false
set_option tactic.hygienic false
noncomputable section
namespace Om
theorem nb {x:Int} {n:Nat} (h:x.natAbs ≤ n):-(n:Int) ≤ x∧x ≤ n:=⟨Int.neg_le_of_neg_le (Int.le_trans (by rw [← Int.natAbs_neg]; exact Int.le_natAbs) (Int.ofNat_le.mpr h)),Int.le_trans Int.le_natAbs (Int.ofNat_le.mpr h)⟩
theorem om1 {a:Nat} (h0:a ≤ 1000):a ≤ 1000000:=Nat.le_trans h0 (by decide)
theorem om2 {a:Nat} (h0:a ≤ 100):a ≤ 1000000:=Nat.le_trans h0 (Nat.le_add_left _ _)
theorem om3 {a:Nat} (h0:a ≤ 100):a ≤ 1000:=Nat.le_trans h0 (Nat.le_add_left _ _)
theorem om4 {a b:Nat} (h0:a < b) (h1:b ≤ 1000):a < 1000000:=Nat.lt_of_lt_of_le h0 (Nat.le_trans h1 (by decide))
theorem om5 {a:Nat} (h0:a ≤ 1000):a + 1 ≤ 1000000:=Nat.lt_of_le_of_lt h0 (by decide)
theorem om6 {a b:Nat} (h0:a ≤ 1000) (h1:b ≤ a):b ≤ 1000000:=Nat.le_trans h1 (Nat.le_trans h0 (by decide))
theorem om7 {a b:Nat} (h0:a < b):0 < b:=Nat.le_trans (Nat.succ_pos _) h0
theorem om8 {a b:Nat} (h0:a=b + 1):b < a:=(Nat.le_of_eq h0.symm)
theorem om9 {a:Nat} (h0:a ≤ 100):a + 1 ≤ 1000000:=Nat.lt_of_le_of_lt h0 (Nat.le_add_left _ _)
theorem om10 {a:Nat} (h0:a ≤ 3):a ≤ 1000:=Nat.le_trans h0 (Nat.le_add_left _ _)
theorem om11 {a b:Nat} (h0:a=b) (h1:b ≤ 100):a ≤ 1000:=Nat.le_trans (Nat.le_of_eq h0) (Nat.le_trans h1 (by decide))
theorem om12 {a b c:Nat} (h0:a < b) (h1:c=b):a < c:=Nat.le_trans h0 (Nat.le_of_eq h1.symm)
theorem om13 {a b:Nat} (h0:a - b=0):a ≤ b:=Nat.le_of_sub_eq_zero h0
theorem om14 {a b:Nat}:a + (b + 1)=a + 1 + b:=(Nat.succ_add a b).symm
theorem om15 {a b:Nat} (h0:a ≤ b):a + (b - a)=b:=Nat.add_sub_cancel' h0
theorem om16 {a b c:Nat} (h0:a < b) (h1:c=a):c < b:=Nat.lt_of_le_of_lt (Nat.le_of_eq h1) h0
theorem om17 {a b:Nat}:a ≤ a + b:=(Nat.le_add_right _ _)
theorem om18 {a:Nat} (h0:0 < a):a ≠ 0:=Nat.ne_of_gt h0
theorem om19 {a b:Nat} (h0:a=b):a ≤ b:=(Nat.le_of_eq h0)
theorem om20 {a:Nat}:¬a + 1=0:=Nat.ne_of_gt (Nat.succ_pos _)
theorem om21 {a b c:Nat} (h0:a < b) (h1:b=c):a < c:=Nat.le_trans h0 (Nat.le_of_eq h1)
theorem om22 {a:Nat} (h0:0 < a):a=a - 1 + 1:=(Nat.sub_add_cancel h0).symm
theorem om23 {a b c:Nat} (h0:a - b=c + 1):a - (b + 1)=c:=congrArg Nat.pred h0
theorem om24 {a b:Nat} (h0:a=b) (h1:b ≤ 1000):a ≤ 1000:=Nat.le_trans (Nat.le_of_eq h0) h1
theorem om25 {a b:Nat}:(↑a:Int)=(↑b:Int) ↔ a=b:=Int.ofNat_inj
theorem om26 {a b:Nat}:a + 1 - (b + 1)=a - b:=Nat.add_sub_add_right a 1 b
theorem om27 {a b:Nat} (h0:a < b):a < b + 1:=(Nat.le_succ_of_le h0)
theorem om28 {a:Nat}:a < a + 1:=(Nat.le_refl _)
theorem om29 {a b:Nat} (h0:a < b):¬b < a:=Nat.not_le_of_lt (Nat.le_succ_of_le h0)
theorem om30 {a b:Nat} (h0:a < b) (h1:a=b):False:=Nat.ne_of_lt h0 h1
theorem om31 {a b c:Nat} (h0:a + (b + 1)=c):a < c:=Nat.lt_of_le_of_lt (Nat.le_add_right _ _) (Nat.le_of_eq h0)
theorem om32 {a b c:Nat} (h0:a + (b + 1)=c):a + 1 + b=c:=(Nat.succ_add a b).trans h0
theorem om33 {a:Nat} (h0:a ≤ 0):a=0:=Nat.sub_eq_zero_of_le h0
theorem om34 {a b c:Nat} (h0:a < b) (h1:b ≤ c + 1):a ≤ c:=Nat.le_of_lt_succ (Nat.lt_of_lt_of_le h0 h1)
theorem om35 {a b:Nat} (h0:a < b + 1):a ≤ b:=(Nat.le_of_lt_succ h0)
theorem om36 {a b c:Nat} (h0:a < min b c):a < b:=Nat.le_trans h0 (Nat.min_le_left _ _)
theorem om37 {a b c d:Nat} (h0:a < b) (h1:b < c) (h2:c < d):a < d:=Nat.lt_trans h0 (Nat.lt_trans h1 h2)
theorem om38 {a b:Nat} (h0:0 < a) (h1:0=a):0 < b:=absurd h1 (Nat.ne_of_lt h0)
theorem om39 {a:Nat} (h0:a < a):False:=Nat.lt_irrefl a h0
theorem om40 {a b c:Nat} (h0:a + b ≤ c):a ≤ c:=Nat.le_trans (Nat.le_add_right _ _) h0
theorem om41 {a b:Nat} (h0:a ≤ b):a < b + 1:=(Nat.succ_le_succ h0)
theorem om42 {a b c:Nat} (h0:a - b=c + 1):b < a:=Nat.lt_of_sub_eq_succ h0
theorem om43 {a b:Nat} (h0:a < b) (h1:b ≤ 1000000):a ≤ 16777216:=Nat.le_trans (Nat.le_of_lt h0) (Nat.le_trans h1 (by decide))
theorem om44 {a b:Nat} (h0:a < b):¬b ≤ a:=Nat.not_le_of_lt h0
theorem om45 {a:Nat} (h0:a ≤ 1000):1 + a ≤ 1000000:=Nat.le_trans (Nat.add_le_add_left h0 _) (by decide)
theorem om46 {a b c:Nat} (h0:a ≤ b) (h1:c ≤ b):max a c ≤ b:=Nat.max_le_of_le_of_le h0 h1
theorem om47 {a b:Nat} (h0:a < b) (h1:b ≤ 1000):a ≤ 1000000:=Nat.le_trans (Nat.le_of_lt h0) (Nat.le_trans h1 (by decide))
theorem om48 {a:Nat} (h0:0 < a):0 < (↑a:Int):=Int.ofNat_lt.mpr h0
theorem om49 {a:Nat}:(↑(a + 1):Int) ≠ 0:=fun h=>nomatch Int.ofNat_inj.mp h
theorem om50 {x:Int} (h0:0 ≤ x):(↑x.toNat:Int)=x:=Int.toNat_of_nonneg h0
theorem om51 {x:Int} (h0:x < 3):x.toNat < 1000000:=by cases x with | ofNat n=>exact Nat.lt_trans (Int.ofNat_lt.mp h0) (by decide) | negSucc n=>exact (by decide:0 < 1000000)
theorem om52 {x:Int} (h0:x < 3):x.toNat < 3:=by cases x with | ofNat n=>exact Int.ofNat_lt.mp h0 | negSucc n=>exact (by decide:0 < 3)
theorem om53 {a:Nat} (h0:a ≤ 1000):a < 1000000:=Nat.lt_of_le_of_lt h0 (by decide)
theorem om54 {a b:Nat} (h0:a + 1 ≤ b + 1):a ≤ b:=(Nat.le_of_lt_succ h0)
theorem om55 {a b:Nat} (h0:a < b) (h1:b ≤ 100):a ≤ 1000000:=Nat.le_trans (Nat.le_of_lt h0) (Nat.le_trans h1 (by decide))
theorem om56 {a b:Nat} (h0:a=b) (h1:b ≤ 100):a ≤ 1000000:=Nat.le_trans (Nat.le_of_eq h0) (Nat.le_trans h1 (by decide))
theorem om57 {a b:Nat} (h0:a + 1 ≤ b):a < b:=h0
theorem om58 {a b:Nat} (h0:a < b + 1) (h1:a ≥ b):a=b:=Nat.le_antisymm (Nat.le_of_lt_succ h0) h1
theorem om59 {a b:Nat} (h0:a < b) (h1:b < a):False:=Nat.lt_asymm h0 h1
theorem om60 {a b c d:Nat} (h0:a + 1=b + 1) (h1:b < a):c ≤ d:=absurd (Nat.succ.inj h0) (Nat.ne_of_gt h1)
theorem om61 {a b c d e f:Nat} (h0:a < b) (h1:c=a) (h2:d=b) (h3:d ≤ c):e < f:=absurd (Nat.lt_of_lt_of_eq (Nat.lt_of_le_of_lt (Nat.le_of_eq h1) h0) h2.symm) (Nat.not_lt_of_le h3)
theorem om62 {a b c d:Nat} (h0:a < b) (h1:c=a) (h2:c=b):d < d:=absurd (h1.symm.trans h2) (Nat.ne_of_lt h0)
theorem om63 {a b:Nat}:a + 1 + b=a + (b + 1):=Nat.succ_add a b
theorem om64 {a b c:Nat} (h0:a < b) (h1:c=b) (h2:c ≤ a):False:=Nat.not_le_of_lt h0 (h1 ▸ h2)
theorem om65 {a b:Nat} (h0:a + 1 ≤ b):0 < b:=Nat.le_trans (Nat.succ_pos _) h0
theorem om66 {a b c:Nat} (h0:a < b) (h1:a=c):c + 1 ≤ b:=Nat.lt_of_le_of_lt (Nat.le_of_eq h1.symm) h0
theorem om67 {a b:Nat} (h0:a=b):a < b + 1:=Nat.lt_of_le_of_lt (Nat.le_of_eq h0) (Nat.lt_succ_self _)
theorem om68 {a b c d:Nat} (h0:a < b):c + a < c + b + d:=Nat.add_le_add (Nat.add_le_add_left h0 _) (Nat.zero_le _)
theorem om69 {a b c:Nat} (h0:a < b):c + a < c + b:=(Nat.add_le_add_left h0 _)
theorem om70 {a b:Nat}:a + b - a=b:=Nat.add_sub_cancel_left a b
theorem om71 {a b:Nat} (h0:a < 0):b=0:=absurd h0 (Nat.not_lt_zero a)
theorem om72 {a b:Nat} (h0:a < b):min a b=a:=Nat.min_eq_left (Nat.le_of_lt h0)
theorem om73 {a b:Nat} (h0:0=a - b) (h1:b + 1 ≤ a):0 < 0:=Nat.lt_of_lt_of_eq (Nat.sub_pos_of_lt h1) h0.symm
theorem om74 {a b c:Nat} (h0:a=0):b + c=b + (c + a):=h0 ▸ rfl
theorem om75 {a:Nat} (h0:0 ≤ a∧a < 0):False:=Nat.not_lt_zero a h0.2
theorem om76 {a b c:Nat}:a ≤ a + b + c:=Nat.add_le_add (Nat.le_add_right _ _) (Nat.zero_le _)
theorem om77 {a b c:Nat} (h0:¬a=0):¬b + c=b + (c + a):=fun h=>h0 (Nat.left_eq_add.mp (Nat.add_left_cancel h))
theorem om78 {a b c:Nat}:a + (b + (c + 1)) - 1=a + b + c:=(Nat.add_assoc a b c).symm
theorem om79 {a b:Nat} (h0:0 < a) (h1:b=0):b < a:=Nat.lt_of_le_of_lt (Nat.le_of_eq h1) h0
theorem om80 {a b c:Nat} (h0:a + 1 ≤ b) (h1:c=a):c < b:=Nat.lt_of_le_of_lt (Nat.le_of_eq h1) h0
theorem om81 {a b c:Nat} (h0:a + b=c):a ≤ c:=Nat.le_trans (Nat.le_add_right _ _) (Nat.le_of_eq h0)
theorem om82 {a:Nat}:a ≤ a + 1:=(Nat.le_add_right _ _)
theorem om83 {a b c:Nat} (h0:a + b ≤ c) (h1:a=c):b=0:=Nat.eq_zero_of_le_zero (Nat.le_of_add_le_add_left (a:=a) (Nat.le_trans h0 (Nat.le_of_eq h1.symm)))
theorem om84 {a b:Nat} (h0:a < b):a + (b - a)=b:=Nat.add_sub_cancel' (Nat.le_of_lt h0)
theorem om85 {a b:Nat} (h0:a < b):a + 1 + (b - (a + 1))=b:=Nat.add_sub_cancel' h0
theorem om86 {a:Nat} (h0:¬a=0):0 < a:=Nat.pos_of_ne_zero h0
theorem om87 {a b:Nat} (h0:0 < a) (h1:a=0):0 < b:=absurd h1 (Nat.ne_of_gt h0)
theorem om88 {a b c:Nat} (h0:a < b) (h1:a=c) (h2:b < c):False:=Nat.lt_asymm h0 (h1 ▸ h2)
theorem om89 {a b:Nat} (h0:a < b) (h1:b=a):False:=Nat.ne_of_gt h0 h1
theorem om90 {a b:Nat} (h0:a < b):¬b=0:=Nat.ne_zero_of_lt h0
theorem om91 {a b c d:Nat} (h0:a < b) (h1:a=c) (h2:b < d) (h3:c=d):False:=Nat.lt_asymm h0 (h1.trans h3 ▸ h2)
theorem om92 {a:Nat} (h0:a > 0):¬a=0:=Nat.ne_of_gt h0
theorem om93 {a b c:Nat} (h0:a < a):b < c:=absurd h0 (Nat.lt_irrefl a)
theorem om94 {a b c d:Nat} (h0:a < b) (h1:a=b):c < d:=absurd h1 (Nat.ne_of_lt h0)
theorem om95 {a b c d:Nat} (h0:a < b) (h1:c=d∧b < a):False:=Nat.lt_asymm h0 h1.2
theorem om96 {a b:Nat} (h0:a < b):min a b + (0 + 0)=a:=Nat.min_eq_left (Nat.le_of_lt h0)
theorem om97 {a b:Nat}:a + b + 1=a + 1 + b:=(Nat.succ_add a b).symm
theorem om98 {a b:Nat}:a + b + 1=a + (b + 1):=Nat.sub_add_cancel (Nat.succ_pos _)
theorem om99 {a b:Nat} (h0:a < b):b=a + (b - a):=(Nat.add_sub_cancel' (Nat.le_of_lt h0)).symm
theorem om100 {a b:Nat}:¬a + b < a:=Nat.not_lt_of_le (Nat.le_add_right _ _)
theorem om101 {a b c:Nat} (h0:a=b + c):b ≤ a:=Nat.le_trans (Nat.le_add_right _ _) (Nat.le_of_eq h0.symm)
theorem om102 {a b c:Nat} (h0:a=b):a ≤ b + c:=Nat.le_trans (Nat.le_of_eq h0) (Nat.le_add_right b c)
theorem om103 {a b c d:Nat} (h0:a ≤ b + c + d):a ≤ b + (c + d):=Nat.le_trans h0 (Nat.le_of_eq (Nat.add_assoc b c d))
theorem om104 {a b c d:Nat} (h0:a ≤ b) (h1:b ≤ c) (h2:d ≤ b):a ≤ c∧d ≤ c:=⟨Nat.le_trans h0 h1,Nat.le_trans h2 h1⟩
theorem om105 {a b c:Nat} (h0:a ≤ b):min c a ≤ b:=Nat.le_trans (Nat.min_le_right c a) h0
theorem om106 {a:Nat}:a + 0=a + 1 - 1:=rfl
theorem om107 {a b:Nat} (h0:a=0) (h1:a=1):b=0:=nomatch h0.symm.trans h1
theorem om108 {a b c:Nat} (h0:a=0) (h1:a=1):b=c:=nomatch h0.symm.trans h1
theorem om109 {a b:Nat} (h0:a=b + 1):b=a - 1:=(congrArg Nat.pred h0).symm
theorem om110 {x:Int} (h0:-2 ^ 63 ≤ x) (h1:x < 2 ^ 63):-9223372036854775808 ≤ x∧x < 9223372036854775808:=⟨Int.le_trans (by decide) h0,Int.lt_of_lt_of_le h1 (by decide)⟩
theorem om111 {a:Nat} (h0:a ≤ 256):¬a > (2 ^ 63 - 1) / 8:=Nat.not_lt_of_le (Nat.le_trans h0 (by decide))
theorem om112 {a:Nat} (h0:a ≤ 256):a ≤ 16777216:=Nat.le_trans h0 (by decide)
theorem om113 {x:Int} (h0:x.natAbs ≤ 100):-2 ^ 63 ≤ x∧x < 2 ^ 63:=⟨Int.le_trans (by decide) (nb h0).1,Int.lt_of_le_of_lt (nb h0).2 (by decide)⟩
theorem om114 {a b c d e:Nat} (h0:a - b=0) (h1:b < c) (h2:d=a) (h3:e=c):d < e:=Nat.lt_of_le_of_lt (Nat.le_trans (Nat.le_of_eq h2) (Nat.le_of_sub_eq_zero h0)) (Nat.lt_of_lt_of_eq h1 h3.symm)
theorem om115 {a b c d e:Nat} (h0:a=b) (h1:c=d) (h2:e ≤ b) (h3:¬e < d):¬a < c:=h0 ▸ h1 ▸ Nat.not_lt_of_le (Nat.le_trans (Nat.le_of_not_lt h3) h2)
theorem om116 {a b c d e:Nat} (h0:a - b=0) (h1:b ≤ c) (h2:d=a) (h3:e=c):¬d > e:=Nat.not_lt_of_le (Nat.le_trans (Nat.le_of_eq h2) (Nat.le_trans (Nat.le_of_sub_eq_zero h0) (Nat.le_trans h1 (Nat.le_of_eq h3.symm))))
theorem om117 {a b c d e:Nat} (h0:a < b) (h1:c=b) (h2:d=e) (h3:¬a < e):d ≤ c:=Nat.le_trans (Nat.le_of_eq h2) (Nat.le_trans (Nat.le_of_not_lt h3) (Nat.le_trans (Nat.le_of_lt h0) (Nat.le_of_eq h1.symm)))
theorem om118 {a b c d e:Nat} (h0:a < b) (h1:c=b) (h2:d=e) (h3:¬a < e):d < c:=Nat.lt_of_le_of_lt (Nat.le_trans (Nat.le_of_eq h2) (Nat.le_of_not_lt h3)) (Nat.lt_of_lt_of_eq h0 h1.symm)
theorem om119 {a b c:Nat} (h0:a + 5 * b ≤ 600) (h1:c ≤ b):a + 5 * c ≤ 600:=Nat.le_trans (Nat.add_le_add_left (Nat.mul_le_mul_left 5 h1) a) h0
theorem om120 {a b c:Nat} (h0:a + 50 * b ≤ 5000) (h1:c ≤ b):a + 50 * c ≤ 5000:=Nat.le_trans (Nat.add_le_add_left (Nat.mul_le_mul_left 50 h1) a) h0
theorem om121 {a b:Nat} (h0:a + 5 * (b + 1) ≤ 600):a + 1 + 5 * b ≤ 600:=Nat.le_trans (by rw [Nat.add_assoc,Nat.mul_succ,Nat.add_comm (5 * b)]; exact Nat.add_le_add_left (Nat.add_le_add_right (by decide) _) a) h0
theorem om122 {a b:Nat} (h0:a + 50 * (b + 1) ≤ 5000):a + 3 + 50 * b ≤ 5000:=Nat.le_trans (by rw [Nat.add_assoc,Nat.mul_succ,Nat.add_comm (50 * b)]; exact Nat.add_le_add_left (Nat.add_le_add_right (by decide) _) a) h0
theorem om123 {a b:Nat} (h0:a + b ≤ 600):a < 1000:=Nat.lt_of_le_of_lt (Nat.le_trans (Nat.le_add_right a b) h0) (by decide)
theorem om124 {a:Nat} (h0:a ≤ 1000000):(↑a:Int) < 2 ^ 63:=Int.lt_of_le_of_lt (Int.ofNat_le.mpr h0) (by decide)
theorem om125 {a b c:Nat} (h0:a - b=0) (h1:a=c):c ≤ b:=h1 ▸ Nat.le_of_sub_eq_zero h0
theorem om126 {x:Int} (h0:0 ≤ x):¬x < 0:=Int.not_lt.mpr h0
theorem om127 {a:Nat} {x:Int} (h0:x.toNat < a):x < (↑a:Int):=Int.lt_of_le_of_lt (Int.self_le_toNat x) (Int.ofNat_lt.mpr h0)
theorem om128 {x:Int} (h0:x < 1000000):x < 2 ^ 63:=Int.lt_trans h0 (by decide)
theorem om129 {x y:Int} (h0:x ≤ y∧-1000000 ≤ y):-2 ^ 63 ≤ y:=Int.le_trans (by decide) h0.2
theorem om130 {x:Int} (h0:0 ≤ x∧x < 1000000):-2 ^ 63 ≤ x:=Int.le_trans (by decide) h0.1
theorem om131 {x:Int} (h0:0 ≤ x∧x < 1000000):x < 2 ^ 63:=Int.lt_trans h0.2 (by decide)
theorem om132 {x y:Int} (h0:¬x ≤ y):y ≤ x:=Int.le_of_lt (Int.lt_of_not_ge h0)
theorem om133 {x y z:Int} (h0:max x y ≤ z):x ≤ z:=Int.le_trans (Int.le_max_left x y) h0
theorem om134 {x y z:Int} (h0:max x y ≤ z):y ≤ z:=Int.le_trans (Int.le_max_right x y) h0
theorem om135 {a b:Nat} (h0:0 < a) (h1:b ≤ a - 1):b < a:=Nat.lt_of_le_of_lt h1 (Nat.sub_lt h0 Nat.one_pos)
theorem om136 {a b:Nat} (h0:a < b):a ≤ b - 1:=Nat.le_sub_one_of_lt h0
theorem om137 {a b c:Nat} (h0:a + 1 + b=c):b < c:=Nat.lt_of_lt_of_eq (Nat.lt_add_of_pos_left (Nat.succ_pos a)) h0
theorem om138 {a b c:Nat} (h0:a + 1 + b=c):a + (b + 1)=c:=(Nat.succ_add a b).symm.trans h0
theorem om139 {a b:Nat} (h0:0 + a=b):a=b:=(Nat.zero_add a).symm.trans h0
theorem om140 {a:Nat} {x:Int} (h0:x.natAbs ≤ 1000000∧a ≤ 1000000):-2 ^ 62 ≤ x:=Int.le_trans (by decide) (nb h0.1).1
theorem om141 {a:Nat} {x:Int} (h0:x.natAbs ≤ 1000000∧a ≤ 1000000):x < 2 ^ 62:=Int.lt_of_le_of_lt (nb h0.1).2 (by decide)
theorem om142 {a:Nat} {x:Int} (h0:a ≤ 1000000∧x.natAbs ≤ 1000000):-2 ^ 62 ≤ x:=Int.le_trans (by decide) (nb h0.2).1
theorem om143 {a:Nat} {x:Int} (h0:a ≤ 1000000∧x.natAbs ≤ 1000000):x < 2 ^ 62:=Int.lt_of_le_of_lt (nb h0.2).2 (by decide)
theorem om144 {x:Int}:x=x + (↑0:Int) * 1:=by omega
theorem om145 {a:Nat} (h0:a ≤ 8):a < 30:=Nat.lt_of_le_of_lt h0 (by decide)
theorem om146 {x y:Int} (h0:x.natAbs ≤ 1000000) (h1:y.natAbs ≤ 1000000):(x - y).toNat ≤ 3 * 1000000:=Int.toNat_le.mpr (Int.le_trans (Int.sub_le_sub (nb h0).2 (nb h1).1) (by decide))
theorem om147 {a b c:Nat} (h0:a < b + 1) (h1:b=c) (h2:¬a < b):a=c:=(Nat.le_antisymm (Nat.le_of_lt_succ h0) (Nat.le_of_not_lt h2)).trans h1
theorem om148 {a b c d:Nat} (h0:a=b) (h1:b ≤ c) (h2:b ≤ d) (h3:c ≤ b):a=min c d:=h0.trans ((Nat.le_antisymm h1 h3).trans (Nat.min_eq_left (Nat.le_trans h3 h2)).symm)
theorem om149 {a b c d:Nat} (h0:a=b) (h1:b ≤ c) (h2:b ≤ d) (h3:c ≤ b):a=min d c:=h0.trans ((Nat.le_antisymm h1 h3).trans (Nat.min_eq_right (Nat.le_trans h3 h2)).symm)
theorem om150 {a b c:Nat} (h0:a + 1=b - c):a=b - (c + 1):=congrArg Nat.pred h0
theorem om151 {x:Int} (h0:x.natAbs ≤ 1000000):-2 ^ 62 ≤ x:=Int.le_trans (by decide) (nb h0).1
theorem om152 {x:Int} (h0:x.natAbs ≤ 1000000):x < 2 ^ 62:=Int.lt_of_le_of_lt (nb h0).2 (by decide)
theorem om153 {x:Int} (h0:x.natAbs ≤ 1000000):(x - 0).toNat ≤ 2 ^ 24:=by rw [Int.sub_zero]; exact Int.toNat_le.mpr (Int.le_trans (nb h0).2 (by decide))
theorem om154 {a b:Nat} (h0:a ≤ b) (h1:¬a < b):a=b:=Nat.le_antisymm h0 (Nat.le_of_not_lt h1)
theorem om155 {a b:Nat}:min a b ≤ a:=Nat.min_le_left a b
theorem om156 {a b c:Nat} (h0:a=b) (h1:b ≤ c):a ≤ c:=Nat.le_trans (Nat.le_of_eq h0) h1
theorem om157 {a b:Nat} (h0:a ≤ 100) (h1:b ≤ a + 1):b ≤ 16777216 + 1:=Nat.le_trans h1 (Nat.succ_le_succ (Nat.le_trans h0 (by decide)))
theorem om158 {a b c:Nat} (h0:a + 5 * (b + 1) ≤ 600) (h1:c ≤ 5):a + c + 5 * b ≤ 600:=Nat.le_trans (by rw [Nat.add_assoc,Nat.mul_succ,Nat.add_comm (5 * b)]; exact Nat.add_le_add_left (Nat.add_le_add_right h1 _) a) h0
theorem om159 {a b c:Nat} (h0:a + 50 * (b + 1) ≤ 5000) (h1:c ≤ 50):a + c + 50 * b ≤ 5000:=Nat.le_trans (by rw [Nat.add_assoc,Nat.mul_succ,Nat.add_comm (50 * b)]; exact Nat.add_le_add_left (Nat.add_le_add_right h1 _) a) h0
theorem om160 {a:Nat} (h0:a ≤ 1):¬a > 1:=Nat.not_lt_of_le h0
theorem om161 {a:Nat} (h0:a=1):0 < a:=Nat.lt_of_lt_of_eq Nat.one_pos h0.symm
theorem om162 {a b:Nat} (h0:a < b) (h1:b=1):a=0:=Nat.lt_one_iff.mp (h1 ▸ h0)
theorem om163 {a b:Nat} (h0:a=b) (h1:b ≤ 1000):a ≤ 16777216:=Nat.le_trans (Nat.le_of_eq h0) (Nat.le_trans h1 (by decide))
theorem om164 {a b c d:Nat} (h0:a + b ≤ 1000) (h1:c < b) (h2:d ≤ a + c):d ≤ 1000:=Nat.le_trans h2 (Nat.le_trans (Nat.add_le_add_left (Nat.le_of_lt h1) a) h0)
theorem om165 {a b:Nat} (h0:a=b) (h1:b ≤ 4 * 1000000):a ≤ 16777216:=Nat.le_trans (Nat.le_of_eq h0) (Nat.le_trans h1 (by decide))
theorem om166 {a b:Nat} (h0:a + 0=b):b ≤ a:=Nat.le_of_eq h0.symm
theorem om167 {a b:Nat} (h0:a + b ≤ 1000):b ≤ 1000000:=Nat.le_trans (Nat.le_add_left b a) (Nat.le_trans h0 (by decide))
theorem om168 {a:Nat}:a ≤ a + 2:=Nat.le_add_right a 2
theorem om169 {a b:Nat}:a + (b + 1) + 1=a + 1 + b + 1:=congrArg Nat.succ (Nat.succ_add a b).symm
theorem om170 {a b c:Nat} (h0:a + (b + 1) ≤ c):a + 1 + b ≤ c:=Nat.le_trans (Nat.le_of_eq (Nat.succ_add a b)) h0
theorem om171 {a b:Nat} (h0:a + 1 ≤ b):0 + a ≤ b:=Nat.le_trans (Nat.le_of_eq (Nat.zero_add a)) (Nat.le_of_lt h0)
theorem om172 {a b:Nat} (h0:a + 1=b + 1):a=b:=Nat.succ.inj h0
theorem om173 {a b:Nat} (h0:a ≤ b):a ≤ b + 1:=Nat.le_succ_of_le h0
theorem om174 {x y z:Int}:x + 1 + (y + z)=x + y + (1 + z):=by rw [Int.add_assoc,Int.add_assoc,Int.add_left_comm 1 y z]
theorem om175 {x y z:Int}:x + (y + z)=x + y + z:=(Int.add_assoc x y z).symm
theorem om176 {x:Int}:x - 1 - -1 - -1 - 1=x:=by omega
theorem om177 {a b:Nat}:((↑a:Int) - 1 + -(↑b:Int)).toNat=a - 1 - b:=by rw [← Int.sub_eq_add_neg,Int.sub_sub]; exact (Int.toNat_sub a (1 + b)).trans (Nat.sub_sub a 1 b).symm
theorem om178 {a:Nat} (h0:¬(↑a:Int) - 1 > -1):a=0:=by omega
theorem om179 {a:Nat} (h0:a < 1000000):(↑a:Int) < 1000000:=Int.ofNat_lt.mpr h0
theorem om180 {a:Nat}:(-1 + (↑(a + 1):Int)).toNat=a:=by rw [Int.add_comm]; exact Int.toNat_sub (a + 1) 1
theorem om181 {a:Nat}:-(↑(a + 1):Int) ≤ -1:=by omega
theorem om182 {a:Nat} (h0:a < 1000000):0 ≤ (↑a:Int)∧(↑a:Int) < 1000000:=⟨Int.natCast_nonneg a,Int.ofNat_lt.mpr h0⟩
theorem om183 {a b c:Nat} (h0:a + (b + 1)=c) (h1:c ≤ 1000):a + 1 ≤ 1000:=Nat.le_trans (Nat.add_le_add_left (Nat.le_add_left 1 b) a) (Nat.le_trans (Nat.le_of_eq h0) h1)
theorem om184 {a b c:Nat} (h0:a + 1 ≤ 1000) (h1:b ≤ a) (h2:c ≤ b):c + 1 ≤ 1000000:=Nat.le_trans (Nat.succ_le_succ (Nat.le_trans h2 h1)) (Nat.le_trans h0 (by decide))
theorem om185 {a b:Nat} (h0:a ≤ 1000):min b a ≤ 1000000:=Nat.le_trans (Nat.min_le_right b a) (Nat.le_trans h0 (by decide))
theorem om186 {a b c:Nat} (h0:a ≤ 1000) (h1:b ≤ min c a):b ≤ 1000000:=Nat.le_trans h1 (Nat.le_trans (Nat.min_le_right c a) (Nat.le_trans h0 (by decide)))
theorem om187 {a b:Nat}:a + b.succ + 1=a + 1 + b + 1:=congrArg Nat.succ (Nat.succ_add a b).symm
theorem om188 {a b:Nat} (h0:a ≤ 1):min (b - 1) (b - a)=b - 1:=Nat.min_eq_left (Nat.sub_le_sub_left h0 b)
theorem om189 {a b:Nat} (h0:a ≤ 1) (h1:b ≤ 1000):(↑a:Int).natAbs ≤ 1000000∧((↑a:Int) + (↑b:Int) - 1).natAbs ≤ 1000000:=⟨Nat.le_trans h0 (by decide),by omega⟩
theorem om190 {a b:Nat} {x:Int} (h0:a=b - 1):(x + (↑b:Int) - 1 - x).toNat=a:=by rw [h0,Int.add_sub_assoc,Int.add_comm,Int.add_sub_cancel]; exact Int.toNat_sub b 1
theorem om191 {a b c d:Nat} (h0:a < b) (h1:b=c - 1) (h2:d ≤ 1):d + a < c:=Nat.lt_of_le_of_lt (Nat.add_le_add_right h2 a) (Nat.add_comm a 1 ▸ Nat.add_lt_of_lt_sub (h1 ▸ h0))
theorem om192 {a:Nat}:(↑a:Int) + 1=(↑(a + 1):Int):=rfl
theorem om193 {a b c:Nat} (h0:a=b - 1) (h1:b ≤ 1000) (h2:c ≤ a):c ≤ 1000:=Nat.le_trans h2 (Nat.le_trans (Nat.le_of_eq h0) (Nat.le_trans (Nat.sub_le b 1) h1))
theorem om194 {a b:Nat} (h0:a ≤ 1000) (h1:b ≤ a):b < 1000000:=Nat.lt_of_le_of_lt (Nat.le_trans h1 h0) (by decide)
theorem om195 {a b c:Nat} (h0:a=b) (h1:c ≤ b):c ≤ a:=Nat.le_trans h1 (Nat.le_of_eq h0.symm)
theorem om196 {a b c:Nat} (h0:a ≤ b) (h1:b ≤ c):a ≤ c:=Nat.le_trans h0 h1
theorem om197 {a b c:Nat} (h0:a ≤ b) (h1:¬c + a=c + b):(↑(c + b):Int) - 1=(↑(c + b - 1):Int):=(Int.ofNat_sub (Nat.zero_lt_of_lt (Nat.lt_of_le_of_ne (Nat.add_le_add_left h0 c) h1))).symm
theorem om198 {a b c:Nat} (h0:a ≤ b) (h1:¬c + a=c + b):c + a ≤ c + b - 1:=Nat.le_sub_one_of_lt (Nat.lt_of_le_of_ne (Nat.add_le_add_left h0 c) h1)
theorem om199 {a:Nat}:(↑(a + 1):Int) - 1=(↑a:Int):=Int.add_sub_cancel a 1
theorem om200 {a b:Nat}:((↑(a + b):Int) - (↑a:Int)).toNat=b:=(Int.toNat_sub (a + b) a).trans (Nat.add_sub_cancel_left a b)
theorem om201 {a b c:Nat} (h0:a < b) (h1:c=b):a ≤ c:=Nat.le_trans (Nat.le_of_lt h0) (Nat.le_of_eq h1.symm)
theorem om202 {a b c:Nat} (h0:a + b ≤ c) (h1:c ≤ 1000):a ≤ 1000000:=Nat.le_trans (Nat.le_add_right a b) (Nat.le_trans h0 (Nat.le_trans h1 (by decide)))
theorem om203 {a b c:Nat} (h0:a + b ≤ c) (h1:c ≤ 1000):b ≤ 1000000:=Nat.le_trans (Nat.le_add_left b a) (Nat.le_trans h0 (Nat.le_trans h1 (by decide)))
theorem om204 {a b c d:Nat} (h0:a + 1 ≤ b) (h1:b ≤ 1000) (h2:c + d ≤ b):a + d ≤ 1000000:=Nat.le_trans (Nat.add_le_add (Nat.le_trans (Nat.le_of_lt h0) h1) (Nat.le_trans (Nat.le_add_left d c) (Nat.le_trans h2 h1))) (by decide)
theorem om205 {a:Nat} {x:Int} (h0:0 ≤ x) (h1:x < (↑a:Int)):x.toNat < a:=(Int.toNat_lt h0).mpr h1
theorem om206 {a:Nat}:0 < (↑(a + 1):Int):=Int.ofNat_lt.mpr (Nat.succ_pos a)
theorem om207 {x:Int} (h0:0 ≤ x):x=(↑x.toNat:Int):=(Int.toNat_of_nonneg h0).symm
theorem om208 {a:Nat}:1 + a=a.succ:=Nat.add_comm 1 a
theorem om209 {a b:Nat} (h0:a=b):¬b < a:=Nat.not_lt_of_le (Nat.le_of_eq h0)
theorem om210 {a:Nat}:((↑a:Int) - 1).toNat=a - 1:=Int.toNat_sub a 1
theorem om211 {a b:Nat} (h0:a < b - 1):1 + a < b:=Nat.add_comm a 1 ▸ Nat.add_lt_of_lt_sub h0
theorem om212 {a b c:Nat} (h0:a < b) (h1:c ≤ a):c + 1 ≤ b:=Nat.lt_of_le_of_lt h1 h0
theorem om213 {a b c:Nat} (h0:a < b) (h1:b ≤ 1000) (h2:c ≤ a):1 + c ≤ 1000000:=Nat.le_trans (Nat.add_le_add_left (Nat.le_trans h2 (Nat.le_trans (Nat.le_of_lt h0) h1)) 1) (by decide)
theorem om214 {a b c:Nat} (h0:a + 1 ≤ b) (h1:b ≤ 1000) (h2:c ≤ b):a + c ≤ 1000000:=Nat.le_trans (Nat.add_le_add (Nat.le_trans (Nat.le_of_lt h0) h1) (Nat.le_trans h2 h1)) (by decide)
theorem om215 {a b:Nat} (h0:a=b + 1):0 < a:=Nat.lt_of_lt_of_eq (Nat.succ_pos b) h0.symm
theorem om216 {a b:Nat} (h0:a=b + 1) (h1:a ≤ 1000):b ≤ 1000000:=Nat.le_trans (Nat.le_succ b) (Nat.le_trans (Nat.le_of_eq h0.symm) (Nat.le_trans h1 (by decide)))
theorem om217 {a b c:Nat} (h0:a < b) (h1:c=b + 1) (h2:c ≤ 1000):a ≤ 1000:=Nat.le_trans (Nat.le_of_lt h0) (Nat.le_trans (Nat.le_succ b) (Nat.le_trans (Nat.le_of_eq h1.symm) h2))
theorem om218 {a b c:Nat} (h0:a + b ≤ c):b ≤ c:=Nat.le_trans (Nat.le_add_left b a) h0
theorem om219 {a b c:Nat} (h0:a < b) (h1:c=a):c ≤ b:=Nat.le_trans (Nat.le_of_eq h1) (Nat.le_of_lt h0)
theorem om220 {a b c:Nat} (h0:a=b) (h1:c ≥ b):a ≤ c:=Nat.le_trans (Nat.le_of_eq h0) h1
theorem om221 {a b c:Nat} (h0:a < b) (h1:b ≤ 1000) (h2:c ≤ a):c ≤ 1000:=Nat.le_trans h2 (Nat.le_trans (Nat.le_of_lt h0) h1)
theorem om222 {a b:Nat} (h0:a ≤ 1000) (h1:b ≤ a):b ≤ 1000:=Nat.le_trans h1 (Nat.le_trans h0 (by decide))
theorem om223 {a b c:Nat} (h0:a + b=c) (h1:c=a):b=0:=Nat.add_eq_left.mp (h0.trans h1)
theorem om224 {a b:Nat} (h0:a=b):b ≤ a:=Nat.le_of_eq h0.symm
theorem om225 {a b c:Nat} (h0:a + b=c) (h1:c ≤ 1000):a ≤ 1000:=Nat.le_trans (Nat.le_add_right a b) (Nat.le_trans (Nat.le_of_eq h0) h1)
theorem om226 {x y:Int} (h0:x < y) (h1:y < x):-1=1:=by omega
theorem om227 {x y:Int} (h0:x < y) (h1:¬x < y):0=1:=absurd h0 h1
theorem om228 {a b:Nat}:max (↑a:Int) (↑b:Int)=(↑(max a b):Int):=by omega
theorem om229 {a b c:Nat} (h0:max a b ≤ c):a ≤ c:=Nat.le_trans (Nat.le_max_left a b) h0
theorem om230 {a b c d:Nat} (h0:a=b) (h1:max c b ≤ d):a ≤ d:=Nat.le_trans (Nat.le_of_eq h0) (Nat.le_trans (Nat.le_max_right c b) h1)
theorem om231 {a b:Nat} (h0:a < b) (h1:b ≤ 100):a < 1000000:=Nat.lt_of_lt_of_le h0 (Nat.le_trans h1 (by decide))
theorem om232 {a b:Nat} (h0:a ≤ 100) (h1:b ≤ a):b ≤ 1000000:=Nat.le_trans h1 (Nat.le_trans h0 (by decide))
theorem om233 {a b:Nat} (h0:a ≤ b):(↑b:Int) - (↑a:Int)=(↑(b - a):Int):=(Int.ofNat_sub h0).symm
theorem om234 {a b:Nat} (h0:a ≤ 100):a - b ≤ 100∧1 * (a - b) ≤ 100:=have q:=Nat.le_trans (Nat.sub_le a b) h0; ⟨q,(Nat.one_mul _).symm ▸ q⟩
theorem om235 {a b:Nat} (h0:a ≤ 100) (h1:b ≤ a):b + (a - b) ≤ 1000000:=Nat.le_trans (Nat.le_of_eq (Nat.add_sub_cancel' h1)) (Nat.le_trans h0 (by decide))
theorem om236 {a b:Nat} (h0:(↑a:Int) < (↑b:Int)):a < b:=Int.ofNat_lt.mp h0
theorem om237 {a b:Nat} (h0:a < b):(↑a:Int) < (↑b:Int):=Int.ofNat_lt.mpr h0
theorem om238 {a b c:Nat} (h0:a < b) (h1:b ≤ 100):min c a + 1 ≤ 1000000:=Nat.le_trans (Nat.succ_le_succ (Nat.min_le_right c a)) (Nat.le_trans h0 (Nat.le_trans h1 (by decide)))
theorem om239 {a b c:Nat} (h0:a < b) (h1:b ≤ 100):min c a + 1 + (a - c) ≤ 1000000:=Nat.le_trans (Nat.add_le_add (Nat.succ_le_succ (Nat.le_trans (Nat.min_le_right c a) (Nat.le_trans (Nat.le_of_lt h0) h1))) (Nat.le_trans (Nat.sub_le a c) (Nat.le_trans (Nat.le_of_lt h0) h1))) (by decide)
theorem om240 {a:Nat} (h0:a ≤ 100):a < 1000000:=Nat.lt_of_le_of_lt h0 (by decide)
theorem om241 {a b:Nat} (h0:a=min a b):0 + a ≤ b:=Nat.le_trans (Nat.le_of_eq ((Nat.zero_add a).trans h0)) (Nat.min_le_right a b)
theorem om242 {a:Nat} (h0:a < 0):False:=Nat.not_lt_zero a h0
theorem om243 {a b c d e:Nat} (h0:a ≤ 4) (h1:b ≤ c + a + d + e):b ≤ c + (e + (4 + d)):=Nat.le_trans h1 (by rw [Nat.add_assoc c a d,Nat.add_assoc c (a + d) e,Nat.add_comm e]; exact Nat.add_le_add_left (Nat.add_le_add_right (Nat.add_le_add_right h0 d) e) c)
theorem om244 {a b c:Nat} (h0:a=16777216) (h1:b ≤ 0 + c * (4 + 1)) (h2:c ≤ 1000):¬b > a:=Nat.not_lt_of_le (Nat.le_trans h1 (Nat.le_trans (Nat.add_le_add_left (Nat.mul_le_mul_right 5 h2) 0) (Nat.le_trans (by decide) (Nat.le_of_eq h0.symm))))
theorem om245 {a b c:Nat} (h0:a ≤ 4) (h1:b ≤ c):a + b ≤ c + 4:=Nat.add_comm b a ▸ Nat.add_le_add h1 h0
theorem om246 {a b c:Nat} (h0:a ≤ 1000) (h1:b ≤ a * 4) (h2:c ≤ b + a * 1):c ≤ 5000:=Nat.le_trans h2 (Nat.le_trans (Nat.add_le_add_right h1 _) (Nat.add_le_add (Nat.mul_le_mul_right 4 h0) (Nat.mul_le_mul_right 1 h0)))
theorem om247 {a:Nat} (h0:a ≤ 100):a + 1 ≤ 1000:=Nat.lt_of_le_of_lt h0 (by decide)
theorem om248 {a:Nat} (h0:a ≤ 5000):1 + a ≤ 1000000:=Nat.le_trans (Nat.add_le_add_left h0 _) (by decide)
theorem om249 {a:Nat} (h0:a ≤ 5000):6 + a ≤ 1000000:=Nat.le_trans (Nat.add_le_add_left h0 _) (by decide)
theorem om250 {a:Nat} (h0:a ≤ 5000):a + 1 ≤ 1000000:=Nat.lt_of_le_of_lt h0 (by decide)
theorem om251 {a:Nat} (h0:a ≤ 5000):1 + a + 1 ≤ 1000000:=Nat.le_trans (Nat.succ_le_succ (Nat.add_le_add_left h0 1)) (by decide)
theorem om252 {a:Nat} (h0:a < 4):a < 1000000:=Nat.le_trans h0 (by decide)
theorem om253 {a b:Nat}:min (1 + a % 3) b ≤ 3:=Nat.le_trans (Nat.min_le_left _ _) (Nat.add_le_add_left (Nat.le_of_lt_succ (Nat.mod_lt a (by decide:3 > 0))) 1)
theorem om254 {a:Nat} (h0:a ≤ 100):1 + a ≤ 1000000:=Nat.le_trans (Nat.add_le_add_left h0 _) (by decide)
theorem om255 {a b:Nat} (h0:a ≤ b):(↑a:Int) ≤ (↑b:Int):=Int.ofNat_le.mpr h0
theorem om256 {a b c:Nat} (h0:a ≤ b):(↑b:Int) < (↑c:Int) ↔ a ≤ b∧b < c:=⟨fun h=>⟨h0,Int.ofNat_lt.mp h⟩,fun h=>Int.ofNat_lt.mpr h.2⟩
theorem om257 {a b:Nat} (h0:¬a ≤ b):¬(↑a:Int) ≤ (↑b:Int):=fun h=>h0 (Int.ofNat_le.mp h)
theorem om258 {a b c:Nat} (h0:¬a ≤ b):¬(a ≤ b∧b < c):=fun h=>h0 h.1
theorem om259 {a:Nat} (h0:a ≤ 3):a ≤ 1000000:=Nat.le_trans h0 (by decide)
theorem om260 {a:Nat} (h0:a ≤ 100):a ≤ 300:=Nat.le_trans h0 (by decide)
theorem om261 {x:Int} (h0:0 ≤ x) (h1:x < 2):x=0 ∨ x=1:=by omega
theorem om262 {a:Nat}:8 + min 4 a + 1 ≤ 13:=Nat.succ_le_succ (Nat.add_le_add_left (Nat.min_le_left 4 a) 8)
theorem om263 {a b:Nat} (h0:0 < a) (h1:b=a):0 < b:=Nat.lt_of_lt_of_eq h0 h1.symm
theorem om264 {a:Nat} (h0:0 < a):(↑(a - 1):Int)=(↑a:Int) - 1:=Int.ofNat_sub h0
theorem om265 {a:Nat} (h0:a ≤ 63):a ≤ 1000000:=Nat.le_trans h0 (by decide)
theorem om266 {x:Int} (h0:0 ≤ x) (h1:x < 2):Int.natAbs 2 ≤ 100∧x.natAbs ≤ 100:=⟨by decide,by omega⟩
theorem om267 {a:Nat} (h0:a < 8):a < 1000000:=Nat.le_trans h0 (by decide)
theorem om268 {a:Nat}:8 + min 4 a ≤ 1000000:=Nat.le_trans (Nat.add_le_add_left (Nat.min_le_left 4 a) 8) (by decide)
theorem om269 {a:Nat} (h0:a ≤ 13):a ≤ 1000:=Nat.le_trans h0 (by decide)
theorem om270 {a:Nat} (h0:¬(↑63:Int) < (↑a:Int)):a ≤ 63:=Nat.le_of_not_lt fun h=>h0 (Int.ofNat_lt.mpr h)
end Om
open Om
namespace Mine
open PySem PySem.W PyProof.Rows
set_option genInjectivity true in
inductive D where
  | none
  | bool (b:Bool)
  | int (i:Int)
  | str (s:Str)
  | tuple (ds:List D)
  | list (ds:List D)
  | dict (kvs:List (Str × D))
  | obj (kvs:List (Str × D))
  | opq (v:Value)
noncomputable def DictAt (h:Heap) (a:Addr) (es:List DictEntry):Prop:=∃ n,h.get? a=some (dictOf es n)
noncomputable def InstAt' (h:Heap) (a C da:Addr):Prop:=h.get? a=some (instObj C da)
noncomputable def ListAt (h:Heap) (a:Addr) (xs:Array Value):Prop:=h.IsList a xs∧∃ o,h.get? a=some o∧o.dict=none
noncomputable def TabOf (prog:Program) (w:World) (h:Heap) (a:Addr) (kv:List (Str × Value)):Prop:=(a == sysModules)=false∧h.DictOf (PySem.strKind prog w) a kv
structure Gl where
  prog:Program
  w:World
  K:Frag
  p:Program
  loose:List Str
  mg:Str→Option Value
  mb:Str→Option Value
  C:Addr
mutual
noncomputable def Rep (G:Gl) (X:Addr→Prop) (h:Heap):Value→D→Prop
  | v,.none=>v=.none
  | v,.bool b=>v=.bool b
  | v,.int i=>∃ t,v=.int i t
  | v,.str s=>∃ t,v=.str s t
  | v,.opq w=>v=w∧handedIn w=true
  | v,.tuple ds=>∃ a vs,v=.ref a∧¬ X a∧h.IsTuple a (List.toArray vs)∧RepL G X h vs ds
  | v,.list ds=>∃ a vs,v=.ref a∧¬ X a∧ListAt h a (List.toArray vs)∧RepL G X h vs ds
  | v,.dict kvs=>∃ a kv,v=.ref a∧¬ X a∧TabOf G.prog G.w h a kv∧RepK G X h kv kvs
  | v,.obj kvs=>∃ a da es,v=.ref a∧¬ X a∧¬ X da∧InstAt' h a G.C da∧DictAt h da es∧RepD G X h es kvs
noncomputable def RepL (G:Gl) (X:Addr→Prop) (h:Heap):List Value→List D→Prop
  | vs,[]=>vs=[]
  | vs,d :: ds=>∃ v r,vs=v :: r∧Rep G X h v d∧RepL G X h r ds
noncomputable def RepK (G:Gl) (X:Addr→Prop) (h:Heap):List (Str × Value)→List (Str × D)→Prop
  | kv,[]=>kv=[]
  | kv,p :: ps=>∃ v r,kv=(p.1,v) :: r∧RepP G X h v p∧RepK G X h r ps
noncomputable def RepD (G:Gl) (X:Addr→Prop) (h:Heap):List DictEntry→List (Str × D)→Prop
  | es,[]=>es=[]
  | es,p :: ps=>∃ t v r,es=⟨PyData.keyHash G.w.params p.1,.str p.1 t,v⟩ :: r∧RepP G X h v p∧RepD G X h r ps
noncomputable def RepP (G:Gl) (X:Addr→Prop) (h:Heap):Value→Str × D→Prop
  | v,(_,d)=>Rep G X h v d
end
section
variable {G:Gl} {X:Addr→Prop} {h:Heap}
theorem Rep.none:Rep G X h .none .none:=rfl
theorem Rep.bool (b:Bool):Rep G X h (.bool b) (.bool b):=rfl
theorem Rep.int (i:Int) (t:Tok):Rep G X h (.int i t) (.int i):=⟨t,rfl⟩
theorem Rep.str (i:Str) (t:Tok):Rep G X h (.str i t) (.str i):=⟨t,rfl⟩
theorem Rep.opq {v:Value} (q:handedIn v=true):Rep G X h v (.opq v):=⟨rfl,q⟩
theorem Rep.tuple {a vs ds} (n:¬ X a) (x:h.IsTuple a (List.toArray vs)) (r:RepL G X h vs ds):Rep G X h (.ref a) (.tuple ds):=⟨a,vs,rfl,n,x,r⟩
theorem Rep.list {a vs ds} (n:¬ X a) (x:ListAt h a (List.toArray vs)) (r:RepL G X h vs ds):Rep G X h (.ref a) (.list ds):=⟨a,vs,rfl,n,x,r⟩
theorem Rep.dict {a kv kvs} (n:¬ X a) (x:TabOf G.prog G.w h a kv) (r:RepK G X h kv kvs):Rep G X h (.ref a) (.dict kvs):=⟨a,kv,rfl,n,x,r⟩
theorem Rep.obj {a da es kvs} (n:¬ X a) (m:¬ X da) (x:InstAt' h a G.C da) (y:DictAt h da es) (r:RepD G X h es kvs):Rep G X h (.ref a) (.obj kvs):=⟨a,da,es,rfl,n,m,x,y,r⟩
theorem RepL.nil:RepL G X h [] []:=rfl
theorem RepL.cons {v vs d ds} (a:Rep G X h v d) (b:RepL G X h vs ds):RepL G X h (v :: vs) (d :: ds):=⟨v,vs,rfl,a,b⟩
theorem RepK.nil:RepK G X h [] []:=rfl
theorem RepK.cons {k:Str} {v d kv kvs} (a:Rep G X h v d) (b:RepK G X h kv kvs):RepK G X h ((k,v) :: kv) ((k,d) :: kvs):=⟨v,kv,rfl,a,b⟩
theorem RepD.nil:RepD G X h [] []:=rfl
theorem RepD.cons {k:Str} {t:Tok} {v d es kvs} (a:Rep G X h v d) (b:RepD G X h es kvs):RepD G X h (⟨PyData.keyHash G.w.params k,.str k t,v⟩ :: es) ((k,d) :: kvs):=⟨t,v,es,rfl,a,b⟩
end
theorem IsTuple.at' {h h':Heap} {a:Addr} {xs} (x:h.IsTuple a xs) (k:∀ o,h.get? a=some o→h'.get? a=some o):h'.IsTuple a xs:=
  let ⟨o,e,r⟩:=x; ⟨o,k o e,r⟩
theorem ListAt.at' {h h':Heap} {a:Addr} {xs} (x:ListAt h a xs) (k:∀ o,h.get? a=some o→h'.get? a=some o):ListAt h' a xs:=
  let ⟨⟨o,e,r⟩,o',e',r'⟩:=x; ⟨⟨o,k o e,r⟩,o',k o' e',r'⟩
theorem TabOf.at' {prog:Program} {w:World} {h h':Heap} {a:Addr} {kv} (x:TabOf prog w h a kv) (k:∀ o,h.get? a=some o→h'.get? a=some o):TabOf prog w h' a kv:=
  let ⟨q,o,es,ep,e,r⟩:=x; ⟨q,o,es,ep,k o e,r⟩
theorem TabOf.get {prog:Program} {w:World} {h:Heap} {a:Addr} {kv} (x:TabOf prog w h a kv):∃ o,h.get? a=some o:=let ⟨_,o,_,_,e,_⟩:=x; ⟨o,e⟩
section
variable {G:Gl} {X Y:Addr→Prop} {h h':Heap} (y:∀ a o,h.get? a=some o→Y a→X a) (k:∀ a o,¬ X a→h.get? a=some o→h'.get? a=some o)
include y k
mutual
theorem Rep.move:∀ {v:Value} {d:D},Rep G X h v d→Rep G Y h' v d
  | _,.none,r=>r
  | _,.bool _,r=>r
  | _,.int _,r=>r
  | _,.str _,r=>r
  | _,.opq _,r=>r
  | _,.tuple _,⟨_,_,e,n,x,r⟩=>⟨_,_,e,fun q=>n (let ⟨o,e,_⟩:=x; y _ o e q),IsTuple.at' x fun o e=>k _ o n e,RepL.move r⟩
  | _,.list _,⟨_,_,e,n,x,r⟩=>⟨_,_,e,fun q=>n (let ⟨⟨o,e,_⟩,_⟩:=x; y _ o e q),x.at' fun o e=>k _ o n e,RepL.move r⟩
  | _,.dict _,⟨_,_,e,n,x,r⟩=>⟨_,_,e,fun q=>n (let ⟨_,e⟩:=x.get; y _ _ e q),x.at' fun o e=>k _ o n e,RepK.move r⟩
  | _,.obj _,⟨_,_,_,e,n1,n2,x,z,r⟩=>⟨_,_,_,e,fun q=>n1 (y _ _ x q),fun q=>n2 (let ⟨_,e⟩:=z; y _ _ e q),k _ _ n1 x,(let ⟨m,e⟩:=z; ⟨m,k _ _ n2 e⟩),RepD.move r⟩
theorem RepL.move:∀ {vs:List Value} {ds:List D},RepL G X h vs ds→RepL G Y h' vs ds
  | _,[],r=>r
  | _,_ :: _,⟨_,_,e,a,b⟩=>⟨_,_,e,Rep.move a,RepL.move b⟩
theorem RepK.move:∀ {es:List (Str × Value)} {kvs:List (Str × D)},RepK G X h es kvs→RepK G Y h' es kvs
  | _,[],r=>r
  | _,_ :: _,⟨_,_,e,a,b⟩=>⟨_,_,e,RepP.move a,RepK.move b⟩
theorem RepD.move:∀ {es:List DictEntry} {kvs:List (Str × D)},RepD G X h es kvs→RepD G Y h' es kvs
  | _,[],r=>r
  | _,_ :: _,⟨_,_,_,e,a,b⟩=>⟨_,_,_,e,RepP.move a,RepD.move b⟩
theorem RepP.move:∀ {v:Value} {p:Str × D},RepP G X h v p→RepP G Y h' v p
  | _,(_,_),r=>Rep.move r
end
end
section
variable {G:Gl} {X Y:Addr→Prop} {h h':Heap} {v:Value} {d:D} {vs:List Value} {ds:List D} {kv:List (Str × Value)} {es:List DictEntry} {kvs:List (Str × D)}
theorem Rep.mono (k:∀ a o,¬ X a→h.get? a=some o→h'.get? a=some o) (r:Rep G X h v d):Rep G X h' v d:=r.move (fun u u u q=>q) k
theorem RepL.mono (k:∀ a o,¬ X a→h.get? a=some o→h'.get? a=some o) (r:RepL G X h vs ds):RepL G X h' vs ds:=r.move (fun u u u q=>q) k
theorem RepK.mono (k:∀ a o,¬ X a→h.get? a=some o→h'.get? a=some o) (r:RepK G X h kv kvs):RepK G X h' kv kvs:=r.move (fun u u u q=>q) k
theorem RepD.mono (k:∀ a o,¬ X a→h.get? a=some o→h'.get? a=some o) (r:RepD G X h es kvs):RepD G X h' es kvs:=r.move (fun u u u q=>q) k
theorem Rep.weak (k:∀ a o,h.get? a=some o→Y a→X a) (r:Rep G X h v d):Rep G Y h v d:=r.move k fun u u u e=>e
theorem RepL.weak (k:∀ a o,h.get? a=some o→Y a→X a) (r:RepL G X h vs ds):RepL G Y h vs ds:=r.move k fun u u u e=>e
theorem RepK.weak (k:∀ a o,h.get? a=some o→Y a→X a) (r:RepK G X h kv kvs):RepK G Y h kv kvs:=r.move k fun u u u e=>e
theorem RepD.weak (k:∀ a o,h.get? a=some o→Y a→X a) (r:RepD G X h es kvs):RepD G Y h es kvs:=r.move k fun u u u e=>e
end
section
variable {G:Gl} {X:Addr→Prop} {h:Heap}
theorem RepL.length:∀ {ds vs},RepL G X h vs ds→vs.length=ds.length
  | [],_,r=>congrArg List.length r
  | _ :: _,_,⟨_,_,e,_,b⟩=>e ▸ congrArg Nat.succ (RepL.length b)
theorem RepL.one {vs d} (r:RepL G X h vs [d]):∃ v,vs=[v]∧Rep G X h v d:=let ⟨v,_,e,a,b⟩:=r; ⟨v,b ▸ e,a⟩
theorem RepL.append:∀ {ds vs ws es},RepL G X h vs ds→RepL G X h ws es→RepL G X h (vs ++ ws) (ds ++ es)
  | [],_,_,_,r,k=>by cases r; exact k
  | _ :: _,_,_,_,⟨_,_,e,a,b⟩,k=>e ▸ .cons a (RepL.append b k)
theorem RepL.get:∀ {ds vs},RepL G X h vs ds→∀ {i:Nat} {d:D},ds[i]?=some d→∃ v,vs[i]?=some v∧Rep G X h v d
  | [],_,_,_,_,q=>nomatch q
  | _ :: _,_,⟨v,_,e,a,_⟩,0,_,q=>e ▸ ⟨v,rfl,Option.some.inj q ▸ a⟩
  | _ :: _,_,⟨_,_,e,_,b⟩,_ + 1,_,q=>e ▸ b.get q
theorem RepL.get' {ds vs} (r:RepL G X h vs ds) {i:Nat} {v:Value} (e:vs[i]?=some v):∃ d,ds[i]?=some d∧Rep G X h v d:=by
  have hl:=r.length ▸ (List.getElem?_eq_some_iff.mp e).1
  obtain ⟨v',e',q⟩:=r.get (List.getElem?_eq_getElem hl)
  rw [e] at e'
  cases e'
  exact ⟨_,List.getElem?_eq_getElem hl,q⟩
end
inductive Bop where | add | sub | mul | mod | fdiv
  deriving DecidableEq
inductive Cop where | eq | ne | lt | gt | le | isin
  deriving DecidableEq
inductive Bf where | len | sum | max | tuple
  deriving DecidableEq
inductive Mt where | count | get | join | startswith | split | compare
  deriving DecidableEq
mutual
inductive TE where
  | cNone
  | cBool (b:Bool)
  | cInt (i:Int)
  | cStr (s:Str)
  | var (i:Nat)
  | bin (op:Bop) (l r:TE)
  | neg (e:TE)
  | cmp (op:Cop) (l r:TE)
  | cmp2 (o1 o2:Cop) (l m r:TE)
  | not (e:TE)
  | and (es:TEs)
  | or (es:TEs)
  | or2 (a b:TE)
  | ite (t a b:TE)
  | sub (e i:TE)
  | slice (e lo hi st:TE)
  | list (es:TEs)
  | tuple (es:TEs)
  | dict0
  | dict1 (k v:TE)
  | lcomp (elt:TE) (tg:List Nat) (one:Bool) (it:TI) (cond:TEs)
  | dcomp (k v:TE) (tg:List Nat) (one:Bool) (it:TI) (cond:TEs)
  | bf (f:Bf) (e:TE)
  | listOf (it:TI)
  | fn (f:Str) (args:TEs)
  | cls (arg:TE)
  | mt (m:Mt) (o:TE) (args:TEs)
  | attr (o:TE) (a:Str)
  | isTup (e:TE)
inductive TEs where
  | nil
  | cons (e:TE) (r:TEs)
inductive TI where
  | exp (e:TE)
  | range1 (b:TE)
  | range2 (a b:TE)
  | items (e:TE)
  | values (e:TE)
  | zip (a b:TE)
end
noncomputable abbrev St:=List (Option D)
noncomputable def St.get (σ:St) (i:Nat):Option D:=(σ[i]?).join
noncomputable def St.put (σ:St) (i:Nat) (d:D):St:=σ.set i (some d)
noncomputable abbrev FEnv:=Str→List D→Option D
section
variable {α β:Type} {p:Prop}
theorem dif_elim {c:Prop} [d:Decidable c] {f:c→Bool} (h:(if h:c then f h else false)=true) (H:∀ q:c,f q=true→p):p:=by
  cases d with
  | isTrue q=>exact H q h
  | isFalse q=>cases h
theorem hide (h:∀ q:Prop,(p→q)→q):p:=h p id
theorem none_ne {d:α} (h:(none:Option α)=some d):p:=by cases h
theorem dife_ {c:Prop} [d:Decidable c] {f:c→Option α} {e:Option α} {y:α} (h:(if h:c then f h else e)=some y) (H:∀ q:c,f q=some y→p) (H':e=some y→p):p:=by
  cases d with
  | isTrue q=>exact H q h
  | isFalse q=>exact H' h
theorem bind_ {o:Option α} {f:α→Option β} {y:β} (h:o.bind f=some y) (H:∀ a,o=some a→f a=some y→p):p:=
  match o,h with
  | some a,h=>H a rfl h
  | none,h=>none_ne h
theorem map_ {o:Option α} {f:α→β} {y:β} (h:o.map f=some y) (H:∀ a,o=some a→f a=y→p):p:=
  match o,h with
  | some a,h=>H a rfl (Option.some.inj h)
  | none,h=>none_ne h
theorem bind_eq {o:Option α} {f:α→Option β} {a:α} {y:Option β} (e:o=some a) (h:f a=y):o.bind f=y:=by rw [e]; exact h
theorem map_eq {o:Option α} {f:α→β} {a:α} (e:o=some a):o.map f=some (f a):=by rw [e]; rfl
theorem if_ {c:Prop} [d:Decidable c] {a:Option α} {y:α} (h:(if c then a else none)=some y) (H:c→a=some y→p):p:=by
  cases d with
  | isTrue q=>exact H q h
  | isFalse q=>exact none_ne h
theorem ife_ {c:Prop} [d:Decidable c] {a b:Option α} {y:α} (h:(if c then a else b)=some y) (H:c→a=some y→p) (H':¬ c→b=some y→p):p:=by
  cases d with
  | isTrue q=>exact H q h
  | isFalse q=>exact H' q h
noncomputable def orO (a:Option α) (b:Unit→Option α):Option α:=match a with
  | some x=>some x
  | none=>b ()
theorem or_ {a:Option α} {b:Unit→Option α} {y:α} (h:orO a b=some y) (H:a=some y→p) (H':b ()=some y→p):p:=
  match a,h with
  | some _,h=>H h
  | none,h=>H' h
end
section
variable {β:Type} {y:β}
noncomputable def caI (d:D) (k:Int→Option β) (e:Option β):Option β:=if h:d.ctorIdx=2 then D.int.elim d h k else e
noncomputable def onI (d:D) (k:Int→Option β):Option β:=caI d k none
@[elab_as_elim] theorem caI_ {d:D} {k:Int→Option β} {e:Option β} {motive:D→Prop} (h:caI d k e=some y) (H:∀ i,k i=some y→motive (.int i)) (H':e=some y→motive d):motive d:=
  dife_ h (fun q h=>D.int.elim (motive_1:=fun d=>∀ q:d.ctorIdx=2,D.int.elim d q k=some y→motive d) d q (fun i u h=>H i h) q h) H'
@[elab_as_elim] theorem onI_ {d:D} {k:Int→Option β} {motive:D→Prop} (h:onI d k=some y) (H:∀ i,k i=some y→motive (.int i)):motive d:=caI_ (motive:=motive) (show caI d k none=some y from h) H none_ne
noncomputable def caS (d:D) (k:Str→Option β) (e:Option β):Option β:=if h:d.ctorIdx=3 then D.str.elim d h k else e
noncomputable def onS (d:D) (k:Str→Option β):Option β:=caS d k none
@[elab_as_elim] theorem caS_ {d:D} {k:Str→Option β} {e:Option β} {motive:D→Prop} (h:caS d k e=some y) (H:∀ i,k i=some y→motive (.str i)) (H':e=some y→motive d):motive d:=
  dife_ h (fun q h=>D.str.elim (motive_1:=fun d=>∀ q:d.ctorIdx=3,D.str.elim d q k=some y→motive d) d q (fun i u h=>H i h) q h) H'
@[elab_as_elim] theorem onS_ {d:D} {k:Str→Option β} {motive:D→Prop} (h:onS d k=some y) (H:∀ i,k i=some y→motive (.str i)):motive d:=caS_ (motive:=motive) (show caS d k none=some y from h) H none_ne
noncomputable def caT (d:D) (k:List D→Option β) (e:Option β):Option β:=if h:d.ctorIdx=4 then D.tuple.elim d h k else e
noncomputable def onT (d:D) (k:List D→Option β):Option β:=caT d k none
@[elab_as_elim] theorem caT_ {d:D} {k:List D→Option β} {e:Option β} {motive:D→Prop} (h:caT d k e=some y) (H:∀ i,k i=some y→motive (.tuple i)) (H':e=some y→motive d):motive d:=
  dife_ h (fun q h=>D.tuple.elim (motive_1:=fun d=>∀ q:d.ctorIdx=4,D.tuple.elim d q k=some y→motive d) d q (fun i u h=>H i h) q h) H'
@[elab_as_elim] theorem onT_ {d:D} {k:List D→Option β} {motive:D→Prop} (h:onT d k=some y) (H:∀ i,k i=some y→motive (.tuple i)):motive d:=caT_ (motive:=motive) (show caT d k none=some y from h) H none_ne
noncomputable def caL (d:D) (k:List D→Option β) (e:Option β):Option β:=if h:d.ctorIdx=5 then D.list.elim d h k else e
noncomputable def onL (d:D) (k:List D→Option β):Option β:=caL d k none
@[elab_as_elim] theorem caL_ {d:D} {k:List D→Option β} {e:Option β} {motive:D→Prop} (h:caL d k e=some y) (H:∀ i,k i=some y→motive (.list i)) (H':e=some y→motive d):motive d:=
  dife_ h (fun q h=>D.list.elim (motive_1:=fun d=>∀ q:d.ctorIdx=5,D.list.elim d q k=some y→motive d) d q (fun i u h=>H i h) q h) H'
@[elab_as_elim] theorem onL_ {d:D} {k:List D→Option β} {motive:D→Prop} (h:onL d k=some y) (H:∀ i,k i=some y→motive (.list i)):motive d:=caL_ (motive:=motive) (show caL d k none=some y from h) H none_ne
noncomputable def onD (d:D) (k:List (Str × D)→Option β):Option β:=if h:d.ctorIdx=6 then D.dict.elim d h k else none
@[elab_as_elim] theorem onD_ {d:D} {k:List (Str × D)→Option β} {motive:D→Prop} (h:onD d k=some y) (H:∀ i,k i=some y→motive (.dict i)):motive d:=
  dife_ h (fun q h=>D.dict.elim (motive_1:=fun d=>∀ q:d.ctorIdx=6,D.dict.elim d q k=some y→motive d) d q (fun i u h=>H i h) q h) none_ne
noncomputable def onO (d:D) (k:List (Str × D)→Option β):Option β:=if h:d.ctorIdx=7 then D.obj.elim d h k else none
@[elab_as_elim] theorem onO_ {d:D} {k:List (Str × D)→Option β} {motive:D→Prop} (h:onO d k=some y) (H:∀ i,k i=some y→motive (.obj i)):motive d:=
  dife_ h (fun q h=>D.obj.elim (motive_1:=fun d=>∀ q:d.ctorIdx=7,D.obj.elim d q k=some y→motive d) d q (fun i u h=>H i h) q h) none_ne
end
noncomputable def cap:Nat:=1000000
noncomputable def evBin (op:Bop) (a b:D):Option D:=match op with
  | .add=>caI a (fun x=>onI b fun y=>some (.int (x + y))) <| caS a (fun x=>onS b fun y=>if x.length + y.length ≤ cap then some (.str (x ++ y)) else none) <| onL a fun x=>onL b fun y=>if x.length + y.length ≤ cap then some (.list (x ++ y)) else none
  | .sub=>onI a fun x=>onI b fun y=>some (.int (x - y))
  | .mul=>caI a (fun x=>onI b fun y=>if x.natAbs ≤ 100 && y.natAbs ≤ 100 then some (.int (x * y)) else none) <| onL a fun x=>onI b fun y=>if y.natAbs ≤ 100 && x.length * y.toNat ≤ 100 then some (.list (List.replicate y.toNat x).flatten) else none
  | .mod=>onI a fun x=>onI b fun y=>if y ≠ 0 then some (.int (x.fmod y)) else none
  | .fdiv=>onI a fun x=>onI b fun y=>if y ≠ 0∧y.natAbs ≤ cap then some (.int (x.fdiv y)) else none
theorem evB1 {a b:Int}:evBin .add (.int a) (.int b)=some (.int (a + b)):=rfl
theorem evB2 {a b:Str}:evBin .add (.str a) (.str b)=if a.length + b.length ≤ cap then some (.str (a ++ b)) else none:=rfl
theorem evB3 {a b:List D}:evBin .add (.list a) (.list b)=if a.length + b.length ≤ cap then some (.list (a ++ b)) else none:=rfl
theorem evB4 {a b:Int}:evBin .sub (.int a) (.int b)=some (.int (a - b)):=rfl
theorem evB5 {a:List D} {b:Int}:evBin .mul (.list a) (.int b)=if b.natAbs ≤ 100 && a.length * b.toNat ≤ 100 then some (.list (List.replicate b.toNat a).flatten) else none:=rfl
theorem evB6 {a b:Int}:evBin .mod (.int a) (.int b)=if b ≠ 0 then some (.int (a.fmod b)) else none:=rfl
theorem evB7 {a b:Int}:evBin .fdiv (.int a) (.int b)=if b ≠ 0∧b.natAbs ≤ cap then some (.int (a.fdiv b)) else none:=rfl
mutual
noncomputable def toPy:D→Option PyData
  | .none=>some .none
  | .bool b=>some (.bool b)
  | .int i=>some (.int i)
  | .str s=>some (.str s)
  | .tuple ds=>(toPys ds).map .tuple
  | .list ds=>(toPys ds).map .list
  | .dict _=>none
  | .obj _=>none
  | .opq _=>none
noncomputable def toPys:List D→Option (List PyData)
  | []=>some []
  | d :: ds=>(toPy d).bind fun x=>(toPys ds).map (x :: ·)
end
noncomputable def flatK:List (Str × D)→Option (List (Str × Int))
  | []=>some []
  | p :: r=>onI p.2 fun i=>(flatK r).map ((p.1,i) :: ·)
noncomputable def flats:List D→Option (List (List (Str × Int)))
  | []=>some []
  | d :: r=>onD d fun kvs=>(flatK kvs).bind fun t=>(flats r).map (t :: ·)
noncomputable def lookI (k:Str) (t:List (Str × Int)):Option Int:=(t.find? fun p=>p.1 == k).map (·.2)
noncomputable def eqFlat (a b:List (Str × Int)):Bool:=a.length == b.length && a.all fun p=>lookI p.1 b == some p.2
noncomputable def eqFlats (a b:List (List (Str × Int))):Bool:=a.length == b.length && (a.zip b).all fun p=>eqFlat p.1 p.2
noncomputable def strsOf:List D→Option (List Str)
  | []=>some []
  | d :: r=>onS d fun x=>(strsOf r).map (x :: ·)
noncomputable def intsOf:List D→Option (List Int)
  | []=>some []
  | d :: r=>onI d fun x=>(intsOf r).map (x :: ·)
noncomputable def Str.ltb (a b:Str):Bool:=decide (a.cps.toList < b.cps.toList)
noncomputable def ltStrs:List Str→List Str→Bool
  | [],[]=>false
  | [],_ :: _=>true
  | _ :: _,[]=>false
  | a :: as,b :: bs=>if a == b then ltStrs as bs else Str.ltb a b
noncomputable def depthCap:Nat:=20
noncomputable def eqD (a b:D):Option Bool:=(toPy a).bind fun x=>(toPy b).bind fun y=>if x.depth ≤ depthCap && x.canLay0 && y.canLay0 then some (x.eqv y) else none
noncomputable def neTabs (a b:D):Option Bool:=onL a fun x=>onL b fun y=>(flats x).bind fun p=>(flats y).bind fun q=>if p.length ≤ cap then some (!eqFlats p q) else none
noncomputable def ltD (a b:D):Option Bool:=caI a (fun x=>onI b fun y=>some (decide (x < y))) <| caS a (fun x=>onS b fun y=>some (Str.ltb x y)) <| onL a fun x=>onL b fun y=>(strsOf x).bind fun x=>(strsOf y).map fun y=>ltStrs x y
noncomputable def evCmp (op:Cop) (a b:D):Option Bool:=match op with
  | .eq=>eqD a b
  | .ne=>orO ((eqD a b).map (!·)) fun u=>neTabs a b
  | .lt=>ltD a b
  | .gt=>ltD b a
  | .le=>onI a fun x=>onI b fun y=>some (decide (x ≤ y))
  | .isin=>onS a fun k=>onD b fun kvs=>some (kvs.any fun p=>p.1 == k)
noncomputable def ifO {α:Type} (c:Prop) [Decidable c] (a:α):Option α:=if c then some a else none
theorem ifO_ {α:Type} {c:Prop} [d:Decidable c] {a y:α} {p:Prop} (h:ifO c a=some y) (H:c→a=y→p):p:=if_ h fun q e=>H q (Option.some.inj e)
noncomputable def truth:D→Option Bool
  | .none=>some false
  | .bool b=>some b
  | .int i=>some (i != 0)
  | .str s=>ifO (s.length ≤ cap) (s.length != 0)
  | .tuple ds=>ifO (ds.length ≤ cap) (!ds.isEmpty)
  | .list ds=>ifO (ds.length ≤ cap) (!ds.isEmpty)
  | .dict kvs=>ifO (kvs.length ≤ cap) (!kvs.isEmpty)
  | .obj _=>none
  | .opq _=>none
noncomputable def lookD (k:Str) (kvs:List (Str × D)):Option D:=(kvs.find? fun p=>p.1 == k).map (·.2)
noncomputable def evSub (a b:D):Option D:=
  caL a (fun ds=>onI b fun i=>if 0 ≤ i then (if i < 1000000 then ds[i.toNat]? else none) else if -(ds.length:Int) ≤ i∧-1000000 ≤ i then ds[(i + ds.length).toNat]? else none) <|
  caT a (fun ds=>onI b fun i=>if 0 ≤ i∧i < 1000000 then ds[i.toNat]? else none) <| onD a fun kvs=>onS b fun k=>lookD k kvs
noncomputable def optInt (d:D):Option (Option Int):=if d.ctorIdx=0 then some none else onI d fun i=>some (some i)
noncomputable def sliceL {α:Type} (ds:List α) (lo hi st:Option Int):List α:=
  (sliceRange (sliceBounds lo hi st ds.length).1 (sliceBounds lo hi st ds.length).2.1 (sliceBounds lo hi st ds.length).2.2).filterMap (ds[·]?)
noncomputable def evSlice (a lo hi st:D):Option D:=
  caL a (fun ds=>(optInt lo).bind fun lo=>(optInt hi).bind fun hi=>(optInt st).bind fun st=>if st ≠ some 0∧ds.length ≤ cap then some (.list (sliceL ds lo hi st)) else none) <|
  onS a fun s=>(optInt lo).bind fun lo=>(optInt hi).bind fun hi=>ifO (st.ctorIdx=0∧s.length ≤ cap∧(Builtin.Str.strSliceIndices lo hi 1 s.length).length ≤ cap) (.str (if (Builtin.Str.strSliceIndices lo hi 1 s.length).length == s.length then s else ⟨((Builtin.Str.strSliceIndices lo hi 1 s.length).filterMap (s.cps[·]?)).toArray⟩))
noncomputable def evBf (f:Bf) (d:D):Option D:=match f with
  | .len=>caL d (fun ds=>if ds.length ≤ cap then some (.int ds.length) else none) <| onT d fun ds=>if ds.length ≤ cap then some (.int ds.length) else none
  | .sum=>onL d fun ds=>(intsOf ds).map fun xs=>.int xs.sum
  | .max=>onL d fun ds=>(intsOf ds).bind fun xs=>xs.head?.map fun x=>.int (xs.tail.foldl max x)
  | .tuple=>onL d fun ds=>if ds.length ≤ cap then some (.tuple ds) else none
noncomputable def cntD (ds:List D) (d:D):Option Nat:=caI d (fun i=>(intsOf ds).map fun xs=>xs.count i) <| onS d fun s=>(strsOf ds).map fun xs=>xs.countP (· == s)
noncomputable def one? {α:Type}:List α→Option α
  | []=>none
  | a :: r=>if r.isEmpty then some a else none
theorem one_ {α:Type} {l:List α} {x:α} (h:one? l=some x):l=[x]:=
  match l,h with
  | _ :: _,h=>if_ h fun c e=>Option.some.inj e ▸ List.isEmpty_iff.mp c ▸ rfl
noncomputable def evMt (Φ:FEnv) (m:Mt) (o:D) (as:List D):Option D:=match m with
  | .count=>onL o fun ds=>(one? as).bind fun d=>(cntD ds d).map fun (n:Nat)=>D.int (n:Int)
  | .get=>onD o fun kvs=>as.head?.bind fun k=>(one? as.tail).bind fun d=>onS k fun k=>some ((lookD k kvs).getD d)
  | .join=>onS o fun sep=>(one? as).bind fun d=>onL d fun ds=>(strsOf ds).bind fun xs=>if JoinOk sep xs=true then some (.str (Txt.join sep xs)) else none
  | .startswith=>onS o fun a=>(one? as).bind fun d=>onS d fun b=>some (.bool (Txt.startswith a b))
  | .split=>onS o fun a=>(one? as).bind fun d=>onS d fun b=>if (b.length == 0)=false∧a.length ≤ cap∧(Builtin.Str.partsBetween a (Builtin.Str.occurrences a b 0 a.length (a.length + 1)) b.length).length ≤ cap then some (.list ((Txt.split a b).map .str)) else none
  | .compare=>Φ (Str.ofString "compare") (o :: as)
noncomputable def evAttr (d:D) (a:Str):Option D:=onO d fun kvs=>if a=Str.ofString "comp_select_list" then lookD a kvs else none
noncomputable def rangeD (a b:Int):List D:=(List.range (b - a).toNat).map fun (k:Nat)=>D.int (a + k)
noncomputable def rngOk (a b:Int):Bool:=a.natAbs ≤ cap && b.natAbs ≤ cap
noncomputable def itemsOf (d:D):Option (List D):=caL d (fun ds=>if ds.length ≤ cap then some ds else none) <| onD d fun kvs=>if kvs.length ≤ cap then some (kvs.map fun p=>.str p.1) else none
noncomputable def bindT (one:Bool) (tg:List Nat) (d:D) (σ:St):Option St:=
  if one then (one? tg).map fun i=>σ.put i d
  else onT d fun ds=>if ds.length=tg.length then some ((tg.zip ds).foldl (fun σ p=>σ.put p.1 p.2) σ) else none
noncomputable def clearT (tg:List Nat) (σ:St):St:=tg.foldl (fun σ i=>σ.set i none) σ
noncomputable def dictPut (k:Str) (d:D):List (Str × D)→List (Str × D)
  | []=>[(k,d)]
  | p :: r=>if p.1 == k then (p.1,d) :: r else p :: dictPut k d r
noncomputable def compL (test:St→Option Bool) (elt:St→Option D) (one:Bool) (tg:List Nat) (σ:St):List D→Option (List D)
  | []=>some []
  | d :: ds=>(bindT one tg d σ).bind fun σ'=>(test σ').bind fun b=>bif b then (elt σ').bind fun y=>(compL test elt one tg σ ds).map (y :: ·) else compL test elt one tg σ ds
noncomputable def compD (test:St→Option Bool) (key val:St→Option D) (one:Bool) (tg:List Nat) (σ:St):List D→List (Str × D)→Option (List (Str × D))
  | [],acc=>some acc
  | d :: ds,acc=>(bindT one tg d σ).bind fun σ'=>(test σ').bind fun b=>bif b then (key σ').bind fun k=>onS k fun k=>(val σ').bind fun v=>compD test key val one tg σ ds (dictPut k v acc) else compD test key val one tg σ ds acc
noncomputable def listable (t:TI):Bool:=t.ctorIdx == 1 || t.ctorIdx == 5
mutual
noncomputable def evE (Φ:FEnv):TE→St→Option D
  | .cNone,_=>some .none
  | .cBool b,_=>some (.bool b)
  | .cInt i,_=>some (.int i)
  | .cStr s,_=>some (.str s)
  | .var i,σ=>σ.get i
  | .bin op l r,σ=>(evE Φ l σ).bind fun a=>(evE Φ r σ).bind fun b=>evBin op a b
  | .neg e,σ=>(evE Φ e σ).bind fun a=>onI a fun i=>some (.int (-i))
  | .cmp op l r,σ=>(evE Φ l σ).bind fun a=>(evE Φ r σ).bind fun b=>(evCmp op a b).map .bool
  | .cmp2 o1 o2 l m r,σ=>(evE Φ l σ).bind fun a=>(evE Φ m σ).bind fun b=>(evCmp o1 a b).bind fun t=>bif t then (evE Φ r σ).bind fun c=>(evCmp o2 b c).map .bool else some (.bool false)
  | .not e,σ=>(evE Φ e σ).bind fun d=>(truth d).map fun b=>.bool (!b)
  | .and _,_=>none
  | .or _,_=>none
  | .or2 a b,σ=>(evE Φ a σ).bind fun d=>(truth d).bind fun t=>bif t then some d else evE Φ b σ
  | .ite t a b,σ=>(evT Φ t σ).bind fun t=>bif t then evE Φ a σ else evE Φ b σ
  | .sub e i,σ=>(evE Φ e σ).bind fun a=>(evE Φ i σ).bind fun b=>evSub a b
  | .slice e lo hi st,σ=>(evE Φ e σ).bind fun a=>(evE Φ lo σ).bind fun b=>(evE Φ hi σ).bind fun c=>(evE Φ st σ).bind fun d=>evSlice a b c d
  | .list es,σ=>(evEs Φ es σ).map .list
  | .tuple es,σ=>(evEs Φ es σ).map .tuple
  | .dict0,_=>some (.dict [])
  | .dict1 k v,σ=>(evE Φ k σ).bind fun k=>(evE Φ v σ).bind fun b=>onS k fun a=>some (.dict [(a,b)])
  | .lcomp elt tg one it cond,σ=>(evI Φ it σ).bind fun ds=>(compL (evC Φ cond) (evE Φ elt) one tg (clearT tg σ) ds).map .list
  | .dcomp k v tg one it cond,σ=>(evI Φ it σ).bind fun ds=>(compD (evC Φ cond) (evE Φ k) (evE Φ v) one tg (clearT tg σ) ds []).map .dict
  | .bf f e,σ=>(evE Φ e σ).bind fun a=>evBf f a
  | .listOf it,σ=>if listable it then (evI Φ it σ).map .list else none
  | .fn f args,σ=>(evEs Φ args σ).bind fun ds=>Φ f ds
  | .cls arg,σ=>(evE Φ arg σ).map fun a=>.obj [(Str.ofString "comp_select_list", a)]
  | .mt m o args,σ=>(evE Φ o σ).bind fun d=>(evEs Φ args σ).bind fun ds=>evMt Φ m d ds
  | .attr o a,σ=>(evE Φ o σ).bind fun d=>evAttr d a
  | .isTup e,σ=>(evE Φ e σ).bind fun a=>onI a fun u=>some (.bool false)
noncomputable def evT (Φ:FEnv):TE→St→Option Bool
  | .not e,σ=>(evT Φ e σ).map fun b=>!b
  | .and es,σ=>evAnd Φ es σ
  | .or es,σ=>evOr Φ es σ
  | .or2 a b,σ=>(evT Φ a σ).bind fun t=>bif t then some true else evT Φ b σ
  | .ite t a b,σ=>(evT Φ t σ).bind fun t=>bif t then evT Φ a σ else evT Φ b σ
  | .cmp op l r,σ=>(evE Φ l σ).bind fun a=>(evE Φ r σ).bind fun b=>evCmp op a b
  | .cmp2 o1 o2 l m r,σ=>(evE Φ l σ).bind fun a=>(evE Φ m σ).bind fun b=>(evCmp o1 a b).bind fun t=>bif t then (evE Φ r σ).bind fun c=>evCmp o2 b c else some false
  | .var i,σ=>(σ.get i).bind truth
  | .isTup e,σ=>(evE Φ e σ).bind fun a=>onI a fun u=>some false
  | .sub e i,σ=>((evE Φ e σ).bind fun a=>(evE Φ i σ).bind fun b=>evSub a b).bind truth
  | _,_=>none
noncomputable def evAnd (Φ:FEnv):TEs→St→Option Bool
  | .nil,_=>some true
  | .cons e r,σ=>(evT Φ e σ).bind fun t=>bif t then evAnd Φ r σ else some false
noncomputable def evOr (Φ:FEnv):TEs→St→Option Bool
  | .nil,_=>some false
  | .cons e r,σ=>(evT Φ e σ).bind fun t=>bif t then some true else evOr Φ r σ
noncomputable def evC (Φ:FEnv):TEs→St→Option Bool
  | .nil,_=>some true
  | .cons e r,σ=>if r.ctorIdx=0 then evT Φ e σ else none
noncomputable def evEs (Φ:FEnv):TEs→St→Option (List D)
  | .nil,_=>some []
  | .cons e r,σ=>(evE Φ e σ).bind fun d=>(evEs Φ r σ).map (d :: ·)
noncomputable def evI (Φ:FEnv):TI→St→Option (List D)
  | .exp e,σ=>(evE Φ e σ).bind itemsOf
  | .range1 b,σ=>(evE Φ b σ).bind fun d=>onI d fun j=>if rngOk 0 j then some (rangeD 0 j) else none
  | .range2 a b,σ=>(evE Φ a σ).bind fun c=>(evE Φ b σ).bind fun d=>onI c fun i=>onI d fun j=>if rngOk i j then some (rangeD i j) else none
  | .items e,σ=>(evE Φ e σ).bind fun d=>onD d fun kvs=>if kvs.length ≤ cap then some (kvs.map fun p=>.tuple [.str p.1,p.2]) else none
  | .values e,σ=>(evE Φ e σ).bind fun d=>onD d fun kvs=>if kvs.length ≤ cap then some (kvs.map fun p=>p.2) else none
  | .zip a b,σ=>(evE Φ a σ).bind fun c=>(evE Φ b σ).bind fun d=>onL c fun x=>onL d fun y=>if x.length ≤ cap∧y.length ≤ cap then some ((x.zip y).map fun p=>.tuple [p.1,p.2]) else none
end
mutual
inductive TS where
  | assign (i:Nat) (e:TE)
  | assign2 (i j:Nat) (a b:TE)
  | unpack (is:List Nat) (e:TE)
  | popUnpack (is:List Nat) (j:Nat)
  | append (j:Nat) (e:TE)
  | pop0 (j:Nat)
  | setItem (j:Nat) (k v:TE)
  | augItem (j:Nat) (k v:TE)
  | augVar (i:Nat) (e:TE)
  | move (i j:Nat)
  | ifS (t:TE) (a b:TSs)
  | forS (tg:List Nat) (one:Bool) (it:TI) (body:TSs)
  | ret (e:TE)
  | cont
  | dead
inductive TSs where
  | nil
  | cons (s:TS) (r:TSs)
end
inductive Fl where
  | next
  | cont
  | ret (d:D)
noncomputable def forL (body:St→Option (Fl × St)) (one:Bool) (tg:List Nat):List D→St→Option (Fl × St)
  | [],σ=>some (.next,σ)
  | d :: ds,σ=>(bindT one tg d σ).bind fun σ'=>(body σ').bind fun r=>if r.1.ctorIdx=2 then some r else forL body one tg ds r.2
mutual
noncomputable def evS (Φ:FEnv):TS→St→Option (Fl × St)
  | .assign i e,σ=>(evE Φ e σ).map fun d=>(.next,σ.put i d)
  | .assign2 i j a b,σ=>(evE Φ a σ).bind fun x=>(evE Φ b σ).map fun y=>(.next,(σ.put i x).put j y)
  | .unpack is e,σ=>(evE Φ e σ).bind fun d=>(bindT false is d σ).map fun σ'=>(.next,σ')
  | .popUnpack is j,σ=>(σ.get j).bind fun l=>onL l fun ds=>ds.getLast?.bind fun d=>if ds.length ≤ cap then (bindT false is d (σ.put j (.list ds.dropLast))).map fun σ'=>(.next,σ') else none
  | .append j e,σ=>(σ.get j).bind fun l=>(evE Φ e σ).bind fun d=>onL l fun ds=>if ds.length ≤ cap then some (.next,σ.put j (.list (ds ++ [d]))) else none
  | .pop0 j,σ=>(σ.get j).bind fun l=>onL l fun ds=>ds.getLast?.bind fun d=>onS d fun u=>if ds.length ≤ cap then some (.next,σ.put j (.list ds.dropLast)) else none
  | .setItem j k v,σ=>(evE Φ v σ).bind fun d=>(σ.get j).bind fun l=>(evE Φ k σ).bind fun k=>onD l fun kvs=>onS k fun s=>if kvs.length ≤ cap then some (.next,σ.put j (.dict (dictPut s d kvs))) else none
  | .augItem j k v,σ=>(σ.get j).bind fun l=>(evE Φ k σ).bind fun k=>(evE Φ v σ).bind fun d=>onD l fun kvs=>onS k fun s=>onI d fun b=>(lookD s kvs).bind fun a=>onI a fun a=>if kvs.length ≤ cap then some (.next,σ.put j (.dict (dictPut s (.int (a + b)) kvs))) else none
  | .augVar i e,σ=>(σ.get i).bind fun a=>(evE Φ e σ).bind fun b=>onI a fun a=>onI b fun b=>some (.next,σ.put i (.int (a + b)))
  | .move i j,σ=>(σ.get j).map fun d=>(.next,St.put (σ.set j none) i d)
  | .ifS t a b,σ=>(evT Φ t σ).bind fun t=>bif t then evSs Φ a σ else evSs Φ b σ
  | .forS tg one it body,σ=>(evI Φ it σ).bind fun ds=>forL (evSs Φ body) one tg ds σ
  | .ret e,σ=>(evE Φ e σ).map fun d=>(.ret d,σ)
  | .cont,σ=>some (.cont,σ)
  | .dead,_=>none
noncomputable def evSs (Φ:FEnv):TSs→St→Option (Fl × St)
  | .nil,σ=>some (.next,σ)
  | .cons s r,σ=>(evS Φ s σ).bind fun x=>if x.1.ctorIdx=0 then evSs Φ r x.2 else some x
end
noncomputable def vis:Option NameKind→Bool
  | some .local | some .cell | some .free=>true
  | _=>false
noncomputable def mine:Option NameKind→Bool
  | some .local | some .cell=>true
  | _=>false
noncomputable def inCell:Option NameKind→Bool
  | some .cell | some .free=>true
  | _=>false
structure FI where
  tbl:List Str
  own:List Nat
noncomputable def nameOk (I:FI) (sc:Scope) (x:Str) (i:Nat):Bool:=I.tbl[i]? == some x && vis (sc.names.lookup x) && x != Str.ofString "__debug__"
noncomputable def tgtOk (I:FI) (sc:Scope) (x:Str) (i:Nat):Bool:=I.tbl[i]? == some x && mine (sc.names.lookup x)
noncomputable def globOk (sc:Scope) (f:Str):Bool:=sc.names.lookup f == some .globalImplicit && f != Str.ofString "__debug__"
noncomputable def bopOf:Bop→Operator
  | .add=>.Add
  | .sub=>.Sub
  | .mul=>.Mult
  | .mod=>.Mod
  | .fdiv=>.FloorDiv
noncomputable def bopOk (b:Bop) (o:Operator):Bool:=o == bopOf b
noncomputable def copOf:Cop→CmpOp
  | .eq=>.Eq
  | .ne=>.NotEq
  | .lt=>.Lt
  | .gt=>.Gt
  | .le=>.LtE
  | .isin=>.In
noncomputable def copOk (c:Cop) (o:CmpOp):Bool:=o == copOf c
noncomputable def onConst (e:PySem.Expr) (k:Const→Bool):Bool:=if h:e.ctorIdx=19 then PySem.Expr.Constant.elim e h (fun c u u=>k c) else false
@[elab_as_elim] theorem onConst_ {e:PySem.Expr} {k:Const→Bool} {motive:PySem.Expr→Prop} (h:onConst e k=true) (H:∀ c n p,k c=true→motive (.Constant c n p)):motive e:=
  dif_elim h fun q h=>PySem.Expr.Constant.elim (motive_1:=fun e=>∀ q:e.ctorIdx=19,PySem.Expr.Constant.elim e q (fun c u u=>k c)=true→motive e) e q (fun c n p u h=>H c n p h) q h
noncomputable def onNm (e:PySem.Expr) (k:Str→Pos→Bool):Bool:=if h:e.ctorIdx=23 then PySem.Expr.Name.elim e h (fun x p=>k x p) else false
@[elab_as_elim] theorem onNm_ {e:PySem.Expr} {k:Str→Pos→Bool} {motive:PySem.Expr→Prop} (h:onNm e k=true) (H:∀ x p,k x p=true→motive (.Name x p)):motive e:=
  dif_elim h fun q h=>PySem.Expr.Name.elim (motive_1:=fun e=>∀ q:e.ctorIdx=23,PySem.Expr.Name.elim e q (fun x p=>k x p)=true→motive e) e q (fun x p u h=>H x p h) q h
noncomputable def onBin (e:PySem.Expr) (k:PySem.Expr→Operator→PySem.Expr→Bool):Bool:=if h:e.ctorIdx=2 then PySem.Expr.BinOp.elim e h (fun a o b u=>k a o b) else false
@[elab_as_elim] theorem onBin_ {e:PySem.Expr} {k:PySem.Expr→Operator→PySem.Expr→Bool} {motive:PySem.Expr→Prop} (h:onBin e k=true) (H:∀ a o b p,k a o b=true→motive (.BinOp a o b p)):motive e:=
  dif_elim h fun q h=>PySem.Expr.BinOp.elim (motive_1:=fun e=>∀ q:e.ctorIdx=2,PySem.Expr.BinOp.elim e q (fun a o b u=>k a o b)=true→motive e) e q (fun a o b p u h=>H a o b p h) q h
noncomputable def onUn (e:PySem.Expr) (k:UnaryOp→PySem.Expr→Bool):Bool:=if h:e.ctorIdx=3 then PySem.Expr.UnaryOp.elim e h (fun o a u=>k o a) else false
@[elab_as_elim] theorem onUn_ {e:PySem.Expr} {k:UnaryOp→PySem.Expr→Bool} {motive:PySem.Expr→Prop} (h:onUn e k=true) (H:∀ o a p,k o a=true→motive (.UnaryOp o a p)):motive e:=
  dif_elim h fun q h=>PySem.Expr.UnaryOp.elim (motive_1:=fun e=>∀ q:e.ctorIdx=3,PySem.Expr.UnaryOp.elim e q (fun o a u=>k o a)=true→motive e) e q (fun o a p u h=>H o a p h) q h
noncomputable def onCmp (e:PySem.Expr) (k:PySem.Expr→List CmpOp→List PySem.Expr→Bool):Bool:=if h:e.ctorIdx=15 then PySem.Expr.Compare.elim e h (fun a os bs u=>k a os bs) else false
@[elab_as_elim] theorem onCmp_ {e:PySem.Expr} {k:PySem.Expr→List CmpOp→List PySem.Expr→Bool} {motive:PySem.Expr→Prop} (h:onCmp e k=true) (H:∀ a os bs p,k a os bs=true→motive (.Compare a os bs p)):motive e:=
  dif_elim h fun q h=>PySem.Expr.Compare.elim (motive_1:=fun e=>∀ q:e.ctorIdx=15,PySem.Expr.Compare.elim e q (fun a os bs u=>k a os bs)=true→motive e) e q (fun a os bs p u h=>H a os bs p h) q h
noncomputable def onBool (e:PySem.Expr) (k:BoolOp→List PySem.Expr→Bool):Bool:=if h:e.ctorIdx=0 then PySem.Expr.BoolOp.elim e h (fun o as u=>k o as) else false
@[elab_as_elim] theorem onBool_ {e:PySem.Expr} {k:BoolOp→List PySem.Expr→Bool} {motive:PySem.Expr→Prop} (h:onBool e k=true) (H:∀ o as p,k o as=true→motive (.BoolOp o as p)):motive e:=
  dif_elim h fun q h=>PySem.Expr.BoolOp.elim (motive_1:=fun e=>∀ q:e.ctorIdx=0,PySem.Expr.BoolOp.elim e q (fun o as u=>k o as)=true→motive e) e q (fun o as p u h=>H o as p h) q h
noncomputable def onIf (e:PySem.Expr) (k:PySem.Expr→PySem.Expr→PySem.Expr→Bool):Bool:=if h:e.ctorIdx=5 then PySem.Expr.IfExp.elim e h (fun a b c u=>k a b c) else false
@[elab_as_elim] theorem onIf_ {e:PySem.Expr} {k:PySem.Expr→PySem.Expr→PySem.Expr→Bool} {motive:PySem.Expr→Prop} (h:onIf e k=true) (H:∀ a b c p,k a b c=true→motive (.IfExp a b c p)):motive e:=
  dif_elim h fun q h=>PySem.Expr.IfExp.elim (motive_1:=fun e=>∀ q:e.ctorIdx=5,PySem.Expr.IfExp.elim e q (fun a b c u=>k a b c)=true→motive e) e q (fun a b c p u h=>H a b c p h) q h
noncomputable def onSub (e:PySem.Expr) (k:PySem.Expr→PySem.Expr→Bool):Bool:=if h:e.ctorIdx=21 then PySem.Expr.Subscript.elim e h (fun a b u=>k a b) else false
@[elab_as_elim] theorem onSub_ {e:PySem.Expr} {k:PySem.Expr→PySem.Expr→Bool} {motive:PySem.Expr→Prop} (h:onSub e k=true) (H:∀ a b p,k a b=true→motive (.Subscript a b p)):motive e:=
  dif_elim h fun q h=>PySem.Expr.Subscript.elim (motive_1:=fun e=>∀ q:e.ctorIdx=21,PySem.Expr.Subscript.elim e q (fun a b u=>k a b)=true→motive e) e q (fun a b p u h=>H a b p h) q h
noncomputable def onSlice (e:PySem.Expr) (k:Option PySem.Expr→Option PySem.Expr→Option PySem.Expr→Bool):Bool:=if h:e.ctorIdx=26 then PySem.Expr.Slice.elim e h (fun a b c u=>k a b c) else false
@[elab_as_elim] theorem onSlice_ {e:PySem.Expr} {k:Option PySem.Expr→Option PySem.Expr→Option PySem.Expr→Bool} {motive:PySem.Expr→Prop} (h:onSlice e k=true) (H:∀ a b c p,k a b c=true→motive (.Slice a b c p)):motive e:=
  dif_elim h fun q h=>PySem.Expr.Slice.elim (motive_1:=fun e=>∀ q:e.ctorIdx=26,PySem.Expr.Slice.elim e q (fun a b c u=>k a b c)=true→motive e) e q (fun a b c p u h=>H a b c p h) q h
noncomputable def onList (e:PySem.Expr) (k:List PySem.Expr→Bool):Bool:=if h:e.ctorIdx=24 then PySem.Expr.List.elim e h (fun as u=>k as) else false
@[elab_as_elim] theorem onList_ {e:PySem.Expr} {k:List PySem.Expr→Bool} {motive:PySem.Expr→Prop} (h:onList e k=true) (H:∀ as p,k as=true→motive (.List as p)):motive e:=
  dif_elim h fun q h=>PySem.Expr.List.elim (motive_1:=fun e=>∀ q:e.ctorIdx=24,PySem.Expr.List.elim e q (fun as u=>k as)=true→motive e) e q (fun as p u h=>H as p h) q h
noncomputable def onTup (e:PySem.Expr) (k:List PySem.Expr→Bool):Bool:=if h:e.ctorIdx=25 then PySem.Expr.Tuple.elim e h (fun as u u=>k as) else false
@[elab_as_elim] theorem onTup_ {e:PySem.Expr} {k:List PySem.Expr→Bool} {motive:PySem.Expr→Prop} (h:onTup e k=true) (H:∀ as n p,k as=true→motive (.Tuple as n p)):motive e:=
  dif_elim h fun q h=>PySem.Expr.Tuple.elim (motive_1:=fun e=>∀ q:e.ctorIdx=25,PySem.Expr.Tuple.elim e q (fun as u u=>k as)=true→motive e) e q (fun as n p u h=>H as n p h) q h
noncomputable def onDict (e:PySem.Expr) (k:List (Option PySem.Expr)→List PySem.Expr→Bool):Bool:=if h:e.ctorIdx=6 then PySem.Expr.Dict.elim e h (fun ks vs u=>k ks vs) else false
@[elab_as_elim] theorem onDict_ {e:PySem.Expr} {k:List (Option PySem.Expr)→List PySem.Expr→Bool} {motive:PySem.Expr→Prop} (h:onDict e k=true) (H:∀ ks vs p,k ks vs=true→motive (.Dict ks vs p)):motive e:=
  dif_elim h fun q h=>PySem.Expr.Dict.elim (motive_1:=fun e=>∀ q:e.ctorIdx=6,PySem.Expr.Dict.elim e q (fun ks vs u=>k ks vs)=true→motive e) e q (fun ks vs p u h=>H ks vs p h) q h
noncomputable def onLC (e:PySem.Expr) (k:PySem.Expr→List Comprehension→Scope→Pos→Bool):Bool:=if h:e.ctorIdx=8 then PySem.Expr.ListComp.elim e h (fun a gs sc p=>k a gs sc p) else false
@[elab_as_elim] theorem onLC_ {e:PySem.Expr} {k:PySem.Expr→List Comprehension→Scope→Pos→Bool} {motive:PySem.Expr→Prop} (h:onLC e k=true) (H:∀ a gs sc p,k a gs sc p=true→motive (.ListComp a gs sc p)):motive e:=
  dif_elim h fun q h=>PySem.Expr.ListComp.elim (motive_1:=fun e=>∀ q:e.ctorIdx=8,PySem.Expr.ListComp.elim e q (fun a gs sc p=>k a gs sc p)=true→motive e) e q (fun a gs sc p u h=>H a gs sc p h) q h
noncomputable def onDC (e:PySem.Expr) (k:PySem.Expr→PySem.Expr→List Comprehension→Scope→Bool):Bool:=if h:e.ctorIdx=10 then PySem.Expr.DictComp.elim e h (fun a b gs sc u=>k a b gs sc) else false
@[elab_as_elim] theorem onDC_ {e:PySem.Expr} {k:PySem.Expr→PySem.Expr→List Comprehension→Scope→Bool} {motive:PySem.Expr→Prop} (h:onDC e k=true) (H:∀ a b gs sc p,k a b gs sc=true→motive (.DictComp a b gs sc p)):motive e:=
  dif_elim h fun q h=>PySem.Expr.DictComp.elim (motive_1:=fun e=>∀ q:e.ctorIdx=10,PySem.Expr.DictComp.elim e q (fun a b gs sc u=>k a b gs sc)=true→motive e) e q (fun a b gs sc p u h=>H a b gs sc p h) q h
noncomputable def onCall (e:PySem.Expr) (k:PySem.Expr→List PySem.Expr→List Keyword→Pos→Bool):Bool:=if h:e.ctorIdx=16 then PySem.Expr.Call.elim e h (fun f as ks p=>k f as ks p) else false
@[elab_as_elim] theorem onCall_ {e:PySem.Expr} {k:PySem.Expr→List PySem.Expr→List Keyword→Pos→Bool} {motive:PySem.Expr→Prop} (h:onCall e k=true) (H:∀ f as ks p,k f as ks p=true→motive (.Call f as ks p)):motive e:=
  dif_elim h fun q h=>PySem.Expr.Call.elim (motive_1:=fun e=>∀ q:e.ctorIdx=16,PySem.Expr.Call.elim e q (fun f as ks p=>k f as ks p)=true→motive e) e q (fun f as ks p u h=>H f as ks p h) q h
noncomputable def onAttr (e:PySem.Expr) (k:PySem.Expr→Str→Pos→Bool):Bool:=if h:e.ctorIdx=20 then PySem.Expr.Attribute.elim e h (fun a x p=>k a x p) else false
@[elab_as_elim] theorem onAttr_ {e:PySem.Expr} {k:PySem.Expr→Str→Pos→Bool} {motive:PySem.Expr→Prop} (h:onAttr e k=true) (H:∀ a x p,k a x p=true→motive (.Attribute a x p)):motive e:=
  dif_elim h fun q h=>PySem.Expr.Attribute.elim (motive_1:=fun e=>∀ q:e.ctorIdx=20,PySem.Expr.Attribute.elim e q (fun a x p=>k a x p)=true→motive e) e q (fun a x p u h=>H a x p h) q h
noncomputable def onAsg (e:Stmt) (k:List PySem.Expr→PySem.Expr→Bool):Bool:=if h:e.ctorIdx=5 then Stmt.Assign.elim e h (fun ts e u=>k ts e) else false
@[elab_as_elim] theorem onAsg_ {e:Stmt} {k:List PySem.Expr→PySem.Expr→Bool} {motive:Stmt→Prop} (h:onAsg e k=true) (H:∀ ts e p,k ts e=true→motive (.Assign ts e p)):motive e:=
  dif_elim h fun q h=>Stmt.Assign.elim (motive_2:=fun e=>∀ q:e.ctorIdx=5,Stmt.Assign.elim e q (fun ts e u=>k ts e)=true→motive e) e q (fun ts e p u h=>H ts e p h) q h
noncomputable def onAug (e:Stmt) (k:PySem.Expr→Operator→PySem.Expr→Bool):Bool:=if h:e.ctorIdx=7 then Stmt.AugAssign.elim e h (fun t o e u=>k t o e) else false
@[elab_as_elim] theorem onAug_ {e:Stmt} {k:PySem.Expr→Operator→PySem.Expr→Bool} {motive:Stmt→Prop} (h:onAug e k=true) (H:∀ t o e p,k t o e=true→motive (.AugAssign t o e p)):motive e:=
  dif_elim h fun q h=>Stmt.AugAssign.elim (motive_2:=fun e=>∀ q:e.ctorIdx=7,Stmt.AugAssign.elim e q (fun t o e u=>k t o e)=true→motive e) e q (fun t o e p u h=>H t o e p h) q h
noncomputable def onIfS (e:Stmt) (k:PySem.Expr→List Stmt→List Stmt→Bool):Bool:=if h:e.ctorIdx=12 then Stmt.If.elim e h (fun t a b u=>k t a b) else false
@[elab_as_elim] theorem onIfS_ {e:Stmt} {k:PySem.Expr→List Stmt→List Stmt→Bool} {motive:Stmt→Prop} (h:onIfS e k=true) (H:∀ t a b p,k t a b=true→motive (.If t a b p)):motive e:=
  dif_elim h fun q h=>Stmt.If.elim (motive_2:=fun e=>∀ q:e.ctorIdx=12,Stmt.If.elim e q (fun t a b u=>k t a b)=true→motive e) e q (fun t a b p u h=>H t a b p h) q h
noncomputable def onFor (e:Stmt) (k:PySem.Expr→PySem.Expr→List Stmt→List Stmt→Bool):Bool:=if h:e.ctorIdx=9 then Stmt.For.elim e h (fun t i a b u=>k t i a b) else false
@[elab_as_elim] theorem onFor_ {e:Stmt} {k:PySem.Expr→PySem.Expr→List Stmt→List Stmt→Bool} {motive:Stmt→Prop} (h:onFor e k=true) (H:∀ t i a b p,k t i a b=true→motive (.For t i a b p)):motive e:=
  dif_elim h fun q h=>Stmt.For.elim (motive_2:=fun e=>∀ q:e.ctorIdx=9,Stmt.For.elim e q (fun t i a b u=>k t i a b)=true→motive e) e q (fun t i a b p u h=>H t i a b p h) q h
noncomputable def onRet (e:Stmt) (k:Option PySem.Expr→Bool):Bool:=if h:e.ctorIdx=3 then Stmt.Return.elim e h (fun e u=>k e) else false
@[elab_as_elim] theorem onRet_ {e:Stmt} {k:Option PySem.Expr→Bool} {motive:Stmt→Prop} (h:onRet e k=true) (H:∀ e p,k e=true→motive (.Return e p)):motive e:=
  dif_elim h fun q h=>Stmt.Return.elim (motive_2:=fun e=>∀ q:e.ctorIdx=3,Stmt.Return.elim e q (fun e u=>k e)=true→motive e) e q (fun e p u h=>H e p h) q h
noncomputable def onExp (e:Stmt) (k:PySem.Expr→Bool):Bool:=if h:e.ctorIdx=24 then Stmt.Expr.elim e h (fun e u=>k e) else false
@[elab_as_elim] theorem onExp_ {e:Stmt} {k:PySem.Expr→Bool} {motive:Stmt→Prop} (h:onExp e k=true) (H:∀ e p,k e=true→motive (.Expr e p)):motive e:=
  dif_elim h fun q h=>Stmt.Expr.elim (motive_2:=fun e=>∀ q:e.ctorIdx=24,Stmt.Expr.elim e q (fun e u=>k e)=true→motive e) e q (fun e p u h=>H e p h) q h
noncomputable def onCont (e:Stmt) (k:Bool):Bool:=if h:e.ctorIdx=27 then Stmt.Continue.elim e h (fun u=>k) else false
@[elab_as_elim] theorem onCont_ {e:Stmt} {k:Bool} {motive:Stmt→Prop} (h:onCont e k=true) (H:∀ p,k =true→motive (.Continue p)):motive e:=
  dif_elim h fun q h=>Stmt.Continue.elim (motive_2:=fun e=>∀ q:e.ctorIdx=27,Stmt.Continue.elim e q (fun u=>k)=true→motive e) e q (fun p u h=>H p h) q h
noncomputable def onCB (e:Const) (k:Bool→Bool):Bool:=if h:e.ctorIdx=1 then Const.bool.elim e h (fun b=>k b) else false
@[elab_as_elim] theorem onCB_ {e:Const} {k:Bool→Bool} {motive:Const→Prop} (h:onCB e k=true) (H:∀ b,k b=true→motive (.bool b)):motive e:=
  dif_elim h fun q h=>Const.bool.elim (motive:=fun e=>∀ q:e.ctorIdx=1,Const.bool.elim e q (fun b=>k b)=true→motive e) e q (fun b u h=>H b h) q h
noncomputable def onCI (e:Const) (k:Int→Bool):Bool:=if h:e.ctorIdx=2 then Const.int.elim e h (fun b=>k b) else false
@[elab_as_elim] theorem onCI_ {e:Const} {k:Int→Bool} {motive:Const→Prop} (h:onCI e k=true) (H:∀ b,k b=true→motive (.int b)):motive e:=
  dif_elim h fun q h=>Const.int.elim (motive:=fun e=>∀ q:e.ctorIdx=2,Const.int.elim e q (fun b=>k b)=true→motive e) e q (fun b u h=>H b h) q h
noncomputable def onCS (e:Const) (k:Str→Bool):Bool:=if h:e.ctorIdx=5 then Const.str.elim e h (fun b=>k b) else false
@[elab_as_elim] theorem onCS_ {e:Const} {k:Str→Bool} {motive:Const→Prop} (h:onCS e k=true) (H:∀ b,k b=true→motive (.str b)):motive e:=
  dif_elim h fun q h=>Const.str.elim (motive:=fun e=>∀ q:e.ctorIdx=5,Const.str.elim e q (fun b=>k b)=true→motive e) e q (fun b u h=>H b h) q h
noncomputable def isCN (c:Const):Bool:=c == .none
@[elab_as_elim] theorem isCN_ {c:Const} {motive:Const→Prop} (h:isCN c=true) (H:motive .none):motive c:=by
  cases (eq_of_beq h:c=.none)
  exact H
noncomputable def onOne {α:Type} (l:List α) (k:α→Bool):Bool:=match l with
  | [a]=>k a
  | _=>false
@[elab_as_elim] theorem onOne_ {α:Type} {l:List α} {k:α→Bool} {motive:List α→Prop} (h:onOne l k=true) (H:∀ a,k a=true→motive [a]):motive l:=
  match l,h with
  | [a],h=>H a h
  | [],h=>(Bool.false_ne_true h).elim
  | _ :: _ :: _,h=>(Bool.false_ne_true h).elim
noncomputable def onTwo {α:Type} (l:List α) (k:α→α→Bool):Bool:=match l with
  | a :: r=>onOne r (k a)
  | []=>false
@[elab_as_elim] theorem onTwo_ {α:Type} {l:List α} {k:α→α→Bool} {motive:List α→Prop} (h:onTwo l k=true) (H:∀ a b,k a b=true→motive [a,b]):motive l:=
  match l,h with
  | a :: r,h=>onOne_ (motive:=fun r=>motive (a :: r)) (show onOne r (k a)=true from h) (H a)
  | [],h=>(Bool.false_ne_true h).elim
noncomputable def onCons {α:Type} (l:List α) (k:α→List α→Bool):Bool:=match l with
  | a :: r=>k a r
  | []=>false
@[elab_as_elim] theorem onCons_ {α:Type} {l:List α} {k:α→List α→Bool} {motive:List α→Prop} (h:onCons l k=true) (H:∀ a r,k a r=true→motive (a :: r)):motive l:=
  match l,h with
  | a :: r,h=>H a r h
  | [],h=>(Bool.false_ne_true h).elim
noncomputable def onSome {α:Type} (o:Option α) (k:α→Bool):Bool:=match o with
  | some a=>k a
  | none=>false
@[elab_as_elim] theorem onSome_ {α:Type} {o:Option α} {k:α→Bool} {motive:Option α→Prop} (h:onSome o k=true) (H:∀ a,k a=true→motive (some a)):motive o:=
  match o,h with
  | some a,h=>H a h
  | none,h=>(Bool.false_ne_true h).elim
noncomputable def onGen (l:List Comprehension) (k:PySem.Expr→PySem.Expr→List PySem.Expr→Bool):Bool:=onOne l fun g=>g.is_async == 0 && k g.target g.iter g.ifs
theorem and_ {a b:Bool} {p:Prop} (h:(a && b)=true) (H:a=true→b=true→p):p:=H (Bool.and_eq_true_iff.mp h).1 (Bool.and_eq_true_iff.mp h).2
theorem eqb_ {α:Type} [DecidableEq α] {a b:α} (h:(a == b)=true):a=b:=eq_of_beq h
@[elab_as_elim] theorem onGen_ {l:List Comprehension} {k:PySem.Expr→PySem.Expr→List PySem.Expr→Bool} {motive:List Comprehension→Prop} (h:onGen l k=true) (H:∀ t i ifs,k t i ifs=true→motive [⟨t,i,ifs,0⟩]):motive l:=
  onOne_ (motive:=motive) (show onOne l _=true from h) fun g hg=>and_ hg fun h1 h2=>by
    obtain ⟨t,i,ifs,n⟩:=g
    cases (eqb_ h1:n=0)
    exact H t i ifs h2
noncomputable def onFn (e:PySem.Expr) (k:Str→List PySem.Expr→Bool):Bool:=onCall e fun f as ks u=>onNm f fun x u=>ks.isEmpty && k x as
@[elab_as_elim] theorem onFn_ {e:PySem.Expr} {k:Str→List PySem.Expr→Bool} {motive:PySem.Expr→Prop} (h:onFn e k=true) (H:∀ x xp as p,k x as=true→motive (.Call (.Name x xp) as [] p)):motive e:=
  onCall_ (motive:=motive) (show onCall e _=true from h) fun f as ks p h=>onNm_ (motive:=fun f=>motive (.Call f as ks p)) h fun x xp h=>and_ h fun h1 h2=>by
    cases List.isEmpty_iff.mp h1
    exact H x xp as p h2
noncomputable def onMeth (e:PySem.Expr) (k:PySem.Expr→Str→List PySem.Expr→Bool):Bool:=onCall e fun f as ks p=>onAttr f fun a x ap=>ks.isEmpty && (ap.endLine == p.line && k a x as)
@[elab_as_elim] theorem onMeth_ {e:PySem.Expr} {k:PySem.Expr→Str→List PySem.Expr→Bool} {motive:PySem.Expr→Prop} (h:onMeth e k=true) (H:∀ a x ap as p,(ap.endLine == p.line)=true→k a x as=true→motive (.Call (.Attribute a x ap) as [] p)):motive e:=
  onCall_ (motive:=motive) (show onCall e _=true from h) fun f as ks p h=>onAttr_ (motive:=fun f=>motive (.Call f as ks p)) h fun a x ap h=>and_ h fun h1 h2=>and_ h2 fun h2 h3=>by
    cases List.isEmpty_iff.mp h1
    exact H a x ap as p h2 h3
noncomputable def tgts (I:FI) (sc:Scope):List PySem.Expr→List Nat→Bool
  | [],is=>is.isEmpty
  | e :: es,is=>onCons is fun i is=>onNm e fun x u=>tgtOk I sc x i && !I.own.contains i && tgts I sc es is
noncomputable def tgtE (I:FI) (sc:Scope) (one:Bool) (tg:List Nat) (e:PySem.Expr):Bool:=
  if one then onNm e fun x u=>onOne tg fun i=>tgtOk I sc x i && !I.own.contains i
  else onTup e fun es=>tgts I sc es tg && tg.length ≤ 8 && decide tg.Nodup
noncomputable def scopeOk (I:FI) (sc sc':Scope) (tg:List Nat):Bool:=
  sc'.kind == .function && decide (sc'.names.map (·.1)).Nodup && !sc'.isGenerator && !sc'.isCoroutine &&
  sc'.names.all (fun p=>p.1 == Str.ofString ".0" || !mine (some p.2) || tg.any fun i=>I.tbl[i]? == some p.1) &&
  sc'.names.all (fun p=>p.2 != .free || (inCell (sc.names.lookup p.1) && p.1 != Str.ofString "__classdict__")) &&
  I.tbl.all (fun x=>x != Str.ofString ".0")
noncomputable def safe (own:List Nat):TE→Bool
  | .var i=>!own.contains i
  | .or2 a b=>safe own a && safe own b
  | .ite _ a b=>safe own a && safe own b
  | _=>true
noncomputable def safes (own:List Nat):TEs→Bool
  | .nil=>true
  | .cons e r=>safe own e && safes own r
noncomputable def listy:TE→Bool
  | .list _=>true
  | .lcomp _ _ _ _ _=>true
  | .slice e _ _ _=>listy e
  | _=>false
noncomputable def fresh:TE→Bool
  | .list _=>true
  | .dict0=>true
  | .bin .add _ r=>listy r
  | _=>false
noncomputable def fresh2:TE→Bool
  | .lcomp _ _ _ _ _=>true
  | .dict1 _ _=>true
  | .ite _ a b=>fresh2 a && fresh2 b
  | t=>fresh t
theorem fresh_two:∀ {t:TE},fresh t=true→fresh2 t=true:=by
  intro t h
  cases t <;> first | exact h | rfl | cases h
noncomputable def itNm:TI→Bool
  | .items _=>false
  | _=>true
noncomputable def itOk:TI→Bool
  | .zip _ _=>false
  | _=>true
noncomputable def itFit (it:TI) (one:Bool):Bool:=itOk it && (itNm it || !one)
noncomputable def isCNone (t:TE):Bool:=t.ctorIdx == 0
noncomputable def bfName:Bf→Str
  | .len=>Str.ofString "len"
  | .sum=>Str.ofString "sum"
  | .max=>Str.ofString "max"
  | .tuple=>Str.ofString "tuple"
noncomputable def mtName:Mt→Str
  | .count=>Str.ofString "count"
  | .get=>Str.ofString "get"
  | .join=>Str.ofString "join"
  | .startswith=>Str.ofString "startswith"
  | .split=>Str.ofString "split"
  | .compare=>Str.ofString "compare"
theorem not_own {l:List Nat} {i:Nat} (h:(!l.contains i)=true):i ∉ l:=by simpa using h
mutual
noncomputable def chkE (I:FI):Scope→TE→PySem.Expr→Bool
  | _,.cNone,e=>onConst e isCN
  | _,.cBool b,e=>onConst e fun c=>onCB c fun c=>b == c
  | _,.cInt i,e=>onConst e fun c=>onCI c fun j=>i == j
  | _,.cStr s,e=>onConst e fun c=>onCS c fun t=>s == t
  | sc,.var i,e=>onNm e fun x u=>nameOk I sc x i
  | sc,.bin op l r,e=>onBin e fun a o b=>bopOk op o && chkE I sc l a && chkE I sc r b
  | sc,.neg t,e=>onUn e fun o a=>o == .USub && chkE I sc t a
  | sc,.cmp op l r,e=>onCmp e fun a os bs=>onOne os fun o=>onOne bs fun b=>copOk op o && chkE I sc l a && chkE I sc r b
  | sc,.cmp2 o1 o2 l m r,e=>onCmp e fun a os bs=>onTwo os fun p1 p2=>onTwo bs fun b c=>copOk o1 p1 && copOk o2 p2 && chkE I sc l a && chkE I sc m b && chkE I sc r c
  | sc,.not t,e=>onUn e fun o a=>o == .Not && chkE I sc t a
  | sc,.and es,e=>onBool e fun o as=>o == .And && chkEs I sc es as
  | sc,.or es,e=>onBool e fun o as=>o == .Or && chkEs I sc es as
  | sc,.or2 a b,e=>onBool e fun o as=>o == .Or && onTwo as fun x y=>chkE I sc a x && chkE I sc b y
  | sc,.ite t a b,e=>onIf e fun x y z=>chkE I sc t x && chkE I sc a y && chkE I sc b z
  | sc,.sub a i,e=>onSub e fun x y=>chkE I sc a x && chkE I sc i y
  | sc,.slice a lo hi st,e=>onSub e fun x y=>onSlice y fun l h s=>chkE I sc a x && l.elim (isCNone lo) (fun l=>chkE I sc lo l) && h.elim (isCNone hi) (fun h=>chkE I sc hi h) && s.elim (isCNone st) (fun s=>chkE I sc st s)
  | sc,.list es,e=>onList e fun as=>chkEs I sc es as && safes I.own es && decide (as.length ≤ 100)
  | sc,.tuple es,e=>onTup e fun as=>chkEs I sc es as && safes I.own es && decide (as.length ≤ 100)
  | _,.dict0,e=>onDict e fun ks vs=>ks.isEmpty && vs.isEmpty
  | sc,.dict1 k v,e=>onDict e fun ks vs=>onOne ks fun a=>onSome a fun a=>onOne vs fun b=>chkE I sc k a && chkE I sc v b && safe I.own v
  | sc,.lcomp elt tg one it cond,e=>onLC e fun a gs sc' u=>onGen gs fun t i ifs=>itFit it true && scopeOk I sc sc' tg && tgtE I sc' one tg t && chkI I sc it i && chkEs I sc' cond ifs && chkE I sc' elt a && safe I.own elt
  | sc,.dcomp k v tg one it cond,e=>onDC e fun a b gs sc'=>onGen gs fun t i ifs=>itFit it true && scopeOk I sc sc' tg && tgtE I sc' one tg t && chkI I sc it i && chkEs I sc' cond ifs && chkE I sc' k a && chkE I sc' v b && safe I.own v
  | sc,.bf f t,e=>onFn e fun x as=>onOne as fun a=>x == bfName f && globOk sc x && chkE I sc t a
  | sc,.listOf it,e=>onFn e fun x as=>onOne as fun a=>x == Str.ofString "list" && globOk sc x && chkI I sc it a
  | sc,.fn f args,e=>onFn e fun x as=>onCons as fun a as=>x == f && globOk sc x && (as.length ≤ 8) && chkEs I sc args (a :: as) && safes I.own args
  | sc,.cls t,e=>onFn e fun x as=>onOne as fun a=>x == Str.ofString "TupleComp" && globOk sc x && chkE I sc t a && safe I.own t
  | sc,.mt m o args,e=>onMeth e fun a x as=>x == mtName m && (as.length ≤ 8) && chkE I sc o a && chkEs I sc args as && safes I.own args
  | sc,.attr o n,e=>onAttr e fun a x u=>x == n && chkE I sc o a
  | sc,.isTup t,e=>onFn e fun x as=>onTwo as fun a b=>onNm b fun y u=>x == Str.ofString "isinstance" && globOk sc x && y == Str.ofString "tuple" && globOk sc y && chkE I sc t a
noncomputable def chkEs (I:FI):Scope→TEs→List PySem.Expr→Bool
  | _,.nil,as=>as.isEmpty
  | sc,.cons t r,as=>onCons as fun a as=>chkE I sc t a && chkEs I sc r as
noncomputable def chkI (I:FI):Scope→TI→PySem.Expr→Bool
  | sc,.exp t,e=>chkE I sc t e && safe I.own t
  | sc,.range1 t,e=>onFn e fun x as=>onOne as fun a=>x == Str.ofString "range" && globOk sc x && chkE I sc t a
  | sc,.range2 t u,e=>onFn e fun x as=>onTwo as fun a b=>x == Str.ofString "range" && globOk sc x && chkE I sc t a && chkE I sc u b
  | sc,.items t,e=>onMeth e fun a x as=>as.isEmpty && (x == Str.ofString "items" && chkE I sc t a && safe I.own t)
  | sc,.values t,e=>onMeth e fun a x as=>as.isEmpty && (x == Str.ofString "values" && chkE I sc t a && safe I.own t)
  | sc,.zip t u,e=>onFn e fun x as=>onTwo as fun a b=>x == Str.ofString "zip" && globOk sc x && chkE I sc t a && chkE I sc u b && safe I.own t && safe I.own u
end
noncomputable def putOk (I:FI) (i:Nat) (t:TE):Bool:=if I.own.contains i then fresh t else safe I.own t
noncomputable def noSlice (e:PySem.Expr):Bool:=!(e.ctorIdx == 26)
noncomputable def isVarT (t:TE):Bool:=t.ctorIdx == 4
noncomputable def noSwap (e:PySem.Expr):Bool:=!(e.ctorIdx == 25 || e.ctorIdx == 8 || e.ctorIdx == 10 || e.ctorIdx == 9)
mutual
noncomputable def chkS (I:FI) (sc:Scope):TS→Stmt→Bool
  | .assign i t,s=>onAsg s fun ts e=>onOne ts fun x=>onNm x fun x z=>tgtOk I sc x i && chkE I sc t e && putOk I i t
  | .assign2 i j a b,s=>onAsg s fun ts w=>onOne ts fun u=>onTup u fun us=>onTwo us fun x y=>onNm x fun x z=>onNm y fun y z=>onTup w fun ws=>onTwo ws fun e f=>
     tgtOk I sc x i && tgtOk I sc y j && i != j && chkE I sc a e && chkE I sc b f && putOk I i a && putOk I j b && (!([e,f].all (constantsAlone 8)) || [e,f].all (foldedForSure 8))
  | .unpack is t,s=>onAsg s fun ts e=>onOne ts fun u=>onTup u fun us=>tgts I sc us is && decide is.Nodup && is.length ≤ 8 && chkE I sc t e && noSwap e
  | .popUnpack is j,s=>onAsg s fun ts e=>onOne ts fun u=>onTup u fun us=>onMeth e fun o p as=>onNm o fun y z=>as.isEmpty && (tgts I sc us is && decide is.Nodup && is.length ≤ 8 && p == Str.ofString "pop" && nameOk I sc y j && I.own.contains j)
  | .append j t,s=>onExp s fun e=>onMeth e fun o p as=>onNm o fun y z=>onOne as fun e=>p == Str.ofString "append" && nameOk I sc y j && I.own.contains j && chkE I sc t e && safe I.own t
  | .pop0 j,s=>onExp s fun e=>onMeth e fun o p as=>onNm o fun y z=>as.isEmpty && (p == Str.ofString "pop" && nameOk I sc y j && I.own.contains j)
  | .setItem j k v,s=>onAsg s fun ts e=>onOne ts fun u=>onSub u fun o a=>onNm o fun y z=>nameOk I sc y j && I.own.contains j && chkE I sc k a && chkE I sc v e && safe I.own v && noSlice a
  | .augItem j k v,s=>onAug s fun u op e=>onSub u fun o a=>onNm o fun y z=>op == .Add && (nameOk I sc y j && I.own.contains j && chkE I sc k a && chkE I sc v e && noSlice a)
  | .augVar i t,s=>onAug s fun u op e=>onNm u fun x z=>op == .Add && (nameOk I sc x i && tgtOk I sc x i && !I.own.contains i && chkE I sc t e)
  | .move i j,s=>onAsg s fun ts e=>onOne ts fun x=>onNm x fun x z=>onNm e fun y z=>tgtOk I sc x i && nameOk I sc y j && I.own.contains j && !I.own.contains i
  | .ifS t a b,s=>onIfS s fun e x y=>chkE I sc t e && chkSs I sc a x && chkSs I sc b y
  | .forS tg one it body,s=>onFor s fun t i b r=>r.isEmpty && (itFit it one && tgtE I sc one tg t && chkI I sc it i && chkSs I sc body b)
  | .ret t,s=>onRet s fun e=>onSome e fun e=>chkE I sc t e && (safe I.own t || isVarT t)
  | .cont,s=>onCont s true
  | .dead,_=>true
noncomputable def chkSs (I:FI) (sc:Scope):TSs→List Stmt→Bool
  | .nil,ss=>ss.isEmpty
  | .cons t r,ss=>onCons ss fun s ss=>chkS I sc t s && chkSs I sc r ss
end
noncomputable def i_compare:FI:=⟨[(Str.ofString "self"),(Str.ofString "left"),(Str.ofString "right"),(Str.ofString "index"),(Str.ofString "direction"),(Str.ofString "l"),(Str.ofString "r")],[]⟩
noncomputable def t_compare:TSs:=
  (.cons (.forS [3,4] false (.exp (.attr (.var 0) (Str.ofString "comp_select_list")))
  (.cons (.assign 5 (.sub (.var 1) (.var 3)))
  (.cons (.assign 6 (.sub (.var 2) (.var 3)))
  (.cons (.ifS (.cmp .lt (.var 5) (.var 6))
  (.cons (.ret (.neg (.var 4)))
  .nil)
  .nil)
  (.cons (.ifS (.cmp .gt (.var 5) (.var 6))
  (.cons (.ret (.var 4))
  .nil)
  .nil)
  .nil)))))
  (.cons (.ret (.cInt 0))
  .nil))
noncomputable def i_add_callers:FI:=⟨[(Str.ofString "target"),(Str.ofString "source"),(Str.ofString "new_callers"),(Str.ofString "func"),(Str.ofString "caller"),(Str.ofString "i"),(Str.ofString "j")],[2]⟩
noncomputable def t_add_callers:TSs:=
  (.cons (.assign 2 .dict0)
  (.cons (.forS [3,4] false (.items (.var 0))
  (.cons (.setItem 2 (.var 3) (.var 4))
  .nil))
  (.cons (.forS [3,4] false (.items (.var 1))
  (.cons (.ifS (.cmp .isin (.var 3) (.var 2))
  (.cons (.ifS (.isTup (.var 4))
  (.cons .dead
  .nil)
  (.cons (.augItem 2 (.var 3) (.var 4))
  .nil))
  .nil)
  (.cons (.setItem 2 (.var 3) (.var 4))
  .nil))
  .nil))
  (.cons (.ret (.var 2))
  .nil))))
noncomputable def i_count_calls:FI:=⟨[(Str.ofString "callers"),(Str.ofString "nc"),(Str.ofString "calls")],[]⟩
noncomputable def t_count_calls:TSs:=
  (.cons (.assign 1 (.cInt 0))
  (.cons (.forS [2] true (.values (.var 0))
  (.cons (.augVar 1 (.var 2))
  .nil))
  (.cons (.ret (.var 1))
  .nil)))
noncomputable def i_c_path:FI:=⟨[(Str.ofString "name"),(Str.ofString "cname"),(Str.ofString "argname"),(Str.ofString "args"),(Str.ofString "kwargs"),(Str.ofString "k"),(Str.ofString "x")],[]⟩
noncomputable def t_c_path:TSs:=
  (.cons (.ifS (.and (.cons (.cmp .eq (.bf .len (.var 3)) (.cInt 1)) (.cons (.not (.var 4)) .nil)))
  (.cons (.assign 6 (.sub (.var 3) (.cInt 0)))
  .nil)
  (.cons (.ifS (.and (.cons (.not (.var 3)) (.cons (.cmp .eq (.bf .len (.var 4)) (.cInt 1)) (.cons (.cmp .isin (.var 2) (.var 4)) .nil))))
  (.cons (.assign 6 (.sub (.var 4) (.var 2)))
  .nil)
  (.cons .dead
  .nil))
  .nil))
  (.cons (.assign 5 (.fn (Str.ofString "_kind") (.cons (.var 0) (.cons (.var 6) .nil))))
  (.cons (.ifS (.var 5)
  (.cons .dead
  .nil)
  .nil)
  (.cons (.ret (.var 6))
  .nil))))
noncomputable def i_splitroot:FI:=⟨[(Str.ofString "p"),(Str.ofString "sep"),(Str.ofString "empty")],[]⟩
noncomputable def t_splitroot:TSs:=
  (.cons (.assign 1 (.cStr (Str.ofString "/")))
  (.cons (.assign 2 (.cStr (Str.ofString "")))
  (.cons (.ifS (.cmp .ne (.slice (.var 0) .cNone (.cInt 1) .cNone) (.var 1))
  (.cons (.ret (.tuple (.cons (.var 2) (.cons (.var 2) (.cons (.var 0) .nil)))))
  .nil)
  (.cons (.ifS (.or (.cons (.cmp .ne (.slice (.var 0) (.cInt 1) (.cInt 2) .cNone) (.var 1)) (.cons (.cmp .eq (.slice (.var 0) (.cInt 2) (.cInt 3) .cNone) (.var 1)) .nil)))
  (.cons (.ret (.tuple (.cons (.var 2) (.cons (.var 1) (.cons (.slice (.var 0) (.cInt 1) .cNone .cNone) .nil)))))
  .nil)
  (.cons (.ret (.tuple (.cons (.var 2) (.cons (.slice (.var 0) .cNone (.cInt 2) .cNone) (.cons (.slice (.var 0) (.cInt 2) .cNone .cNone) .nil)))))
  .nil))
  .nil))
  .nil)))
noncomputable def i_normpath1:FI:=⟨[(Str.ofString "path"),(Str.ofString "sep"),(Str.ofString "dot"),(Str.ofString "dotdot"),(Str.ofString "comps"),(Str.ofString "new_comps"),(Str.ofString "comp"),(Str.ofString "_"),(Str.ofString "initial_slashes")],[5]⟩
noncomputable def t_normpath1:TSs:=
  (.cons (.assign 1 (.cStr (Str.ofString "/")))
  (.cons (.assign 2 (.cStr (Str.ofString ".")))
  (.cons (.assign 3 (.cStr (Str.ofString "..")))
  (.cons (.ifS (.not (.var 0))
  (.cons (.ret (.var 2))
  .nil)
  .nil)
  (.cons (.unpack [7,8,0] (.fn (Str.ofString "_splitroot") (.cons (.var 0) .nil)))
  (.cons (.assign 4 (.mt .split (.var 0) (.cons (.var 1) .nil)))
  (.cons (.assign 5 (.list .nil))
  (.cons (.forS [6] true (.exp (.var 4))
  (.cons (.ifS (.or (.cons (.not (.var 6)) (.cons (.cmp .eq (.var 6) (.var 2)) .nil)))
  (.cons .cont
  .nil)
  .nil)
  (.cons (.ifS (.or (.cons (.cmp .ne (.var 6) (.var 3)) (.cons (.and (.cons (.not (.var 8)) (.cons (.not (.var 5)) .nil))) (.cons (.and (.cons (.var 5) (.cons (.cmp .eq (.sub (.var 5) (.neg (.cInt 1))) (.var 3)) .nil))) .nil))))
  (.cons (.append 5 (.var 6))
  .nil)
  (.cons (.ifS (.var 5)
  (.cons (.pop0 5)
  .nil)
  .nil)
  .nil))
  .nil)))
  (.cons (.move 4 5)
  (.cons (.assign 0 (.bin .add (.var 8) (.mt .join (.var 1) (.cons (.var 4) .nil))))
  (.cons (.ret (.or2 (.var 0) (.var 2)))
  .nil)))))))))))
noncomputable def i_normpath:FI:=⟨[(Str.ofString "args"),(Str.ofString "kwargs")],[]⟩
noncomputable def t_normpath:TSs:=
  (.cons (.ret (.fn (Str.ofString "_normpath") (.cons (.fn (Str.ofString "_c_path") (.cons (.cStr (Str.ofString "normpath")) (.cons (.cStr (Str.ofString "_path_normpath")) (.cons (.cStr (Str.ofString "path")) (.cons (.var 0) (.cons (.var 1) .nil)))))) .nil)))
  .nil)
noncomputable def i_law_calls:FI:=⟨[(Str.ofString "numbers"),(Str.ofString "sign"),(Str.ofString "x"),(Str.ofString "turn"),(Str.ofString "above"),(Str.ofString "signs"),(Str.ofString "calls"),(Str.ofString "todo"),(Str.ofString "made"),(Str.ofString "call"),(Str.ofString "callers"),(Str.ofString "last"),(Str.ofString "k")],[5,4,7,6]⟩
noncomputable def t_law_calls:TSs:=
  (.cons (.assign2 4 5 (.list (.cons (.cInt 0) .nil)) (.list (.cons (.var 1) .nil)))
  (.cons (.forS [2] true (.exp (.var 0))
  (.cons (.append 5 (.sub (.list (.cons (.cStr (Str.ofString "a")) (.cons (.cStr (Str.ofString "ab")) (.cons (.cStr (Str.ofString "b")) .nil)))) (.bin .mod (.bin .fdiv (.var 2) (.bf .len (.var 4))) (.cInt 3))))
  (.cons (.append 4 (.bin .mod (.var 2) (.bf .len (.var 4))))
  .nil)))
  (.cons (.assign2 6 7 (.list .nil) (.list (.cons (.tuple (.cons (.cInt 0) (.cons (.list .nil) (.cons (.cBool true) .nil)))) .nil)))
  (.cons (.forS [3] true (.range1 (.bf .len (.var 4)))
  (.cons (.popUnpack [9,10,11] 7)
  (.cons (.assign 8 (.lcomp (.var 12) [12] true (.range2 (.cInt 1) (.bf .len (.var 4))) (.cons (.cmp .eq (.sub (.var 4) (.var 12)) (.var 9)) .nil)))
  (.cons (.append 6 (.tuple (.cons (.sub (.var 5) (.var 9)) (.cons (.var 10) (.cons (.cmp .ne (.var 8) (.list .nil)) (.cons (.var 11) .nil))))))
  (.cons (.assign 7 (.bin .add (.var 7) (.lcomp (.tuple (.cons (.var 12) (.cons (.bin .add (.list (.cons (.sub (.var 5) (.var 9)) .nil)) (.var 10)) (.cons (.cmp .eq (.var 12) (.sub (.var 8) (.neg (.cInt 1)))) .nil)))) [12] true (.exp (.slice (.var 8) .cNone .cNone (.neg (.cInt 1)))) .nil)))
  .nil)))))
  (.cons (.ret (.var 6))
  .nil)))))
noncomputable def i_law_sorted:FI:=⟨[(Str.ofString "calls"),(Str.ofString "way"),(Str.ofString "deep"),(Str.ofString "keys"),(Str.ofString "rows"),(Str.ofString "place"),(Str.ofString "callers"),(Str.ofString "row"),(Str.ofString "told"),(Str.ofString "sign"),(Str.ofString "made"),(Str.ofString "last"),(Str.ofString "column"),(Str.ofString "one")],[]⟩
noncomputable def t_law_sorted:TSs:=
  (.cons (.assign 2 (.bf .max (.lcomp (.bf .len (.var 6)) [9,6,10,11] false (.exp (.var 0)) .nil)))
  (.cons (.assign 3 (.cls (.bin .add (.lcomp (.tuple (.cons (.var 12) (.cons (.var 1) .nil))) [12] true (.range1 (.var 2)) .nil) (.list (.cons (.tuple (.cons (.var 2) (.cons (.cInt 1) .nil))) .nil)))))
  (.cons (.assign 4 (.list .nil))
  (.cons (.forS [5] true (.range1 (.bf .len (.var 0)))
  (.cons (.assign 6 (.sub (.sub (.var 0) (.var 5)) (.cInt 1)))
  (.cons (.assign 7 (.bf .tuple (.bin .add (.bin .add (.var 6) (.bin .mul (.list (.cons (.cStr (Str.ofString "")) .nil)) (.bin .sub (.var 2) (.bf .len (.var 6))))) (.list (.cons (.var 5) .nil)))))
  (.cons (.assign 8 (.mt .count (.lcomp (.mt .compare (.var 3) (.cons (.var 7) (.cons (.var 13) .nil))) [13] true (.exp (.var 4)) .nil) (.cons (.cInt 1) .nil)))
  (.cons (.assign 4 (.bin .add (.bin .add (.slice (.var 4) .cNone (.var 8) .cNone) (.list (.cons (.var 7) .nil))) (.slice (.var 4) (.var 8) .cNone .cNone)))
  .nil)))))
  (.cons (.ret (.lcomp (.sub (.var 7) (.var 2)) [7] true (.exp (.var 4)) .nil))
  .nil)))))
noncomputable def i_law_place:FI:=⟨[(Str.ofString "calls"),(Str.ofString "place"),(Str.ofString "way"),(Str.ofString "mine"),(Str.ofString "like"),(Str.ofString "less"),(Str.ofString "k"),(Str.ofString "sign"),(Str.ofString "callers"),(Str.ofString "made"),(Str.ofString "last")],[]⟩
noncomputable def t_law_place:TSs:=
  (.cons (.assign 3 (.sub (.sub (.var 0) (.var 1)) (.cInt 1)))
  (.cons (.assign 4 (.lcomp (.var 6) [6] true (.range1 (.var 1)) (.cons (.cmp .eq (.sub (.sub (.var 0) (.var 6)) (.cInt 1)) (.var 3)) .nil)))
  (.cons (.assign 5 (.lcomp (.var 8) [7,8,9,10] false (.exp (.var 0)) (.cons (.ite (.cmp .eq (.var 2) (.cInt 1)) (.cmp .lt (.var 8) (.var 3)) (.cmp .gt (.var 8) (.var 3))) .nil)))
  (.cons (.ret (.bin .add (.bf .len (.var 4)) (.bf .len (.var 5))))
  .nil))))
noncomputable def i_law_tables:FI:=⟨[(Str.ofString "kept"),(Str.ofString "tables"),(Str.ofString "sign"),(Str.ofString "made"),(Str.ofString "last")],[1]⟩
noncomputable def t_law_tables:TSs:=
  (.cons (.assign 1 (.list (.cons .dict0 .nil)))
  (.cons (.forS [2,3,4] false (.exp (.var 0))
  (.cons (.append 1 (.fn (Str.ofString "add_callers") (.cons (.sub (.var 1) (.neg (.cInt 1))) (.cons (.ite (.var 3) (.dict1 (.var 2) (.cInt 1)) .dict0) .nil))))
  .nil))
  (.cons (.ret (.var 1))
  .nil)))
noncomputable def i_law_plain:FI:=⟨[(Str.ofString "kept"),(Str.ofString "marked"),(Str.ofString "k"),(Str.ofString "some"),(Str.ofString "sign"),(Str.ofString "made"),(Str.ofString "last")],[]⟩
noncomputable def t_law_plain:TSs:=
  (.cons (.assign 1 (.lcomp (.lcomp (.var 4) [4,5,6] false (.exp (.slice (.var 0) .cNone (.var 2) .cNone)) (.cons (.var 5) .nil)) [2] true (.range1 (.bin .add (.bf .len (.var 0)) (.cInt 1))) .nil))
  (.cons (.ret (.lcomp (.dcomp (.var 4) (.mt .count (.var 3) (.cons (.var 4) .nil)) [4] true (.exp (.var 3)) .nil) [3] true (.exp (.var 1)) .nil))
  .nil))
noncomputable def i_law_stretches:FI:=⟨[(Str.ofString "kept"),(Str.ofString "way"),(Str.ofString "begin"),(Str.ofString "ends"),(Str.ofString "k")],[]⟩
noncomputable def t_law_stretches:TSs:=
  (.cons (.assign 2 (.ite (.cmp .eq (.var 1) (.cInt 1)) (.cInt 1) (.cInt 0)))
  (.cons (.assign 3 (.lcomp (.bin .add (.var 4) (.cInt 1)) [4] true (.range2 (.var 2) (.bin .sub (.bin .add (.var 2) (.bf .len (.var 0))) (.cInt 1))) (.cons (.sub (.sub (.var 0) (.var 4)) (.cInt 2)) .nil)))
  (.cons (.ret (.listOf (.zip (.bin .add (.list (.cons (.var 2) .nil)) (.var 3)) (.var 3))))
  .nil)))
noncomputable def i_law_ahead:FI:=⟨[(Str.ofString "table"),(Str.ofString "sign"),(Str.ofString "way"),(Str.ofString "one")],[]⟩
noncomputable def t_law_ahead:TSs:=
  (.cons (.ret (.fn (Str.ofString "count_calls") (.cons (.dcomp (.var 3) (.sub (.var 0) (.var 3)) [3] true (.exp (.var 0)) (.cons (.ite (.cmp .eq (.var 2) (.cInt 1)) (.cmp .lt (.var 3) (.var 1)) (.cmp .gt (.var 3) (.var 1))) .nil)) .nil)))
  .nil)
noncomputable def i_law_read:FI:=⟨[(Str.ofString "kept"),(Str.ofString "tables"),(Str.ofString "stretches"),(Str.ofString "way"),(Str.ofString "turn"),(Str.ofString "told"),(Str.ofString "todo"),(Str.ofString "place"),(Str.ofString "depth"),(Str.ofString "sign"),(Str.ofString "made"),(Str.ofString "last"),(Str.ofString "begin"),(Str.ofString "end"),(Str.ofString "k")],[6,5]⟩
noncomputable def t_law_read:TSs:=
  (.cons (.assign2 5 6 (.list .nil) (.list (.cons (.tuple (.cons (.ite (.cmp .eq (.var 3) (.cInt 1)) (.cInt 0) (.bin .sub (.bf .len (.var 0)) (.cInt 1))) (.cons (.cInt 0) .nil))) .nil)))
  (.cons (.forS [4] true (.range1 (.bf .len (.var 0)))
  (.cons (.popUnpack [7,8] 6)
  (.cons (.unpack [9,10,11] (.sub (.var 0) (.var 7)))
  (.cons (.append 5 (.tuple (.cons (.var 9) (.cons (.var 8) .nil))))
  (.cons (.ifS (.var 10)
  (.cons (.unpack [12,13] (.sub (.var 2) (.bin .add (.fn (Str.ofString "_law_ahead") (.cons (.sub (.var 1) (.neg (.cInt 1))) (.cons (.var 9) (.cons (.var 3) .nil)))) (.mt .get (.sub (.var 1) (.var 7)) (.cons (.var 9) (.cons (.cInt 0) .nil))))))
  (.cons (.assign 6 (.bin .add (.var 6) (.slice (.lcomp (.tuple (.cons (.var 14) (.cons (.bin .add (.var 8) (.cInt 1)) .nil))) [14] true (.range2 (.var 12) (.var 13)) .nil) .cNone .cNone (.neg (.cInt 1)))))
  .nil))
  .nil)
  .nil)))))
  (.cons (.ret (.var 5))
  .nil)))
noncomputable def i_law_found:FI:=⟨[(Str.ofString "parts"),(Str.ofString "tables"),(Str.ofString "stretches"),(Str.ofString "way"),(Str.ofString "sign"),(Str.ofString "begin"),(Str.ofString "end"),(Str.ofString "ahead"),(Str.ofString "first"),(Str.ofString "behind")],[]⟩
noncomputable def t_law_found:TSs:=
  (.cons (.assign2 5 6 (.cInt 0) (.bin .sub (.bf .len (.var 1)) (.cInt 1)))
  (.cons (.forS [4] true (.exp (.slice (.var 0) .cNone .cNone (.neg (.cInt 1))))
  (.cons (.assign 7 (.fn (Str.ofString "_law_ahead") (.cons (.sub (.var 1) (.neg (.cInt 1))) (.cons (.var 4) (.cons (.var 3) .nil)))))
  (.cons (.assign 8 (.bin .add (.var 7) (.mt .get (.sub (.var 1) (.var 5)) (.cons (.var 4) (.cons (.cInt 0) .nil)))))
  (.cons (.assign 9 (.bin .add (.var 7) (.mt .get (.sub (.var 1) (.var 6)) (.cons (.var 4) (.cons (.cInt 0) .nil)))))
  (.cons (.ifS (.cmp .eq (.var 8) (.var 9))
  (.cons (.ret (.tuple (.cons (.cInt 0) (.cons (.cInt 0) .nil))))
  .nil)
  .nil)
  (.cons (.assign2 5 6 (.sub (.sub (.var 2) (.var 8)) (.cInt 0)) (.sub (.sub (.var 2) (.bin .sub (.var 9) (.cInt 1))) (.cInt 1)))
  .nil))))))
  (.cons (.ret (.tuple (.cons (.var 5) (.cons (.var 6) .nil))))
  .nil)))
noncomputable def i_law:FI:=⟨[(Str.ofString "script"),(Str.ofString "total"),(Str.ofString "way"),(Str.ofString "given"),(Str.ofString "numbers"),(Str.ofString "calls"),(Str.ofString "order"),(Str.ofString "kept"),(Str.ofString "tables"),(Str.ofString "stretches"),(Str.ofString "rows"),(Str.ofString "place"),(Str.ofString "parts"),(Str.ofString "due"),(Str.ofString "begin"),(Str.ofString "end"),(Str.ofString "k"),(Str.ofString "sign"),(Str.ofString "callers"),(Str.ofString "made"),(Str.ofString "last")],[]⟩
noncomputable def t_law:TSs:=
  (.cons (.assign 1 (.bf .sum (.var 0)))
  (.cons (.assign 2 (.bin .sub (.cInt 1) (.bin .mul (.cInt 2) (.bin .mod (.var 1) (.cInt 2)))))
  (.cons (.assign 3 (.list (.cons (.cInt 1) (.cons (.cInt 0) (.cons (.cInt 1) (.cons (.cInt 6) (.cons (.cInt 11) (.cons (.cInt 4) (.cons (.cInt 10) (.cons (.cInt 18) .nil))))))))))
  (.cons (.assign 4 (.bin .add (.lcomp (.bin .add (.sub (.var 3) (.var 16)) (.bf .sum (.slice (.var 0) (.var 16) .cNone (.cInt 8)))) [16] true (.range1 (.cInt 8)) .nil) (.slice (.var 0) .cNone (.cInt 4) .cNone)))
  (.cons (.assign 5 (.fn (Str.ofString "_law_calls") (.cons (.var 4) (.cons (.sub (.list (.cons (.cStr (Str.ofString "a")) (.cons (.cStr (Str.ofString "ab")) (.cons (.cStr (Str.ofString "b")) .nil)))) (.bin .mod (.var 1) (.cInt 3))) .nil))))
  (.cons (.assign 6 (.fn (Str.ofString "_law_sorted") (.cons (.var 5) (.cons (.var 2) .nil))))
  (.cons (.ifS (.cmp .ne (.lcomp (.fn (Str.ofString "_law_place") (.cons (.var 5) (.cons (.var 11) (.cons (.var 2) .nil)))) [11] true (.exp (.var 6)) .nil) (.listOf (.range1 (.bf .len (.var 5)))))
  (.cons (.ret (.cBool false))
  .nil)
  .nil)
  (.cons (.assign 7 (.lcomp (.tuple (.cons (.sub (.sub (.var 5) (.var 11)) (.cInt 0)) (.cons (.sub (.sub (.var 5) (.var 11)) (.cInt 2)) (.cons (.sub (.sub (.var 5) (.var 11)) (.cInt 3)) .nil)))) [11] true (.exp (.var 6)) .nil))
  (.cons (.assign 8 (.fn (Str.ofString "_law_tables") (.cons (.var 7) .nil)))
  (.cons (.ifS (.cmp .ne (.var 8) (.fn (Str.ofString "_law_plain") (.cons (.var 7) .nil)))
  (.cons (.ret (.cBool false))
  .nil)
  .nil)
  (.cons (.assign 9 (.fn (Str.ofString "_law_stretches") (.cons (.var 7) (.cons (.var 2) .nil))))
  (.cons (.ifS (.cmp .ne (.fn (Str.ofString "_law_read") (.cons (.var 7) (.cons (.var 8) (.cons (.var 9) (.cons (.var 2) .nil))))) (.lcomp (.tuple (.cons (.var 17) (.cons (.bf .len (.var 18)) .nil))) [17,18,19,20] false (.exp (.var 5)) .nil))
  (.cons (.ret (.cBool false))
  .nil)
  .nil)
  (.cons (.assign 10 (.lcomp (.sub (.sub (.var 5) (.var 11)) (.cInt 1)) [11] true (.exp (.var 6)) .nil))
  (.cons (.forS [11] true (.range1 (.bf .len (.var 5)))
  (.cons (.assign 12 (.slice (.bin .add (.list (.cons (.sub (.sub (.var 5) (.var 11)) (.cInt 0)) .nil)) (.sub (.sub (.var 5) (.var 11)) (.cInt 1))) .cNone (.bin .add (.cInt 1) (.bin .mod (.var 11) (.cInt 3))) .cNone))
  (.cons (.unpack [14,15] (.fn (Str.ofString "_law_found") (.cons (.var 12) (.cons (.var 8) (.cons (.var 9) (.cons (.var 2) .nil))))))
  (.cons (.assign 13 (.lcomp (.ite (.cmp2 .le .lt (.var 14) (.var 16) (.var 15)) (.cInt 1) (.cInt 0)) [16] true (.range1 (.bf .len (.var 10))) .nil))
  (.cons (.ifS (.cmp .ne (.var 13) (.lcomp (.ite (.cmp .eq (.slice (.var 18) .cNone (.bf .len (.var 12)) .cNone) (.var 12)) (.cInt 1) (.cInt 0)) [18] true (.exp (.var 10)) .nil))
  (.cons (.ret (.cBool false))
  .nil)
  .nil)
  (.cons (.ifS (.cmp .ne (.fn (Str.ofString "_law_answers") (.cons (.var 12) (.cons (.var 10) (.cons (.cmp .eq (.bin .mod (.var 11) (.cInt 2)) (.cInt 0)) .nil)))) (.tuple (.cons (.var 13) (.cons (.var 13) (.cons (.var 13) .nil)))))
  (.cons (.ret (.cBool false))
  .nil)
  .nil)
  .nil))))))
  (.cons (.ret (.cBool true))
  .nil)))))))))))))))
section
variable {G:Gl} {X:Addr→Prop} {h h':Heap} {v:Value} {a:Addr} {d:D}
noncomputable def RepO (G:Gl) (X:Addr→Prop) (h:Heap) (a:Addr) (d:D):Prop:=
  (∃ vs ds,d=.list ds∧h.PlainList a (List.toArray vs)∧RepL G X h vs ds) ∨ (∃ kv kvs,d=.dict kvs∧TabOf G.prog G.w h a kv∧RepK G X h kv kvs)
noncomputable def RepW (G:Gl) (X:Addr→Prop) (h:Heap) (v:Value) (d:D):Prop:=Rep G X h v d ∨ ∃ a,v=.ref a∧RepO G X h a d
theorem Rep.w (r:Rep G X h v d):RepW G X h v d:=.inl r
theorem RepO.is {p:Prop} (r:RepO G X h a d) (H1:∀ vs ds,d=.list ds→h.PlainList a (List.toArray vs)→RepL G X h vs ds→p) (H2:∀ kv kvs,d=.dict kvs→TabOf G.prog G.w h a kv→RepK G X h kv kvs→p):p:=
  r.elim (fun ⟨vs,ds,e,q,r⟩=>H1 vs ds e q r) fun ⟨kv,kvs,e,q,r⟩=>H2 kv kvs e q r
theorem RepO.move {Y:Addr→Prop} (r:RepO G X h a d) (y:∀ a o,h.get? a=some o→Y a→X a) (ha:∀ o,h.get? a=some o→h'.get? a=some o) (k:∀ a o,¬ X a→h.get? a=some o→h'.get? a=some o):RepO G Y h' a d:=
  r.is (fun vs ds e ⟨n,p⟩ q=>.inl ⟨vs,ds,e,⟨n,ha _ p⟩,q.move y k⟩) fun kv kvs e p q=>.inr ⟨kv,kvs,e,p.at' ha,q.move y k⟩
theorem RepO.mono (r:RepO G X h a d) (ha:∀ o,h.get? a=some o→h'.get? a=some o) (k:∀ a o,¬ X a→h.get? a=some o→h'.get? a=some o):RepO G X h' a d:=r.move (fun u u u q=>q) ha k
theorem RepO.weak {Y:Addr→Prop} (r:RepO G X h a d) (k:∀ a o,h.get? a=some o→Y a→X a):RepO G Y h a d:=r.move k (fun u e=>e) fun u u u e=>e
theorem RepW.mono (r:RepW G X h v d) (k:∀ a o,h.get? a=some o→h'.get? a=some o):RepW G X h' v d:=by
  rcases r with r | ⟨a,e,r⟩
  · exact .inl (r.mono fun a o u=>k a o)
  · exact .inr ⟨a,e,r.mono (fun o=>k a o) fun a o u=>k a o⟩
theorem RepO.rep (r:RepO G X h a d) (ha:¬ X a):Rep G X h (.ref a) d:=
  r.is (fun _ _ e ⟨n,p⟩ r=>e ▸ .list ha ⟨⟨_,p,rfl,n,rfl⟩,_,p,rfl⟩ r) fun u u e p r=>e ▸ .dict ha p r
theorem RepO.get (r:RepO G X h a d):∃ o,h.get? a=some o:=r.is (fun _ _ _ ⟨_,p⟩ _=>⟨_,p⟩) fun u u u p u=>p.get
theorem RepW.is {p:Prop} (r:RepW G X h v d) (n1:∀ ds,d ≠ .list ds) (n2:∀ kvs,d ≠ .dict kvs) (H:Rep G X h v d→p):p:=
  r.elim H fun ⟨_,_,r⟩=>r.is (fun u ds e u u=>absurd e (n1 ds)) fun u kvs e u u=>absurd e (n2 kvs)
theorem RepW.int_ {i:Int} (r:RepW G X h v (.int i)):∃ t,v=.int i t:=r.is (fun u e=>nomatch e) (fun u e=>nomatch e) id
theorem RepW.str_ {i:Str} (r:RepW G X h v (.str i)):∃ t,v=.str i t:=r.is (fun u e=>nomatch e) (fun u e=>nomatch e) id
theorem RepW.bool_ {i:Bool} (r:RepW G X h v (.bool i)):v=.bool i:=r.is (fun u e=>nomatch e) (fun u e=>nomatch e) id
theorem RepW.none_ (r:RepW G X h v .none):v=.none:=r.is (fun u e=>nomatch e) (fun u e=>nomatch e) id
theorem RepW.tuple_ {ds:List D} (r:RepW G X h v (.tuple ds)):∃ a vs,v=.ref a∧¬ X a∧h.IsTuple a (List.toArray vs)∧RepL G X h vs ds:=r.is (fun u e=>nomatch e) (fun u e=>nomatch e) id
theorem RepW.obj_ {kvs:List (Str × D)} (r:RepW G X h v (.obj kvs)):Rep G X h v (.obj kvs):=r.is (fun u e=>nomatch e) (fun u e=>nomatch e) id
theorem RepW.listN_ {ds:List D} (r:RepW G X h v (.list ds)):∃ a vs,v=.ref a∧ListAt h a (List.toArray vs)∧RepL G X h vs ds:=
  r.elim (fun ⟨a,vs,e,_,p,q⟩=>⟨a,vs,e,p,q⟩) fun ⟨a,e,r⟩=>r.is (fun vs _ e' ⟨n,p⟩ q=>⟨a,vs,e,⟨⟨_,p,rfl,n,rfl⟩,_,p,rfl⟩,D.list.inj e' ▸ q⟩) fun u u e' u u=>nomatch e'
theorem RepW.list_ {ds:List D} (r:RepW G X h v (.list ds)):∃ a vs,v=.ref a∧h.IsList a (List.toArray vs)∧RepL G X h vs ds:=
  let ⟨a,vs,e,p,q⟩:=r.listN_; ⟨a,vs,e,p.1,q⟩
theorem RepW.dict_ {kvs:List (Str × D)} (r:RepW G X h v (.dict kvs)):∃ a kv,v=.ref a∧TabOf G.prog G.w h a kv∧RepK G X h kv kvs:=
  r.elim (fun ⟨a,kv,e,_,p,q⟩=>⟨a,kv,e,p,q⟩) fun ⟨a,e,r⟩=>r.is (fun u u e' u u=>nomatch e') fun kv u e' p q=>⟨a,kv,e,p,D.dict.inj e' ▸ q⟩
noncomputable def Live (X:Addr→Prop) (h:Heap):Prop:=∀ a,X a→∃ o,h.get? a=some o
theorem Live.fresh (l:Live X h) (e:h.get? a=none):¬ X a:=fun x=>by obtain ⟨o,q⟩:=l a x; rw [e] at q; cases q
theorem Live.mono (l:Live X h) (k:∀ a o,h.get? a=some o→h'.get? a=some o):Live X h':=fun a x=>let ⟨o,e⟩:=l a x; ⟨o,k a o e⟩
theorem none_size (h:Heap):h.get? h.objs.size=none:=by
  cases e:h.get? h.objs.size with
  | none=>rfl
  | some o=>exact absurd (Heap.lt_size e) (Nat.lt_irrefl _)
end
noncomputable def FreshAt (G:Gl) (X:Addr→Prop) (h₀ h:Heap) (v:Value) (d:D):Prop:=
  ∃ a,v=.ref a∧h₀.get? a=none∧RepO G (fun b=>X b ∨ b=a) h a d
theorem Keeps.rfl {s:Shared}:Keeps s s:=⟨s.heap,s.toks,by cases s; rfl,fun u u e=>e⟩
theorem Keeps.toks {s:Shared} (t:Nat):Keeps s { s with toks:=t }:=⟨s.heap,t,_root_.rfl,fun u u e=>e⟩
theorem Keeps.trans {s s' s'':Shared} (a:Keeps s s') (b:Keeps s' s''):Keeps s s'':=by
  obtain ⟨h,t,e,k⟩:=a
  subst e
  obtain ⟨h',t',e,k'⟩:=b
  subst e
  exact ⟨h',t',_root_.rfl,fun b o e=>k' b o (k b o e)⟩
theorem Keeps.get {s s':Shared} (a:Keeps s s'):∀ b o,s.heap.get? b=some o→s'.heap.get? b=some o:=by
  obtain ⟨h,t,e,k⟩:=a
  subst e
  exact k
theorem Keeps.push {s:Shared} (o:Obj):Keeps s { s with heap:=s.heap.push o }:=⟨_,s.toks,by cases s; rfl,fun u u e=>Heap.get?_push_of_some o e⟩
theorem Keeps.mk' {s:Shared} {h:Heap} {t:Nat} (k:∀ b o,s.heap.get? b=some o→h.get? b=some o):Keeps s { s with heap:=h,toks:=t }:=⟨h,t,_root_.rfl,k⟩
section
variable {G:Gl} {X:Addr→Prop} {s:Shared} {A:Around} {E:Value→Shared→Prop}
theorem fresh_list {vs:List Value} {ds:List D} {h:Heap} (lv:Live X h) (r:RepL G X h vs ds) :
    FreshAt G X h (h.push { cls:=.type "list", data:=.seq vs.toArray }) (.ref h.objs.size) (.list ds) ∧
    Rep G X (h.push { cls:=.type "list", data:=.seq vs.toArray }) (.ref h.objs.size) (.list ds):=by
  have e:(h.push { cls:=.type "list", data:=.seq vs.toArray }).PlainList h.objs.size vs.toArray:=⟨0,Heap.get?_push_size _ rfl⟩
  have r':=r.mono (h':=h.push { cls:=.type "list", data:=.seq vs.toArray }) fun a o u q=>Heap.get?_push_of_some _ q
  refine ⟨⟨_,rfl,none_size h,.inl ⟨vs,ds,rfl,e,?_⟩⟩,.list (lv.fresh (none_size h)) ⟨⟨_,e.choose_spec,rfl,_,rfl⟩,_,e.choose_spec,rfl⟩ r'⟩
  refine RepL.mono (fun a o u q=>Heap.get?_push_of_some _ q) (r.weak fun a o q y=>?_)
  rcases y with y | y
  · exact y
  · rw [y,none_size] at q; cases q
theorem add_list_sound {l b:Addr} {vs ws:List Value} {Q:Value→Shared→Prop} (hl:s.heap.IsList l vs.toArray) (hb:s.heap.IsList b ws.toArray)
    (h:Q (.ref s.heap.objs.size) { s with heap:=s.heap.push { cls:=.type "list", data:=.seq (vs ++ ws).toArray } })
    (hsz:vs.length + ws.length ≤ sizeLine) :
    wpAny (model G.prog G.w) A (binaryOp .Add (.ref l) (.ref b)) Q E s:=by
  obtain ⟨⟨cls,dd,data,sl⟩,ho,hc,n,hd⟩:=id hl
  obtain ⟨⟨cls2,dd2,data2,sl2⟩,ho2,hc2,n2,hd2⟩:=id hb
  simp only at hc hd hc2 hd2
  subst hc hd hc2 hd2
  have e:vs.toArray ++ ws.toArray=(vs ++ ws).toArray:=by simp
  refine concat_meets ⟨_,ho,rfl⟩ ⟨_,ho2,rfl⟩ noFill_list_add seq_list_add PySem.F.slot_list_add PySem.F.entry_list_add (PySem.F.args_list_add_2 _ _) (list_addW l b vs.toArray ws.toArray n n2 dd dd2 sl sl2 (by simpa using hsz)) ⟨ho,ho2,?_⟩
  rw [e]
  exact h
theorem mul_list_sound {l:Addr} {vs:List Value} {x:Int} {u:Tok} {Q:Value→Shared→Prop} (hl:s.heap.IsList l vs.toArray) (hlo:-(2 ^ 63:Int) ≤ x) (hhi:x < 2 ^ 63) (hsz:vs.length * x.toNat ≤ 256)
    (h:Q (.ref s.heap.objs.size) { s with heap:=s.heap.push { cls:=.type "list", data:=.seq (List.replicate x.toNat vs).flatten.toArray } }) :
    wpAny (model G.prog G.w) A (binaryOp .Mult (.ref l) (.int x u)) Q E s:=by
  obtain ⟨⟨cls,d,data,sl⟩,ho,hcl,k,hd⟩:=id hl
  simp only at hcl hd
  subst hcl hd
  have hsz':vs.toArray.size * x.toNat ≤ 256:=by simpa using hsz
  refine wpAny_binaryOp_repeat_ref (T:="list") (U:="int") (by decide) ⟨_,ho,rfl⟩ (fun s'=>typeIs_int s' x u) noFill_list_mul F.fills_int_mul F.slot_int_rmul repeat_list F.slot_int_index.lookup
    (call_meets F.slot_int_rmul (typeIs_int s x u) F.entry_int_rmul (F.args_int_rmul_2 _ _) (lm_int_rmul_list_any x u l vs.toArray k d sl)
      ⟨ho,rfl,⟨_,ho,rfl⟩,call_meets F.slot_list_mul ⟨_,ho,rfl⟩ F.entry_list_mul (F.args_list_mul_2 _ _)
        (lm_list_mul_any l vs.toArray k d sl x u (by simp [Builtin.List.listFitsIndex]; exact om110 hlo hhi) (om111 hsz') (by simp [Builtin.List.listTooLong,sizeLine]; exact om112 hsz))
        ⟨ho,?_⟩⟩)
  rw [listMul_foldl_if]
  exact h
theorem RepL.replicate {vs:List Value} {ds:List D} {h:Heap} (r:RepL G X h vs ds):∀ n:Nat,RepL G X h (List.replicate n vs).flatten (List.replicate n ds).flatten
  | 0=>.nil
  | n + 1=>by
    rw [List.replicate_succ,List.replicate_succ,List.flatten_cons,List.flatten_cons]
    exact r.append (RepL.replicate r n)
theorem bits_small {a:Int} (h:a.natAbs ≤ 100):¬ Builtin.Int.intBits a > shortFactorBits:=by
  have:∀ n:Nat,n ≤ 100→¬ Builtin.Int.intBits (n:Int) > shortFactorBits∧¬ Builtin.Int.intBits (-(n:Int)) > shortFactorBits:=by decide +kernel
  rcases Int.natAbs_eq a with e | e
  · rw [e]; exact (this _ h).1
  · rw [e]; exact (this _ h).2
theorem cap_line {n:Nat} (h:n ≤ cap):n ≤ sizeLine:=by rw [sizeLine_eq]; exact Nat.le_trans h (by decide)
theorem abs_small {y:Int} (h:y.natAbs ≤ 100):-(2:Int) ^ 63 ≤ y∧y < (2:Int) ^ 63:=by
  have:(2:Int) ^ 63=9223372036854775808:=by decide
  exact om113 h
theorem bin_sound {op:Bop} {o:Operator} {a b:Value} {da db d:D} (lv:Live X s.heap) (ra:RepW G X s.heap a da) (rb:RepW G X s.heap b db) (ok:bopOk op o=true) (ev:evBin op da db=some d) :
    wpAny (model G.prog G.w) A (binaryOp o a b) (fun v s'=>Keeps s s'∧Rep G X s'.heap v d∧∀ ds,op=.add→d=.list ds→FreshAt G X s.heap s'.heap v d) E s:=by
  cases eqb_ ok
  clear ok
  revert ra rb
  cases op with
  | add=>
    refine caI_ ev (fun x ev=>onI_ ev fun y ev ra rb=>?_) fun ev=>caS_ ev (fun x ev=>onS_ ev fun y ev ra rb=>if_ ev fun hc ev=>?_) fun ev=>onL_ ev fun x ev=>onL_ ev fun y ev ra rb=>if_ ev fun hc ev=>?_
    · cases ev
      obtain ⟨t,rfl⟩:=ra.int_
      obtain ⟨u,rfl⟩:=rb.int_
      exact P.add_int ⟨Keeps.toks _,.int _ _,fun z z e=>nomatch e⟩
    · cases ev
      obtain ⟨t,rfl⟩:=ra.str_
      obtain ⟨u,rfl⟩:=rb.str_
      exact SB.add (fun t' k=>⟨Keeps.toks _,.str _ _,fun z z e=>nomatch e⟩) (cap_line hc)
    · cases ev
      obtain ⟨a,vs,rfl,la,ra⟩:=ra.list_
      obtain ⟨b,ws,rfl,lb,rb⟩:=rb.list_
      have q:=fresh_list lv (ra.append rb)
      exact add_list_sound la lb ⟨Keeps.push _,q.2,fun z z z=>q.1⟩ (by rw [ra.length,rb.length]; exact cap_line hc)
  | sub=>
    refine onI_ ev fun x ev=>onI_ ev fun y ev ra rb=>?_
    cases ev
    obtain ⟨t,rfl⟩:=ra.int_
    obtain ⟨u,rfl⟩:=rb.int_
    exact P.sub_int ⟨Keeps.toks _,.int _ _,fun z e=>nomatch e⟩
  | mul=>
    refine caI_ ev (fun x ev=>onI_ ev fun y ev ra rb=>if_ ev fun hc ev=>?_) fun ev=>onL_ ev fun x ev=>onI_ ev fun y ev ra rb=>if_ ev fun hc ev=>?_
    · cases ev
      obtain ⟨t,rfl⟩:=ra.int_
      obtain ⟨u,rfl⟩:=rb.int_
      refine P.mul_int ⟨Keeps.toks _,.int _ _,fun z e=>nomatch e⟩ ?_
      have:=bits_small (of_decide_eq_true (Bool.and_eq_true_iff.mp hc).1)
      unfold IntMulOk
      simp [decide_eq_false this]
    · cases ev
      obtain ⟨a,vs,rfl,la,ra⟩:=ra.list_
      obtain ⟨u,rfl⟩:=rb.int_
      have q:=fun n=>fresh_list lv (ra.replicate n)
      have hy:=abs_small (of_decide_eq_true (Bool.and_eq_true_iff.mp hc).1)
      exact mul_list_sound la hy.1 hy.2 (by rw [ra.length]; exact Nat.le_trans (of_decide_eq_true (Bool.and_eq_true_iff.mp hc).2) (by decide)) ⟨Keeps.push _,(q _).2,fun z e=>nomatch e⟩
  | mod=>
    refine onI_ ev fun x ev=>onI_ ev fun y ev ra rb=>if_ ev fun hc ev=>?_
    cases ev
    obtain ⟨t,rfl⟩:=ra.int_
    obtain ⟨u,rfl⟩:=rb.int_
    exact mod_int hc ⟨Keeps.toks _,.int _ _,fun z e=>nomatch e⟩
  | fdiv=>
    refine onI_ ev fun x ev=>onI_ ev fun y ev ra rb=>if_ ev fun hc ev=>?_
    cases ev
    obtain ⟨t,rfl⟩:=ra.int_
    obtain ⟨u,rfl⟩:=rb.int_
    exact floordiv_int hc.1 ⟨Keeps.toks _,.int _ _,fun z e=>nomatch e⟩ (.inl (PyProof.noPylong_small (Nat.lt_of_le_of_lt hc.2 (by decide))))
end
end Mine
namespace Mine
open PySem PySem.W PyProof.Rows PySem.SeqAt PySem.MeetsSeq PySem.MeetsSeq2 PySem.MeetsSeq3
open PySem.AutoSeq1 (wpAny_loadPart')
theorem slot_list_lt:Slot "list" (cmpInfo .Lt).2.1 "list.__lt__":=
  .of (owner:="list") (n:="__lt__") (by rw [typeLookup_type,builtinLookup_eq_fast]; kernel_rfl) (by decide +kernel) (by decide +kernel) (by decide +kernel)
    (by first | exact .inl (by decide +kernel) | exact .inr (by decide +kernel)) (by rw [isSubtype_type]; kernel_rfl)
theorem entry_list_lt:entryFor table "list.__lt__"=some Builtin.«list.__lt__»:=entryFor_of_fast (by kernel_rfl)
theorem args_list_lt (a b:Value):argsOk "list.__lt__" ⟨[a,b],[]⟩:=by unfold argsOk; kernel_rfl
theorem slot_list_gt:Slot "list" (cmpInfo .Gt).2.1 "list.__gt__":=
  .of (owner:="list") (n:="__gt__") (by rw [typeLookup_type,builtinLookup_eq_fast]; kernel_rfl) (by decide +kernel) (by decide +kernel) (by decide +kernel)
    (by first | exact .inl (by decide +kernel) | exact .inr (by decide +kernel)) (by rw [isSubtype_type]; kernel_rfl)
theorem entry_list_gt:entryFor table "list.__gt__"=some Builtin.«list.__gt__»:=entryFor_of_fast (by kernel_rfl)
theorem args_list_gt (a b:Value):argsOk "list.__gt__" ⟨[a,b],[]⟩:=by unfold argsOk; kernel_rfl
inductive Strs:List Value→List Str→Prop
  | nil:Strs [] []
  | cons {x t vs xs}:Strs vs xs→Strs (.str x t :: vs) (x :: xs)
theorem Strs.length:∀ {vs xs},Strs vs xs→vs.length=xs.length
  | _,_,.nil=>rfl
  | _,_,.cons r=>by simp [r.length]
theorem Strs.get:∀ {vs xs},Strs vs xs→∀ {i:Nat} (h:i < xs.length),∃ t,vs[i]?=some (.str xs[i] t)
  | _,_,.cons r,0,_=>⟨_,rfl⟩
  | _,_,.cons r,i + 1,h=>by simpa using r.get (by simpa using h)
noncomputable def ordStrs (gt:Bool) (as bs:List Str):Bool:=if gt then ltStrs bs as else ltStrs as bs
theorem Strs.none {vs xs} (r:Strs vs xs) {i:Nat} (h:xs.length ≤ i):vs[i]?=Option.none:=
  List.getElem?_eq_none (by rw [r.length]; exact h)
theorem ltStrs_nil:∀ l:List Str,ltStrs l []=false
  | []=>rfl
  | _ :: _=>rfl
theorem ltStrs_nil':∀ l:List Str,ltStrs [] l=!l.isEmpty
  | []=>rfl
  | _ :: _=>rfl
theorem str_beq' (a b:Str):(a.cps.toList == b.cps.toList)=(a == b):=by
  by_cases h:a=b
  · subst h; simp
  · have h1:(a == b)=false:=by simpa using h
    rw [h1]
    refine beq_eq_false_iff_ne.mpr fun hl=>h ?_
    cases a; cases b
    simp only [Str.mk.injEq]
    exact Array.toList_inj.mp hl
set_option maxHeartbeats 1000000 in
theorem lt_loop (gt:Bool) (l b:Addr) (vs ws:List Value) (xs ys:List Str) (hx:Strs vs xs) (hy:Strs ws ys) (n n2:Nat) (dd dd2:Option Addr) (sl sl2:Array (Option Value)) (k:Nat) :
    ∀ i:Nat,xs.length - i=k→Meets (Builtin.«list.__eq__.loop» ⟨[.ref l,.ref b,rawInt i,rawInt (if gt then 4 else 0:Int)],[]⟩)
      (fun A R s=>s.heap.get? l=some { cls:=.type "list", dict:=dd,data:=.seq vs.toArray n,slots:=sl }∧s.heap.get? b=some { cls:=.type "list", dict:=dd2,data:=.seq ws.toArray n2,slots:=sl2 }∧i ≤ xs.length∧i ≤ ys.length ∧
        R (.ok (.ret (.bool (ordStrs gt (xs.drop i) (ys.drop i))))) s):=by
  induction k with
  | zero=>
    intro i hk prog w A R s h
    obtain ⟨hp,g,d,tk,os⟩:=s; obtain ⟨hl,hb,l1,l2,h⟩:=h
    have e1:vs.toArray[((i:Nat):Int).toNat]?=none:=by simpa using hx.none (i:=i) (om13 hk)
    have d1:xs.drop i=[]:=List.drop_eq_nil_of_le (om13 hk)
    have sx:=hx.length
    have sy:=hy.length
    rw [d1] at h
    cases gt
    · wp_walk using wpAny_loadPart' hl,wpAny_loadPart' hb
      rw [e1]
      wp_walk using wpAny_loadPart' hl,wpAny_loadPart' hb
      show R (.ok (.ret (.bool (decide (vs.toArray.size < ws.toArray.size))))) _
      have:ordStrs false [] (ys.drop i)=decide (vs.toArray.size < ws.toArray.size):=by
        simp only [ordStrs,ltStrs_nil',Bool.false_eq_true,if_false,List.size_toArray]
        by_cases hl:i < ys.length
        · have:(ys.drop i).isEmpty=false:=by simp; omega
          rw [this,decide_eq_true (om114 hk hl sx sy)]; rfl
        · have:(ys.drop i).isEmpty=true:=by simp; exact Nat.le_of_not_lt hl
          rw [this,decide_eq_false (om115 sx sy l1 hl)]; rfl
      rw [← this]; exact h
    · wp_walk using wpAny_loadPart' hl,wpAny_loadPart' hb
      rw [e1]
      wp_walk using wpAny_loadPart' hl,wpAny_loadPart' hb
      show R (.ok (.ret (.bool (decide (vs.toArray.size > ws.toArray.size))))) _
      have:ordStrs true [] (ys.drop i)=decide (vs.toArray.size > ws.toArray.size):=by
        simp only [ordStrs,ltStrs_nil,if_true,List.size_toArray]
        rw [decide_eq_false (om116 hk l2 sx sy)]
      rw [← this]; exact h
  | succ k ih=>
    intro i hk prog w A R s h
    obtain ⟨hp,g,d,tk,os⟩:=s; obtain ⟨hl,hb,l1,l2,h⟩:=h
    have sx:=hx.length
    have sy:=hy.length
    have hi:i < xs.length:=om42 hk
    obtain ⟨t,e1⟩:=hx.get hi
    have e1':vs.toArray[((i:Nat):Int).toNat]?=some (.str xs[i] t):=by simpa using e1
    have d1:xs.drop i=xs[i] :: xs.drop (i + 1):=List.drop_eq_getElem_cons hi
    have hc:((i:Int) + 1)=((i + 1:Nat):Int):=by push_cast; rfl
    by_cases hj:i < ys.length
    · obtain ⟨u,e2⟩:=hy.get hj
      have e2':ws.toArray[((i:Nat):Int).toNat]?=some (.str ys[i] u):=by simpa using e2
      have d2:ys.drop i=ys[i] :: ys.drop (i + 1):=List.drop_eq_getElem_cons hj
      rw [d1,d2] at h
      have q:=SeqRoads2.EqGives.str xs[i] ys[i] t u
      cases hb':(xs[i] == ys[i]) with
      | true=>
        cases gt
        · wp_walk using wpAny_loadPart' hl,wpAny_loadPart' hb
          rw [e1',e2']
          refine wpAny_bind (q prog w _ _ _ _ ?_)
          rw [str_beq',hb']
          wp_walk
          rw [hc]
          have e:xs[i]=ys[i]:=by simpa using hb'
          simp only [ordStrs,ltStrs,e,beq_self_eq_true,if_true,Bool.false_eq_true,if_false] at h
          exact ⟨plainId_quiet plain_eq_loop _,codeAny_builtin entry_eq_loop (by
            rw [Around.under_plainId plain_eq_loop _]
            exact ih (i + 1) (om23 hk) prog w A R _ ⟨hl,hb,Nat.succ_le_of_lt hi,Nat.succ_le_of_lt hj,by simpa [ordStrs] using h⟩)⟩
        · wp_walk using wpAny_loadPart' hl,wpAny_loadPart' hb
          rw [e1',e2']
          refine wpAny_bind (q prog w _ _ _ _ ?_)
          rw [str_beq',hb']
          wp_walk
          rw [hc]
          have e:xs[i]=ys[i]:=by simpa using hb'
          simp only [ordStrs,ltStrs,e,beq_self_eq_true,if_true] at h
          exact ⟨plainId_quiet plain_eq_loop _,codeAny_builtin entry_eq_loop (by
            rw [Around.under_plainId plain_eq_loop _]
            exact ih (i + 1) (om23 hk) prog w A R _ ⟨hl,hb,Nat.succ_le_of_lt hi,Nat.succ_le_of_lt hj,by simpa [ordStrs] using h⟩)⟩
      | false=>
        have hb2:(ys[i] == xs[i])=false:=beq_eq_false_iff_ne.mpr fun e=>beq_eq_false_iff_ne.mp hb' e.symm
        cases gt
        · wp_walk using wpAny_loadPart' hl,wpAny_loadPart' hb
          rw [e1',e2']
          refine wpAny_bind (q prog w _ _ _ _ ?_)
          rw [str_beq',hb']
          wp_walk using wpAny_loadPart' hl,wpAny_loadPart' hb
          rw [e1',e2']
          refine wpAny_bind (P.lt_str (prog:=prog) (w:=w) ?_)
          wp_walk
          simpa [ordStrs,ltStrs,hb',Str.ltb] using h
        · wp_walk using wpAny_loadPart' hl,wpAny_loadPart' hb
          rw [e1',e2']
          refine wpAny_bind (q prog w _ _ _ _ ?_)
          rw [str_beq',hb']
          wp_walk using wpAny_loadPart' hl,wpAny_loadPart' hb
          rw [e1',e2']
          refine wpAny_bind (P.gt_str (prog:=prog) (w:=w) ?_)
          wp_walk
          simpa [ordStrs,ltStrs,hb2,Str.ltb] using h
    · have e2:ws.toArray[((i:Nat):Int).toNat]?=none:=by simpa using hy.none (i:=i) (Nat.le_of_not_lt hj)
      have d2:ys.drop i=[]:=List.drop_eq_nil_of_le (Nat.le_of_not_lt hj)
      rw [d2,d1] at h
      cases gt
      · wp_walk using wpAny_loadPart' hl,wpAny_loadPart' hb
        rw [e1',e2]
        wp_walk using wpAny_loadPart' hl,wpAny_loadPart' hb
        show R (.ok (.ret (.bool (decide (vs.toArray.size < ws.toArray.size))))) _
        rw [decide_eq_false (by simp; exact om117 hi sx sy hj)]
        simpa [ordStrs,ltStrs] using h
      · wp_walk using wpAny_loadPart' hl,wpAny_loadPart' hb
        rw [e1',e2]
        wp_walk using wpAny_loadPart' hl,wpAny_loadPart' hb
        show R (.ok (.ret (.bool (decide (vs.toArray.size > ws.toArray.size))))) _
        rw [decide_eq_true (by simp; exact om118 hi sx sy hj)]
        simpa [ordStrs,ltStrs] using h
theorem list_ltAt (l b:Addr) (vs ws:List Value) (xs ys:List Str) (hx:Strs vs xs) (hy:Strs ws ys) (n n2:Nat) (dd dd2:Option Addr) (sl sl2:Array (Option Value)) :
    Meets (Builtin.«list.__lt__» ⟨[.ref l,.ref b],[]⟩)
      (fun A R s=>s.heap.get? l=some { cls:=.type "list", dict:=dd,data:=.seq vs.toArray n,slots:=sl }∧s.heap.get? b=some { cls:=.type "list", dict:=dd2,data:=.seq ws.toArray n2,slots:=sl2 } ∧
        R (.ok (.ret (.bool (ltStrs xs ys)))) s):=by
  intro prog w A R s h
  obtain ⟨hp,g,d,tk,os⟩:=s; obtain ⟨hl,hb,h⟩:=h
  have f3:=AutoSeq1.sub_list_list
  wp_walk using wpAny_loadPart' hl,wpAny_loadPart' hb
  exact ⟨plainId_quiet plain_eq_loop _,codeAny_builtin entry_eq_loop (by
    rw [Around.under_plainId plain_eq_loop _]
    exact lt_loop false l b vs ws xs ys hx hy n n2 dd dd2 sl sl2 _ 0 rfl prog w A R _ ⟨hl,hb,Nat.zero_le _,Nat.zero_le _,by simpa [ordStrs] using h⟩)⟩
theorem list_gtAt (l b:Addr) (vs ws:List Value) (xs ys:List Str) (hx:Strs vs xs) (hy:Strs ws ys) (n n2:Nat) (dd dd2:Option Addr) (sl sl2:Array (Option Value)) :
    Meets (Builtin.«list.__gt__» ⟨[.ref l,.ref b],[]⟩)
      (fun A R s=>s.heap.get? l=some { cls:=.type "list", dict:=dd,data:=.seq vs.toArray n,slots:=sl }∧s.heap.get? b=some { cls:=.type "list", dict:=dd2,data:=.seq ws.toArray n2,slots:=sl2 } ∧
        R (.ok (.ret (.bool (ltStrs ys xs)))) s):=by
  intro prog w A R s h
  obtain ⟨hp,g,d,tk,os⟩:=s; obtain ⟨hl,hb,h⟩:=h
  have f3:=AutoSeq1.sub_list_list
  wp_walk using wpAny_loadPart' hl,wpAny_loadPart' hb
  exact ⟨plainId_quiet plain_eq_loop _,codeAny_builtin entry_eq_loop (by
    rw [Around.under_plainId plain_eq_loop _]
    exact lt_loop true l b vs ws xs ys hx hy n n2 dd dd2 sl sl2 _ 0 rfl prog w A R _ ⟨hl,hb,Nat.zero_le _,Nat.zero_le _,by simpa [ordStrs] using h⟩)⟩
section
variable {prog:Program} {w:World} {A:Around} {E:Value→Shared→Prop} {s:Shared} {l b:Addr} {vs ws:List Value} {xs ys:List Str} {Q:Value→Shared→Prop}
theorem lt_lists (hl:s.heap.IsList l vs.toArray) (hb:s.heap.IsList b ws.toArray) (hx:Strs vs xs) (hy:Strs ws ys) (hu:A.units < cLine) (h:Q (.bool (ltStrs xs ys)) s) :
    wpAny (model prog w) A (compareOp .Lt (.ref l) (.ref b)) Q E s:=by
  obtain ⟨⟨cls,dd,data,sl⟩,ho,hc,n,hd⟩:=id hl
  obtain ⟨⟨cls2,dd2,data2,sl2⟩,ho2,hc2,n2,hd2⟩:=id hb
  simp only at hc hd hc2 hd2
  subst hc hd hc2 hd2
  exact richCompare_meets_room (op:=.Lt) ⟨_,ho,rfl⟩ ⟨_,ho2,rfl⟩ slot_list_lt entry_list_lt (args_list_lt _ _) (list_ltAt l b vs ws xs ys hx hy n n2 dd dd2 sl sl2)
    ⟨ho,ho2,show Value.bool (ltStrs xs ys) ≠ Value.notImplemented∧Q (.bool (ltStrs xs ys)) s from ⟨(fun x=>nomatch x),h⟩⟩ hu
theorem gt_lists (hl:s.heap.IsList l vs.toArray) (hb:s.heap.IsList b ws.toArray) (hx:Strs vs xs) (hy:Strs ws ys) (hu:A.units < cLine) (h:Q (.bool (ltStrs ys xs)) s) :
    wpAny (model prog w) A (compareOp .Gt (.ref l) (.ref b)) Q E s:=by
  obtain ⟨⟨cls,dd,data,sl⟩,ho,hc,n,hd⟩:=id hl
  obtain ⟨⟨cls2,dd2,data2,sl2⟩,ho2,hc2,n2,hd2⟩:=id hb
  simp only at hc hd hc2 hd2
  subst hc hd hc2 hd2
  exact richCompare_meets_room (op:=.Gt) ⟨_,ho,rfl⟩ ⟨_,ho2,rfl⟩ slot_list_gt entry_list_gt (args_list_gt _ _) (list_gtAt l b vs ws xs ys hx hy n n2 dd dd2 sl sl2)
    ⟨ho,ho2,show Value.bool (ltStrs ys xs) ≠ Value.notImplemented∧Q (.bool (ltStrs ys xs)) s from ⟨(fun x=>nomatch x),h⟩⟩ hu
end
end Mine
namespace Mine
open PySem PySem.W PyProof.Rows
structure Room (A:Around) (k:Nat):Prop where
  handled:A.handled=none
  depth:A.depth + 5 * k ≤ 600
  units:A.units + 50 * k ≤ 5000
theorem Room.less {A:Around} {k n:Nat} (r:Room A k) (h:n ≤ k):Room A n:=⟨r.handled,by have:=r.depth; exact om119 this h,by have:=r.units; exact om120 this h⟩
theorem Room.deeper {A:Around} {k:Nat} {env:Env} (r:Room A (k + 1)):Room (A.deeper env) k:=
  ⟨r.handled,by have:=r.depth; show A.depth + 1 + 5 * k ≤ 600; exact om121 this,by have:=r.units; show A.units + 3 + 50 * k ≤ 5000; exact om122 this⟩
theorem Room.un {A:Around} {k:Nat} (r:Room A k):A.units + 100 < cLine:=by have:=r.units; have:=cLine_is; omega
theorem Room.dp {A:Around} {k:Nat} (r:Room A k):A.depth < recursionLimit:=by have:=r.depth; unfold recursionLimit; exact om123 this
section
variable {G:Gl} {X:Addr→Prop} {s:Shared} {A:Around} {E:Value→Shared→Prop}
theorem tuple_reads {h:Heap} {a:Addr} {vs:List Value} {xs:List PyData} {as:List Addr} (p:h.IsTuple a vs.toArray) (q:ReadsAll h vs xs as):∃ as,Reads h (.ref a) (.tuple xs) as:=
  let ⟨_,p1,p2,_,p3⟩:=p; ⟨_,.tuple p1 p2 p3 (by simpa using q)⟩
theorem list_reads {h:Heap} {a:Addr} {vs:List Value} {xs:List PyData} {as:List Addr} (p:h.IsList a vs.toArray) (q:ReadsAll h vs xs as):∃ as,Reads h (.ref a) (.list xs) as:=
  let ⟨_,p1,p2,_,p3⟩:=p; ⟨_,.list p1 p2 p3 (by simpa using q)⟩
mutual
theorem rep_reads {h:Heap}:∀ {v:Value} {d:D},Rep G X h v d→∀ {x:PyData},toPy d=some x→∃ as,Reads h v x as
  | _,.none,r,_,e=>Option.some.inj e ▸ r ▸ ⟨_,.none⟩
  | _,.bool b,r,_,e=>Option.some.inj e ▸ r ▸ ⟨_,.bool b⟩
  | _,.int i,⟨t,r⟩,_,e=>Option.some.inj e ▸ r ▸ ⟨_,.int i t⟩
  | _,.str i,⟨t,r⟩,_,e=>Option.some.inj e ▸ r ▸ ⟨_,.str i t⟩
  | _,.tuple _,⟨_,_,r,_,p,q⟩,_,e=>map_ e fun u e1 e2=>e2 ▸ r ▸ (reps_reads q e1).elim fun u q=>tuple_reads p q
  | _,.list _,⟨_,_,r,_,p,q⟩,_,e=>map_ e fun u e1 e2=>e2 ▸ r ▸ (reps_reads q e1).elim fun u q=>list_reads p.1 q
  | _,.dict _,_,_,e=>none_ne e
  | _,.obj _,_,_,e=>none_ne e
  | _,.opq _,_,_,e=>none_ne e
theorem reps_reads {h:Heap}:∀ {vs:List Value} {ds:List D},RepL G X h vs ds→∀ {xs:List PyData},toPys ds=some xs→∃ as,ReadsAll h vs xs as
  | _,[],r,_,e=>Option.some.inj e ▸ r ▸ ⟨_,.nil⟩
  | _,_ :: _,⟨_,_,r,a,b⟩,_,e=>bind_ e fun u e1 e=>map_ e fun u e2 e3=>e3 ▸ r ▸ (rep_reads a e1).elim fun u q=>(reps_reads b e2).elim fun u q'=>⟨_,.cons q q'⟩
end
theorem repW_reads {h:Heap} {v:Value} {d:D} (r:RepW G X h v d) {x:PyData} (e:toPy d=some x):∃ as,Reads h v x as:=
  r.elim (fun r=>rep_reads r e) fun ⟨a,e1,r⟩=>r.is (fun vs ds e2 ⟨n,p⟩ r=>map_ (e2 ▸ e:toPy (.list ds)=some x) fun u e3 e4=>e1 ▸ e4 ▸ (reps_reads r e3).elim fun u q=>list_reads ⟨_,p,rfl,n,rfl⟩ q)
    fun kv kvs e2 u u=>none_ne (e2 ▸ e:toPy (.dict kvs)=some x)
theorem strs_of {h:Heap}:∀ {ds:List D} {vs:List Value},RepL G X h vs ds→∀ {xs:List Str},strsOf ds=some xs→Strs vs xs
  | [],_,r,_,e=>Option.some.inj e ▸ r ▸ .nil
  | d :: ds,_,⟨v,vs,r,a,b⟩,_,e=>by
    subst r
    revert a
    exact onS_ e fun x e ⟨t,a⟩=>map_ e fun ys e1 e2=>e2 ▸ a ▸ .cons (strs_of b e1)
theorem ints_of {h:Heap}:∀ {ds:List D} {vs:List Value},RepL G X h vs ds→∀ {xs:List Int},intsOf ds=some xs→IntsAre vs xs
  | [],_,r,_,e=>Option.some.inj e ▸ r ▸ .nil
  | d :: ds,_,⟨v,vs,r,a,b⟩,_,e=>by
    subst r
    revert a
    exact onI_ e fun x e ⟨t,a⟩=>map_ e fun ys e1 e2=>e2 ▸ a ▸ .cons _ _ (ints_of b e1)
theorem strsAre_of:∀ {vs xs},Strs vs xs→StrsAre vs xs
  | _,_,.nil=>.nil
  | _,_,.cons r=>.cons _ _ (strsAre_of r)
theorem big63 {n:Nat} (h:n ≤ cap):(n:Int) < 2 ^ 63:=by
  have:(2:Int) ^ 63=9223372036854775808:=by decide
  unfold cap at h
  exact om124 h
theorem RepK.length {h:Heap}:∀ {kvs kv},RepK G X h kv kvs→kv.length=kvs.length
  | [],_,r=>congrArg List.length r
  | _ :: _,_,⟨_,_,e,_,b⟩=>e ▸ congrArg Nat.succ (RepK.length b)
theorem RepK.look {h:Heap} (k:Str):∀ {kvs kv},RepK G X h kv kvs→(∀ d,lookD k kvs=some d→∃ v,valueAt kv k=some v∧Rep G X h v d)∧(lookD k kvs=none→valueAt kv k=none)∧(kvs.any fun p=>p.1 == k)=(valueAt kv k).isSome
  | [],_,r=>⟨fun d e=>none_ne e,fun u=>r ▸ rfl,r ▸ rfl⟩
  | (k',d) :: _,_,⟨v,_,e,a,b⟩=>by
    subst e
    have ih:=RepK.look k b
    by_cases e:k'=k
    · subst e
      simp only [lookD,valueAt,List.find?_cons,List.any_cons,beq_self_eq_true,decide_true,Option.map_some,Bool.true_or,Option.isSome_some,and_true]
      exact ⟨fun u e=>⟨v,rfl,Option.some.inj e ▸ a⟩,fun e=>nomatch e⟩
    · simp only [lookD,valueAt,List.find?_cons,List.any_cons,e,decide_false,beq_eq_false_iff_ne.mpr e,Bool.false_or]
      exact ih
theorem RepK.any {h:Heap} (k:Str) {kvs kv} (r:RepK G X h kv kvs):(kvs.any fun p=>p.1 == k)=(valueAt kv k).isSome:=(r.look k).2.2
theorem len_bne (n:Nat):((n:Int) != 0)=(n != 0):=by
  cases n <;> rfl
theorem truth_sound {v:Value} {d:D} {b:Bool} (r:RepW G X s.heap v d) (ev:truth d=some b) :
    wpAny (model G.prog G.w) A (truthy v) (fun c s'=>c=b∧Keeps s s') E s:=by
  cases d with
  | none=>cases ev; rw [r.none_]; exact truthy_none ⟨rfl,Keeps.rfl⟩
  | bool b=>cases ev; rw [r.bool_]; exact wpAny_truthy_bool ⟨rfl,Keeps.rfl⟩
  | int i=>cases ev; obtain ⟨t,rfl⟩:=r.int_; exact P.truthy_int ⟨rfl,Keeps.rfl⟩
  | str x=>
    refine ifO_ ev fun hc e=>?_
    obtain ⟨t,rfl⟩:=r.str_
    exact P.truthy_str (Int.not_le.mpr (big63 hc)) ⟨(len_bne _).trans e,Keeps.toks _⟩
  | tuple ds=>
    refine ifO_ ev fun hc e=>?_
    obtain ⟨a,vs,rfl,_,p,r⟩:=r.tuple_
    refine truthy_tuple p (by rw [List.size_toArray,r.length]; exact big63 hc) ⟨?_,Keeps.toks _⟩
    rw [← e]; cases ds <;> cases vs <;> first | rfl | cases r.length
  | list ds=>
    refine ifO_ ev fun hc e=>?_
    obtain ⟨a,vs,rfl,p,r⟩:=r.list_
    refine wpAny_truthy_list p (by rw [List.size_toArray,r.length]; exact big63 hc) ⟨?_,Keeps.toks _⟩
    rw [← e]; cases ds <;> cases vs <;> first | rfl | cases r.length
  | dict kvs=>
    refine ifO_ ev fun hc e=>?_
    obtain ⟨a,kv,rfl,p,r⟩:=r.dict_
    refine wpAny_truthy_dict p.1 p.2 (by rw [r.length]; exact big63 hc) ⟨?_,Keeps.toks _⟩
    rw [← e]; cases kvs <;> cases kv <;> first | rfl | cases r.length
  | obj=>exact none_ne ev
  | opq=>exact none_ne ev
end
end Mine
namespace Mine
open PySem PySem.W PyProof.Rows PySem.SeqAt PySem.MeetsSeq PySem.MeetsSeq2 PySem.MeetsSeq3
open PySem.AutoSeq1 (wpAny_loadPart')
section
variable {prog:Program} {w:World}
noncomputable def valI:Value→Int
  | .int i _=>i
  | _=>0
noncomputable def EqIn (prog:Program) (w:World) (A:Around) (s:Shared) (x y:Value) (b:Bool):Prop:=
  ∀ (E:Value→Shared→Prop) (Q:Bool→Shared→Prop),Q b s→wpAny (model prog w) A (eqBool x y) Q E s
set_option maxHeartbeats 1000000 in
theorem ne_loop (l b:Addr) (vs ws:List Value) (n n2:Nat) (dd dd2:Option Addr) (sl sl2:Array (Option Value)) (e:Nat→Bool) (hsz:vs.length=ws.length) (k:Nat) :
    ∀ i:Nat,vs.length - i=k→∀ (A:Around) (R:Result→Shared→Prop) (s:Shared),
      s.heap.get? l=some { cls:=.type "list", dict:=dd,data:=.seq vs.toArray n,slots:=sl }→s.heap.get? b=some { cls:=.type "list", dict:=dd2,data:=.seq ws.toArray n2,slots:=sl2 }→
        (∀ j (h1:j < vs.length) (h2:j < ws.length),EqIn prog w A.in1 s vs[j] ws[j] (e j))→R (.ok (.ret (.bool (!((List.range vs.length).drop i).all e)))) s→
      wpAny (model prog w) A.in1 (Builtin.«list.__eq__.loop» ⟨[.ref l,.ref b,rawInt i,rawInt 3],[]⟩) (fun fin s'=>match fin with | .done f=>R (.ok f) s' | .again c'=>c'.quiet=true∧codeAny (model prog w) A c' R s') (fun e s'=>R (.error e) s') s:=by
  induction k with
  | zero=>
    intro i hk A R s hl hb he h
    obtain ⟨hp,g,d,tk,os⟩:=s
    have hi1:vs.toArray[((i:Nat):Int).toNat]?=none:=by simp; exact om13 hk
    have hi2:ws.toArray[((i:Nat):Int).toNat]?=none:=by simp; exact om125 hk hsz
    have hd:(List.range vs.length).drop i=[]:=by simp; exact om13 hk
    rw [hd] at h
    wp_walk using wpAny_loadPart' hl,wpAny_loadPart' hb
    rw [hi1,hi2]
    wp_walk using wpAny_loadPart' hl,wpAny_loadPart' hb
    show R (.ok (.ret (.bool (vs.toArray.size != ws.toArray.size)))) _
    simpa [hsz] using h
  | succ k ih=>
    intro i hk A R s hl hb he h
    obtain ⟨hp,g,d,tk,os⟩:=s
    have hlt:i < vs.length:=om42 hk
    have hlt2:i < ws.length:=om21 hlt hsz
    have hi1:vs.toArray[((i:Nat):Int).toNat]?=some vs[i]:=by simp [hlt]
    have hi2:ws.toArray[((i:Nat):Int).toNat]?=some ws[i]:=by simp [hlt2]
    have hd:(List.range vs.length).drop i=i :: (List.range vs.length).drop (i + 1):=by simp [List.drop_eq_getElem_cons,hlt]
    have hc:((i:Int) + 1)=((i + 1:Nat):Int):=by push_cast; rfl
    rw [hd,List.all_cons] at h
    wp_walk using wpAny_loadPart' hl,wpAny_loadPart' hb
    rw [hi1,hi2]
    refine wpAny_bind (he i hlt hlt2 _ _ ?_)
    cases hb':e i with
    | true=>
      rw [hb'] at h
      wp_walk
      rw [hc]
      exact ⟨plainId_quiet plain_eq_loop _,codeAny_builtin entry_eq_loop (by
        rw [Around.under_plainId plain_eq_loop _]
        exact ih (i + 1) (om23 hk) A R _ hl hb he (by simpa using h))⟩
    | false=>
      rw [hb'] at h
      wp_walk using wpAny_loadPart' hl,wpAny_loadPart' hb
      rw [hi1,hi2]
      wp_walk
      simpa using h
theorem ne_lists {A:Around} {E:Value→Shared→Prop} {s:Shared} {l b:Addr} {vs ws:List Value} {e:Nat→Bool} {Q:Value→Shared→Prop} (hl:s.heap.IsList l vs.toArray) (hb:s.heap.IsList b ws.toArray) (hu:A.units < cLine)
    (he:vs.length=ws.length→∀ j (h1:j < vs.length) (h2:j < ws.length),EqIn prog w A.in1 s vs[j] ws[j] (e j)) (h:Q (.bool (!(vs.length == ws.length && (List.range vs.length).all e))) s) :
    wpAny (model prog w) A (compareOp .NotEq (.ref l) (.ref b)) Q E s:=by
  obtain ⟨⟨cls,dd,data,sl⟩,ho,hc,n,hd⟩:=id hl
  obtain ⟨⟨cls2,dd2,data2,sl2⟩,ho2,hc2,n2,hd2⟩:=id hb
  simp only at hc hd hc2 hd2
  subst hc hd hc2 hd2
  refine wpAny_richCompare_same_room (op:=.NotEq) ⟨_,ho,rfl⟩ ⟨_,ho2,rfl⟩ PySem.F.slot_list_ne ?_ hu
  refine wpAny_call (codeAny_call_builtin PySem.F.slot_list_ne.plain PySem.F.entry_list_ne (PySem.F.slot_list_ne.check _ _ _ _ _ _ _ _ ⟨_,ho,rfl⟩ (PySem.F.args_list_ne_2 _ _) ?_))
  have f3:=AutoSeq1.sub_list_list
  obtain ⟨hp,g,d,tk,os⟩:=s
  by_cases hsz:vs.length=ws.length
  · have hne:¬ (vs.toArray.size != ws.toArray.size)=true:=by simp [hsz]
    wp_walk using wpAny_loadPart' ho,wpAny_loadPart' ho2
    refine ⟨plainId_quiet plain_eq_loop _,codeAny_builtin entry_eq_loop (by
      rw [Around.under_plainId plain_eq_loop _]
      exact ne_loop l b vs ws n n2 dd dd2 sl sl2 e hsz _ 0 rfl A (wants (fun v s'=>v ≠ .notImplemented∧Q v s') E) _ ho ho2 (he hsz) ⟨(fun x=>nomatch x),by simpa [hsz] using h⟩)⟩
  · have hne:(vs.toArray.size != ws.toArray.size)=true:=by simpa using hsz
    wp_walk using wpAny_loadPart' ho,wpAny_loadPart' ho2
    refine ⟨(fun x=>nomatch x),?_⟩
    rw [beq_eq_false_iff_ne.mpr hsz] at h
    exact h
variable {G:Gl} {X:Addr→Prop}
theorem RepK.flatI {h:Heap}:∀ {kvs kv},RepK G X h kv kvs→∀ {t},flatK kvs=some t→kv.map (fun p=>(p.1,valI p.2))=t∧∀ p ∈ kv,∃ i u,p.2=.int i u
  | [],_,r,_,e=>Option.some.inj e ▸ r ▸ ⟨rfl,fun z hp=>nomatch hp⟩
  | (k,d) :: _,_,⟨v,_,r,a,b⟩,t,e=>by
    subst r
    revert a
    refine onI_ (d:=d) e fun x e ⟨u,a⟩=>map_ e fun ys e1 e2=>?_
    subst a e2
    have ih:=RepK.flatI b e1
    refine ⟨congrArg (_ :: ·) ih.1,fun p hp=>?_⟩
    cases hp with
    | head=>exact ⟨x,u,rfl⟩
    | tail _ hp=>exact ih.2 p hp
theorem lookI_valueAt (k:Str):∀ {kv:List (Str × Value)},(∀ p ∈ kv,∃ i u,p.2=.int i u)→
    (lookI k (kv.map (fun p=>(p.1,valI p.2)))=none∧valueAt kv k=none) ∨
    ∃ i u,lookI k (kv.map (fun p=>(p.1,valI p.2)))=some i∧valueAt kv k=some (.int i u)
  | [],_=>.inl ⟨rfl,rfl⟩
  | (k',v) :: r,h=>by
    obtain ⟨i,u,e⟩:=h (k',v) (.head _)
    simp only at e
    subst e
    have ih:=lookI_valueAt k (kv:=r) fun p hp=>h p (.tail _ hp)
    simp only [lookI,valueAt,List.map_cons,List.find?_cons] at ih ⊢
    by_cases e:k'=k
    · simp only [e,beq_self_eq_true,decide_true]
      exact .inr ⟨i,u,rfl,rfl⟩
    · simp only [beq_eq_false_iff_ne.mpr e,e,decide_false]
      exact ih
theorem hits_of {A:Around} {s:Shared} {kb:List (Str × Value)} (hb:∀ p ∈ kb,∃ i u,p.2=.int i u):∀ {ka:List (Str × Value)},(∀ p ∈ ka,∃ i u,p.2=.int i u)→
    KeqHits A s kb ka ((ka.map (fun p=>(p.1,valI p.2))).all fun p=>lookI p.1 (kb.map (fun p=>(p.1,valI p.2))) == some p.2)
  | [],_=>.nil
  | (k,v) :: r,h=>by
    obtain ⟨i,u,e⟩:=h (k,v) (.head _)
    simp only at e
    subst e
    have ih:=hits_of (A:=A) (s:=s) hb (ka:=r) fun p hp=>h p (.tail _ hp)
    simp only [List.map_cons,List.all_cons]
    rcases lookI_valueAt k hb with ⟨e1,e2⟩ | ⟨j,t,e1,e2⟩
    · rw [e1]
      exact .miss e2
    · rw [e1]
      refine .hit e2 ?_ ih
      have q:=SeqAt.EqAt.int_int (A:=A) (s:=s) i u j t
      have:(some j == some (valI (.int i u)))=(i == j):=by
        show (some j == some i)=(i == j)
        by_cases e:i=j
        · subst e; simp
        · have h1:(i == j)=false:=beq_eq_false_iff_ne.mpr e
          rw [h1]
          exact beq_eq_false_iff_ne.mpr fun e'=>e (Option.some.inj e').symm
      rw [this]
      exact q
theorem eqFlat_refl:∀ {t:List (Str × Int)},(t.map (·.1)).Nodup→eqFlat t t=true:=by
  intro t h
  simp only [eqFlat,beq_self_eq_true,Bool.true_and,List.all_eq_true]
  intro p hp
  have:lookI p.1 t=some p.2:=by
    induction t with
    | nil=>cases hp
    | cons q r ih=>
      simp only [lookI,List.find?_cons]
      rcases List.mem_cons.mp hp with rfl | hp
      · simp
      · have hn:q.1 ≠ p.1:=fun e=>by
          simp only [List.map_cons,List.nodup_cons] at h
          exact h.1 (e ▸ List.mem_map_of_mem hp)
        simp only [beq_eq_false_iff_ne.mpr hn]
        exact ih (by simp only [List.map_cons,List.nodup_cons] at h; exact h.2) hp
  rw [this]; simp
theorem pairs_unique {es:List DictEntry} {ka kb:List (Str × Value)} (h:Pairs (PySem.strKind prog w) es ka) (h':Pairs (PySem.strKind prog w) es kb):ka=kb:=by
  induction h generalizing kb with
  | nil=>cases h'; rfl
  | cons h1 h2 _ ih=>
    cases h' with
    | cons k1 k2 k3=>
      rw [ih k3]
      congr 1
      exact Prod.ext ((PySem.strKind prog w).inj _ _ _ h1 k1) (h2.symm.trans k2)
theorem eqIn_tabs {A:Around} {s:Shared} {v y:Value} {kvs kvs':List (Str × D)} {t t':List (Str × Int)} (r:Rep G X s.heap v (.dict kvs)) (r':Rep G X s.heap y (.dict kvs')) (e:flatK kvs=some t) (e':flatK kvs'=some t') (hu:A.units < cLine) :
    EqIn G.prog G.w A s v y (eqFlat t t'):=by
  obtain ⟨a,ka,rfl,p,q⟩:=(Rep.w r).dict_
  obtain ⟨b,kb,rfl,p',q'⟩:=(Rep.w r').dict_
  have f:=q.flatI e
  have f':=q'.flatI e'
  intro E Q hQ
  by_cases hab:a=b
  · subst hab
    obtain ⟨_,o,es,ep,g1,g2,g3,g4,g5,g6⟩:=p
    obtain ⟨_,o',es',ep',g1',g2',g3',g4',g5',g6'⟩:=p'
    rw [g1] at g1'
    cases g1'
    rw [g3] at g3'
    cases g3'
    have:ka=kb:=pairs_unique g5 g5'
    subst this
    have ett:t=t':=f.1.symm.trans f'.1
    subst ett
    have nd:(t.map (·.1)).Nodup:=by rw [← f.1]; simpa [List.map_map,Function.comp_def] using g6
    rw [eqFlat_refl nd] at hQ
    exact SeqAt.EqAt.same (A:=A) (s:=s) (.ref a) G.prog G.w E Q hQ
  · unfold eqBool
    refine wpAny_holding ?_
    refine wpAny_ite_split (fun h=>absurd (by have:=eq_of_beq h; injection this) hab) (fun u=>?_)
    refine wpAny_bind (keq_eq p.1 p'.1 p.2 p'.2 hu (fun u=>hits_of f'.2 f.2) (wpAny_truthy_bool ?_))
    have e1:(ka.length == kb.length)=(t.length == t'.length):=by rw [← f.1,← f'.1]; simp
    rw [e1,f.1,f'.1]
    exact hQ
theorem flats_get:∀ {ds:List D} {ts},flats ds=some ts→ds.length=ts.length∧∀ {i:Nat} {d:D},ds[i]?=some d→∃ kvs t,d=.dict kvs∧ts[i]?=some t∧flatK kvs=some t
  | [],_,e=>Option.some.inj e ▸ ⟨rfl,fun {_ _} h=>nomatch h⟩
  | _ :: _,_,e=>onD_ e fun kvs e=>bind_ e fun t e1 e=>map_ e fun u e2 e3=>e3 ▸
    have ih:=flats_get e2
    ⟨congrArg Nat.succ ih.1,fun {i d} h=>match i,h with
      | 0,h=>⟨kvs,t,(Option.some.inj h).symm,rfl,e1⟩
      | _ + 1,h=>ih.2 h⟩
theorem eqFlats_range {p q:List (List (Str × Int))} (h:p.length=q.length):((p.zip q).all fun x=>eqFlat x.1 x.2)=(List.range p.length).all fun j=>eqFlat (p.getD j []) (q.getD j []):=by
  induction p generalizing q with
  | nil=>rfl
  | cons x p ih=>
    cases q with
    | nil=>simp at h
    | cons y q=>
      rw [List.zip_cons_cons,List.all_cons,ih (by simpa using h),List.length_cons,List.range_succ_eq_map,List.all_cons,List.all_map]
      rfl
theorem neTabs_sound {A:Around} {E:Value→Shared→Prop} {s:Shared} {v y:Value} {d d':D} {b:Bool} (r:RepW G X s.heap v d) (r':RepW G X s.heap y d') (hu:A.units + 1 < cLine) (ev:neTabs d d'=some b) :
    wpAny (model G.prog G.w) A (compareOp .NotEq v y) (fun v s'=>v=.bool b∧Keeps s s') E s:=by
  revert r r'
  refine onL_ ev fun ds ev=>onL_ ev fun ds' ev r r'=>bind_ ev fun p e1 ev=>bind_ ev fun q e2 ev=>if_ ev fun u ev=>?_
  cases ev
  obtain ⟨l,vs,rfl,hl,rl⟩:=r.list_
  obtain ⟨l',ws,rfl,hl',rl'⟩:=r'.list_
  have g:=flats_get e1
  have g':=flats_get e2
  refine ne_lists (e:=fun j=>eqFlat (p.getD j []) (q.getD j [])) hl hl' (Nat.lt_of_succ_lt hu) (fun hsz j h1 h2=>?_) ⟨?_,Keeps.rfl⟩
  · obtain ⟨d1,k1,r1⟩:=rl.get' (List.getElem?_eq_getElem h1)
    obtain ⟨d2,k2,r2⟩:=rl'.get' (List.getElem?_eq_getElem h2)
    obtain ⟨kvs,t,rfl,t1,f1⟩:=g.2 k1
    obtain ⟨kvs',t',rfl,t2,f2⟩:=g'.2 k2
    rw [List.getD_eq_getElem?_getD,List.getD_eq_getElem?_getD,t1,t2]
    exact eqIn_tabs (A:=A.in1) r1 r2 f1 f2 hu
  · unfold eqFlats
    rw [rl.length,rl'.length,g.1,g'.1]
    by_cases hsz:p.length=q.length
    · rw [eqFlats_range hsz]
    · rw [beq_eq_false_iff_ne.mpr hsz,Bool.false_and,Bool.false_and]
end
end Mine
namespace Mine
open PySem PySem.W PyProof.Rows
section
variable {G:Gl} {X:Addr→Prop} {s:Shared} {A:Around} {E:Value→Shared→Prop}
theorem eq_sound {a b:Value} {da db:D} {r:Bool} {k:Nat} (rm:Room A k) (ra:RepW G X s.heap a da) (rb:RepW G X s.heap b db) (ev:eqD da db=some r) :
    wpAny (model G.prog G.w) A (compareOp .Eq a b) (fun v s'=>v=.bool r∧Keeps s s') E s ∧
    wpAny (model G.prog G.w) A (compareOp .NotEq a b) (fun v s'=>v=.bool (!r)∧Keeps s s') E s:=
  bind_ ev fun x e1 ev=>bind_ ev fun y e2 ev=>if_ ev fun hc ev=>and_ hc fun hc h3=>and_ hc fun h1 h2=>Option.some.inj ev ▸
    (repW_reads ra e1).elim fun as r1=>(repW_reads rb e2).elim fun bs r2=>
    have hu:A.units + min x.depth y.depth < cLine:=Nat.lt_of_le_of_lt (Nat.add_le_add_left (Nat.le_trans (Nat.min_le_left _ _) (Nat.le_trans (of_decide_eq_true h1) (by decide))) _) rm.un
    ⟨SeqAt.compareEq_reads r1 r2 h2 h3 hu ⟨rfl,Keeps.rfl⟩,SeqAt.compareNe_reads r1 r2 h2 h3 hu ⟨rfl,Keeps.rfl⟩⟩
theorem cmp_sound {op:Cop} {o:CmpOp} {a b:Value} {da db:D} {r:Bool} {k:Nat} (rm:Room A k) (ra:RepW G X s.heap a da) (rb:RepW G X s.heap b db) (ok:copOk op o=true) (ev:evCmp op da db=some r) :
    wpAny (model G.prog G.w) A (compareOp o a b) (fun v s'=>v=.bool r∧Keeps s s') E s:=by
  cases eqb_ ok
  clear ok
  have hun:A.units + 1 < cLine:=Nat.lt_of_le_of_lt (Nat.add_le_add_left (by decide) _) rm.un
  revert ra rb
  cases op with
  | eq=>exact fun ra rb=>(eq_sound rm ra rb ev).1
  | ne=>exact or_ (show orO ((eqD da db).map (!·)) (fun z=>neTabs da db)=some r from ev) (fun ev ra rb=>map_ ev fun q e1 e2=>e2 ▸ (eq_sound rm ra rb e1).2) fun ev ra rb=>neTabs_sound ra rb hun ev
  | lt=>
    refine caI_ ev (fun x ev=>onI_ ev fun y ev ra rb=>?_) fun ev=>caS_ ev (fun x ev=>onS_ ev fun y ev ra rb=>?_) fun ev=>onL_ ev fun x ev=>onL_ ev fun y ev ra rb=>bind_ ev fun p e1 ev=>map_ ev fun q e2 ev=>?_
    all_goals cases ev
    · obtain ⟨t,rfl⟩:=ra.int_
      obtain ⟨u,rfl⟩:=rb.int_
      exact P.lt_int ⟨rfl,Keeps.rfl⟩
    · obtain ⟨t,rfl⟩:=ra.str_
      obtain ⟨u,rfl⟩:=rb.str_
      exact P.lt_str ⟨rfl,Keeps.rfl⟩
    · obtain ⟨l,vs,rfl,hl,rl⟩:=ra.list_
      obtain ⟨l',ws,rfl,hl',rl'⟩:=rb.list_
      exact lt_lists hl hl' (strs_of rl e1) (strs_of rl' e2) (Nat.lt_of_succ_lt hun) ⟨rfl,Keeps.rfl⟩
  | gt=>
    refine caI_ ev (fun x ev=>onI_ ev fun y ev ra rb=>?_) fun ev=>caS_ ev (fun x ev=>onS_ ev fun y ev ra rb=>?_) fun ev=>onL_ ev fun x ev=>onL_ ev fun y ev ra rb=>bind_ ev fun p e1 ev=>map_ ev fun q e2 ev=>?_
    all_goals cases ev
    · obtain ⟨t,rfl⟩:=ra.int_
      obtain ⟨u,rfl⟩:=rb.int_
      exact P.gt_int ⟨rfl,Keeps.rfl⟩
    · obtain ⟨t,rfl⟩:=ra.str_
      obtain ⟨u,rfl⟩:=rb.str_
      exact P.gt_str ⟨rfl,Keeps.rfl⟩
    · obtain ⟨l,vs,rfl,hl,rl⟩:=ra.list_
      obtain ⟨l',ws,rfl,hl',rl'⟩:=rb.list_
      exact gt_lists hl hl' (strs_of rl e2) (strs_of rl' e1) (Nat.lt_of_succ_lt hun) ⟨rfl,Keeps.rfl⟩
  | le=>
    refine onI_ ev fun x ev=>onI_ ev fun y ev ra rb=>?_
    cases ev
    obtain ⟨t,rfl⟩:=ra.int_
    obtain ⟨u,rfl⟩:=rb.int_
    exact P.le_int ⟨rfl,Keeps.rfl⟩
  | isin=>
    refine onS_ ev fun x ev=>onD_ ev fun y ev ra rb=>?_
    cases ev
    obtain ⟨t,rfl⟩:=ra.str_
    obtain ⟨a,kv,rfl,p,r⟩:=rb.dict_
    exact wpAny_in_of (strKind_is G.prog G.w _ t) p.1 p.2.mapOf ⟨by rw [RepK.any _ r],Keeps.toks _⟩
theorem seqIndex_pos {i:Int} {n:Nat} (h0:0 ≤ i) (h1:i.toNat < n):seqIndex? i n=some i.toNat:=by
  unfold seqIndex?
  have a:¬ i < 0:=om126 h0
  have b:i < (n:Int):=om127 h1
  simp [a,h0,b]
theorem get_sound {a b:Value} {da db d:D} (ra:RepW G X s.heap a da) (rb:RepW G X s.heap b db) (ev:evSub da db=some d) :
    (∃ T id,s.TypeIs a T∧typeLookup (.type T) "__getitem__"=pure (some (.builtin id))) ∧
    wpAny (model G.prog G.w) A (getItem a b) (fun v s'=>Keeps s s'∧Rep G X s'.heap v d) E s:=by
  have e63:(2:Int) ^ 63=9223372036854775808:=by decide
  revert ra rb
  refine caL_ ev (fun ds ev=>onI_ ev fun i ev ra rb=>?_) fun ev=>caT_ ev (fun ds ev=>onI_ ev fun i ev ra rb=>if_ ev fun hc ev=>?_) fun ev=>onD_ ev fun kvs ev=>onS_ ev fun k ev ra rb=>?_
  · obtain ⟨l,vs,rfl,p,r⟩:=ra.list_
    obtain ⟨t,rfl⟩:=rb.int_
    refine ⟨⟨"list", _,let ⟨o,e1,e2,_⟩:=p; ⟨o,e1,e2⟩,slot_list_getitem.lookup⟩,ife_ ev (fun h0 ev=>if_ ev fun h1 ev=>?_) fun h0 ev=>if_ ev fun h1 ev=>?_⟩
    · obtain ⟨v,hv,rv⟩:=r.get ev
      exact wpAny_getItem_list p h0 (om128 h1) (by rw [List.getElem?_toArray]; exact hv) ⟨Keeps.rfl,rv⟩
    · rw [← r.length] at ev h1
      obtain ⟨v,hv,rv⟩:=r.get ev
      exact wpAny_getItem_list_neg p (Int.not_le.mp h0) (by rw [List.size_toArray]; exact h1.1) (om129 h1) (by rw [List.getElem?_toArray,List.size_toArray]; exact hv) ⟨Keeps.rfl,rv⟩
  · obtain ⟨l,vs,rfl,_,p,r⟩:=ra.tuple_
    obtain ⟨t,rfl⟩:=rb.int_
    obtain ⟨v,hv,rv⟩:=r.get ev
    refine ⟨⟨"tuple", _,let ⟨o,e1,e2,_⟩:=p; ⟨o,e1,e2⟩,slot_tuple_getitem.lookup⟩,?_⟩
    exact getItem_tuple (j:=i.toNat) p (om130 hc) (om131 hc) (seqIndex_pos hc.1 (List.getElem?_eq_some_iff.mp hv).1) (by rw [List.getElem?_toArray]; exact hv) ⟨Keeps.rfl,rv⟩
  · obtain ⟨a,kv,rfl,p,r⟩:=ra.dict_
    obtain ⟨t,rfl⟩:=rb.str_
    obtain ⟨v,hv,rv⟩:=(RepK.look k r).1 _ ev
    exact ⟨⟨"dict", _,p.2.typeIs,slot_dict_getitem.lookup⟩,wpAny_getItem_of (strKind_is G.prog G.w k t) p.2.mapOf hv ⟨Keeps.toks _,rv⟩⟩
theorem sub_sound {value slice:PySem.Expr} {a b:Value} {da db d:D} (ra:RepW G X s.heap a da) (rb:RepW G X s.heap b db) (ev:evSub da db=some d) (hs:∀ o i,subscripted slice false o i=operate [o,i] (getItem o i)) :
    wpAny (model G.prog G.w) A (subscriptTail value slice a b) (fun v s'=>Keeps s s'∧Rep G X s'.heap v d) E s:=by
  obtain ⟨⟨T,id,h1,h2⟩,h3⟩:=get_sound (A:=A) (E:=E) ra rb ev
  exact tail_any h1 h2 h3 (hs _ _)
theorem RepL.pick {h:Heap} {vs:List Value} {ds:List D} (r:RepL G X h vs ds):∀ is:List Nat,RepL G X h (is.filterMap (vs[·]?)) (is.filterMap (ds[·]?))
  | []=>.nil
  | i :: is=>by
    have ih:=RepL.pick r is
    cases e:ds[i]? with
    | none=>
      have e':vs[i]?=none:=by rw [List.getElem?_eq_none_iff] at e ⊢; rw [r.length]; exact e
      simpa [List.filterMap_cons,e,e'] using ih
    | some d=>
      obtain ⟨v,e',rv⟩:=r.get e
      simpa [List.filterMap_cons,e,e'] using RepL.cons rv ih
theorem none_of_ix:∀ {d:D},d.ctorIdx=0→d=.none
  | .none,_=>rfl
  | .bool _,h | .int _,h | .str _,h | .tuple _,h | .list _,h | .dict _,h | .obj _,h | .opq _,h=>nomatch h
theorem part_of {h:Heap} {v:Value} {d:D} {o:Option Int} (r:RepW G X h v d) (e:optInt d=some o):IsPart v o∧∃ p,v=partValue p∧p.map (·.1)=o:=by
  revert r
  refine ife_ e (fun hd e=>?_) fun u e=>onI_ e fun i e r=>?_
  · cases none_of_ix hd
    cases e
    intro r
    rw [r.none_]; exact ⟨.none,none,rfl,rfl⟩
  · cases e
    obtain ⟨t,rfl⟩:=r.int_; exact ⟨.int _ _,some (_,t),rfl,rfl⟩
theorem slice_sound {value slice:PySem.Expr} {ops:List Value} {a l u st:Value} {sl:Addr} {da dl du ds d:D} (lv:Live X s.heap) (ra:RepW G X s.heap a da) (rl:RepW G X s.heap l dl) (ru:RepW G X s.heap u du) (rs:RepW G X s.heap st ds)
    (hsl:s.heap.get? sl=some { cls:=.type "slice", data:=.fields #[l,u,st] }) (ev:evSlice da dl du ds=some d) (hs:subscripted slice false a (.ref sl)=operate ops (getItem a (.ref sl))) :
    wpAny (model G.prog G.w) A (subscriptTail value slice a (.ref sl)) (fun v s'=>Keeps s s'∧Rep G X s'.heap v d) E s:=by
  revert ra
  refine caL_ ev (fun x ev ra=>bind_ ev fun lo e1 ev=>bind_ ev fun hi e2 ev=>bind_ ev fun stp e3 ev=>if_ ev fun hc ev=>?_) fun ev=>onS_ ev fun x ev ra=>bind_ ev fun lo e1 ev=>bind_ ev fun hi e2 ev=>?_
  · cases ev
    obtain ⟨l,vs,rfl,p,r⟩:=ra.list_
    have l1:=r.length
    have q2:=(fresh_list lv (r.pick (sliceRange (sliceBounds lo hi stp vs.length).1 (sliceBounds lo hi stp vs.length).2.1 (sliceBounds lo hi stp vs.length).2.2))).2
    refine tail_any (T:="list") (let ⟨o,e1,e2,_⟩:=p; ⟨o,e1,e2⟩) slot_list_getitem.lookup (wpAny_getItem_list_slice p ⟨_,hsl,rfl,rfl⟩ (part_of rl e1).1 (part_of ru e2).1 (part_of rs e3).1 hc.1 ⟨Keeps.push _,?_⟩ (by rw [List.size_toArray,l1]; exact Nat.le_trans hc.2 (by rw [sizeLine_eq]; decide))) hs
    simp only [slicePick,List.size_toArray,List.getElem?_toArray]
    rw [l1] at q2 ⊢
    exact q2
  · refine ifO_ ev fun hc e4=>?_
    clear ev
    obtain ⟨t,rfl⟩:=ra.str_
    obtain ⟨_,pl,rfl,hl⟩:=part_of rl e1
    obtain ⟨_,pu,rfl,hu⟩:=part_of ru e2
    cases none_of_ix hc.1
    cases rs.none_
    refine tail_any (T:="str") (typeIs_str s x t) F.slot_str_getitem.lookup (wpAny_getItem_str_slice (l:=pl) (u:=pu) (st:=none) ⟨_,hsl,rfl,rfl⟩ rfl ?_) hs
    have hp:slicePicked x pl pu none=Builtin.Str.strSliceIndices lo hi 1 x.length:=by unfold slicePicked; rw [hl,hu]; rfl
    unfold sliceMade
    rw [hp,show ((Option.map (fun x:Int × Tok=>x.fst) none).getD 1 == 1)=true from rfl,Bool.true_and]
    subst e4
    by_cases h1:((Builtin.Str.strSliceIndices lo hi 1 x.length).length == x.length)=true
    · rw [if_pos h1,if_pos h1]
      exact ⟨Keeps.rfl,.str _ _⟩
    · rw [if_neg h1,if_neg h1]
      refine ⟨?_,Keeps.toks _,.str _ _⟩
      show (List.toArray _).size ≤ sizeLine
      rw [List.size_toArray]
      exact Nat.le_trans (List.length_filterMap_le _ _) (cap_line hc.2.2)
end
noncomputable def bfVal:Bf→Value
  | .len=>.builtin "len"
  | .sum=>.builtin "sum"
  | .max=>.builtin "max"
  | .tuple=>.type "tuple"
theorem foldl_max_mem:∀ (xs:List Int) (x:Int),xs.foldl max x ∈ x :: xs∧∀ y ∈ x :: xs,y ≤ xs.foldl max x
  | [],x=>⟨.head _,fun y hy=>by rcases List.mem_cons.mp hy with rfl | h; exact Int.le_refl _; cases h⟩
  | z :: xs,x=>by
    have ih:=foldl_max_mem xs (max x z)
    simp only [List.foldl_cons]
    refine ⟨?_,fun y hy=>?_⟩
    · rcases List.mem_cons.mp ih.1 with h | h
      · rw [h]
        by_cases hxz:x ≤ z
        · rw [Int.max_eq_right hxz]; exact .tail _ (.head _)
        · rw [Int.max_eq_left (om132 hxz)]; exact .head _
      · exact .tail _ (.tail _ h)
    · have h0:=ih.2 (max x z) (.head _)
      have h1:=Int.le_max_left x z
      have h2:=Int.le_max_right x z
      rcases List.mem_cons.mp hy with rfl | hy
      · exact om133 h0
      · rcases List.mem_cons.mp hy with rfl | hy
        · exact om134 h0
        · exact ih.2 y (.tail _ hy)
section
variable {G:Gl} {X:Addr→Prop} {s:Shared} {A:Around} {E:Value→Shared→Prop}
theorem fresh_tuple {vs:List Value} {ds:List D} {h:Heap} (lv:Live X h) (r:RepL G X h vs ds) :
    Rep G X (h.push { cls:=.type "tuple", data:=.seq vs.toArray }) (.ref h.objs.size) (.tuple ds):=
  .tuple (lv.fresh (none_size h)) ⟨_,Heap.get?_push_size _ rfl,rfl,_,rfl⟩ (r.mono fun u u u q=>Heap.get?_push_of_some _ q)
theorem bf_sound {f:Bf} {a:Value} {da d:D} {k:Nat} (rm:Room A k) (lv:Live X s.heap) (ra:RepW G X s.heap a da) (ev:evBf f da=some d) :
    wpAny (model G.prog G.w) A (call (bfVal f) [a]) (fun v s'=>Keeps s s'∧Rep G X s'.heap v d) E s:=by
  revert ra
  cases f with
  | len=>
    refine caL_ ev (fun ds ev ra=>if_ ev fun hc ev=>?_) fun ev=>onT_ ev fun ds ev ra=>if_ ev fun hc ev=>?_
    · cases ev
      obtain ⟨l,vs,rfl,p,r⟩:=ra.list_
      rw [← r.length] at hc ⊢
      exact Calls.call_len_list p (by rw [List.size_toArray]; exact big63 hc) ⟨Keeps.toks _,.int _ _⟩
    · cases ev
      obtain ⟨l,vs,rfl,_,p,r⟩:=ra.tuple_
      rw [← r.length] at hc ⊢
      exact PyProof.Rows.len_tuple p (by rw [List.size_toArray]; exact big63 hc) ⟨Keeps.toks _,.int _ _⟩
  | sum=>
    refine onL_ ev fun ds ev ra=>map_ ev fun ns e ev=>?_
    subst ev
    obtain ⟨l,vs,rfl,hl,r⟩:=ra.list_
    have hi:=ints_of r e
    obtain ⟨xs,hx⟩:=hi.allInts.items
    refine sum_intListG rm.handled (hx ▸ hl:s.heap.IsList l (intItems xs)) fun h' tk t' hk=>?_
    have e1:ns=xs.toList.map (·.1):=by
      rw [← nums_intItems,← hx]
      exact (show numsOf vs.toArray.toList=ns from hi.numsOf).symm
    rw [preSum_eq,List.take_of_length_le (by simp),← e1]
    exact ⟨Keeps.mk' hk,.int _ _⟩
  | max=>
    refine onL_ ev fun ds ev ra=>bind_ ev fun zs e ev=>map_ ev fun x e3 ev=>?_
    subst ev
    cases zs with
    | nil=>cases e3
    | cons z ys=>
      cases e3
      obtain ⟨l,vs,rfl,hl,r⟩:=ra.list_
      have hi:=ints_of r e
      obtain ⟨xs,hx⟩:=hi.allInts.items
      have e1:x :: ys=xs.toList.map (·.1):=by
        rw [← nums_intItems,← hx]
        exact (show numsOf vs.toArray.toList=x :: ys from hi.numsOf).symm
      have hn:(xs.toList.map (·.1)).length=xs.size:=by rw [List.length_map,Array.length_toList]
      have hsz:0 < xs.size:=by rw [← hn,← e1]; exact Nat.succ_pos _
      refine max_intList rm.handled (hx ▸ hl:s.heap.IsList l (intItems xs)) hsz fun v h' tk hv hk=>?_
      obtain ⟨t,rfl⟩:=intItems_at hv
      obtain ⟨h1,h2⟩:=argBest_gt (numAt xs) (xs.size - 1)
      have f:=foldl_max_mem ys x
      have e2:numAt xs (argBest (fun i j=>decide (numAt xs i > numAt xs j)) (xs.size - 1))=ys.foldl max x:=by
        refine Int.le_antisymm (f.2 _ ?_) ?_
        · rw [e1,numAt_eq]; exact getD_mem (by rw [hn]; exact om135 hsz h1)
        · obtain ⟨j,hj,e⟩:=mem_getD (e1 ▸ f.1)
          rw [← e,← numAt_eq]
          exact h2 j (by rw [hn] at hj; exact om136 hj)
      rw [e2]
      exact ⟨Keeps.mk' hk,.int _ _⟩
  | tuple=>
    refine onL_ ev fun ds ev ra=>if_ ev fun hc ev=>?_
    cases ev
    obtain ⟨l,vs,rfl,p,r⟩:=ra.list_
    rw [← r.length] at hc
    refine call_tuple_list p (fun h' hk=>⟨?_,fresh_tuple (lv.mono fun a o=>hk a o) (r.mono fun a o u=>hk a o)⟩) (by rw [List.size_toArray]; exact cap_line hc)
    exact Keeps.mk' (t:=s.toks) fun b o e=>Heap.get?_push_of_some _ (hk b o e)
end
noncomputable def mtId:Mt→String
  | .count=>"list.count"
  | .get=>"dict.get"
  | .join=>"str.join"
  | .startswith=>"str.startswith"
  | .split=>"str.split"
  | .compare=>""
theorem countIn_countP (k:Str):∀ ys:List Str,PySem.Spec.countIn (.str k) (ys.map PyData.str)=((ys.countP (· == k):Nat):Int)
  | []=>rfl
  | y :: ys=>by
    rw [List.map_cons,PySem.Spec.countIn,List.countP_cons,countIn_countP k ys]
    simp only [PySem.Spec.same]
    rcases Bool.eq_false_or_eq_true (y == k) with hb | hb <;> simp only [hb,Bool.false_eq_true,if_true,if_false] <;> push_cast <;> omega
section
variable {G:Gl} {X:Addr→Prop} {s:Shared} {A:Around} {E:Value→Shared→Prop}
theorem mt_method {Φ:FEnv} {m:Mt} {o:Value} {do' d:D} {dargs:List D} {pl:Sem Bool} {Q:Value × List Value→Shared→Prop} (hm:m ≠ .compare) (ro:RepW G X s.heap o do') (ev:evMt Φ m do' dargs=some d) (h:Q (.builtin (mtId m),[o]) s) :
    wpAny (model G.prog G.w) A (getMethod o (mtName m) pl) Q E s:=by
  revert ro
  cases m with
  | count=>
    refine onL_ ev fun ds u ro=>?_
    obtain ⟨a,vs,rfl,p,r⟩:=ro.listN_
    exact getMethod_builtin (let ⟨⟨o,e,c,_⟩,_⟩:=p; ⟨o,e,c⟩) F.plainAttrs_list F.slot_list_count F.type_list_count (fun b e=>Value.ref.inj e ▸ p.2) h
  | get=>
    refine onD_ ev fun ds u ro=>?_
    obtain ⟨a,kv,rfl,p,r⟩:=ro.dict_
    exact getMethod_builtin p.2.typeIs F.plainAttrs_dict F.slot_dict_get F.type_dict_get p.2.mapOf.noDict h
  | join=>exact onS_ ev fun u u ro=>ro.str_.elim fun u e=>by subst e; exact GM.join h
  | startswith=>exact onS_ ev fun u u ro=>ro.str_.elim fun u e=>by subst e; exact GM.startswith h
  | split=>exact onS_ ev fun u u ro=>ro.str_.elim fun u e=>by subst e; exact GM.split h
  | compare=>exact absurd rfl hm
theorem strs_values:∀ {vs xs},Strs vs xs→∃ l:List (Str × Tok),vs=strValues l∧l.map (·.1)=xs
  | _,_,.nil=>⟨[],rfl,rfl⟩
  | _,_,.cons (x:=x) (t:=t) r=>let ⟨l,e,q⟩:=strs_values r; ⟨(x,t) :: l,by rw [e]; rfl,by rw [List.map_cons,q]⟩
theorem repL_values {h:Heap}:∀ l:List (Str × Tok),RepL G X h (strValues l) ((l.map (·.1)).map .str)
  | []=>.nil
  | (x,t) :: r=>.cons (.str x t) (repL_values r)
theorem split_sound {x y:Str} {t u:Tok} {Q:Value→Shared→Prop} (hy:(y.length == 0)=false) (hsz:x.length ≤ sizeLine)
    (hsz2:(Builtin.Str.partsBetween x (Builtin.Str.occurrences x y 0 x.length (x.length + 1)) y.length).length ≤ sizeLine)
    (h:∀ (l:List (Str × Tok)) k,l.map (·.1)=Txt.split x y→Q (.ref s.heap.objs.size) { s with heap:=s.heap.push { cls:=.type "list", data:=.seq (strValues l).toArray },toks:=k }) :
    wpAny (model G.prog G.w) A (call (.builtin "str.split") [.str x t,.str y u]) Q E s:=by
  cases h1:(decide (x.length < y.length) || decide (Builtin.Str.strKind x < Builtin.Str.strKind y))
  · cases hf:(Builtin.Str.occurrences x y 0 x.length (x.length + 1)).isEmpty
    · refine call_meets F.slot_str_split (typeIs_str _ _ _) F.entry_str_split (F.args_str_split_2 _ _) (meets_str_split_sep x y t u h1 hy hf hsz hsz2) ?_
      show wants Q E _ { s with toks:=_,heap:=s.heap.push { cls:=.type "list", data:=.seq (strsFrom s.toks (Builtin.Str.partsBetween x (Builtin.Str.occurrences x y 0 x.length (x.length + 1)) y.length)).toArray } }
      rw [strsFrom_eq]
      exact h (numbered s.toks _) _ ((numbered_texts _ _).trans ((if_neg (ne_true_of_eq_false h1)).trans (if_neg (ne_true_of_eq_false hf))).symm)
    · exact call_meets F.slot_str_split (typeIs_str _ _ _) F.entry_str_split (F.args_str_split_2 _ _) (meets_str_split_not_found x y t u h1 hy hf)
        (h [(x,t)] s.toks ((if_neg (ne_true_of_eq_false h1)).trans (if_pos hf)).symm)
  · exact call_meets F.slot_str_split (typeIs_str _ _ _) F.entry_str_split (F.args_str_split_2 _ _) (meets_str_split_cannot_occur x y t u h1)
      (h [(x,t)] s.toks (if_pos h1).symm)
theorem mt_call {Φ:FEnv} {m:Mt} {o:Value} {do' d:D} {args:List Value} {dargs:List D} (lv:Live X s.heap) (hm:m ≠ .compare) (ro:RepW G X s.heap o do') (ra:RepL G X s.heap args dargs) (ev:evMt Φ m do' dargs=some d) :
    wpAny (model G.prog G.w) A (call (.builtin (mtId m)) (o :: args)) (fun v s'=>Keeps s s'∧Rep G X s'.heap v d) E s:=by
  revert ro
  cases m with
  | count=>
    refine onL_ ev fun ds ev ro=>bind_ ev fun x e1 ev=>map_ ev fun n e2 e3=>?_
    subst e3
    rw [one_ e1] at ra
    obtain ⟨v,rfl,rx⟩:=ra.one
    obtain ⟨a,vs,rfl,p,r⟩:=ro.list_
    revert rx
    refine caI_ e2 (fun i e ⟨t,q⟩=>map_ e fun xs e3 e4=>?_) fun e=>onS_ e fun i e ⟨t,q⟩=>map_ e fun xs e3 e4=>?_
    · subst q e4
      exact count_list_ints p (ints_of r e3) ⟨Keeps.toks _,.int _ _⟩
    · subst q e4
      refine count_list_strs p (strsAre_of (strs_of r e3)) ⟨Keeps.toks _,?_⟩
      rw [countIn_countP]
      exact .int _ _
  | get=>
    refine onD_ ev fun kvs ev ro=>bind_ ev fun x e1 ev=>bind_ ev fun y e2 ev=>onS_ (motive:=fun x=>dargs.head?=some x→_) ev (fun k ev e1=>?_) e1
    cases ev
    cases dargs with
    | nil=>cases e1
    | cons a r=>
      cases e1
      rw [show r=[y] from one_ e2] at ra
      obtain ⟨_,_,rfl,⟨t,rfl⟩,rb⟩:=ra
      obtain ⟨w,rfl,ry⟩:=rb.one
      obtain ⟨a,kv,rfl,p,r⟩:=ro.dict_
      refine call_meetsIn PySem.F.slot_dict_get p.2.typeIs PySem.F.entry_dict_get (PySem.F.args_dict_get_3 _ _ _) (meets_dict_get_default (PySem.strKind G.prog G.w) a (strKind_is G.prog G.w k t) p.1 _) ⟨_,p.2.mapOf,Keeps.toks _,?_⟩
      have q:=RepK.look k r
      cases e:lookD k kvs with
      | none=>rw [q.2.1 e]; exact ry
      | some d=>
        obtain ⟨v,e',rv⟩:=q.1 _ e
        rw [e']
        exact rv
  | join=>
    refine onS_ ev fun sep ev ro=>bind_ ev fun x e1 ev=>?_
    rw [one_ e1] at ra
    obtain ⟨v,rfl,rx⟩:=ra.one
    obtain ⟨t,rfl⟩:=ro.str_
    revert rx
    refine onL_ ev fun ds ev rx=>bind_ ev fun xs e ev=>if_ ev fun hj ev=>?_
    cases ev
    obtain ⟨a,vs,rfl,p,r⟩:=rx.w.list_
    obtain ⟨l,rfl,e2⟩:=strs_values (strs_of r e)
    exact SC.join p e2 hj fun t' k=>⟨Keeps.toks _,.str _ _⟩
  | startswith=>
    refine onS_ ev fun sep ev ro=>bind_ ev fun x e1 ev=>?_
    rw [one_ e1] at ra
    obtain ⟨v,rfl,rx⟩:=ra.one
    obtain ⟨t,rfl⟩:=ro.str_
    revert rx
    refine onS_ ev fun y ev ⟨u,e⟩=>?_
    subst e
    cases ev
    exact SC.startswith ⟨Keeps.rfl,.bool _⟩
  | split=>
    refine onS_ ev fun sep ev ro=>bind_ ev fun x e1 ev=>?_
    rw [one_ e1] at ra
    obtain ⟨v,rfl,rx⟩:=ra.one
    obtain ⟨t,rfl⟩:=ro.str_
    revert rx
    refine onS_ ev fun y ev ⟨u,e⟩=>if_ ev fun hc ev=>?_
    subst e
    cases ev
    refine split_sound hc.1 (cap_line hc.2.1) (cap_line hc.2.2) fun l k e=>⟨Keeps.mk' fun b o q=>Heap.get?_push_of_some _ q,?_⟩
    exact e ▸ (fresh_list lv (repL_values (G:=G) (X:=X) (h:=s.heap) l)).2
  | compare=>exact absurd rfl hm
end
structure BaseOK (G:Gl) (h:Heap):Prop where
  K:G.K.In h
  T:TopRead G.p G.loose G.mg G.mb h
theorem BaseOK.mono {G:Gl} {h h':Heap} (b:BaseOK G h) (k:∀ a o,h.get? a=some o→h'.get? a=some o):BaseOK G h':=⟨b.K.keeps k,b.T.keeps k⟩
theorem none_of_none {h h':Heap} {a:Addr} (k:∀ o,h.get? a=some o→h'.get? a=some o) (hn:h'.get? a=none):h.get? a=none:=by
  cases q:h.get? a with
  | none=>rfl
  | some o=>rw [k o q] at hn; cases hn
noncomputable def rd (h:Heap) (env:Env) (y:Str):Option Value:=
  match env.kindOf y with
  | some .local=>(match h.get? env.locals with
    | some o=>(match o.data with | .dict es _=>nsFind es y | _=>none)
    | none=>none)
  | some .cell | some .free=>(match env.cells.lookup y with
    | some c=>(match h.get? c with
      | some o=>(match o.data with | .cell v=>v | _=>none)
      | none=>none)
    | none=>none)
  | _=>none
section
variable {h h':Heap} {env:Env} {x y:Str} {v:Value}
theorem rd_local {m:Str→Option Value} (hk:env.kindOf y=some .local) (hn:h.Ns env.locals m):rd h env y=m y:=by
  obtain ⟨o,es,ep,e,d,_,f⟩:=hn
  unfold rd
  rw [hk]
  simp only [e,d]
  exact f y
theorem rd_cell {c:Addr} {v:Option Value} (hk:inCell (env.kindOf y)=true) (hc:env.cells.lookup y=some c) (hv:h.IsCell c v):rd h env y=v:=by
  obtain ⟨o,e,d⟩:=hv
  unfold rd
  cases hq:env.kindOf y with
  | none=>rw [hq] at hk; cases hk
  | some k=>
    rw [hq] at hk
    cases k <;> simp only [inCell,Bool.false_eq_true] at hk <;> simp only [hc,e,d]
end
structure OwnOK (G:Gl) (env:Env) (X:Addr→Prop) (h:Heap) (a:Addr) (d:D):Prop where
  x:X a
  rep:RepO G X h a d
  nl:a ≠ env.locals
  nc:∀ y c,env.cells.lookup y=some c→c ≠ a
structure FrOK (G:Gl) (I:FI) (sc:Scope) (wr:List Nat) (env:Env) (X W:Addr→Prop) (h:Heap) (σ:St):Prop where
  kind:env.scope.kind=.function
  glob:env.globals=mainGlobals
  blt:env.builtins=builtinsNs
  kinds:∀ x,env.kindOf x=sc.names.lookup x ∨ (sc.names.lookup x=some .free∧env.kindOf x=some .cell)
  nocd:∀ x,sc.names.lookup x=some .free→(x == Str.ofString "__classdict__")=false
  size:σ.length=I.tbl.length
  nodup:I.tbl.Nodup
  live:Live X h
  wx:∀ a,W a→X a
  ns:∃ m,h.Ns env.locals m
  lx:X env.locals
  cells:∀ x,inCell (env.kindOf x)=true→∃ c v,env.cells.lookup x=some c∧h.IsCell c v
  cx:∀ x c,env.cells.lookup x=some c→X c∧c ≠ env.locals
  cinj:∀ x y c,env.cells.lookup x=some c→env.cells.lookup y=some c→x=y
  writable:∀ i ∈ wr,∀ x,I.tbl[i]?=some x→(env.kindOf x=some .local→W env.locals)∧(env.kindOf x=some .cell→∀ c,env.cells.lookup x=some c→W c)
  vars:∀ i x d,I.tbl[i]?=some x→vis (sc.names.lookup x)=true→St.get σ i=some d→i ∉ I.own→∃ v,rd h env x=some v∧Rep G X h v d
  owns:∀ i x d,I.tbl[i]?=some x→vis (sc.names.lookup x)=true→St.get σ i=some d→i ∈ I.own→∃ a,rd h env x=some (.ref a)∧OwnOK G env X h a d∧(i ∈ wr→W a)
  apart:∀ i j x y a,i ≠ j→i ∈ I.own→j ∈ I.own→I.tbl[i]?=some x→I.tbl[j]?=some y→St.get σ i ≠ none→St.get σ j ≠ none→rd h env x=some (.ref a)→rd h env y ≠ some (.ref a)
section
variable {G:Gl} {I:FI} {sc:Scope} {wr:List Nat} {env:Env} {X W:Addr→Prop} {h h':Heap} {σ:St} {s:Shared} {A:Around} {E:Value→Shared→Prop}
theorem FrOK.kindOf_vis (F:FrOK G I sc wr env X W h σ) {x:Str} (hv:vis (sc.names.lookup x)=true):env.kindOf x=some .local ∨ inCell (env.kindOf x)=true:=by
  rcases F.kinds x with e | ⟨e1,e2⟩
  · rw [e]
    cases hq:sc.names.lookup x with
    | none=>rw [hq] at hv; cases hv
    | some k=>rw [hq] at hv; cases k <;> simp [vis,inCell] at hv ⊢
  · rw [e2]; exact .inr rfl
theorem rd_mono (F:FrOK G I sc wr env X W h σ) (k:∀ a o,h.get? a=some o→h'.get? a=some o) (x:Str):rd h' env x=rd h env x:=by
  cases hq:env.kindOf x with
  | none=>unfold rd; rw [hq]
  | some kd=>
    cases kd
    · obtain ⟨m,hn⟩:=F.ns
      rw [rd_local hq hn,rd_local hq (hn.keeps k)]
    · obtain ⟨c,v,hc,o,e,d⟩:=F.cells x (by rw [hq]; rfl)
      rw [rd_cell (by rw [hq]; rfl) hc ⟨o,e,d⟩,rd_cell (by rw [hq]; rfl) hc ⟨o,k _ _ e,d⟩]
    · obtain ⟨c,v,hc,o,e,d⟩:=F.cells x (by rw [hq]; rfl)
      rw [rd_cell (by rw [hq]; rfl) hc ⟨o,e,d⟩,rd_cell (by rw [hq]; rfl) hc ⟨o,k _ _ e,d⟩]
    · unfold rd; rw [hq]
    · unfold rd; rw [hq]
theorem FrOK.mono (F:FrOK G I sc wr env X W h σ) (k:∀ a o,h.get? a=some o→h'.get? a=some o):FrOK G I sc wr env X W h' σ where
  kind:=F.kind
  glob:=F.glob
  blt:=F.blt
  kinds:=F.kinds
  nocd:=F.nocd
  size:=F.size
  nodup:=F.nodup
  live:=F.live.mono k
  wx:=F.wx
  ns:=let ⟨m,hn⟩:=F.ns; ⟨m,hn.keeps k⟩
  lx:=F.lx
  cells:=fun x hx=>let ⟨c,v,hc,o,e,d⟩:=F.cells x hx; ⟨c,v,hc,o,k _ _ e,d⟩
  cx:=F.cx
  cinj:=F.cinj
  writable:=F.writable
  vars:=fun i x d h1 h2 h3 h4=>let ⟨v,e,r⟩:=F.vars i x d h1 h2 h3 h4; ⟨v,by rw [rd_mono F k]; exact e,r.mono fun a o u=>k a o⟩
  owns:=fun i x d h1 h2 h3 h4=>let ⟨a,e,r,w⟩:=F.owns i x d h1 h2 h3 h4; ⟨a,by rw [rd_mono F k]; exact e,⟨r.x,r.rep.mono (fun o=>k a o) fun a o u=>k a o,r.nl,r.nc⟩,w⟩
  apart:=fun i j x y a h1 h2 h3 h4 h5 h6 h7 h8=>by rw [rd_mono F k] at h8 ⊢; exact F.apart i j x y a h1 h2 h3 h4 h5 h6 h7 h8
theorem FrOK.load (F:FrOK G I sc wr env X W s.heap σ) {i:Nat} {x:Str} {pos:Pos} {d:D} {Q:Value→Shared→Prop} (ok:nameOk I sc x i=true) (hd:St.get σ i=some d)
    (h:∀ v,rd s.heap env x=some v→RepW G X s.heap v d→(i ∉ I.own→Rep G X s.heap v d)→Q v s):wpAny (model G.prog G.w) A (eval (.Name x pos) env) Q E s:=by
  simp only [nameOk,Bool.and_eq_true,beq_iff_eq,bne_iff_ne] at ok
  obtain ⟨⟨ht,hv⟩,hdb⟩:=ok
  have key:∃ v,rd s.heap env x=some v∧RepW G X s.heap v d∧(i ∉ I.own→Rep G X s.heap v d):=by
    by_cases ho:i ∈ I.own
    · obtain ⟨a,e,r,_⟩:=F.owns i x d ht hv hd ho
      exact ⟨_,e,.inr ⟨a,rfl,r.rep⟩,fun n=>absurd ho n⟩
    · obtain ⟨v,e,r⟩:=F.vars i x d ht hv hd ho
      exact ⟨v,e,r.w,fun u=>r⟩
  obtain ⟨v,e,r1,r2⟩:=key
  refine wpAny_Name ?_ (beq_eq_false_iff_ne.mpr hdb)
  have hq:=h v e r1 r2
  rcases F.kindOf_vis hv with hl | hc
  · obtain ⟨m,hn⟩:=F.ns
    rw [rd_local hl hn] at e
    exact wpAny_loadName_local F.kind hl hn e hq
  · obtain ⟨c,w,hcl,hcell⟩:=F.cells x hc
    rw [rd_cell hc hcl hcell] at e
    subst e
    cases hk:env.kindOf x with
    | none=>rw [hk] at hc; cases hc
    | some kd=>
      cases kd <;> rw [hk] at hc <;> simp only [inCell,Bool.false_eq_true] at hc
      · exact wpAny_loadName_cell F.kind hk hcl hcell hq
      · refine wpAny_loadName_free F.kind hk hcl hcell hq ?_
        rcases F.kinds x with e | ⟨_,e⟩
        · exact F.nocd x (e.symm.trans hk)
        · rw [hk] at e; cases e
noncomputable def KeepsW (W:Addr→Prop) (s s':Shared):Prop:=∃ h' tk,s'={ s with heap:=h',toks:=tk }∧∀ b o,¬ W b→s.heap.get? b=some o→h'.get? b=some o
theorem Keeps.toW {s s':Shared} (k:Keeps s s'):KeepsW W s s':=let ⟨h,t,e,q⟩:=k; ⟨h,t,e,fun b o u=>q b o⟩
theorem KeepsW.get {s s':Shared} (k:KeepsW W s s'):∀ b o,¬ W b→s.heap.get? b=some o→s'.heap.get? b=some o:=by
  obtain ⟨h,t,e,q⟩:=k
  subst e
  exact q
theorem KeepsW.rfl {s:Shared}:KeepsW W s s:=Keeps.toW Keeps.rfl
theorem St.get_put {σ:St} {i j:Nat} {d:D} (hi:i < σ.length):St.get (St.put σ i d) j=if j=i then some d else St.get σ j:=by
  unfold St.get St.put
  by_cases e:j=i
  · subst e
    simp [hi]
  · rw [List.getElem?_set_ne (fun h=>e h.symm)]
    simp [e]
theorem St.length_put {σ:St} {i:Nat} {d:D}:(St.put σ i d).length=σ.length:=List.length_set
theorem tbl_inj (hn:I.tbl.Nodup) {i j:Nat} {x:Str} (h1:I.tbl[i]?=some x) (h2:I.tbl[j]?=some x):i=j:=by
  obtain ⟨p,e1⟩:=List.getElem?_eq_some_iff.mp h1
  obtain ⟨q,e2⟩:=List.getElem?_eq_some_iff.mp h2
  exact (List.getElem_inj hn).mp (e1.trans e2.symm)
theorem FrOK.turn (F:FrOK G I sc wr env X W h σ) {i:Nat} {x:Str} {v:Value} {d:D} {a0:Addr} (hi:I.tbl[i]?=some x) (ha:X a0) (hs:Heap.SameBut a0 h h') (h0:∃ o,h'.get? a0=some o)
    (hn:∃ m,h'.Ns env.locals m) (hc:∀ y,inCell (env.kindOf y)=true→∃ c w,env.cells.lookup y=some c∧h'.IsCell c w)
    (hr:rd h' env x=some v) (ho:∀ y,y ≠ x→rd h' env y=rd h env y) (hx:∀ (a:Addr) (d':D),OwnOK G env X h a d'→a ≠ a0)
    (hrep:i ∉ I.own→Rep G X h' v d) (hown:i ∈ I.own→∃ a,v=.ref a∧OwnOK G env X h' a d∧(i ∈ wr→W a)∧∀ j y,j ≠ i→j ∈ I.own→I.tbl[j]?=some y→St.get σ j ≠ none→rd h env y ≠ some (.ref a)) :
    FrOK G I sc wr env X W h' (St.put σ i d):=by
  have hlt:i < σ.length:=by rw [F.size]; exact (List.getElem?_eq_some_iff.mp hi).1
  have keep:∀ a o,¬ X a→h.get? a=some o→h'.get? a=some o:=fun a o n e=>(hs.2 a (fun q=>n (q ▸ ha))).trans e
  have other:∀ j y,I.tbl[j]?=some y→j ≠ i→y ≠ x:=fun j y hj hne e=>hne (tbl_inj F.nodup (e ▸ hj) hi)
  refine { kind:=F.kind,glob:=F.glob,blt:=F.blt,kinds:=F.kinds,nocd:=F.nocd,size:=by rw [St.length_put]; exact F.size,nodup:=F.nodup,live:=?_,wx:=F.wx,ns:=hn,lx:=F.lx,cells:=hc,cx:=F.cx,cinj:=F.cinj,writable:=F.writable,vars:=?_,owns:=?_,apart:=?_ }
  · intro a hxa
    by_cases e:a=a0
    · rw [e]; exact h0
    · obtain ⟨o,q⟩:=F.live a hxa
      exact ⟨o,(hs.2 a e).trans q⟩
  · intro j y d' hj hv hd hno
    rw [St.get_put hlt] at hd
    set_option tactic.hygienic true in split at hd
    · rename_i e
      subst e
      cases hd
      rw [hi] at hj
      cases hj
      exact ⟨v,hr,hrep hno⟩
    · rename_i e
      obtain ⟨w,e1,r⟩:=F.vars j y d' hj hv hd hno
      exact ⟨w,by rw [ho y (other j y hj e)]; exact e1,r.mono keep⟩
  · intro j y d' hj hv hd ho'
    rw [St.get_put hlt] at hd
    set_option tactic.hygienic true in split at hd
    · rename_i e
      subst e
      cases hd
      rw [hi] at hj
      cases hj
      obtain ⟨a,rfl,q,w,_⟩:=hown ho'
      exact ⟨a,hr,q,w⟩
    · rename_i e
      obtain ⟨a,e1,r,w⟩:=F.owns j y d' hj hv hd ho'
      refine ⟨a,by rw [ho y (other j y hj e)]; exact e1,⟨r.x,r.rep.mono (fun o q=>(hs.2 a (hx a d' r)).trans q) keep,r.nl,r.nc⟩,w⟩
  · intro j k y z a hjk hj hk hy hz gj gk e1
    rw [St.get_put hlt] at gj gk
    by_cases ej:j=i
    · subst ej
      rw [hi] at hy
      cases hy
      rw [hr] at e1
      cases e1
      obtain ⟨a',e',q,w,ap⟩:=hown hj
      cases e'
      have hkj:k ≠ j:=fun e=>hjk e.symm
      rw [if_neg hkj] at gk
      rw [ho z (other k z hz hkj)]
      exact ap k z hkj hk hz gk
    · rw [if_neg ej] at gj
      rw [ho y (other j y hy ej)] at e1
      by_cases ek:k=i
      · subst ek
        rw [hi] at hz
        cases hz
        rw [hr]
        intro e2
        cases e2
        obtain ⟨a',e',q,w,ap⟩:=hown hk
        cases e'
        exact ap j y ej hj hy gj e1
      · rw [if_neg ek] at gk
        rw [ho z (other k z hz ek)]
        exact F.apart j k y z a hjk hj hk hy hz gj gk e1
theorem kind_mine (F:FrOK G I sc wr env X W h σ) {x:Str} (hm:mine (sc.names.lookup x)=true):env.kindOf x=some .local ∨ env.kindOf x=some .cell:=by
  rcases F.kinds x with e | ⟨e1,e2⟩
  · rw [e]
    cases hq:sc.names.lookup x with
    | none=>rw [hq] at hm; cases hm
    | some k=>rw [hq] at hm; cases k <;> simp [mine] at hm ⊢
  · exact .inr e2
theorem FrOK.store (F:FrOK G I sc wr env X W s.heap σ) {i:Nat} {x:Str} {v:Value} {d:D} {Q:Unit→Shared→Prop} (ok:tgtOk I sc x i=true) (hw:i ∈ wr)
    (hrep:i ∉ I.own→Rep G X s.heap v d)
    (hown:i ∈ I.own→∃ a,v=.ref a∧OwnOK G env X s.heap a d∧W a∧∀ j y,j ≠ i→j ∈ I.own→I.tbl[j]?=some y→St.get σ j ≠ none→rd s.heap env y ≠ some (.ref a))
    (h:∀ s',FrOK G I sc wr env X W s'.heap (St.put σ i d)→KeepsW W s s'→(∀ a,W a→a ≠ env.locals→(∀ y c,env.cells.lookup y=some c→c ≠ a)→∀ o,s.heap.get? a=some o→s'.heap.get? a=some o)→(∀ y,y ≠ x→rd s'.heap env y=rd s.heap env y)→rd s'.heap env x=some v→Q () s') :
    wpAny (model G.prog G.w) A (storeName env x v) Q E s:=by
  simp only [tgtOk,Bool.and_eq_true,beq_iff_eq] at ok
  obtain ⟨hi,hm⟩:=ok
  have wr':=F.writable i hw x hi
  rcases kind_mine F hm with hl | hc
  · obtain ⟨m,hn⟩:=F.ns
    refine wpAny_storeName_local hl hn (fun h' hn' hs=>?_) (by rw [F.kind]; rfl)
    have cellsame:∀ y,inCell (env.kindOf y)=true→∃ c w,env.cells.lookup y=some c∧s.heap.IsCell c w∧h'.IsCell c w:=fun y hy=>by
      obtain ⟨c,w,hcl,o,e,dd⟩:=F.cells y hy
      exact ⟨c,w,hcl,⟨o,e,dd⟩,o,(hs.2 c (F.cx y c hcl).2).trans e,dd⟩
    have keep:∀ a o,¬ X a→s.heap.get? a=some o→h'.get? a=some o:=fun a o n e=>(hs.2 a (fun q=>n (q ▸ F.lx))).trans e
    have ho:∀ y,y ≠ x→rd h' env y=rd s.heap env y:=by
      intro y hy
      cases hq:env.kindOf y with
      | none=>unfold rd; rw [hq]
      | some kd=>
        cases kd
        · rw [rd_local hq hn',rd_local hq hn]; simp [hy]
        · obtain ⟨c,w,q1,q2,q3⟩:=cellsame y (by rw [hq]; rfl)
          rw [rd_cell (by rw [hq]; rfl) q1 q2,rd_cell (by rw [hq]; rfl) q1 q3]
        · obtain ⟨c,w,q1,q2,q3⟩:=cellsame y (by rw [hq]; rfl)
          rw [rd_cell (by rw [hq]; rfl) q1 q2,rd_cell (by rw [hq]; rfl) q1 q3]
        · unfold rd; rw [hq]
        · unfold rd; rw [hq]
    refine h { s with heap:=h',toks:=s.toks + 1 } (F.turn hi F.lx hs (let ⟨o,es,ep,e,_⟩:=hn'; ⟨o,e⟩) ⟨_,hn'⟩ (fun y hy=>let ⟨c,w,a,_,b⟩:=cellsame y hy; ⟨c,w,a,b⟩) ?_ ho (fun u u q=>q.nl) (fun n=>(hrep n).mono keep) ?_) ⟨h',_,rfl,fun b o n e=>(hs.2 b (fun q=>n (q ▸ wr'.1 hl))).trans e⟩ (fun a u nl u o e=>(hs.2 a nl).trans e) ho (by show rd h' env x=some v; rw [rd_local hl hn']; simp)
    · rw [rd_local hl hn']; simp
    · intro hio
      obtain ⟨a,rfl,q,w,ap⟩:=hown hio
      exact ⟨a,rfl,⟨q.x,q.rep.mono (fun o e=>(hs.2 a q.nl).trans e) keep,q.nl,q.nc⟩,fun u=>w,ap⟩
  · obtain ⟨c,w0,hcl,hcell⟩:=F.cells x (by rw [hc]; rfl)
    refine wpAny_storeName_cell F.kind hc hcl hcell fun h' hcell' hs=>?_
    have hcx:=F.cx x c hcl
    have keep:∀ a o,¬ X a→s.heap.get? a=some o→h'.get? a=some o:=fun a o n e=>(hs.2 a (fun q=>n (q ▸ hcx.1))).trans e
    obtain ⟨m,hn⟩:=F.ns
    have hn':h'.Ns env.locals m:=hn.sameBut hs (Ne.symm hcx.2)
    have cellsame:∀ y,y ≠ x→inCell (env.kindOf y)=true→∃ c w,env.cells.lookup y=some c∧s.heap.IsCell c w∧h'.IsCell c w:=fun y hy hyc=>by
      obtain ⟨c',w,hcl',o,e,dd⟩:=F.cells y hyc
      exact ⟨c',w,hcl',⟨o,e,dd⟩,o,(hs.2 c' (fun q=>hy (F.cinj y x c (q ▸ hcl') hcl))).trans e,dd⟩
    have ho:∀ y,y ≠ x→rd h' env y=rd s.heap env y:=by
      intro y hy
      cases hq:env.kindOf y with
      | none=>unfold rd; rw [hq]
      | some kd=>
        cases kd
        · rw [rd_local hq hn',rd_local hq hn]
        · obtain ⟨c,w,q1,q2,q3⟩:=cellsame y hy (by rw [hq]; rfl)
          rw [rd_cell (by rw [hq]; rfl) q1 q2,rd_cell (by rw [hq]; rfl) q1 q3]
        · obtain ⟨c,w,q1,q2,q3⟩:=cellsame y hy (by rw [hq]; rfl)
          rw [rd_cell (by rw [hq]; rfl) q1 q2,rd_cell (by rw [hq]; rfl) q1 q3]
        · unfold rd; rw [hq]
        · unfold rd; rw [hq]
    refine h { s with heap:=h' } (F.turn hi hcx.1 hs (let ⟨o,e,_⟩:=hcell'; ⟨o,e⟩) ⟨m,hn'⟩ (fun y hy=>?_) ?_ ho (fun u u q=>fun e=>q.nc x c hcl e.symm) (fun n=>(hrep n).mono keep) ?_) ⟨h',s.toks,by cases s; rfl,fun b o n e=>(hs.2 b (fun q=>n (q ▸ wr'.2 hc c hcl))).trans e⟩ (fun a u u nc o e=>(hs.2 a (fun q=>nc x c hcl q.symm)).trans e) ho (rd_cell (by rw [hc]; rfl) hcl hcell')
    · by_cases e:y=x
      · subst e; exact ⟨c,_,hcl,hcell'⟩
      · obtain ⟨c',w,a,_,b⟩:=cellsame y e hy; exact ⟨c',w,a,b⟩
    · rw [rd_cell (by rw [hc]; rfl) hcl hcell']
    · intro hio
      obtain ⟨a,rfl,q,w,ap⟩:=hown hio
      exact ⟨a,rfl,⟨q.x,q.rep.mono (fun o e=>(hs.2 a (fun z=>q.nc x c hcl z.symm)).trans e) keep,q.nl,q.nc⟩,fun u=>w,ap⟩
end
noncomputable def TgFit (nm:Bool) (tg:PySem.Expr) (d:D):Prop:=(nm=true∧∃ x p,tg=.Name x p) ∨ (∃ es k p ds,tg=.Tuple es k p∧d=.tuple ds)
structure Itr (G:Gl) (A:Around) (X:Addr→Prop) (J:Addr) (nm:Bool) (ds:List D) (Sm:Nat→Heap→Prop):Prop where
  frame:∀ i h h',Sm i h→(∀ o,h.get? J=some o→h'.get? J=some o)→(∀ b o,¬ X b→h.get? b=some o→h'.get? b=some o)→Sm i h'
  live:∀ i h,Sm i h→∃ o fs,h.get? J=some o∧o.data=.fields fs
  next:∀ i d (tg:PySem.Expr) (s:Shared) (Q:Value→Shared→Prop) (E:Value→Shared→Prop),TgFit nm tg d→Sm i s.heap→ds[i]?=some d→
    (∀ v h' tk,Sm (i + 1) h'→(∀ Y:Addr→Prop,Live Y s.heap→(∀ a,Y a→X a)→Rep G Y h' v d)→(∀ b o,b ≠ J→s.heap.get? b=some o→h'.get? b=some o)→Q v { s with heap:=h',toks:=tk })→
    wpAny (model G.prog G.w) A (pyNext (.ref J)) (fun r s₁=>match r with | none=>False | some v=>wpAny (model G.prog G.w) A (letOwnedTupleGo tg (.ref J) v) (fun u s₂=>Q v s₂) E s₁) E s
  done:∀ (s:Shared) (Q:Shared→Prop) (E:Value→Shared→Prop),Sm ds.length s.heap→
    (∀ h' tk,(∀ b o,b ≠ J→s.heap.get? b=some o→h'.get? b=some o)→Q { s with heap:=h',toks:=tk })→
    wpAny (model G.prog G.w) A (pyNext (.ref J)) (fun r s₁=>match r with | none=>Q s₁ | some _=>False) E s
  self:nm=true→∀ i (s:Shared) (Q:Value→Shared→Prop) (E:Value→Shared→Prop),Sm i s.heap→Q (.ref J) s→wpAny (model G.prog G.w) A (pyIter (.ref J)) Q E s
section
variable {G:Gl} {A:Around} {X:Addr→Prop} {J:Addr} {ds:List D}
theorem Itr.of {fp:List Addr} {n:Nat} {P:Nat→Value→Prop} {S0:Nat→Heap→Prop} (W:Walks G.prog G.w A J fp [J] n P S0) (hx:X J) (hn:n=ds.length) (Dt:Heap→Prop)
    (hfp:∀ b ∈ fp,b=J ∨ ¬ X b) (hmono:∀ h h',Dt h→(∀ b o,¬ X b→h.get? b=some o→h'.get? b=some o)→Dt h')
    (hrep:∀ i v h d,P i v→Dt h→ds[i]?=some d→Rep G X h v d) (hlive:∀ i h,S0 i h→∃ o fs,h.get? J=some o∧o.data=.fields fs)
    (hgo:∀ i v (tg:PySem.Expr) (s:Shared) (Q:Unit→Shared→Prop) (E:Value→Shared→Prop),S0 (i + 1) s.heap→((∃ x p,tg=.Name x p) ∨ ∃ es k p a,tg=.Tuple es k p∧v=.ref a∧P i v)→Q () s→wpAny (model G.prog G.w) A (letOwnedTupleGo tg (.ref J) v) Q E s) :
    Itr G A X J true ds (fun i h=>S0 i h∧Dt h) where
  frame:=fun i h h' st hj hk=>by
    refine ⟨W.frame i h h' st.1 fun b hb o e=>?_,hmono h h' st.2 hk⟩
    rcases hfp b hb with q | q
    · rw [q] at e ⊢; exact hj o e
    · exact hk b o q e
  live:=fun i h st=>hlive i h st.1
  next:=fun i d tg s Q E fit st hd hQ=>by
    have hi:i < n:=by rw [hn]; exact (List.getElem?_eq_some_iff.mp hd).1
    refine W.item i s _ E hi st.1 fun v h' tk hP hst hk=>?_
    have hk':∀ b o,b ≠ J→s.heap.get? b=some o→h'.get? b=some o:=fun b o hb e=>hk b o (by simpa using hb) e
    have hD:Dt h':=hmono _ _ st.2 fun b o hb e=>hk' b o (fun q=>hb (q ▸ hx)) e
    have hR:=hrep i v h' d hP hD hd
    refine hgo i v tg _ _ E hst ?_ (hQ v h' tk ⟨hst,hD⟩ (fun Y u hy=>hR.weak fun a u u q=>hy a q) hk')
    rcases fit with ⟨_,x,p,e⟩ | ⟨es,k,p,ds',e,e'⟩
    · exact .inl ⟨x,p,e⟩
    · subst e'
      obtain ⟨a,vs,ea,_⟩:=(Rep.w hR).tuple_
      exact .inr ⟨es,k,p,a,e,ea,hP⟩
  done:=fun s Q E st hQ=>by
    refine W.done s _ E (hn ▸ st.1) fun h' tk hk=>?_
    exact hQ h' tk fun b o hb e=>hk b o (by simpa using hb) e
  self:=fun u i s Q E st hQ=>W.self i s Q E st.1 hQ
theorem wpAny_letGo_name {x:Str} {p:Pos} {it v:Value} {Q:Unit→Shared→Prop} {E:Value→Shared→Prop} {s:Shared} (h:Q () s):wpAny (model G.prog G.w) A (letOwnedTupleGo (.Name x p) it v) Q E s:=wpAny_pure h
theorem itr_list {l:Addr} {vs:List Value} (hh:A.handled=none) (hx:X J) (hl:¬ X l) (hlen:vs.length=ds.length) :
    Itr G A X J true ds (fun i h=>(h.IsListIter J l i∧h.IsList l vs.toArray)∧RepL G X h vs ds):=by
  have hne:l ≠ J:=fun e=>hl (e ▸ hx)
  refine Itr.of (Walks.list hh J l hne vs.toArray) hx (by simpa using hlen) (fun h=>RepL G X h vs ds) ?_ (fun h h' r k=>r.mono k) ?_ ?_ ?_
  · intro b hb
    rcases List.mem_cons.mp hb with rfl | hb
    · exact .inl rfl
    · rcases List.mem_cons.mp hb with rfl | hb
      · exact .inr hl
      · cases hb
  · intro i v h d hP hD hd
    obtain ⟨v',e,r⟩:=hD.get hd
    have:vs[i]?=some v:=by simpa using hP
    rw [this] at e
    cases e
    exact r
  · intro i h st
    obtain ⟨o,e,_,dt⟩:=st.1
    exact ⟨o,_,e,dt⟩
  · intro i v tg s Q E st _ hQ
    exact letGo_listiter st.1 hQ
theorem itr_range {a:Int} {n:Nat} (hh:A.handled=none) (hx:X J) (hds:ds=(List.range n).map fun (k:Nat)=>D.int (a + k)) :
    Itr G A X J true ds (fun i h=>IsRangeIter h J (a + (i:Nat) * 1) ((n:Int) - (i:Nat)) 1∧True):=by
  refine Itr.of (Walks.range hh J a 1 n) hx (by rw [hds]; simp) (fun u=>True) ?_ (fun u u u u=>trivial) ?_ ?_ ?_
  · intro b hb
    exact .inl (by simpa using hb)
  · rintro i v h d ⟨t,rfl⟩ _ hd
    rw [hds] at hd
    simp only [List.getElem?_map,Option.map_eq_some_iff] at hd
    obtain ⟨k,e,rfl⟩:=hd
    have:k=i:=by
      rw [List.getElem?_range] at e
      · exact (Option.some.inj e).symm
      · have:=(List.getElem?_eq_some_iff.mp e).1
        simpa using this
    subst this
    rw [Int.mul_one]
    exact .int _ _
  · intro i h st
    exact ⟨_,_,st,rfl⟩
  · intro i v tg s Q E st fit hQ
    rcases fit with ⟨x,p,rfl⟩ | ⟨es,k,p,b,rfl,rfl,t,e⟩
    · exact wpAny_pure hQ
    · cases e
theorem itr_keys {d:Addr} {kv:List (Str × Value)} {kvs:List (Str × D)} {ep:Nat} (hh:A.handled=none) (hx:X J) (hd:¬ X d) (hlen:kv.length=kvs.length) (hk:kv.map (·.1)=kvs.map (·.1)) (hds:ds=kvs.map fun p=>D.str p.1) :
    Itr G A X J true ds (fun i h=>(h.IsKeyIter J d i kv.length ep∧h.DictAt (PySem.strKind G.prog G.w) d kv ep)∧True):=by
  have hne:d ≠ J:=fun e=>hd (e ▸ hx)
  refine Itr.of (Walks.dictKeys hh J d hne kv ep) hx (by rw [hds]; simpa using hlen) (fun u=>True) ?_ (fun u u u u=>trivial) ?_ ?_ ?_
  · intro b hb
    rcases List.mem_cons.mp hb with rfl | hb
    · exact .inl rfl
    · rcases List.mem_cons.mp hb with rfl | hb
      · exact .inr hd
      · cases hb
  · rintro i v h d' ⟨k,x,e,hkv⟩ _ hd'
    obtain ⟨t,rfl⟩:=Value.isStrOf_shape hkv
    rw [hds] at hd'
    simp only [List.getElem?_map,Option.map_eq_some_iff] at hd'
    obtain ⟨p,e',rfl⟩:=hd'
    have h1:(kv.map (·.1))[i]?=some k:=by simp [e]
    rw [hk] at h1
    simp only [List.getElem?_map,e',Option.map_some,Option.some.injEq] at h1
    rw [h1]
    exact .str _ _
  · intro i h st
    obtain ⟨o,e,_,dt⟩:=st.1
    exact ⟨o,_,e,dt⟩
  · intro i v tg s Q E st _ hQ
    exact letGo_keyiter st.1 hQ
theorem RepK.get {h:Heap}:∀ {kvs kv},RepK G X h kv kvs→∀ {i:Nat} {p:Str × D},kvs[i]?=some p→∃ v,kv[i]?=some (p.1,v)∧Rep G X h v p.2
  | [],_,_,_,_,q=>nomatch q
  | (_,_) :: _,_,⟨v,_,e,a,_⟩,0,_,q=>Option.some.inj q ▸ e ▸ ⟨v,rfl,a⟩
  | _ :: _,_,⟨_,_,e,_,b⟩,_ + 1,_,q=>e ▸ b.get q
theorem RepK.keys {h:Heap}:∀ {kvs kv},RepK G X h kv kvs→kv.map (·.1)=kvs.map (·.1)
  | [],_,r=>congrArg (List.map (·.1)) r
  | _ :: _,_,⟨_,_,e,_,b⟩=>e ▸ congrArg (_ :: ·) b.keys
theorem itr_vals {d:Addr} {kv:List (Str × Value)} {kvs:List (Str × D)} {ep:Nat} (hh:A.handled=none) (hx:X J) (hd:¬ X d) (hlen:kv.length=kvs.length) (hds:ds=kvs.map fun p=>p.2) :
    Itr G A X J true ds (fun i h=>(h.IsValIter J d i kv.length ep∧h.DictAt (PySem.strKind G.prog G.w) d kv ep)∧RepK G X h kv kvs):=by
  have hne:d ≠ J:=fun e=>hd (e ▸ hx)
  refine Itr.of (Walks.dictValues hh J d hne kv ep) hx (by rw [hds]; simpa using hlen) (fun h=>RepK G X h kv kvs) ?_ (fun h h' r k=>r.mono k) ?_ ?_ ?_
  · intro b hb
    rcases List.mem_cons.mp hb with rfl | hb
    · exact .inl rfl
    · rcases List.mem_cons.mp hb with rfl | hb
      · exact .inr hd
      · cases hb
  · rintro i v h d' ⟨k,e⟩ hD hd'
    rw [hds] at hd'
    simp only [List.getElem?_map,Option.map_eq_some_iff] at hd'
    obtain ⟨p,e',rfl⟩:=hd'
    obtain ⟨v',q,r⟩:=hD.get e'
    rw [e] at q
    cases q
    exact r
  · intro i h st
    obtain ⟨o,e,_,dt⟩:=st.1
    exact ⟨o,_,e,dt⟩
  · intro i v tg s Q E st _ hQ
    exact letGo_valiter st.1 hQ
theorem itr_items {d:Addr} {kv:List (Str × Value)} {kvs:List (Str × D)} {ep:Nat} (hh:A.handled=none) (hx:X J) (hd:¬ X d) (hlen:kv.length=kvs.length) (hds:ds=kvs.map fun p=>D.tuple [.str p.1,p.2]) :
    Itr G A X J false ds (fun i h=>(∃ ok ov,IsItemIter h J d i kv.length ep ok ov)∧h.DictAt (PySem.strKind G.prog G.w) d kv ep∧RepK G X h kv kvs) where
  frame:=fun i h h' st hj hk=>by
    obtain ⟨⟨ok,ov,st1⟩,st2,st3⟩:=st
    exact ⟨⟨ok,ov,hj _ st1⟩,st2.at' fun o e=>hk d o hd e,st3.mono hk⟩
  live:=fun i h st=>by obtain ⟨⟨ok,ov,st1⟩,_⟩:=st; exact ⟨_,_,st1,rfl⟩
  next:=fun i d' tg s Q E fit st hd' hQ=>by
    obtain ⟨⟨ok,ov,st1⟩,st2,st3⟩:=st
    rcases fit with ⟨h,_⟩ | ⟨es,k,p,ds',rfl,e'⟩
    · cases h
    · rw [hds] at hd'
      simp only [List.getElem?_map,Option.map_eq_some_iff] at hd'
      obtain ⟨q,eq,rfl⟩:=hd'
      obtain ⟨v,ev,rv⟩:=st3.get eq
      have hne:d ≠ J:=fun e=>hd (e ▸ hx)
      refine wpAny_pyNext_items_item st1 st2 ev fun key h' hkey out tup u hk=>?_
      obtain ⟨t,rfl⟩:=Value.isStrOf_shape hkey
      refine wpAny_letOwnedTupleGo_items out fun h'' it'' hs''=>?_
      have hJ:s.heap.objs.size ≠ J:=fun e=>by
        have:=Heap.lt_size st1
        rw [← e] at this
        exact Nat.lt_irrefl _ this
      have keep:∀ b o,b ≠ J→s.heap.get? b=some o→h''.get? b=some o:=fun b o hb e=>(hs''.2 b hb).trans (hk b o hb e)
      have keepX:∀ b o,¬ X b→s.heap.get? b=some o→h''.get? b=some o:=fun b o hb e=>keep b o (fun z=>hb (z ▸ hx)) e
      refine hQ (.ref s.heap.objs.size) h'' s.toks ⟨⟨_,_,it''⟩,st2.at' fun o e=>keepX d o hd e,st3.mono keepX⟩ (fun Y lv hy=>?_) keep
      exact .tuple (lv.fresh (none_size _)) (vs:=[.str q.1 t,v]) ⟨_,(hs''.2 _ hJ).trans tup,rfl,_,rfl⟩ (.cons (.str _ _) (.cons ((rv.mono keepX).weak fun a u u q=>hy a q) .nil))
  done:=fun s Q E st hQ=>by
    obtain ⟨⟨ok,ov,st1⟩,st2,st3⟩:=st
    have e:kv[ds.length]?=none:=by
      rw [List.getElem?_eq_none]
      rw [hds,List.length_map,hlen]
      exact Nat.le_refl _
    refine wpAny_pyNext_items_end hh st1 st2 e fun h' he=>?_
    exact hQ h' s.toks fun b o hb e=>he b o hb e
  self:=fun h=>nomatch h
end
section
variable {G:Gl} {I:FI} {sc:Scope} {wr:List Nat} {env:Env} {X W:Addr→Prop} {σ σ':St} {s:Shared} {A:Around} {E:Value→Shared→Prop}
theorem KeepsW.trans {s s' s'':Shared} (a:KeepsW W s s') (b:KeepsW W s' s''):KeepsW W s s'':=by
  obtain ⟨h,t,e,k⟩:=a
  subst e
  obtain ⟨h',t',e,k'⟩:=b
  subst e
  exact ⟨h',t',_root_.rfl,fun b o n e=>k' b o n (k b o n e)⟩
theorem KeepsW.notX {s s':Shared} (a:KeepsW W s s') (wx:∀ a,W a→X a):∀ b o,¬ X b→s.heap.get? b=some o→s'.heap.get? b=some o:=fun b o n e=>KeepsW.get a b o (fun w=>n (wx b w)) e
theorem FrOK.assign_name (F:FrOK G I sc wr env X W s.heap σ) {i:Nat} {x:Str} {pos:Pos} {v:Value} {d:D} (ok:tgtOk I sc x i=true) (no:i ∉ I.own) (hw:i ∈ wr) (r:Rep G X s.heap v d) :
    wpAny (model G.prog G.w) A (assign (.Name x pos) env v) (fun u s'=>FrOK G I sc wr env X W s'.heap (St.put σ i d)∧KeepsW W s s'∧∀ y,y ≠ x→rd s'.heap env y=rd s.heap env y) E s:=
  wpAny_assign_Name (F.store ok hw (fun u=>r) (fun h=>absurd h no) fun s' F' k u ho u=>⟨F',k,ho⟩)
theorem extBut_size {h h':Heap} (e:Heap.ExtBut h.objs.size h h'):∀ b o,h.get? b=some o→h'.get? b=some o:=fun b o q=>e b o (Nat.ne_of_lt (Heap.lt_size q)) q
theorem tgts_cons {p:Prop} {e:PySem.Expr} {es:List PySem.Expr} {is:List Nat} (h:tgts I sc (e :: es) is=true) (H:∀ x q i r,e=.Name x q→is=i :: r→tgtOk I sc x i=true→i ∉ I.own→tgts I sc es r=true→p):p:=
  onCons_ (motive:=fun l=>(∀ x q i r,e=.Name x q→l=i :: r→tgtOk I sc x i=true→i ∉ I.own→tgts I sc es r=true→p)→p) (show onCons is _=true from h)
    (fun i r h H=>onNm_ (motive:=fun e'=>(∀ x q i' r',e'=.Name x q→i :: r=i' :: r'→tgtOk I sc x i'=true→i' ∉ I.own→tgts I sc es r'=true→p)→p) h (fun x q h H=>and_ h fun h h3=>and_ h fun h1 h2=>H x q i r rfl rfl h1 (not_own h2) h3) H) H
theorem tgt_at {x:Str} {i:Nat} (h:tgtOk I sc x i=true):I.tbl[i]?=some x:=eq_of_beq (Bool.and_eq_true_iff.mp h).1
theorem assignEach_names:∀ {es:List PySem.Expr} {is:List Nat},tgts I sc es is=true→(assignEach es env).length=es.length∧es.length=is.length∧(assignEach es env).findIdx? (·.1)=none∧(assignEach es env).map (·.2)=es.map fun e=>assign e env
  | [],is,h=>by cases List.isEmpty_iff.mp h; exact ⟨rfl,rfl,rfl,rfl⟩
  | e :: es,is,h=>tgts_cons h fun x q i r e1 e2 u u h3=>by
    subst e1 e2
    obtain ⟨a,b,c,d⟩:=assignEach_names h3
    have e:assignEach (.Name x q :: es) env=(false,assign (.Name x q) env) :: assignEach es env:=rfl
    rw [e]
    exact ⟨congrArg Nat.succ a,congrArg Nat.succ b,by rw [List.findIdx?_cons,c]; rfl,congrArg (_ :: ·) d⟩
theorem FrOK.assign_names:∀ {es:List PySem.Expr} {is:List Nat} {vs:List Value} {ds:List D} {σ:St} {s:Shared},FrOK G I sc wr env X W s.heap σ→tgts I sc es is=true→(∀ i ∈ is,i ∈ wr)→RepL G X s.heap vs ds→ds.length=is.length→
    wpAny (model G.prog G.w) A (assignInOrder (es.map fun e=>assign e env) vs) (fun u s'=>FrOK G I sc wr env X W s'.heap ((is.zip ds).foldl (fun σ p=>St.put σ p.1 p.2) σ)∧KeepsW W s s'∧∀ y,(∀ i ∈ is,I.tbl[i]? ≠ some y)→rd s'.heap env y=rd s.heap env y) E s
  | [],_,_,[],σ,s,F,h,_,r,_=>by
    cases List.isEmpty_iff.mp h
    cases r
    exact wpAny_pure ⟨F,KeepsW.rfl,fun u u=>rfl⟩
  | [],_,_,_ :: _,_,_,_,h,_,_,hl=>by cases List.isEmpty_iff.mp h; cases hl
  | _ :: _,_,_,[],_,_,_,h,_,_,hl=>tgts_cons h fun u u u u u e2 u u u=>by subst e2; cases hl
  | e :: es,is,_,d :: ds,σ,s,F,h,hw,⟨v,vs,e3,r1,r2⟩,hl=>tgts_cons h fun x q i is' e1 e2 h1 h2 h9=>by
    subst e1 e2 e3
    refine assignInOrder_cons (wpAny_mono (F.assign_name h1 h2 (hw i (.head _)) r1) (fun u s₁ h₁=>?_) fun u u e=>e)
    obtain ⟨F₁,k₁,ho⟩:=h₁
    refine wpAny_mono (FrOK.assign_names F₁ h9 (fun j hj=>hw j (.tail _ hj)) (r2.mono (KeepsW.notX k₁ F.wx)) (Nat.succ.inj hl)) (fun u s₂ h₂=>⟨h₂.1,k₁.trans h₂.2.1,fun y hy=>?_⟩) fun u u e=>e
    rw [h₂.2.2 y fun j hj=>hy j (.tail _ hj)]
    exact ho y fun e=>hy i (.head _) (e ▸ tgt_at h1)
theorem tgtE_cases {p:Prop} {one:Bool} {tg:List Nat} {t:PySem.Expr} (ok:tgtE I sc one tg t=true) (H1:∀ x q i,one=true→tg=[i]→t=.Name x q→tgtOk I sc x i=true→i ∉ I.own→p) (H2:∀ es k q,one=false→t=.Tuple es k q→tgts I sc es tg=true→p):p:=by
  revert H1 H2
  cases one with
  | true=>exact onNm_ (show onNm t _=true from ok) fun x q h=>onOne_ h fun i h H1 u=>H1 x q i rfl rfl rfl (Bool.and_eq_true_iff.mp h).1 (not_own (Bool.and_eq_true_iff.mp h).2)
  | false=>exact onTup_ (show onTup t _=true from ok) fun es k q h u H2=>H2 es k q rfl rfl (Bool.and_eq_true_iff.mp (Bool.and_eq_true_iff.mp h).1).1
theorem FrOK.assign_tgt (F:FrOK G I sc wr env X W s.heap σ) {one:Bool} {tg:List Nat} {t:PySem.Expr} {v:Value} {d:D} (hh:A.handled=none) (ok:tgtE I sc one tg t=true) (hw:∀ i ∈ tg,i ∈ wr) (r:Rep G X s.heap v d) (hb:bindT one tg d σ=some σ') :
    wpAny (model G.prog G.w) A (assign t env v) (fun u s'=>FrOK G I sc wr env X W s'.heap σ'∧KeepsW W s s'∧∀ y,(∀ i ∈ tg,I.tbl[i]? ≠ some y)→rd s'.heap env y=rd s.heap env y) E s:=by
  refine tgtE_cases ok (fun x q i e1 e2 e3 h1 h2=>?_) fun es kk q e1 e3 h=>?_
  · subst e1 e2 e3
    cases hb
    exact wpAny_mono (F.assign_name h1 h2 (hw i (.head _)) r) (fun u s₂ h₂=>⟨h₂.1,h₂.2.1,fun y hy=>h₂.2.2 y fun e=>hy i (.head _) (e ▸ tgt_at h1)⟩) fun u u e=>e
  · subst e1 e3
    revert r
    refine onT_ (show onT d _=some σ' from hb) fun ds hb=>if_ hb fun hl hb ⟨a,vs,e,hx,p,rl⟩=>?_
    cases hb
    subst e
    obtain ⟨e1,e2,e3,e4⟩:=assignEach_names (env:=env) h
    refine wpAny_assign_Tuple hh p (by rw [e1,e2,← hl,List.size_toArray,rl.length]) e3 fun h' he=>?_
    have k:=extBut_size he
    rw [e4]
    exact wpAny_mono (FrOK.assign_names (s:={ s with heap:=h' }) (F.mono k) h hw (rl.mono fun a o u=>k a o) hl) (fun u s₂ h₂=>⟨h₂.1,KeepsW.trans (Keeps.toW ⟨h',s.toks,by cases s; rfl,k⟩) h₂.2.1,fun y hy=>by rw [h₂.2.2 y hy]; exact rd_mono F k y⟩) fun u u e=>e
end
theorem lookup_mem' {α:Type}:∀ {l:List (Str × α)} {n:Str} {c:α},l.lookup n=some c→(n,c) ∈ l:=mem_of_lookup
theorem lookup_of_mem' {α:Type}:∀ {l:List (Str × α)},(l.map (·.1)).Nodup→∀ {n:Str} {c:α},(n,c) ∈ l→l.lookup n=some c
  | []=>fun u u u h=>absurd h List.not_mem_nil
  | (k,v) :: r=>fun hn n c h=>by
    simp only [List.map_cons,List.nodup_cons] at hn
    rw [List.lookup_cons]
    rcases List.mem_cons.mp h with e | h
    · cases e; simp
    · have:(n == k)=false:=beq_eq_false_iff_ne.mpr fun e=>hn.1 (e ▸ List.mem_map_of_mem (f:=(·.1)) h)
      rw [this]
      exact lookup_of_mem' hn.2 h
noncomputable def takeCells (env:Env):List (Str × NameKind)→List (Str × Addr)→List (Str × Addr)
  | [],acc=>acc
  | (n,k) :: r,acc=>takeCells env r (if k == .free then (match env.cells.lookup n with | some c=>(n,c) :: acc | none=>acc) else acc)
theorem closureFor_eq {scope:Scope} {env:Env} (h:∀ p ∈ scope.names,p.2=.free→∃ c,env.cells.lookup p.1=some c):closureFor scope env=pure (takeCells env scope.names []):=by
  unfold closureFor
  have key:∀ (names:List (Str × NameKind)) (acc:List (Str × Addr)),(∀ p ∈ names,p.2=.free→∃ c,env.cells.lookup p.1=some c)→
      (forIn names acc (fun (x:Str × NameKind) (r:List (Str × Addr))=>(match x with
        | (name,kind)=>if (kind == NameKind.free)=true then do let a ← cellOf env name; pure (ForInStep.yield ((name,a) :: r)) else pure (ForInStep.yield r):Sem (ForInStep (List (Str × Addr))))):Sem (List (Str × Addr)))=pure (takeCells env names acc):=by
    intro names
    induction names with
    | nil=>intro acc _; rfl
    | cons p r ih=>
      intro acc h
      obtain ⟨n,k⟩:=p
      rw [List.forIn_cons]
      by_cases hk:(k == NameKind.free)=true
      · obtain ⟨c,hc⟩:=h (n,k) (.head _) (by simpa using hk)
        simp only at hc
        simp only [hk,if_true,takeCells,hc]
        have:cellOf env n=pure c:=by unfold cellOf; rw [hc]
        rw [this]
        show (forIn r ((n,c) :: acc) _:Sem _)=_
        exact ih _ fun p hp=>h p (.tail _ hp)
      · simp only [hk,if_false,takeCells]
        show (forIn r acc _:Sem _)=_
        exact ih _ fun p hp=>h p (.tail _ hp)
  have:=key scope.names [] h
  exact congrArg (fun t:Sem (List (Str × Addr))=>t >>= fun r=>pure r) this
theorem takeCells_other (env:Env) (x:Str):∀ (names:List (Str × NameKind)) (acc:List (Str × Addr)),(x,NameKind.free) ∉ names→(takeCells env names acc).lookup x=acc.lookup x
  | [],_,_=>rfl
  | (n,k) :: r,acc,h=>by
    have hr:(x,NameKind.free) ∉ r:=fun q=>h (.tail _ q)
    simp only [takeCells]
    rw [takeCells_other env x r _ hr]
    by_cases hk:(k == NameKind.free)=true
    · have hx:(x == n)=false:=beq_eq_false_iff_ne.mpr fun e=>h (by rw [e,show k=NameKind.free from by simpa using hk]; exact .head _)
      rw [if_pos hk]
      cases hc:env.cells.lookup n with
      | none=>rfl
      | some c=>simp [List.lookup_cons,hx]
    · rw [if_neg hk]
theorem takeCells_free (env:Env) (x:Str) {c:Addr} (hc:env.cells.lookup x=some c):∀ (names:List (Str × NameKind)) (acc:List (Str × Addr)),((x,NameKind.free) ∈ names ∨ acc.lookup x=some c)→(takeCells env names acc).lookup x=some c
  | [],acc,h=>by
    rcases h with h | h
    · cases h
    · exact h
  | (n,k) :: r,acc,h=>by
    simp only [takeCells]
    by_cases hr:(x,NameKind.free) ∈ r
    · exact takeCells_free env x hc r _ (.inl hr)
    · refine takeCells_free env x hc r _ (.inr ?_)
      by_cases hx:x=n
      · subst hx
        by_cases hk:(k == NameKind.free)=true
        · rw [if_pos hk,hc]; simp [List.lookup_cons]
        · rw [if_neg hk]
          rcases h with h | h
          · rcases List.mem_cons.mp h with e | e
            · cases e; exact absurd rfl hk
            · exact absurd e hr
          · exact h
      · have hb:(x == n)=false:=beq_eq_false_iff_ne.mpr hx
        have ha:acc.lookup x=some c:=by
          rcases h with h | h
          · rcases List.mem_cons.mp h with e | e
            · cases e; exact absurd rfl hx
            · exact absurd e hr
          · exact h
        split
        · split
          · simp [List.lookup_cons,hb,ha]
          · exact ha
        · exact ha
theorem cf_other (x:Str):∀ (names:List (Str × NameKind)) (n:Nat) (acc:List (Str × Addr)),(x,NameKind.cell) ∉ names→(cellsFrom n names acc).lookup x=acc.lookup x
  | [],_,_,_=>rfl
  | (y,k) :: r,n,acc,h=>by
    unfold cellsFrom
    have hr:(x,NameKind.cell) ∉ r:=fun q=>h (.tail _ q)
    by_cases hk:(k == .cell)=true
    · rw [if_pos hk,cf_other x r _ _ hr,List.lookup_cons]
      have:(x == y)=false:=beq_eq_false_iff_ne.mpr fun e=>h (by rw [e,show k=NameKind.cell from by simpa using hk]; exact .head _)
      rw [this]
    · rw [if_neg hk]; exact cf_other x r _ _ hr
theorem cf_own (x:Str):∀ (names:List (Str × NameKind)) (h:Heap) (acc:List (Str × Addr)),(names.map (·.1)).Nodup→(x,NameKind.cell) ∈ names→
    ∃ c,(cellsFrom h.objs.size names acc).lookup x=some c∧h.objs.size ≤ c∧(pushCells h names).IsCell c none
  | []=>fun u u u h=>absurd h List.not_mem_nil
  | (y,k) :: r=>fun h acc hn hm=>by
    simp only [List.map_cons,List.nodup_cons] at hn
    unfold cellsFrom pushCells
    by_cases hk:(k == .cell)=true
    · rw [if_pos hk,if_pos hk]
      by_cases hxy:x=y
      · subst hxy
        have:(x,NameKind.cell) ∉ r:=fun q=>hn.1 (List.mem_map_of_mem (f:=(·.1)) q)
        refine ⟨h.objs.size,?_,Nat.le_refl _,?_⟩
        · rw [cf_other x r _ _ this,List.lookup_cons]; simp
        · exact ⟨_,pushCells_keeps _ _ _ _ (Heap.get?_push_size _ rfl),rfl⟩
      · have:(x,NameKind.cell) ∈ r:=by
          rcases List.mem_cons.mp hm with e | e
          · cases e; exact absurd rfl hxy
          · exact e
        obtain ⟨c,e1,e2,e3⟩:=cf_own x r (h.push { cls:=.type "cell", data:=.cell none }) ((y,h.objs.size) :: acc) hn.2 this
        rw [Heap.size_push] at e1 e2
        exact ⟨c,e1,Nat.le_of_succ_le e2,e3⟩
    · rw [if_neg hk,if_neg hk]
      have:(x,NameKind.cell) ∈ r:=by
        rcases List.mem_cons.mp hm with e | e
        · cases e; exact absurd rfl hk
        · exact e
      exact cf_own x r h acc hn.2 this
theorem cf_inj (x y:Str):∀ (names:List (Str × NameKind)) (h:Heap) (acc:List (Str × Addr)) (c:Addr),(names.map (·.1)).Nodup→(x,NameKind.cell) ∈ names→(y,NameKind.cell) ∈ names→
    (cellsFrom h.objs.size names acc).lookup x=some c→(cellsFrom h.objs.size names acc).lookup y=some c→x=y
  | []=>fun v v v v h v v v=>absurd h List.not_mem_nil
  | (z,k) :: r=>fun h acc c hn hx hy ex ey=>by
    simp only [List.map_cons,List.nodup_cons] at hn
    unfold cellsFrom at ex ey
    by_cases hk:(k == .cell)=true
    · rw [if_pos hk] at ex ey
      have sz:h.objs.size + 1=(h.push { cls:=.type "cell", data:=.cell none }).objs.size:=(Heap.size_push ..).symm
      have notin:(z,NameKind.cell) ∉ r:=fun q=>hn.1 (List.mem_map_of_mem (f:=(·.1)) q)
      have far:∀ u,(u,NameKind.cell) ∈ r→(cellsFrom (h.objs.size + 1) r ((z,h.objs.size) :: acc)).lookup u=some c→h.objs.size + 1 ≤ c:=fun u hu e=>by
        rw [sz] at e
        obtain ⟨c',e1,e2,_⟩:=cf_own u r _ ((z,h.objs.size) :: acc) hn.2 hu
        rw [e] at e1
        cases e1
        rw [Heap.size_push] at e2
        exact e2
      have near:∀ u,u=z→(cellsFrom (h.objs.size + 1) r ((z,h.objs.size) :: acc)).lookup u=some c→c=h.objs.size:=fun u hu e=>by
        subst hu
        rw [cf_other u r _ _ notin,List.lookup_cons] at e
        simp at e
        exact e.symm
      have inR:∀ u,(u,NameKind.cell) ∈ (z,k) :: r→u ≠ z→(u,NameKind.cell) ∈ r:=fun u hu hne=>by
        rcases List.mem_cons.mp hu with e | e
        · cases e; exact absurd rfl hne
        · exact e
      by_cases h1:x=z
      · by_cases h2:y=z
        · exact h1.trans h2.symm
        · have n1:(c:Nat)=h.objs.size:=near x h1 ex
          have n2:h.objs.size + 1 ≤ (c:Nat):=far y (inR y hy h2) ey
          exact absurd n2 (by rw [n1]; exact Nat.not_succ_le_self _)
      · by_cases h2:y=z
        · have n1:(c:Nat)=h.objs.size:=near y h2 ey
          have n2:h.objs.size + 1 ≤ (c:Nat):=far x (inR x hx h1) ex
          exact absurd n2 (by rw [n1]; exact Nat.not_succ_le_self _)
        · rw [sz] at ex ey
          exact cf_inj x y r _ _ c hn.2 (inR x hx h1) (inR y hy h2) ex ey
    · rw [if_neg hk] at ex ey
      have inR:∀ u,(u,NameKind.cell) ∈ (z,k) :: r→(u,NameKind.cell) ∈ r:=fun u hu=>by
        rcases List.mem_cons.mp hu with e | e
        · cases e; exact absurd rfl hk
        · exact e
      exact cf_inj x y r h acc c hn.2 (inR x hx) (inR y hy) ex ey
section
variable {M:Model} {A:Around} {E:Value→Shared→Prop} {s:Shared}
theorem wpAny_newCompEnv {scope:Scope} {globals:Addr} {cl:List (Str × Addr)} {qual:Str} {env:Env} {Q:Env→Shared→Prop}
    (h:Q { scope,locals:=s.heap.objs.size,globals,cells:=cellsFrom (s.heap.objs.size + 1) scope.names cl,qual,func:=none,code:=env.code,frame:=env.frame,builtins:=env.builtins }
      { s with heap:=pushCells (s.heap.push { cls:=.type "dict", data:=.dict #[] }) scope.names }) :
    wpAny M A (newFunctionEnv scope globals cl [] qual none .none (some env)) Q E s:=by
  simp only [newFunctionEnv,Option.isSome_some,if_true]
  refine wpAny_bind (wpAny_alloc ?_)
  refine wpAny_bind (wpAny_layCells _ (fun name kind cells=>by cases hkc:kind == NameKind.cell <;> simp [hkc]) _ _ _ _ ?_)
  rw [show ({ s with heap:=s.heap.push { cls:=.type "dict", data:=.dict #[] } }:Shared).heap.objs.size=s.heap.objs.size + 1 from Heap.size_push ..]
  refine wpAny_bind ?_
  exact wpAny_pure (wpAny_pure h)
end
theorem relabel_lookup (sc':Scope) (env:Env) (x:Str):(relabel sc' env).names.lookup x=sc'.names.lookup x ∨ (sc'.names.lookup x=some .free∧(relabel sc' env).names.lookup x=some .cell):=by
  unfold relabel
  simp only
  generalize sc'.names=l
  induction l with
  | nil=>exact .inl rfl
  | cons p r ih=>
    obtain ⟨n,k⟩:=p
    rw [List.map_cons]
    by_cases hx:(x == n)=true
    · by_cases hc:(k == NameKind.free && env.scope.kind == .function && env.kindOf n == some .cell)=true
      · right
        simp only [hc,if_true,List.lookup_cons,hx]
        simp only [Bool.and_eq_true,beq_iff_eq] at hc
        exact ⟨by rw [hc.1.1],trivial⟩
      · left
        rw [if_neg hc]
        simp only [List.lookup_cons,hx]
    · have hx':(x == n)=false:=by simpa using hx
      by_cases hc:(k == NameKind.free && env.scope.kind == .function && env.kindOf n == some .cell)=true
      · simp only [hc,if_true,List.lookup_cons,hx']; exact ih
      · rw [if_neg hc]
        simp only [List.lookup_cons,hx']; exact ih
theorem clearT_get (tg:List Nat):∀ (σ:St) (j:Nat),St.get (clearT tg σ) j=if j ∈ tg then none else St.get σ j:=by
  induction tg with
  | nil=>intro σ j; simp [clearT]
  | cons i r ih=>
    intro σ j
    show St.get (clearT r (σ.set i none)) j=_
    rw [ih]
    by_cases hr:j ∈ r
    · rw [if_pos hr,if_pos (.tail _ hr)]
    · rw [if_neg hr]
      by_cases hi:j=i
      · subst hi
        rw [if_pos (.head _)]
        unfold St.get
        by_cases hl:j < σ.length
        · simp [hl]
        · rw [List.getElem?_eq_none (by simpa using hl)]; rfl
      · rw [if_neg (by simp [hi,hr])]
        unfold St.get
        rw [List.getElem?_set_ne (fun h=>hi h.symm)]
theorem clearT_length (tg:List Nat):∀ (σ:St),(clearT tg σ).length=σ.length:=by
  induction tg with
  | nil=>intro σ; rfl
  | cons i r ih=>intro σ; show (clearT r (σ.set i none)).length=_; rw [ih,List.length_set]
theorem puts_get:∀ (l:List (Nat × D)) (σ:St) (j:Nat),(∀ p ∈ l,p.1 ≠ j)→St.get (l.foldl (fun σ p=>St.put σ p.1 p.2) σ) j=St.get σ j
  | [],_,_,_=>rfl
  | p :: r,σ,j,h=>by
    rw [List.foldl_cons,puts_get r _ j fun q hq=>h q (.tail _ hq)]
    have:=h p (.head _)
    unfold St.get St.put
    rw [List.getElem?_set_ne this]
theorem puts_length:∀ (l:List (Nat × D)) (σ:St),(l.foldl (fun σ p=>St.put σ p.1 p.2) σ).length=σ.length
  | [],_=>rfl
  | p :: r,σ=>by rw [List.foldl_cons,puts_length r,St.length_put]
theorem bindT_get {one:Bool} {tg:List Nat} {d:D} {σ σ':St} (h:bindT one tg d σ=some σ'):σ'.length=σ.length∧∀ j,j ∉ tg→St.get σ' j=St.get σ j:=by
  cases one with
  | true=>
    refine map_ (show (one? tg).map _=some σ' from h) fun i e1 e2=>?_
    subst e2
    rw [one_ e1]
    exact ⟨St.length_put,fun j hj=>by
      unfold St.get St.put
      rw [List.getElem?_set_ne fun (e:i=j)=>hj (e ▸ .head _)]⟩
  | false=>
    refine onT_ (show onT d _=some σ' from h) fun ds h=>if_ h fun u h=>?_
    cases h
    exact ⟨puts_length _ _,fun j hj=>puts_get _ _ _ fun p hp e=>hj (e ▸ (List.of_mem_zip hp).1)⟩
section
variable {G:Gl} {I:FI} {sc sc':Scope} {wr tg:List Nat} {env:Env} {X W:Addr→Prop} {h h':Heap} {σ σ':St} {s:Shared} {A:Around} {E:Value→Shared→Prop}
theorem FrOK.forget (F:FrOK G I sc wr env X W h σ) (hl:σ'.length=σ.length) (hg:∀ i d,St.get σ' i=some d→St.get σ i=some d):FrOK G I sc wr env X W h σ':=
  { F with
    size:=by rw [hl]; exact F.size
    vars:=fun i x d h1 h2 h3=>F.vars i x d h1 h2 (hg i d h3)
    owns:=fun i x d h1 h2 h3=>F.owns i x d h1 h2 (hg i d h3)
    apart:=fun i j x y a h1 h2 h3 h4 h5 h6 h7=>F.apart i j x y a h1 h2 h3 h4 h5 (fun e=>by
        cases q:St.get σ' i with
        | none=>exact h6 q
        | some d=>rw [hg i d q] at e; cases e) (fun e=>by
        cases q:St.get σ' j with
        | none=>exact h7 q
        | some d=>rw [hg j d q] at e; cases e) }
theorem rd_but {Z:Addr→Prop} (F:FrOK G I sc wr env X W h σ) (nl:¬ Z env.locals) (nc:∀ y c,env.cells.lookup y=some c→¬ Z c) (k:∀ a o,¬ Z a→h.get? a=some o→h'.get? a=some o) (y:Str):rd h' env y=rd h env y:=by
  obtain ⟨m,hn⟩:=F.ns
  by_cases hk:inCell (env.kindOf y)=true
  · obtain ⟨c,v,hc,o,e,d⟩:=F.cells y hk
    rw [rd_cell hk hc ⟨o,e,d⟩,rd_cell hk hc ⟨o,k _ _ (nc y c hc) e,d⟩]
  · cases hq:env.kindOf y with
    | none=>unfold rd; rw [hq]
    | some kd=>
      cases kd with
      | «local»=>rw [rd_local hq hn,rd_local hq (hn.at' fun o e=>k _ o nl e)]
      | cell=>rw [hq] at hk; exact absurd rfl hk
      | free=>rw [hq] at hk; exact absurd rfl hk
      | globalExplicit=>unfold rd; rw [hq]
      | globalImplicit=>unfold rd; rw [hq]
theorem FrOK.turnZ {Z X' W':Addr→Prop} (F:FrOK G I sc wr env X W h σ) (nl:¬ Z env.locals) (nc:∀ y c,env.cells.lookup y=some c→¬ Z c) (k:∀ a o,¬ Z a→h.get? a=some o→h'.get? a=some o) (zx:∀ a,Z a→X a)
    (no:∀ i x a,I.tbl[i]?=some x→i ∈ I.own→St.get σ i ≠ none→rd h env x=some (.ref a)→¬ Z a) (lv:Live X' h') (wx:∀ a,W' a→X' a) (xx:∀ a,X a→¬ Z a→X' a) (x':∀ a o,h.get? a=some o→X' a→X a) (ww:∀ a,W a→W' a):FrOK G I sc wr env X' W' h' σ∧∀ y,rd h' env y=rd h env y:=by
  have rr:=rd_but F nl nc k
  have kx:∀ a o,¬ X a→h.get? a=some o→h'.get? a=some o:=fun a o n e=>k a o (fun z=>n (zx a z)) e
  obtain ⟨m,hn⟩:=F.ns
  refine ⟨{ kind:=F.kind,glob:=F.glob,blt:=F.blt,kinds:=F.kinds,nocd:=F.nocd,size:=F.size,nodup:=F.nodup,live:=lv,wx:=wx,cinj:=F.cinj
            ns:=⟨m,hn.at' fun o e=>k _ o nl e⟩,lx:=xx _ F.lx nl
            cells:=fun x hx=>let ⟨c,v,hc,o,e,d⟩:=F.cells x hx; ⟨c,v,hc,o,k _ _ (nc x c hc) e,d⟩
            cx:=fun x c hc=>⟨xx _ (F.cx x c hc).1 (nc x c hc),(F.cx x c hc).2⟩
            writable:=fun i hi x hx=>⟨fun q=>ww _ ((F.writable i hi x hx).1 q),fun q c hc=>ww _ ((F.writable i hi x hx).2 q c hc)⟩
            vars:=fun i x d h1 h2 h3 h4=>let ⟨v,e,r⟩:=F.vars i x d h1 h2 h3 h4; ⟨v,(rr x).trans e,r.move x' kx⟩
            owns:=fun i x d h1 h2 h3 h4=>?_
            apart:=fun i j x y a h1 h2 h3 h4 h5 h6 h7 h8=>by rw [rr] at h8 ⊢; exact F.apart i j x y a h1 h2 h3 h4 h5 h6 h7 h8 },rr⟩
  obtain ⟨a,e,r,w⟩:=F.owns i x d h1 h2 h3 h4
  have na:=no i x a h1 h4 (by rw [h3]; exact fun q=>nomatch q) e
  exact ⟨a,(rr x).trans e,⟨xx a r.x na,r.rep.move x' (fun o=>k a o na) kx,r.nl,r.nc⟩,fun q=>ww _ (w q)⟩
theorem FrOK.monoJ (F:FrOK G I sc wr env X W h σ) {J:Addr} (hx:X J) (hj:∃ o,h'.get? J=some o) (nl:J ≠ env.locals) (nc:∀ y c,env.cells.lookup y=some c→c ≠ J)
    (no:∀ i x a,I.tbl[i]?=some x→i ∈ I.own→St.get σ i ≠ none→rd h env x=some (.ref a)→a ≠ J)
    (k:∀ a o,a ≠ J→h.get? a=some o→h'.get? a=some o):FrOK G I sc wr env X W h' σ∧∀ y,rd h' env y=rd h env y:=
  F.turnZ (Z:=(·=J)) (Ne.symm nl) nc k (fun u e=>e ▸ hx) no (fun a ha=>(Decidable.em (a=J)).elim (fun e=>e ▸ hj) fun n=>(F.live a ha).elim fun o e=>⟨o,k a o n e⟩) F.wx (fun u q u=>q) (fun u u u q=>q) fun u q=>q
theorem FrOK.grow {W' N:Addr→Prop} (F:FrOK G I sc wr env X W h σ) (k:∀ a o,h.get? a=some o→h'.get? a=some o) (hN:∀ a,N a→h.get? a=none∧∃ o,h'.get? a=some o) (hW:∀ a,W a→W' a) (hW':∀ a,W' a→X a ∨ N a) :
    FrOK G I sc wr env (fun a=>X a ∨ N a) W' h' σ:=
  (F.turnZ (Z:=fun u=>False) id (fun u u u=>id) (fun a o u=>k a o) (fun u z=>z.elim) (fun u u u u u u u=>id) (fun a q=>q.elim (fun q=>(F.live a q).elim fun o e=>⟨o,k a o e⟩) fun q=>(hN a q).2) hW' (fun u q u=>.inl q)
    (fun a o e q=>q.elim id fun q=>absurd (e.symm.trans (hN a q).1) (fun z=>nomatch z)) hW).1
theorem FrOK.growZ {Z W' N:Addr→Prop} (F:FrOK G I sc wr env X W h σ) (k:∀ a o,¬ Z a→h.get? a=some o→h'.get? a=some o) (hZ:∀ a,Z a→X a∧(∃ o,h'.get? a=some o)∧a ≠ env.locals∧∀ y c,env.cells.lookup y=some c→c ≠ a)
    (no:∀ i x a,I.tbl[i]?=some x→i ∈ I.own→St.get σ i ≠ none→rd h env x=some (.ref a)→¬ Z a)
    (hN:∀ a,N a→h.get? a=none∧∃ o,h'.get? a=some o) (hW:∀ a,W a→W' a) (hW':∀ a,W' a→X a ∨ N a):FrOK G I sc wr env (fun a=>X a ∨ N a) W' h' σ∧∀ y,rd h' env y=rd h env y:=
  F.turnZ (Z:=Z) (fun z=>(hZ _ z).2.2.1 rfl) (fun y c hc z=>(hZ _ z).2.2.2 y c hc rfl) k (fun u z=>(hZ _ z).1) no (fun a q=>(Classical.em (Z a)).elim (fun z=>(hZ a z).2.1) fun n=>q.elim (fun q=>(F.live a q).elim fun o e=>⟨o,k a o n e⟩) fun q=>(hN a q).2) hW' (fun u q u=>.inl q)
    (fun a o e q=>q.elim id fun q=>absurd (e.symm.trans (hN a q).1) (fun z=>nomatch z)) hW
noncomputable def compCells (env:Env) (sc':Scope) (C:Addr):List (Str × Addr):=cellsFrom (C + 1) sc'.names (takeCells env sc'.names [])
noncomputable def compEnv' (env:Env) (sc':Scope) (C:Addr):Env:=
  { scope:=relabel sc' env,locals:=C,globals:=env.globals,cells:=compCells env sc' C,qual:=env.qual,func:=none,code:=env.code,frame:=env.frame,builtins:=env.builtins }
noncomputable def CompW (env:Env) (sc':Scope) (C:Addr) (a:Addr):Prop:=a=C ∨ ∃ x,(x,NameKind.cell) ∈ sc'.names∧(compCells env sc' C).lookup x=some a
noncomputable def CompX (X:Addr→Prop) (env:Env) (sc':Scope) (C J Da:Addr) (a:Addr):Prop:=X a ∨ a=J ∨ a=Da ∨ CompW env sc' C a
structure ScopeFacts (I:FI) (sc sc':Scope) (tg:List Nat):Prop where
  kind:sc'.kind=.function
  nd:(sc'.names.map (·.1)).Nodup
  ours:∀ p ∈ sc'.names,p.1=Str.ofString ".0" ∨ mine (some p.2)=false ∨ ∃ i ∈ tg,I.tbl[i]?=some p.1
  frees:∀ p ∈ sc'.names,p.2=.free→inCell (sc.names.lookup p.1)=true∧p.1 ≠ Str.ofString "__classdict__"
  no0:∀ x ∈ I.tbl,x ≠ Str.ofString ".0"
theorem scope_facts (h:scopeOk I sc sc' tg=true):ScopeFacts I sc sc' tg:=by
  simp only [scopeOk,Bool.and_eq_true,decide_eq_true_eq,List.all_eq_true,Bool.or_eq_true,Bool.not_eq_true',beq_iff_eq,bne_iff_ne,List.any_eq_true] at h
  obtain ⟨⟨⟨⟨⟨⟨h1,h2⟩,h3⟩,h4⟩,h5⟩,h6⟩,h7⟩:=h
  refine ⟨h1,h2,fun p hp=>?_,fun p hp e=>?_,h7⟩
  · rcases h5 p hp with (q | q) | ⟨i,hi,q⟩
    · exact .inl q
    · exact .inr (.inl q)
    · exact .inr (.inr ⟨i,hi,q⟩)
  · rcases h6 p hp with q | q
    · exact absurd e q
    · exact q
theorem compCells_look {C:Nat} (nd:(sc'.names.map (·.1)).Nodup) (ff:∀ x,(x,NameKind.free) ∈ sc'.names→∃ c,env.cells.lookup x=some c) {x:Str} {c:Addr} (hx:(compCells env sc' C).lookup x=some c):C + 1 ≤ c ∨ env.cells.lookup x=some c:=by
  by_cases hm:(x,NameKind.cell) ∈ sc'.names
  · left
    let h:Heap:={ objs:=Array.replicate (C + 1) default }
    have e:h.objs.size=C + 1:=Array.size_replicate
    obtain ⟨c',e1,e2,_⟩:=cf_own x sc'.names h (takeCells env sc'.names []) nd hm
    rw [e] at e1 e2
    have:(compCells env sc' C).lookup x=some c':=e1
    rw [hx] at this
    cases this
    exact e2
  · right
    unfold compCells at hx
    rw [cf_other x _ _ _ hm] at hx
    by_cases hf:(x,NameKind.free) ∈ sc'.names
    · obtain ⟨c',q1⟩:=ff x hf
      rw [takeCells_free env x q1 _ _ (.inl hf)] at hx
      cases hx
      exact q1
    · rw [takeCells_other env x _ _ hf] at hx
      cases hx
theorem comp_frame {h1 h3 h4:Heap} {J Da C:Addr} (eC:h3.objs.size=C) (e4:pushCells (h3.push { cls:=.type "dict", data:=.dict #[] }) sc'.names=h4) (F:FrOK G I sc wr env X W h1 σ) (S:ScopeFacts I sc sc' tg) (k:∀ b o,h1.get? b=some o→h3.get? b=some o)
    (nJ:h1.get? J=none) (nD:h1.get? Da=none) (lJ:∃ o,h3.get? J=some o) (lD:∃ o,h3.get? Da=some o) (no:∀ i ∈ tg,i ∉ I.own) (hmi:∀ i ∈ tg,∀ x,I.tbl[i]?=some x→mine (sc'.names.lookup x)=true) :
    FrOK G I sc' tg (compEnv' env sc' C) (CompX X env sc' C J Da) (CompW env sc' C) h4 (clearT tg σ) ∧
    (∀ x,sc'.names.lookup x=some .free→rd h4 (compEnv' env sc' C) x=rd h1 env x) ∧
    (∀ a,CompW env sc' C a→h3.get? a=none) ∧
    (∀ y c,(compCells env sc' C).lookup y=some c→C < c ∨ ∃ o,h1.get? c=some o) ∧
    (∀ j x a,I.tbl[j]?=some x→j ∈ I.own→St.get (clearT tg σ) j ≠ none→rd h4 (compEnv' env sc' C) x=some (.ref a)→(∃ o,h1.get? a=some o)∧rd h1 env x=some (.ref a)):=by
  have lookF:∀ x,sc'.names.lookup x=some .free→∃ c v,env.cells.lookup x=some c∧h1.IsCell c v∧(compCells env sc' C).lookup x=some c∧inCell (env.kindOf x)=true:=fun x hx=>by
    have hm:=lookup_mem' hx
    have hc:=(S.frees _ hm rfl).1
    have hk:inCell (env.kindOf x)=true:=by
      rcases F.kinds x with e | ⟨_,e⟩
      · rw [e]; exact hc
      · rw [e]; rfl
    obtain ⟨c,v,q1,q2⟩:=F.cells x hk
    refine ⟨c,v,q1,q2,?_,hk⟩
    unfold compCells
    rw [cf_other x _ _ _ fun q=>?_]
    · exact takeCells_free env x q1 _ _ (.inl hm)
    · have:=lookup_of_mem' S.nd q
      rw [hx] at this
      cases this
  have lookC:∀ x,(x,NameKind.cell) ∈ sc'.names→∃ c,(compCells env sc' C).lookup x=some c∧C + 1 ≤ c∧h4.IsCell c none:=fun x hx=>by
    have:=cf_own x sc'.names (h3.push { cls:=.type "dict", data:=.dict #[] }) (takeCells env sc'.names []) S.nd hx
    rwa [Heap.size_push,eC,e4] at this
  have look:∀ x c,(compCells env sc' C).lookup x=some c→((x,NameKind.cell) ∈ sc'.names∧C + 1 ≤ c) ∨ ((x,NameKind.cell) ∉ sc'.names∧env.cells.lookup x=some c∧sc'.names.lookup x=some .free):=fun x c hx=>by
    by_cases hm:(x,NameKind.cell) ∈ sc'.names
    · obtain ⟨c',e1,e2,_⟩:=lookC x hm
      rw [hx] at e1
      cases e1
      exact .inl ⟨hm,e2⟩
    · right
      unfold compCells at hx
      rw [cf_other x _ _ _ hm] at hx
      by_cases hf:(x,NameKind.free) ∈ sc'.names
      · have hfl:=lookup_of_mem' S.nd hf
        obtain ⟨c',v,q1,_⟩:=lookF x hfl
        rw [takeCells_free env x q1 _ _ (.inl hf)] at hx
        cases hx
        exact ⟨hm,q1,hfl⟩
      · rw [takeCells_other env x _ _ hf] at hx
        cases hx
  have k4:∀ b o,h3.get? b=some o→h4.get? b=some o:=fun b o e=>e4 ▸ pushCells_keeps _ _ _ _ (Heap.get?_push_of_some _ e)
  have kC:h4.get? C=some { cls:=.type "dict", data:=.dict #[] }:=e4 ▸ eC ▸ pushCells_keeps _ _ _ _ (Heap.get?_push_size _ rfl)
  have k14:∀ b o,h1.get? b=some o→h4.get? b=some o:=fun b o e=>k4 b o (k b o e)
  have old:∀ a o,h1.get? a=some o→a < C:=fun a o e=>eC ▸ Heap.lt_size (k a o e)
  have wNew:∀ a,CompW env sc' C a→C ≤ a:=fun a ha=>by
    rcases ha with e | ⟨x,hm,hl⟩
    · rw [e]; exact Nat.le_refl _
    · obtain ⟨c,e1,e2,_⟩:=lookC x hm
      rw [hl] at e1
      cases e1
      exact Nat.le_of_succ_le e2
  have xOld:∀ a o,h1.get? a=some o→CompX X env sc' C J Da a→X a:=fun a o e hx=>by
    rcases hx with hx | hx | hx | hx
    · exact hx
    · rw [hx,nJ] at e; cases e
    · rw [hx,nD] at e; cases e
    · exact absurd (wNew a hx) (Nat.not_le.mpr (old a o e))
  have kk:∀ x,(compEnv' env sc' C).kindOf x=sc'.names.lookup x ∨ (sc'.names.lookup x=some .free∧(compEnv' env sc' C).kindOf x=some .cell):=relabel_lookup sc' env
  have nsC:h4.Ns C fun u=>none:=⟨_,#[],0,kC,rfl,fun u he=>by simp at he,fun u=>rfl⟩
  have rdF:∀ x,sc'.names.lookup x=some .free→rd h4 (compEnv' env sc' C) x=rd h1 env x:=fun x hx=>by
    obtain ⟨c,v,q1,⟨o,e,d⟩,q3,q4⟩:=lookF x hx
    rw [rd_cell q4 q1 ⟨o,e,d⟩]
    refine rd_cell ?_ q3 ⟨o,k14 _ _ e,d⟩
    rcases kk x with e | ⟨_,e⟩
    · rw [e,hx]; rfl
    · rw [e]; rfl
  have isFree:∀ i x d,I.tbl[i]?=some x→vis (sc'.names.lookup x)=true→St.get (clearT tg σ) i=some d→sc'.names.lookup x=some .free∧St.get σ i=some d:=fun i x d hi hv hd=>by
    rw [clearT_get] at hd
    set_option tactic.hygienic true in split at hd
    · cases hd
    · rename_i hni
      refine ⟨?_,hd⟩
      cases hq:sc'.names.lookup x with
      | none=>rw [hq] at hv; cases hv
      | some kd=>
        have hm:=lookup_mem' hq
        rcases S.ours _ hm with e | e | ⟨j,hj,e⟩
        · exact absurd e (S.no0 x (List.mem_of_getElem? hi))
        · rw [hq] at hv; cases kd <;> simp [mine,vis] at e hv ⊢
        · exact absurd (tbl_inj F.nodup hi e ▸ hj) hni
  have known:∀ i x v,I.tbl[i]?=some x→St.get (clearT tg σ) i ≠ none→rd h4 (compEnv' env sc' C) x=some v→rd h1 env x=some v∧St.get σ i ≠ none∧sc'.names.lookup x=some .free:=fun i x v hi hg e=>by
    cases hgi:St.get (clearT tg σ) i with
    | none=>exact absurd hgi hg
    | some d=>
      have hv:vis (sc'.names.lookup x)=true:=by
        rcases kk x with q | ⟨q,_⟩
        · unfold rd at e
          rw [q] at e
          cases hq:sc'.names.lookup x with
          | none=>rw [hq] at e; cases e
          | some kd=>rw [hq] at e; cases kd <;> simp [vis] at e ⊢
        · rw [q]; rfl
      obtain ⟨hf,hd'⟩:=isFree i x d hi hv hgi
      exact ⟨by rw [← rdF x hf]; exact e,(by rw [hd']; exact fun q=>nomatch q),hf⟩
  have visF:∀ x,sc'.names.lookup x=some .free→vis (sc.names.lookup x)=true:=fun x hx=>by
    have hc:=(S.frees _ (lookup_mem' hx) rfl).1
    cases hq:sc.names.lookup x with
    | none=>rw [hq] at hc; cases hc
    | some kd=>rw [hq] at hc; cases kd <;> simp [inCell,vis] at hc ⊢
  refine ⟨{ kind:=S.kind,glob:=F.glob,blt:=F.blt,kinds:=kk,nocd:=fun x hx=>beq_eq_false_iff_ne.mpr (S.frees _ (lookup_mem' hx) rfl).2,size:=by rw [clearT_length]; exact F.size,nodup:=F.nodup,live:=?_,wx:=fun a ha=>.inr (.inr (.inr ha)),ns:=⟨_,nsC⟩,lx:=.inr (.inr (.inr (.inl rfl))),cells:=?_,cx:=?_,cinj:=?_,writable:=?_,vars:=?_,owns:=?_,apart:=?_ },rdF,fun a ha=>?_,fun y c hl=>?_,fun j x a hj ho hg e=>?_⟩
  · rintro a (hx | hx | hx | hx | ⟨x,hm,hl⟩)
    · obtain ⟨o,e⟩:=F.live a hx; exact ⟨o,k14 _ _ e⟩
    · obtain ⟨o,e⟩:=lJ; rw [hx]; exact ⟨o,k4 _ _ e⟩
    · obtain ⟨o,e⟩:=lD; rw [hx]; exact ⟨o,k4 _ _ e⟩
    · rw [hx]; exact ⟨_,kC⟩
    · obtain ⟨c,e1,_,o,e3,_⟩:=lookC x hm
      rw [hl] at e1
      cases e1
      exact ⟨o,e3⟩
  · intro x hx
    have:sc'.names.lookup x=some .cell ∨ sc'.names.lookup x=some .free:=by
      rcases kk x with e | ⟨e,_⟩
      · rw [e] at hx
        cases hq:sc'.names.lookup x with
        | none=>rw [hq] at hx; cases hx
        | some kd=>rw [hq] at hx; cases kd <;> simp [inCell] at hx ⊢
      · exact .inr e
    rcases this with e | e
    · obtain ⟨c,e1,_,e3⟩:=lookC x (lookup_mem' e)
      exact ⟨c,_,e1,e3⟩
    · obtain ⟨c,v,_,⟨o,e',d⟩,q3,_⟩:=lookF x e
      exact ⟨c,v,q3,o,k14 _ _ e',d⟩
  · intro x c hl
    rcases look x c hl with ⟨hm,hc⟩ | ⟨_,hc,hf⟩
    · exact ⟨.inr (.inr (.inr (.inr ⟨x,hm,hl⟩))),Nat.ne_of_gt hc⟩
    · have q:=F.cx x c hc
      obtain ⟨o,e⟩:=F.live c q.1
      exact ⟨.inl q.1,Nat.ne_of_lt (old c o e)⟩
  · intro x y c hx hy
    have older:∀ z,env.cells.lookup z=some c→¬ C + 1 ≤ c:=fun z hz q=>by
      obtain ⟨o,e⟩:=F.live c (F.cx z c hz).1
      exact absurd (old c o e) (Nat.not_lt.mpr (Nat.le_of_succ_le q))
    rcases look x c hx with ⟨hm,hc⟩ | ⟨_,hc,_⟩ <;> rcases look y c hy with ⟨hm',hc'⟩ | ⟨_,hc',_⟩
    · have:=cf_inj x y sc'.names (h3.push { cls:=.type "dict", data:=.dict #[] }) (takeCells env sc'.names []) c S.nd hm hm'
      rw [Heap.size_push,eC] at this
      exact this hx hy
    · exact absurd hc (older y hc')
    · exact absurd hc' (older x hc)
    · exact F.cinj x y c hc hc'
  · intro i hi x hx
    refine ⟨fun u=>.inl rfl,fun hk c hl=>?_⟩
    rcases look x c hl with ⟨hm,_⟩ | ⟨_,_,hf⟩
    · exact .inr ⟨x,hm,hl⟩
    · have:=hmi i hi x hx
      rw [hf] at this
      cases this
  · intro i x d hi hv hd hno
    obtain ⟨hf,hd'⟩:=isFree i x d hi hv hd
    obtain ⟨v,e,r⟩:=F.vars i x d hi (visF x hf) hd' hno
    exact ⟨v,by rw [rdF x hf]; exact e,(r.weak xOld).mono fun a o u e=>k14 a o e⟩
  · intro i x d hi hv hd ho
    obtain ⟨hf,hd'⟩:=isFree i x d hi hv hd
    obtain ⟨a,e,r,w⟩:=F.owns i x d hi (visF x hf) hd' ho
    obtain ⟨o,ea⟩:=r.rep.get
    refine ⟨a,by rw [rdF x hf]; exact e,⟨.inl r.x,(r.rep.weak xOld).mono (fun o e=>k14 a o e) fun a o u e=>k14 a o e,Nat.ne_of_lt (old a o ea),fun y c hl=>?_⟩,fun q=>absurd ho (no i q)⟩
    rcases look y c hl with ⟨_,hc⟩ | ⟨_,hc,_⟩
    · exact fun q=>absurd (old a o ea) (by rw [← q]; exact Nat.not_lt.mpr (Nat.le_of_succ_le hc))
    · exact r.nc y c hc
  · intro i j x y a hij hi hj hx hy gi gj e1
    intro e2
    have q1:=known i x _ hx gi e1
    have q2:=known j y _ hy gj e2
    exact F.apart i j x y a hij hi hj hx hy q1.2.1 q2.2.1 q1.1 q2.1
  · cases e:h3.get? a with
    | none=>rfl
    | some o=>exact absurd (Heap.lt_size e) (eC ▸ Nat.not_lt.mpr (wNew a ha))
  · rcases look y c hl with ⟨_,hc⟩ | ⟨_,hc,_⟩
    · exact .inl hc
    · exact .inr (F.live c (F.cx y c hc).1)
  · obtain ⟨q1,q2,q3⟩:=known j x _ hj hg e
    cases hs:St.get σ j with
    | none=>exact absurd hs q2
    | some d=>
      obtain ⟨a',e',r,_⟩:=F.owns j x d hj (visF x q3) hs ho
      have e':=q1.symm.trans e'
      cases e'
      exact ⟨r.rep.get,q1⟩
end
noncomputable def compF (test:St→Option Bool) (step:D→St→Option D) (one:Bool) (tg:List Nat) (σ:St):List D→D→Option D
  | [],acc=>some acc
  | d :: ds,acc=>(bindT one tg d σ).bind fun σ'=>(test σ').bind fun b=>bif b then (step acc σ').bind fun acc'=>compF test step one tg σ ds acc' else compF test step one tg σ ds acc
noncomputable def stepL (elt:St→Option D) (acc:D) (σ:St):Option D:=onL acc fun ys=>(elt σ).map fun y=>.list (ys ++ [y])
noncomputable def stepK (key val:St→Option D) (acc:D) (σ:St):Option D:=onD acc fun ys=>(key σ).bind fun k=>onS k fun k=>(val σ).map fun v=>.dict (dictPut k v ys)
theorem compL_F {test:St→Option Bool} {elt:St→Option D} {one:Bool} {tg:List Nat} {σ:St}:∀ {ds ys:List D} (acc:List D),compL test elt one tg σ ds=some ys→compF test (stepL elt) one tg σ ds (.list acc)=some (.list (acc ++ ys))
  | [],_,acc,h=>by cases h; rw [List.append_nil]; rfl
  | d :: ds,ys,acc,h=>bind_ h fun σ' e1 h=>bind_ h fun b e2 h=>bind_eq e1 (bind_eq e2 (by
    cases b with
    | false=>exact compL_F acc h
    | true=>exact bind_ h fun y e3 h=>map_ h fun zs e4 e5=>bind_eq (map_eq e3) (by rw [compL_F (acc ++ [y]) e4,← e5,List.append_assoc]; rfl)))
theorem compD_F {test:St→Option Bool} {key val:St→Option D} {one:Bool} {tg:List Nat} {σ:St}:∀ {ds:List D} {acc ys:List (Str × D)},compD test key val one tg σ ds acc=some ys→compF test (stepK key val) one tg σ ds (.dict acc)=some (.dict ys)
  | [],_,_,h=>by cases h; rfl
  | d :: ds,acc,ys,h=>bind_ h fun σ' e1 h=>bind_ h fun b e2 h=>bind_eq e1 (bind_eq e2 (by
    cases b with
    | false=>exact compD_F h
    | true=>exact bind_ h fun k e3 h=>onS_ (motive:=fun k=>key σ'=some k→_) h (fun k h e3=>bind_ h fun v e4 h=>bind_eq (bind_eq e3 (map_eq e4)) (compD_F h)) e3))
noncomputable def dsz:D→Nat
  | .list ds=>ds.length
  | .dict ds=>ds.length
  | _=>0
theorem dictPut_length (k:Str) (d:D):∀ l:List (Str × D),(dictPut k d l).length ≤ l.length + 1
  | []=>by simp [dictPut]
  | p :: r=>by
    simp only [dictPut]
    split
    · simp
    · have:=dictPut_length k d r
      simp only [List.length_cons]; exact Nat.succ_le_succ this
section
variable {G:Gl} {X:Addr→Prop} {h:Heap}
theorem stored_put:∀ {kvs:List (Str × D)} {kv:List (Str × Value)} {k:Str} {v:Value} {d:D},RepK G X h kv kvs→(kv.map (·.1)).Nodup→Rep G X h v d→RepK G X h (stored kv k v) (dictPut k d kvs)
  | [],_,k,v,d,q,_,r=>by cases q; exact .cons r .nil
  | (k',d0) :: kvs,_,k,v,d,⟨v0,kv,q,a,b⟩,hn,r=>by
    subst q
    simp only [List.map_cons,List.nodup_cons] at hn
    by_cases e:k'=k
    · subst e
      have:kv.map (fun p=>if p.1=k' then (p.1,v) else p)=kv:=by
        refine (List.map_congr_left fun p hp=>if_neg fun (e:p.1=k')=>hn.1 (e ▸ List.mem_map_of_mem (f:=(·.1)) hp)).trans (List.map_id kv)
      simp only [stored,dictPut,List.any_cons,decide_true,Bool.true_or,if_true,List.map_cons,beq_self_eq_true,this]
      exact .cons r b
    · have ih:=stored_put (k:=k) b hn.2 r
      have e2:stored ((k',v0) :: kv) k v=(k',v0) :: stored kv k v:=by
        unfold stored
        simp only [List.any_cons,e,decide_false,Bool.false_or,List.map_cons,if_false]
        cases kv.any _ <;> rfl
      rw [e2]
      simp only [dictPut,beq_eq_false_iff_ne.mpr e,Bool.false_eq_true,if_false]
      exact .cons a ih
end
structure CompRule (prog:Program) (w:World) (e target:PySem.Expr) (ifs:List PySem.Expr) (StepW:Around→(Value→Shared→Prop)→Addr→Env→(Shared→Prop)→Shared→Prop):Prop where
  loop:∀ (A:Around) (D:Addr) (it:Value) (env:Env) (R:Result→Shared→Prop) (I:Nat→Shared→Prop),
    (∀ n s,I n s→wpAny (model prog w) A (pyNext it) (fun r s₁=>match r with
      | none=>R (.ok .next) s₁
      | some v=>wpAny (model prog w) A (letOwnedTupleGo target it v) (fun u s₀=>wpAny (model prog w) A (assign target env v) (fun u s₂=>
          wpAny (model prog w) A (forIn ifs true fun c r=>if r=true then do let ok ← isTrue c env (eval c env); pure (ForInStep.yield ok) else pure (ForInStep.yield r)) (fun ok s₃=>
            if ok=true then StepW A (notedBy (model prog w) A env fun e s'=>R (.error e) s') D env (fun s₅=>∃ m,m < n∧I m s₅) s₃
            else ∃ m,m < n∧I m s₃) (notedBy (model prog w) A env fun e s'=>R (.error e) s') s₂) (notedBy (model prog w) A env fun e s'=>R (.error e) s') s₀) (notedBy (model prog w) A env fun e s'=>R (.error e) s') s₁) (notedBy (model prog w) A env fun e s'=>R (.error e) s') s)→
    ∀ n s,I n s→codeAny (model prog w) A (.compLoop e 0 it (.ref D) env) R s
  start:∀ (A:Around) (D:Addr) (it:Value) (env:Env) (R:Result→Shared→Prop) (s:Shared),
    codeAny (model prog w) A (.compLoop e 0 it (.ref D) env) R s→
    wpAny (model prog w) A (pyIter it) (fun it' s'=>codeAny (model prog w) A (.compLoop e 0 it' (.ref D) env) R s') (notedBy (model prog w) A env fun x s'=>R (.error x) s') s→
    codeAny (model prog w) A (.compStart e 0 it (.ref D) env) R s
section
variable {prog:Program} {w:World}
noncomputable def stepLW (prog:Program) (w:World) (elt:PySem.Expr) (A:Around) (E:Value→Shared→Prop) (D:Addr) (env:Env) (Q:Shared→Prop) (s:Shared):Prop:=
  wpAny (model prog w) A (eval elt env) (fun x s₄=>wpAny (model prog w) A (call (.builtin "list.append") [.ref D,x]) (fun u s₅=>Q s₅) E s₄) E s
noncomputable def stepKW (prog:Program) (w:World) (kx vx:PySem.Expr) (A:Around) (E:Value→Shared→Prop) (D:Addr) (env:Env) (Q:Shared→Prop) (s:Shared):Prop:=
  wpAny (model prog w) A (eval kx env) (fun kv s₄=>wpAny (model prog w) A (eval vx env) (fun vv s₅=>wpAny (model prog w) A (dictSet D kv vv) (fun u s₆=>Q s₆) E s₅) E s₄) E s
theorem compRule_list {elt target iter:PySem.Expr} {ifs:List PySem.Expr} {scope:Scope} {pos:Pos}:CompRule prog w (.ListComp elt [⟨target,iter,ifs,0⟩] scope pos) target ifs (stepLW prog w elt) where
  start:=fun A D it env R s h0 h=>codeAny_compStart_list h0 h
  loop:=fun A D it env R I turn n s h=>by
    refine codeAny_loop rfl I (fun n s hI=>?_) n h
    show wpAny _ A ((compTurn (.ListComp elt [⟨target,iter,ifs,0⟩] scope pos) 0 it (.ref D) env).onRaise (fun x=>do noteFrame x env; theTreesLotGoes x)) _ _ s
    refine wpAny_noted ?_
    rw [compTurn_list]
    refine wpAny_bind (wpAny_standAt (wpAny_bind (wpAny_mono (turn n s hI) (fun r s₁ h₁=>?_) fun u u h'=>h')))
    cases r with
    | none=>exact wpAny_pure h₁
    | some v=>
      refine wpAny_bind (wpAny_mono h₁ (fun u s₀ h₀'=>?_) fun u u h'=>h')
      refine wpAny_bind (wpAny_mono h₀' (fun u s₂ h₂=>wpAny_bind (wpAny_mono h₂ (fun ok s₃ h₃=>?_) fun u u h'=>h')) fun u u h'=>h')
      cases ok with
      | false=>exact wpAny_pure ⟨rfl,h₃⟩
      | true=>
        exact wpAny_bind (wpAny_bind (wpAny_mono h₃ (fun x s₄ h₄=>wpAny_bind (wpAny_mono h₄ (fun u s₅ h₅=>wpAny_pure (wpAny_pure ⟨rfl,h₅⟩)) fun u u h'=>h')) fun u u h'=>h'))
theorem compRule_dict {kx vx target iter:PySem.Expr} {ifs:List PySem.Expr} {scope:Scope} {pos:Pos}:CompRule prog w (.DictComp kx vx [⟨target,iter,ifs,0⟩] scope pos) target ifs (stepKW prog w kx vx) where
  start:=fun A D it env R s h0 h=>codeAny_compStart_dict h0 h
  loop:=fun A D it env R I turn n s h=>by
    refine codeAny_loop rfl I (fun n s hI=>?_) n h
    show wpAny _ A ((compTurn (.DictComp kx vx [⟨target,iter,ifs,0⟩] scope pos) 0 it (.ref D) env).onRaise (fun x=>do noteFrame x env; theTreesLotGoes x)) _ _ s
    refine wpAny_noted ?_
    rw [compTurn_dict]
    refine wpAny_bind (wpAny_standAt (wpAny_bind (wpAny_mono (turn n s hI) (fun r s₁ h₁=>?_) fun u u h'=>h')))
    cases r with
    | none=>exact wpAny_pure h₁
    | some v=>
      refine wpAny_bind (wpAny_mono h₁ (fun u s₀ h₀'=>?_) fun u u h'=>h')
      refine wpAny_bind (wpAny_mono h₀' (fun u s₂ h₂=>wpAny_bind (wpAny_mono h₂ (fun ok s₃ h₃=>?_) fun u u h'=>h')) fun u u h'=>h')
      cases ok with
      | false=>exact wpAny_pure ⟨rfl,h₃⟩
      | true=>
        exact wpAny_bind (wpAny_bind (wpAny_mono h₃ (fun kv s₄ h₄=>wpAny_bind (wpAny_holding (wpAny_mono h₄ (fun vv s₅ h₅=>wpAny_bind (wpAny_standAt (wpAny_holding (wpAny_mono h₅ (fun u s₆ h₆=>wpAny_pure ⟨rfl,h₆⟩) fun u u h'=>h')))) fun u u h'=>h'))) fun u u h'=>h'))
end
noncomputable def IterOf (G:Gl) (A:Around) (X:Addr→Prop) (nm:Bool) (x:Value) (ds:List D) (s:Shared):Prop:=
  ∀ (Q:Value→Shared→Prop) (E:Value→Shared→Prop),
    (∀ J h tk,s.heap.get? J=none→(∃ o,h.get? J=some o)→(∀ b o,s.heap.get? b=some o→h.get? b=some o)→
      (∀ X':Addr→Prop,X' J→(∀ b o,s.heap.get? b=some o→X' b→X b)→∃ Sm,Itr G A X' J nm ds Sm∧Sm 0 h)→Q (.ref J) { s with heap:=h,toks:=tk })→
    wpAny (model G.prog G.w) A (pyIter x) Q E s
theorem tgt_facts {I:FI} {sc:Scope} {x:Str} {i:Nat} (h1:tgtOk I sc x i=true) (h2:i ∉ I.own):i ∉ I.own∧∃ x,I.tbl[i]?=some x∧mine (sc.names.lookup x)=true:=⟨h2,x,tgt_at h1,(Bool.and_eq_true_iff.mp h1).2⟩
theorem tgts_facts {I:FI} {sc:Scope}:∀ {es:List PySem.Expr} {is:List Nat},tgts I sc es is=true→∀ i ∈ is,i ∉ I.own∧∃ x,I.tbl[i]?=some x∧mine (sc.names.lookup x)=true
  | [],_,h,i,hi=>by cases List.isEmpty_iff.mp h; cases hi
  | _ :: _,_,h,i,hi=>tgts_cons h fun x q j r u e h1 h2 h=>(List.mem_cons.mp (e ▸ hi)).elim (fun (q:i=j)=>q ▸ tgt_facts h1 h2) fun hi=>tgts_facts h i hi
theorem tgtE_facts {I:FI} {sc:Scope} {one:Bool} {tg:List Nat} {t:PySem.Expr} (ok:tgtE I sc one tg t=true):∀ i ∈ tg,i ∉ I.own∧∃ x,I.tbl[i]?=some x∧mine (sc.names.lookup x)=true:=
  tgtE_cases ok (fun u u u u e u h1 h2 u hi=>List.mem_singleton.mp (e ▸ hi) ▸ tgt_facts h1 h2) fun u u u u u h=>tgts_facts h
theorem tgtE_fit {I:FI} {sc:Scope} {one nm:Bool} {tg:List Nat} {t:PySem.Expr} {d:D} {σ σ':St} (ok:tgtE I sc one tg t=true) (hn:nm=true ∨ one=false) (hb:bindT one tg d σ=some σ'):TgFit nm t d:=
  tgtE_cases ok (fun x q u e u e3 u u=>.inl ⟨hn.elim id fun z=>absurd (e.symm.trans z) Bool.noConfusion,x,q,e3⟩) fun es k q e e3 u=>.inr (by
    subst e
    exact onT_ (show onT d _=some σ' from hb) fun ds u=>⟨es,k,q,ds,e3,rfl⟩)
section
variable {G:Gl} {I:FI} {sc sc':Scope} {wr tg:List Nat} {env:Env} {X W:Addr→Prop} {σ:St} {s:Shared} {A:Around} {E:Value→Shared→Prop}
noncomputable def TestsOK (G:Gl) (A:Around) (I:FI) (sc':Scope) (tg:List Nat) (ifs:List PySem.Expr) (test:St→Option Bool):Prop:=
  ∀ (env:Env) (X W:Addr→Prop) (s:Shared) (σ:St) (b:Bool) (E:Value→Shared→Prop),FrOK G I sc' tg env X W s.heap σ→BaseOK G s.heap→test σ=some b→
    wpAny (model G.prog G.w) A (forIn ifs true fun c r=>if r=true then do let ok ← isTrue c env (eval c env); pure (ForInStep.yield ok) else pure (ForInStep.yield r)) (fun ok s'=>ok=b∧Keeps s s') E s
noncomputable def StepOK2 (G:Gl) (A:Around) (I:FI) (sc':Scope) (tg:List Nat) (one:Bool) (σc:St) (ds:List D) (Z:Addr→Prop) (PZ:Nat→D→Heap→Prop) (StepW:Around→(Value→Shared→Prop)→Addr→Env→(Shared→Prop)→Shared→Prop) (step:D→St→Option D):Prop:=
  ∀ (i:Nat) (x:D) (env:Env) (X W:Addr→Prop) (s:Shared) (σ:St) (a:Addr) (d d':D) (E:Value→Shared→Prop) (Q:Shared→Prop),ds[i]?=some x→bindT one tg x σc=some σ→FrOK G I sc' tg env X W s.heap σ→BaseOK G s.heap→X a→(∀ b,Z b→X b∧b ≠ a)→RepO G X s.heap a d→PZ i d s.heap→dsz d ≤ 4 * cap→step d σ=some d'→
    (∀ s',dsz d' ≤ dsz d + 1→RepO G X s'.heap a d'→PZ (i + 1) d' s'.heap→KeepsW (fun b=>b=a ∨ Z b) s s'→Q s')→StepW A E a env Q s
noncomputable def StepOK (G:Gl) (A:Around) (I:FI) (sc':Scope) (tg:List Nat) (StepW:Around→(Value→Shared→Prop)→Addr→Env→(Shared→Prop)→Shared→Prop) (step:D→St→Option D):Prop:=
  ∀ (env:Env) (X W:Addr→Prop) (s:Shared) (σ:St) (a:Addr) (d d':D) (E:Value→Shared→Prop) (Q:Shared→Prop),FrOK G I sc' tg env X W s.heap σ→BaseOK G s.heap→X a→RepO G X s.heap a d→dsz d ≤ 4 * cap→step d σ=some d'→
    (∀ s',dsz d' ≤ dsz d + 1→RepO G X s'.heap a d'→KeepsW (·=a) s s'→Q s')→StepW A E a env Q s
theorem BaseOK.size_sys {h:Heap} (B:BaseOK G h):(h.objs.size == sysModules)=false:=beq_eq_false_iff_ne.mpr fun e=>by
  have h1:=B.T.g.lt
  rw [e] at h1
  exact absurd h1 (by decide)
theorem KeepsW.shape {W:Addr→Prop} {s s':Shared} (k:KeepsW W s s'):∃ h tk,s'={ s with heap:=h,toks:=tk }:=let ⟨h,t,e,_⟩:=k; ⟨h,t,e⟩
theorem KeepsW.wide {W W':Addr→Prop} {s s':Shared} (k:KeepsW W s s') (h:∀ a,W a→W' a):KeepsW W' s s':=let ⟨h',t,e,q⟩:=k; ⟨h',t,e,fun b o n=>q b o fun w=>n (h b w)⟩
noncomputable abbrev tests (ifs:List PySem.Expr) (env:Env):Sem Bool:=forIn ifs true fun c r=>if r=true then do let ok ← isTrue c env (eval c env); pure (ForInStep.yield ok) else pure (ForInStep.yield r)
section
variable {Z CX CW:Addr→Prop} {PZ:Nat→D→Heap→Prop} {hb:Heap} {J Da:Addr} {cenv:Env} {σc:St} {Sm:Nat→Heap→Prop} {e target:PySem.Expr} {ifs:List PySem.Expr} {one nm:Bool} {StepW:Around→(Value→Shared→Prop)→Addr→Env→(Shared→Prop)→Shared→Prop} {step:D→St→Option D} {test:St→Option Bool} {ds:List D} {d0 d:D}
theorem comp_turn {i:Nat} {h:Heap} {tk:Nat} {d1:D} {N:Shared→Prop} {K:Shared→Prop} (ht:tgtE I sc' one tg target=true) (hnm:nm=true) (hh:A.handled=none) (hlen:ds.length ≤ 3 * cap) (hcl:∀ j ∈ tg,St.get σc j=none)
    (IT:Itr G A CX J nm ds Sm) (JX:CX J) (DX:CX Da) (hJD:J ≠ Da) (JC:J ≠ cenv.locals) (DC:Da ≠ cenv.locals) (nJW:¬ CW J) (nDW:¬ CW Da) (cJ:∀ y c,cenv.cells.lookup y=some c→c ≠ J) (cD:∀ y c,cenv.cells.lookup y=some c→c ≠ Da)
    (n0:∀ b o,s.heap.get? b=some o→¬ CW b∧b ≠ J∧b ≠ Da) (zl:∀ b,Z b→CX b∧(∃ o,s.heap.get? b=some o)∧b ≠ cenv.locals∧∀ y c,cenv.cells.lookup y=some c→c ≠ b)
    (clr:∀ j,j ∈ I.own→j ∉ tg) (hPZ:∀ i d h h',PZ i d h→(∀ b o,Z b→h.get? b=some o→h'.get? b=some o)→PZ i d h') (hZl:∀ i d h,PZ i d h→∀ b,Z b→∃ o,h.get? b=some o) (hPf:∀ τ,test τ=some false→∀ i d h,PZ i d h→PZ (i + 1) d h)
    (htests:TestsOK G A I sc' tg ifs test) (hstep:StepOK2 G A I sc' tg one σc ds Z PZ StepW step) (Bb:BaseOK G hb) (kb:∀ b o,hb.get? b=some o→s.heap.get? b=some o) (zb:∀ b,Z b→hb.get? b=none)
    (hs:Sm i h) (Fh:FrOK G I sc' tg cenv CX CW h σc) (r:RepO G CX h Da d1) (hi:i < ds.length) (hc:compF test step one tg σc (ds[i] :: ds.drop (i + 1)) d1=some d) (hz:dsz d1 ≤ i) (k:∀ b o,¬ Z b→s.heap.get? b=some o→h.get? b=some o) (pz:PZ i d1 h)
    (on:∀ j x a,I.tbl[j]?=some x→j ∈ I.own→St.get σc j ≠ none→rd h cenv x=some (.ref a)→a ≠ J∧a ≠ Da∧¬ Z a)
    (hK:∀ h' tk' d',Sm (i + 1) h'→FrOK G I sc' tg cenv CX CW h' σc→RepO G CX h' Da d'→compF test step one tg σc (ds.drop (i + 1)) d'=some d→dsz d' ≤ i + 1→(∀ b o,¬ Z b→s.heap.get? b=some o→h'.get? b=some o)→PZ (i + 1) d' h'→
      (∀ j x a,I.tbl[j]?=some x→j ∈ I.own→St.get σc j ≠ none→rd h' cenv x=some (.ref a)→a ≠ J∧a ≠ Da∧¬ Z a)→K { s with heap:=h',toks:=tk' }) :
    wpAny (model G.prog G.w) A (pyNext (.ref J)) (fun r s₁=>match r with
      | none=>N s₁
      | some v=>wpAny (model G.prog G.w) A (letOwnedTupleGo target (.ref J) v) (fun u s₀=>wpAny (model G.prog G.w) A (assign target cenv v) (fun u s₂=>wpAny (model G.prog G.w) A (tests ifs cenv) (fun ok s₃=>if ok=true then StepW A E Da cenv K s₃ else K s₃) E s₂) E s₀) E s₁) E { s with heap:=h,toks:=tk }:=
  bind_ hc fun σ1 hb1 hc=>bind_ hc fun b e2 hc=>by
  refine wpAny_mono (IT.next i ds[i] target { s with heap:=h,toks:=tk } (fun v s₀=>wpAny (model G.prog G.w) A (assign target cenv v) (fun u s₂=>wpAny (model G.prog G.w) A (tests ifs cenv) (fun ok s₃=>if ok=true then StepW A E Da cenv K s₃ else K s₃) E s₂) E s₀) E (tgtE_fit ht (.inl hnm) hb1) hs (List.getElem?_eq_getElem hi) fun v h5 tk5 hs5 r5 k5=>?_) (fun r s₁ hr=>match r,hr with
    | some _,hr=>hr) fun u u e=>e
  obtain ⟨F5,rd5⟩:=Fh.monoJ (h':=h5) JX (let ⟨o,_,q,_⟩:=IT.live _ _ hs5; ⟨o,q⟩) JC cJ (fun j x a h1 h2 h3 h4=>(on j x a h1 h2 h3 h4).1) k5
  have zJ:∀ b,Z b→b ≠ J∧b ≠ Da∧¬ CW b:=fun b z=>let ⟨_,q⟩:=(zl b z).2.1; ⟨(n0 b _ q).2.1,(n0 b _ q).2.2,(n0 b _ q).1⟩
  refine wpAny_mono (FrOK.assign_tgt (s:={ s with heap:=h5,toks:=tk5 }) F5 hh ht (fun u q=>q) (r5 CX Fh.live fun u q=>q) hb1) (fun u s6 z6=>?_) fun u u e=>e
  obtain ⟨F6,⟨h6,tk6,q6',q6⟩,rd6⟩:=z6
  subst q6'
  have k06:∀ b o,¬ Z b→s.heap.get? b=some o→h6.get? b=some o:=fun b o z q=>q6 b o (n0 b o q).1 (k5 b o (n0 b o q).2.1 (k b o z q))
  have B6:BaseOK G h6:=Bb.mono fun b o q=>k06 b o (fun z=>nomatch (zb b z).symm.trans q) (kb b o q)
  refine wpAny_mono (htests cenv CX CW _ σ1 b _ F6 B6 e2) (fun ok s7 z7=>?_) fun u u e=>e
  obtain ⟨rfl,h7,tk7,q7',q7⟩:=z7
  subst q7'
  have kx7:∀ b o,¬ CX b→h.get? b=some o→h7.get? b=some o:=fun b o n q=>q7 b o (q6 b o (fun w=>n (F6.wx b w)) (k5 b o (fun e=>n (e ▸ JX)) q))
  have kD:∀ o,h.get? Da=some o→h7.get? Da=some o:=fun o q=>q7 _ o (q6 _ o nDW (k5 _ o (Ne.symm hJD) q))
  have ro7:RepO G CX h7 Da d1:=r.mono kD kx7
  have hs7:Sm (i + 1) h7:=IT.frame _ _ _ hs5 (fun o q=>q7 _ o (q6 _ o nJW q)) fun b o n q=>q7 b o (q6 b o (fun w=>n (F6.wx b w)) q)
  have pz7:PZ i d1 h7:=hPZ _ _ _ _ pz fun b o z q=>q7 b o (q6 b o (zJ b z).2.2 (k5 b o (zJ b z).1 q))
  have back:FrOK G I sc' tg cenv CX CW h7 σc:=by
    obtain ⟨l1,g1⟩:=bindT_get hb1
    exact (F6.mono q7).forget l1.symm fun j dj hj=>(g1 j fun q=>nomatch (hcl j q).symm.trans hj).trans hj
  have on7:∀ j x a,I.tbl[j]?=some x→j ∈ I.own→St.get σc j ≠ none→rd h7 cenv x=some (.ref a)→a ≠ J∧a ≠ Da∧¬ Z a:=fun j x a h1 h2 h3 h4=>
    on j x a h1 h2 h3 ((((rd_mono F6 q7 x).trans (rd6 x fun i' hi' e=>clr j h2 (tbl_inj F5.nodup h1 e ▸ hi'))).trans (rd5 x)).symm.trans h4)
  cases ok with
  | false=>exact hK h7 tk7 d1 hs7 back ro7 hc (Nat.le_succ_of_le hz) (fun b o z q=>q7 b o (k06 b o z q)) (hPf _ e2 _ _ _ pz7) on7
  | true=>
    refine bind_ hc fun d2 e3 hc=>hstep i _ cenv CX CW _ σ1 Da d1 d2 _ _ (List.getElem?_eq_getElem hi) hb1 (F6.mono q7) (B6.mono q7) DX (fun b z=>⟨(zl b z).1,(zJ b z).2.1⟩) ro7 pz7 (Nat.le_trans hz (Nat.le_trans (Nat.le_of_lt hi) (Nat.le_trans hlen (Nat.mul_le_mul_right _ (by decide))))) e3 fun s8 hz8 ro8 pz8 k8=>?_
    obtain ⟨h8,tk8,q8',q8⟩:=k8
    subst q8'
    obtain ⟨F8,rd8⟩:=back.turnZ (Z:=fun b=>b=Da ∨ Z b) (X':=CX) (W':=CW) (h':=h8) (fun z=>z.elim (Ne.symm DC) fun z=>(zl _ z).2.2.1 rfl) (fun y c hc z=>z.elim (cD y c hc) fun z=>(zl _ z).2.2.2 y c hc rfl) q8 (fun b z=>z.elim (fun e=>e ▸ DX) fun z=>(zl b z).1)
      (fun j x a h1 h2 h3 h4 z=>z.elim (on7 j x a h1 h2 h3 h4).2.1 (on7 j x a h1 h2 h3 h4).2.2) (fun b q=>(Classical.em (b=Da ∨ Z b)).elim (fun z=>z.elim (fun e=>e ▸ ro8.get) fun z=>hZl _ _ _ pz8 b z) fun n=>(back.live b q).elim fun o e=>⟨o,q8 b o n e⟩) back.wx (fun u q u=>q) (fun u u u q=>q) fun u q=>q
    exact hK h8 tk8 d2 (IT.frame _ _ _ hs7 (fun o=>q8 J o fun z=>z.elim hJD fun z=>(zJ _ z).1 rfl) fun b o n=>q8 b o fun z=>z.elim (fun e=>n (e ▸ DX)) fun z=>n (zl b z).1) F8 ro8 hc (Nat.le_trans hz8 (Nat.succ_le_succ hz)) (fun b o z q=>q8 b o (fun z'=>z'.elim (n0 b o q).2.2 z) (q7 b o (k06 b o z q))) pz8 fun j x a h1 h2 h3 h4=>on7 j x a h1 h2 h3 ((rd8 x).symm.trans h4)
theorem comp_loop {h4:Heap} {tk:Nat} {P:Result→Shared→Prop} (CR:CompRule G.prog G.w e target ifs StepW) (ht:tgtE I sc' one tg target=true) (hnm:nm=true) (hh:A.handled=none) (hlen:ds.length ≤ 3 * cap) (hcl:∀ j ∈ tg,St.get σc j=none)
    (IT:Itr G A CX J nm ds Sm) (JX:CX J) (DX:CX Da) (hJD:J ≠ Da) (JC:J ≠ cenv.locals) (DC:Da ≠ cenv.locals) (nJW:¬ CW J) (nDW:¬ CW Da) (cJ:∀ y c,cenv.cells.lookup y=some c→c ≠ J) (cD:∀ y c,cenv.cells.lookup y=some c→c ≠ Da)
    (n0:∀ b o,s.heap.get? b=some o→¬ CW b∧b ≠ J∧b ≠ Da) (zl:∀ b,Z b→CX b∧(∃ o,s.heap.get? b=some o)∧b ≠ cenv.locals∧∀ y c,cenv.cells.lookup y=some c→c ≠ b)
    (clr:∀ j,j ∈ I.own→j ∉ tg) (hPZ:∀ i d h h',PZ i d h→(∀ b o,Z b→h.get? b=some o→h'.get? b=some o)→PZ i d h') (hZl:∀ i d h,PZ i d h→∀ b,Z b→∃ o,h.get? b=some o) (hPf:∀ τ,test τ=some false→∀ i d h,PZ i d h→PZ (i + 1) d h)
    (htests:TestsOK G A I sc' tg ifs test) (hstep:StepOK2 G A I sc' tg one σc ds Z PZ StepW step) (Bb:BaseOK G hb) (kb:∀ b o,hb.get? b=some o→s.heap.get? b=some o) (zb:∀ b,Z b→hb.get? b=none)
    (hs:Sm 0 h4) (Fh:FrOK G I sc' tg cenv CX CW h4 σc) (r:RepO G CX h4 Da d0) (hc:compF test step one tg σc ds d0=some d) (hz:dsz d0=0) (k:∀ b o,s.heap.get? b=some o→h4.get? b=some o) (pz:PZ 0 d0 h4)
    (on:∀ j x a,I.tbl[j]?=some x→j ∈ I.own→St.get σc j ≠ none→rd h4 cenv x=some (.ref a)→a ≠ J∧a ≠ Da∧¬ Z a)
    (fin:∀ h tk,(∃ m,h.Ns cenv.locals m)→RepO G CX h Da d→(∀ b o,¬ Z b→s.heap.get? b=some o→h.get? b=some o)→PZ ds.length d h→P (.ok .next) { s with heap:=h,toks:=tk }) :
    codeAny (model G.prog G.w) A (.compLoop e 0 (.ref J) (.ref Da) cenv) P { s with heap:=h4,toks:=tk }:=by
  let Inv:Nat→Shared→Prop:=fun n s'=>∃ i h tk d1,s'={ s with heap:=h,toks:=tk }∧n + i=ds.length∧Sm i h∧FrOK G I sc' tg cenv CX CW h σc∧RepO G CX h Da d1∧compF test step one tg σc (ds.drop i) d1=some d∧dsz d1 ≤ i ∧
    (∀ b o,¬ Z b→s.heap.get? b=some o→h.get? b=some o)∧PZ i d1 h∧∀ j x a,I.tbl[j]?=some x→j ∈ I.own→St.get σc j ≠ none→rd h cenv x=some (.ref a)→a ≠ J∧a ≠ Da∧¬ Z a
  refine CR.loop A Da (.ref J) cenv P Inv (fun n s' hI=>?_) ds.length _ ⟨0,h4,tk,d0,rfl,rfl,hs,Fh,r,hc,Nat.le_of_eq hz,fun b o u q=>k b o q,pz,on⟩
  refine hide fun P' hP=>?_
  obtain ⟨i,h,tk,d1,e,hn,hs,Fh,r,hc,hz,k,pz,on⟩:=hI
  refine hP ?_
  clear hP
  subst e
  cases n with
  | succ n=>
    have hi:i < ds.length:=om137 hn
    rw [List.drop_eq_getElem_cons hi] at hc
    exact comp_turn ht hnm hh hlen hcl IT JX DX hJD JC DC nJW nDW cJ cD n0 zl clr hPZ hZl hPf htests hstep Bb kb zb hs Fh r hi hc hz k pz on fun h' tk' d' a1 a2 a3 a4 a5 a6 a7 a8=>⟨n,Nat.lt_succ_self n,i + 1,h',tk',d',rfl,om138 hn,a1,a2,a3,a4,a5,a6,a7,a8⟩
  | zero=>
    have hie:i=ds.length:=om139 hn
    subst hie
    rw [List.drop_length] at hc
    cases hc
    refine wpAny_mono (IT.done _ (fun s'=>P (.ok .next) s') _ hs fun h5 tk5 k5=>?_) (fun r s' hr=>match r,hr with
      | none,hr=>hr) fun u u e=>e
    obtain ⟨m,hm⟩:=Fh.ns
    exact fin h5 tk5 ⟨m,hm.at' fun o q=>k5 _ _ (Ne.symm JC) q⟩ (r.mono (fun o q=>k5 _ _ (Ne.symm hJD) q) fun b o hb q=>k5 b o (fun e=>hb (e ▸ JX)) q) (fun b o z q=>k5 b o (n0 b o q).2.1 (k b o z q)) (hPZ _ _ _ _ pz fun b o z q=>k5 b o (let ⟨_,e⟩:=(zl b z).2.1; (n0 b _ e).2.1) q)
end
theorem comp_set {Z:Addr→Prop} {PZ:Nat→D→Heap→Prop} {hb h₁ h₂ h₃ h₄:Heap} {J Da C:Addr} {oJ:Obj} {tk:Nat} {e target:PySem.Expr} {ifs:List PySem.Expr} {one nm:Bool} {StepW:Around→(Value→Shared→Prop)→Addr→Env→(Shared→Prop)→Shared→Prop} {step:D→St→Option D} {test:St→Option Bool} {ds:List D} {d0 d:D} {o0:Obj}
    {use:Option (Value→Sem Unit)} {Q:Value→Shared→Prop}
    (CR:CompRule G.prog G.w e target ifs StepW) (F:FrOK G I sc wr env X W s.heap σ) (B:BaseOK G s.heap) (S:ScopeFacts I sc sc' tg) (tf:∀ i ∈ tg,i ∉ I.own∧∃ x,I.tbl[i]?=some x∧mine (sc'.names.lookup x)=true) (ht:tgtE I sc' one tg target=true) (hnm:nm=true) (hlen:ds.length ≤ 3 * cap) (hh:A.handled=none)
    (ho0:∀ X h a,h.get? a=some o0→(a == sysModules)=false→RepO G X h a d0) (hd0:dsz d0=0) (hfr:o0.isFreed=false)
    (htests:TestsOK G A I sc' tg ifs test) (hstep:StepOK2 G A I sc' tg one (clearT tg σ) ds Z PZ StepW step) (hPf:∀ τ,test τ=some false→∀ i d h,PZ i d h→PZ (i + 1) d h)
    (hZ:∀ b,Z b→X b∧b ≠ env.locals∧∀ y c,env.cells.lookup y=some c→c ≠ b) (hown:∀ j x a,I.tbl[j]?=some x→j ∈ I.own→rd s.heap env x=some (.ref a)→¬ Z a) (Bb:BaseOK G hb) (kb:∀ b o,hb.get? b=some o→s.heap.get? b=some o) (zb:∀ b,Z b→hb.get? b=none)
    (hPZ:∀ i d h h',PZ i d h→(∀ b o,Z b→h.get? b=some o→h'.get? b=some o)→PZ i d h') (hZl:∀ i d h,PZ i d h→∀ b,Z b→∃ o,h.get? b=some o) (h0:PZ 0 d0 s.heap)
    (hev:compF test step one tg (clearT tg σ) ds d0=some d)
    (hpost:∀ Da C h' tk,s.heap.get? Da=none→s.heap.get? C=none→C ≠ Da→(∃ m,h'.Ns C m)→(∀ b o,¬ Z b→s.heap.get? b=some o→h'.get? b=some o)→RepO G (fun b=>X b ∨ b=C ∨ b=Da) h' Da d→PZ ds.length d h'→
      compPost (model G.prog G.w) A E use Q (.ref Da) C (.ok .next) { s with heap:=h',toks:=tk })
    (free:∀ p ∈ sc'.names,p.2=.free→∃ c,env.cells.lookup p.1=some c) (q₁:∀ b o,s.heap.get? b=some o→h₁.get? b=some o) (nJ:h₁.get? J=none) (eJ:h₂.get? J=some oJ) (k₂:∀ b o,h₁.get? b=some o→h₂.get? b=some o)
    (hSm:∀ X':Addr→Prop,X' J→(∀ b o,h₁.get? b=some o→X' b→X b)→∃ Sm,Itr G A X' J nm ds Sm∧Sm 0 h₂)
    (eD:h₂.objs.size=Da) (e3:h₂.push o0=h₃) (eC:h₃.objs.size=C) (e4:pushCells (h₃.push { cls:=.type "dict", data:=.dict #[] }) sc'.names=h₄) :
    codeAny (model G.prog G.w) A (.compStart e 0 (.ref J) (.ref Da) (compEnv' env sc' C)) (compPost (model G.prog G.w) A E use Q (.ref Da) C) { s with heap:=h₄,toks:=tk }:=by
  have size:∀ {h:Heap} {b o},h.get? b=some o→h.get? h.objs.size=none:=fun u=>none_size _
  have k23:∀ b o,h₂.get? b=some o→h₃.get? b=some o:=fun b o q=>e3 ▸ Heap.get?_push_of_some _ q
  have k34:∀ b o,h₃.get? b=some o→h₄.get? b=some o:=fun b o q=>e4 ▸ pushCells_keeps _ _ _ _ (Heap.get?_push_of_some _ q)
  have nD2:h₂.get? Da=none:=eD ▸ none_size _
  have nC3:h₃.get? C=none:=eC ▸ none_size _
  have nD1:h₁.get? Da=none:=none_of_none (k₂ Da) nD2
  have hD3:h₃.get? Da=some o0:=e3 ▸ eD ▸ Heap.get?_push_size _ hfr
  have ne:∀ {h:Heap} {a b:Addr} {o},h.get? a=some o→h.get? b=none→a ≠ b:=fun q n e=>nomatch (e ▸ q).symm.trans n
  have F1:FrOK G I sc wr env X W h₁ σ:=F.mono q₁
  have k13:∀ b o,h₁.get? b=some o→h₃.get? b=some o:=fun b o q=>k23 b o (k₂ b o q)
  have k03:∀ b o,s.heap.get? b=some o→h₃.get? b=some o:=fun b o q=>k13 b o (q₁ b o q)
  obtain ⟨F4,rdF,wNone,cOld,ownOld⟩:=comp_frame (J:=J) (Da:=Da) eC e4 F1 S k13 nJ nD1 ⟨oJ,k23 _ _ eJ⟩ ⟨o0,hD3⟩ (fun i hi=>(tf i hi).1) (fun i hi x hx=>by
    obtain ⟨_,y,hy,hm⟩:=tf i hi
    rw [hx] at hy; cases hy; exact hm)
  have n0:∀ b o,s.heap.get? b=some o→¬ CompW env sc' C b∧b ≠ J∧b ≠ Da:=fun b o q=>⟨fun w=>(nomatch (wNone b w).symm.trans (k03 b o q)),ne (q₁ b o q) nJ,ne (q₁ b o q) nD1⟩
  have hJD:J ≠ Da:=ne eJ nD2
  have cx:∀ {b},b < C→h₁.get? b=none→∀ y c,(compCells env sc' C).lookup y=some c→c ≠ b:=fun l n y c q e=>(cOld y c q).elim (fun z=>absurd (e ▸ z) (Nat.lt_asymm l)) fun ⟨_,z⟩=>ne z n e
  obtain ⟨Sm,IT,hs0⟩:=hSm (CompX X env sc' C J Da) (.inr (.inl rfl)) fun b o q hx=>by
    rcases hx with hx | hx | hx | hx
    · exact hx
    · exact absurd hx (ne q nJ)
    · exact absurd hx (ne q nD1)
    · exact nomatch (wNone b hx).symm.trans (k13 b o q)
  have lt:∀ {b o},h₃.get? b=some o→b < C:=fun q=>eC ▸ Heap.lt_size q
  have zs:∀ b,Z b→∃ o,s.heap.get? b=some o:=fun b z=>F.live b (hZ b z).1
  have zx:∀ b,Z b→¬ (s.heap.get? b=none):=fun b z n=>(zs b z).elim fun u e=>nomatch e.symm.trans n
  have L:=comp_loop (s:=s) (cenv:=compEnv' env sc' C) (CX:=CompX X env sc' C J Da) (CW:=CompW env sc' C) (tk:=tk) (P:=compPost (model G.prog G.w) A E use Q (.ref Da) C) CR ht hnm hh hlen (σc:=clearT tg σ) (fun j hj=>(clearT_get tg σ j).trans (if_pos hj)) IT (.inr (.inl rfl)) (.inr (.inr (.inl rfl))) hJD (ne (k23 _ _ eJ) nC3) (ne hD3 nC3) (fun w=>nomatch (wNone J w).symm.trans (k23 _ _ eJ)) (fun w=>nomatch (wNone Da w).symm.trans hD3)
    (cx (lt (k23 _ _ eJ)) nJ) (cx (lt hD3) nD1) n0 (fun b z=>⟨.inl (hZ b z).1,zs b z,(zs b z).elim fun o q=>ne (k03 b o q) nC3,fun y c q e=>(compCells_look S.nd (fun x hx=>free _ hx rfl) q).elim (fun q=>(zs b z).elim fun o q'=>absurd (lt (k03 b o q')) (Nat.not_lt.mpr (Nat.le_of_succ_le (e ▸ q)))) fun q=>(hZ b z).2.2 y c q e⟩)
    (fun j hj q=>(tf j q).1 hj) hPZ hZl hPf htests hstep Bb kb zb (IT.frame 0 _ _ hs0 (fun o q=>k34 _ _ (k23 _ _ q)) fun b o u q=>k34 _ _ (k23 _ _ q)) F4 (ho0 _ _ _ (k34 _ _ hD3) (eD ▸ (B.mono fun b o q=>k₂ b o (q₁ b o q)).size_sys)) hev hd0 (fun b o q=>k34 b o (k03 b o q)) (hPZ _ _ _ _ h0 fun b o u q=>k34 b o (k03 b o q))
    (fun j x a h1 h2 h3 h4=>let ⟨⟨o,q⟩,hr⟩:=ownOld j x a h1 h2 h3 h4; ⟨ne q nJ,ne q nD1,hown j x a h1 h2 ((rd_mono F q₁ x).symm.trans hr)⟩)
    fun h tk Fh r k pz=>hpost Da C h tk (none_of_none (q₁ Da) nD1) (none_of_none (k03 C) nC3) (ne hD3 nC3).symm Fh k (r.weak fun b o q hx=>by
      rcases hx with hx | hx | hx
      · exact .inl hx
      · exact .inr (.inr (.inr (.inl hx)))
      · exact .inr (.inr (.inl hx))) pz
  exact CR.start A Da (.ref J) _ _ _ L (IT.self hnm 0 _ _ _ (IT.frame 0 _ _ hs0 (fun o q=>k34 _ _ (k23 _ _ q)) fun b o u q=>k34 _ _ (k23 _ _ q)) L)
theorem comp_gen {Z:Addr→Prop} {PZ:Nat→D→Heap→Prop} {hb:Heap} {e target iter:PySem.Expr} {ifs:List PySem.Expr} {one nm:Bool} {StepW:Around→(Value→Shared→Prop)→Addr→Env→(Shared→Prop)→Shared→Prop} {step:D→St→Option D} {test:St→Option Bool} {ds:List D} {d0 d:D} {o0:Obj}
    {newAcc first:Sem Value} {use:Option (Value→Sem Unit)} {pos:Pos} {Q:Value→Shared→Prop}
    (CR:CompRule G.prog G.w e target ifs StepW) (hcl:clausesOf e=[⟨target,iter,ifs,0⟩]) (hset:∀ x,foldedSetIterable iter env x=pure x)
    (F:FrOK G I sc wr env X W s.heap σ) (B:BaseOK G s.heap) (so:scopeOk I sc sc' tg=true) (ht:tgtE I sc' one tg target=true) (hnm:nm=true)
    (hfirst:wpAny (model G.prog G.w) A first (fun x s₁=>Keeps s s₁∧IterOf G A X nm x ds s₁) E s) (hlen:ds.length ≤ 3 * cap) (hh:A.handled=none)
    (hnew:∀ (s:Shared) (Q:Value→Shared→Prop),Q (.ref s.heap.objs.size) { s with heap:=s.heap.push o0 }→wpAny (model G.prog G.w) A newAcc Q E s) (ho0:∀ X h a,h.get? a=some o0→(a == sysModules)=false→RepO G X h a d0) (hd0:dsz d0=0) (hfr:o0.isFreed=false)
    (htests:TestsOK G A I sc' tg ifs test) (hstep:StepOK2 G A I sc' tg one (clearT tg σ) ds Z PZ StepW step) (hPf:∀ τ,test τ=some false→∀ i d h,PZ i d h→PZ (i + 1) d h)
    (hZ:∀ b,Z b→X b∧b ≠ env.locals∧∀ y c,env.cells.lookup y=some c→c ≠ b) (hown:∀ j x a,I.tbl[j]?=some x→j ∈ I.own→rd s.heap env x=some (.ref a)→¬ Z a) (Bb:BaseOK G hb) (kb:∀ b o,hb.get? b=some o→s.heap.get? b=some o) (zb:∀ b,Z b→hb.get? b=none)
    (hPZ:∀ i d h h',PZ i d h→(∀ b o,Z b→h.get? b=some o→h'.get? b=some o)→PZ i d h') (hZl:∀ i d h,PZ i d h→∀ b,Z b→∃ o,h.get? b=some o) (h0:PZ 0 d0 s.heap)
    (hev:compF test step one tg (clearT tg σ) ds d0=some d)
    (hpost:∀ Da C h' tk,s.heap.get? Da=none→s.heap.get? C=none→C ≠ Da→(∃ m,h'.Ns C m)→(∀ b o,¬ Z b→s.heap.get? b=some o→h'.get? b=some o)→RepO G (fun b=>X b ∨ b=C ∨ b=Da) h' Da d→PZ ds.length d h'→
      compPost (model G.prog G.w) A E use Q (.ref Da) C (.ok .next) { s with heap:=h',toks:=tk }) :
    wpAny (model G.prog G.w) A (comprehension e sc' env pos newAcc false first use) Q E s:=by
  have S:=scope_facts so
  have tf:=tgtE_facts ht
  have free:∀ p ∈ sc'.names,p.2=.free→∃ c,env.cells.lookup p.1=some c:=fun p hp hk=>by
    have hk':inCell (env.kindOf p.1)=true:=(F.kinds p.1).elim (fun q=>q ▸ (S.frees p hp hk).1) fun q=>q.2 ▸ rfl
    obtain ⟨c,_,q,_⟩:=F.cells p.1 hk'
    exact ⟨c,q⟩
  refine wpAny_comprehension_free (cl:=takeCells env sc'.names []) hcl hset (closureFor_eq free) S.kind (fun x hx hl=>lookup_of_mem' S.nd (by rw [← hl]; exact hx)) ?_
  refine wpAny_mono hfirst (fun x s₁ h₁=>?_) fun u u e=>e
  obtain ⟨⟨h₁,t₁,q₁',q₁⟩,hit⟩:=h₁
  subst q₁'
  refine hit _ _ fun J h₂ tk₂ nJ lJ k₂ hSm=>?_
  refine hnew _ _ (wpAny_newCompEnv ?_)
  obtain ⟨oJ,eJ⟩:=lJ
  exact comp_set (s:=s) CR F B S tf ht hnm hlen hh (fun X h a=>ho0 X h a) hd0 hfr htests hstep hPf hZ hown Bb kb zb hPZ hZl h0 hev hpost free q₁ nJ eJ k₂ hSm rfl rfl rfl rfl
theorem comp_sound {e target iter:PySem.Expr} {ifs:List PySem.Expr} {one nm:Bool} {StepW:Around→(Value→Shared→Prop)→Addr→Env→(Shared→Prop)→Shared→Prop} {step:D→St→Option D} {test:St→Option Bool} {ds:List D} {d0 d:D} {o0:Obj}
    {newAcc first:Sem Value} {use:Option (Value→Sem Unit)} {pos:Pos} {Q:Value→Shared→Prop}
    (CR:CompRule G.prog G.w e target ifs StepW) (hcl:clausesOf e=[⟨target,iter,ifs,0⟩]) (hset:∀ x,foldedSetIterable iter env x=pure x)
    (F:FrOK G I sc wr env X W s.heap σ) (B:BaseOK G s.heap) (so:scopeOk I sc sc' tg=true) (ht:tgtE I sc' one tg target=true) (hnm:nm=true)
    (hfirst:wpAny (model G.prog G.w) A first (fun x s₁=>Keeps s s₁∧IterOf G A X nm x ds s₁) E s) (hlen:ds.length ≤ 3 * cap) (hh:A.handled=none)
    (hnew:∀ (s:Shared) (Q:Value→Shared→Prop),Q (.ref s.heap.objs.size) { s with heap:=s.heap.push o0 }→wpAny (model G.prog G.w) A newAcc Q E s) (ho0:∀ X h a,h.get? a=some o0→(a == sysModules)=false→RepO G X h a d0) (hd0:dsz d0=0) (hfr:o0.isFreed=false)
    (htests:TestsOK G A I sc' tg ifs test) (hstep:StepOK G A I sc' tg StepW step)
    (hev:compF test step one tg (clearT tg σ) ds d0=some d)
    (hpost:∀ Da C h' tk,s.heap.get? Da=none→s.heap.get? C=none→C ≠ Da→(∃ m,h'.Ns C m)→(∀ b o,s.heap.get? b=some o→h'.get? b=some o)→RepO G (fun b=>X b ∨ b=C ∨ b=Da) h' Da d→
      compPost (model G.prog G.w) A E use Q (.ref Da) C (.ok .next) { s with heap:=h',toks:=tk }) :
    wpAny (model G.prog G.w) A (comprehension e sc' env pos newAcc false first use) Q E s:=
  comp_gen (Z:=fun u=>False) (PZ:=fun u u u=>True) (hb:=s.heap) CR hcl hset F B so ht hnm hfirst hlen hh hnew ho0 hd0 hfr htests (fun u u env X W s σ a d d' E Q u u f b x u r u z e q=>hstep env X W s σ a d d' E Q f b x r z e fun s' z r k=>q s' z r trivial (k.wide fun u=>.inl)) (fun u u u u u u=>trivial)
    (fun u z=>z.elim) (fun u u u u u u z=>z) B (fun u u q=>q) (fun u z=>z.elim) (fun u u u u u u=>trivial) (fun u u u u u z=>z.elim) trivial hev fun Da C h' tk a b c d e f u=>hpost Da C h' tk a b c d (fun b o=>e b o id) f
end
section
variable {G:Gl} {X:Addr→Prop} {s:Shared} {A:Around}
theorem pushJ {h:Heap} (o:Obj) (hf:o.isFreed=false:=by rfl):h.get? h.objs.size=none∧(∃ o',(h.push o).get? h.objs.size=some o')∧∀ b q,h.get? b=some q→(h.push o).get? b=some q:=
  ⟨none_size h,⟨o,Heap.get?_push_size _ hf⟩,fun u u e=>Heap.get?_push_of_some _ e⟩
theorem DictOf.at_ep {prog:Program} {w:World} {h:Heap} {a:Addr} {kv:List (Str × Value)} (x:h.DictOf (PySem.strKind prog w) a kv):∃ ep,h.DictAt (PySem.strKind prog w) a kv ep:=by
  obtain ⟨o,es,ep,h1,h2,h3,h4,h5,h6⟩:=x
  exact ⟨ep,o,es,h1,h2,h3,h4,h5,h6⟩
theorem iter_list {x:Value} {ds:List D} (hh:A.handled=none) (r:Rep G X s.heap x (.list ds)):IterOf G A X true x ds s:=by
  intro Q E h
  obtain ⟨l,vs,rfl,n,p,r⟩:=r
  refine wpAny_pyIter_list p.1 ?_
  obtain ⟨a,b,c⟩:=pushJ (h:=s.heap) { cls:=.type "list_iterator", data:=.fields #[.ref l,.int 0 0] }
  obtain ⟨o,e,q⟩:=p.1
  exact h _ _ s.toks a b c fun X' xj hx=>⟨_,itr_list hh xj (fun q=>n (hx _ _ e q)) r.length,⟨⟨_,Heap.get?_push_size _ rfl,rfl,rfl⟩,⟨o,c _ _ e,q⟩⟩,r.move hx fun b o u e=>c b o e⟩
theorem iter_keys {x:Value} {kvs:List (Str × D)} (hh:A.handled=none) (r:Rep G X s.heap x (.dict kvs)):IterOf G A X true x (kvs.map fun p=>.str p.1) s:=by
  intro Q E h
  obtain ⟨d,kv,rfl,n,p,r⟩:=r
  obtain ⟨ep,pe⟩:=DictOf.at_ep p.2
  refine wpAny_pyIter_dict p.1 pe ?_
  obtain ⟨a,b,c⟩:=pushJ (h:=s.heap) { cls:=.type "dict_keyiterator", data:=.fields #[.ref d,.int 0 0,.int kv.length 0,.int ep 0] }
  exact h _ _ s.toks a b c fun X' xj hx=>⟨_,itr_keys hh xj (fun q=>p.get.elim fun o e=>n (hx _ _ e q)) r.length r.keys rfl,⟨⟨_,Heap.get?_push_size _ rfl,rfl,rfl⟩,pe.at' fun o e=>c _ _ e⟩,trivial⟩
theorem iter_range {r:Addr} {a b:Int} {t u v:Tok} (hh:A.handled=none) (hr:IsRange s.heap r a b 1 t u v) (ok:rngOk a b=true):IterOf G A X true (.ref r) (rangeD a b) s:=by
  intro Q E h
  simp only [rngOk,Bool.and_eq_true,decide_eq_true_eq] at ok
  have e62:(2:Int) ^ 62=4611686018427387904:=by decide
  unfold cap at ok
  refine wpAny_pyIter_range hr (small_one (om140 ok) (om141 ok) (om142 ok) (om143 ok)) ?_
  obtain ⟨q1,q2,q3⟩:=pushJ (h:=s.heap) { cls:=.type "range_iterator", data:=.fields #[rawInt a,rawInt (Builtin.Range.rangeSize a b 1),rawInt 1] }
  refine h _ _ s.toks q1 q2 q3 fun X' xj hx=>⟨_,itr_range (n:=(b - a).toNat) hh xj rfl,?_,trivial⟩
  have e:Builtin.Range.rangeSize a b 1=(((b - a).toNat:Nat):Int) - ((0:Nat):Int):=by
    rw [rangeSize_one]; split <;> omega
  rw [e]
  have e2:a=a + ((0:Nat):Int) * 1:=om144
  show (s.heap.push _).get? s.heap.objs.size=_
  rw [← e2]
  exact Heap.get?_push_size _ rfl
theorem iter_items {vw d:Addr} {kv:List (Str × Value)} {kvs:List (Str × D)} (hh:A.handled=none) (hd:¬ X d) (hv:s.heap.IsItemsView vw d) (p:TabOf G.prog G.w s.heap d kv) (r:RepK G X s.heap kv kvs) :
    IterOf G A X false (.ref vw) (kvs.map fun p=>.tuple [.str p.1,p.2]) s:=by
  intro Q E h
  obtain ⟨ep,pe⟩:=DictOf.at_ep p.2
  refine wpAny_pyIter_items hv pe ?_
  obtain ⟨a,b,c⟩:=pushJ (h:=s.heap) { cls:=.type "dict_itemiterator", data:=.fields #[.none,.bool false,.ref d,.int 0 0,.int kv.length 0,.int ep 0,.none,.none] }
  refine h _ _ s.toks a b c fun X' xj hx=>⟨_,itr_items hh xj (fun q=>p.get.elim fun o e=>hd (hx _ _ e q)) r.length rfl,⟨_,_,Heap.get?_push_size _ rfl⟩,pe.at' fun o e=>c _ _ e,r.move hx fun b o u e=>c b o e⟩
theorem iter_vals {vw d:Addr} {kv:List (Str × Value)} {kvs:List (Str × D)} (hh:A.handled=none) (hd:¬ X d) (hv:s.heap.IsValuesView vw d) (p:TabOf G.prog G.w s.heap d kv) (r:RepK G X s.heap kv kvs) :
    IterOf G A X true (.ref vw) (kvs.map fun p=>p.2) s:=by
  intro Q E h
  obtain ⟨ep,pe⟩:=DictOf.at_ep p.2
  refine wpAny_pyIter_values hv pe ?_
  obtain ⟨a,b,c⟩:=pushJ (h:=s.heap) { cls:=.type "dict_valueiterator", data:=.fields #[.ref d,.int 0 0,.int kv.length 0,.int ep 0] }
  refine h _ _ s.toks a b c fun X' xj hx=>⟨_,itr_vals hh xj (fun q=>p.get.elim fun o e=>hd (hx _ _ e q)) r.length rfl,⟨⟨_,Heap.get?_push_size _ rfl,rfl,rfl⟩,pe.at' fun o e=>c _ _ e⟩,r.move hx fun b o u e=>c b o e⟩
end
noncomputable def plainE (e:PySem.Expr):Bool:=!(e.ctorIdx == 22 || e.ctorIdx == 7 || e.ctorIdx == 26 || onFn e fun u as=>as.isEmpty)
theorem onFn_plain {e:PySem.Expr} {k:Str→List PySem.Expr→Bool} (h:onFn e k=true) (H:∀ x,k x []=false):plainE e=true:=
  onFn_ h fun x xp as p h=>match as,h with
    | [],h=>absurd ((H x).symm.trans h) Bool.false_ne_true
    | _ :: _,_=>rfl
theorem onMeth_plain {e:PySem.Expr} {k:PySem.Expr→Str→List PySem.Expr→Bool} (h:onMeth e k=true):plainE e=true:=onMeth_ h fun u u u u u u u=>rfl
theorem chkE_plain {I:FI} {sc:Scope} {t:TE} {e:PySem.Expr} (h:chkE I sc t e=true):plainE e=true:=by
  cases t with
  | bf=>exact onFn_plain h fun u=>rfl
  | listOf=>exact onFn_plain h fun u=>rfl
  | fn=>exact onFn_plain h fun u=>rfl
  | cls=>exact onFn_plain h fun u=>rfl
  | isTup=>exact onFn_plain h fun u=>rfl
  | mt=>exact onMeth_plain h
  | «cNone»=>exact onConst_ h fun u u u u=>rfl
  | «cBool»=>exact onConst_ h fun u u u u=>rfl
  | «cInt»=>exact onConst_ h fun u u u u=>rfl
  | «cStr»=>exact onConst_ h fun u u u u=>rfl
  | «var»=>exact onNm_ h fun u u u=>rfl
  | «bin»=>exact onBin_ h fun u u u u u=>rfl
  | «neg»=>exact onUn_ h fun u u u u=>rfl
  | «cmp»=>exact onCmp_ h fun u u u u u=>rfl
  | «cmp2»=>exact onCmp_ h fun u u u u u=>rfl
  | «not»=>exact onUn_ h fun u u u u=>rfl
  | «and»=>exact onBool_ h fun u u u u=>rfl
  | «or»=>exact onBool_ h fun u u u u=>rfl
  | «or2»=>exact onBool_ h fun u u u u=>rfl
  | «ite»=>exact onIf_ h fun u u u u u=>rfl
  | «sub»=>exact onSub_ h fun u u u u=>rfl
  | «slice»=>exact onSub_ h fun u u u u=>rfl
  | «list»=>exact onList_ h fun u u u=>rfl
  | «tuple»=>exact onTup_ h fun u u u u=>rfl
  | «dict0»=>exact onDict_ h fun u u u u=>rfl
  | «dict1»=>exact onDict_ h fun u u u u=>rfl
  | «lcomp»=>exact onLC_ h fun u u u u u=>rfl
  | «dcomp»=>exact onDC_ h fun u u u u u u=>rfl
  | «attr»=>exact onAttr_ h fun u u u u=>rfl
theorem chkI_plain {I:FI} {sc:Scope} {t:TI} {e:PySem.Expr} (h:chkI I sc t e=true):plainE e=true:=by
  cases t with
  | exp=>exact chkE_plain (Bool.and_eq_true_iff.mp h).1
  | items=>exact onMeth_plain h
  | values=>exact onMeth_plain h
  | _=>exact onFn_plain h fun u=>rfl
theorem plain_not {e:PySem.Expr} (h:plainE e=true) {n:Nat} (hn:n=22 ∨ n=7 ∨ n=26):e.ctorIdx ≠ n:=by
  unfold plainE at h
  simp only [Bool.not_eq_true',Bool.or_eq_false_iff,beq_eq_false_iff_ne] at h
  rcases hn with rfl | rfl | rfl
  · exact h.1.1.1
  · exact h.1.1.2
  · exact h.1.2
theorem plain_star {e:PySem.Expr} {rest:List PySem.Expr} {env:Env} (h:plainE e=true):starEach (e :: rest) env=(false,eval e env) :: starEach rest env:=by
  cases e <;> first | rfl | exact absurd rfl (plain_not h (.inl rfl))
theorem plain_marks {e:PySem.Expr} {op:CmpOp} (h:plainE e=true):behindInMarks op e=false:=by
  cases e <;> first | rfl | exact absurd rfl (plain_not h (.inr (.inl rfl)))
theorem plain_set {e:PySem.Expr} {env:Env} (h:plainE e=true) (x:Value):foldedSetIterable e env x=pure x:=by
  cases e <;> first | rfl | exact absurd rfl (plain_not h (.inr (.inl rfl)))
theorem plain_sub {e:PySem.Expr} (h:plainE e=true) (o i:Value):subscripted e false o i=operate [o,i] (getItem o i):=by
  cases e <;> first | rfl | exact absurd rfl (plain_not h (.inr (.inr rfl)))
theorem plain_base {e:PySem.Expr} {attr:Str} {env:Env} {w:Sem Value} (h:plainE e=true):attributeBase e attr env w=w:=by
  cases e with
  | Call f as ks p=>
    cases f with
    | Name x xp=>cases as with
      | nil=>cases ks with
        | nil=>cases h
        | cons=>rfl
      | cons=>rfl
    | _=>rfl
  | _=>rfl
structure CxOK (G:Gl) (Φ:FEnv) (k:Nat):Prop where
  fn:∀ f ds d,f ≠ Str.ofString "compare"→Φ f ds=some d→∃ fa,nsIn G.K mainGlobals f=some (some (.ref fa))∧keepIn G.K (.ref fa)=true ∧
    ∀ (A:Around) (X:Addr→Prop) (s:Shared) (vs:List Value) (E:Value→Shared→Prop),Room A k→BaseOK G s.heap→Live X s.heap→RepL G X s.heap vs ds→
      wpAny (model G.prog G.w) A (call (.ref fa) vs) (fun v s'=>Keeps s s'∧Rep G X s'.heap v d) E s
  cmp:∀ d0 ds d,Φ (Str.ofString "compare") (d0 :: ds)=some d→((∃ a,d0=.obj [(Str.ofString "comp_select_list", a)])∧ds ≠ [])∧∃ fa,findIn G.K (.ref G.C) (Str.ofString "compare")=some (some (.ref fa))∧isFn G.K (.ref fa)=true∧keepIn G.K (.ref fa)=true ∧
    ∀ (A:Around) (X:Addr→Prop) (s:Shared) (vs:List Value) (E:Value→Shared→Prop),Room A k→BaseOK G s.heap→Live X s.heap→RepL G X s.heap vs (d0 :: ds)→
      wpAny (model G.prog G.w) A (call (.ref fa) vs) (fun v s'=>Keeps s s'∧Rep G X s'.heap v d) E s
  cls:nsIn G.K mainGlobals (Str.ofString "TupleComp")=some (some (.ref G.C))∧keepIn G.K (.ref G.C)=true ∧
    ∀ (A:Around) (X:Addr→Prop) (s:Shared) (v:Value) (d:D) (E:Value→Shared→Prop),Room A k→BaseOK G s.heap→Live X s.heap→Rep G X s.heap v d→
      wpAny (model G.prog G.w) A (call (.ref G.C) [v]) (fun v s'=>Keeps s s'∧Rep G X s'.heap v (.obj [(Str.ofString "comp_select_list", d)])) E s
  pget:plainGet G.K G.C (Str.ofString "compare")=true
  hasd:hasDictIn G.K G.C=true
  attr:findIn G.K (.ref G.C) (Str.ofString "comp_select_list")=some none
  names:∀ x,x ∈ [Str.ofString "len", Str.ofString "sum", Str.ofString "max", Str.ofString "tuple", Str.ofString "list", Str.ofString "range", Str.ofString "zip", Str.ofString "isinstance"]→nsIn G.K mainGlobals x=some none
section
variable (G:Gl) (I:FI) (Φ:FEnv) (k:Nat)
noncomputable def Post (X:Addr→Prop) (s:Shared) (t:TE) (d:D) (v:Value) (s':Shared):Prop:=
  Keeps s s'∧RepW G X s'.heap v d∧(safe I.own t=true→Rep G X s'.heap v d)∧(fresh2 t=true→FreshAt G X s.heap s'.heap v d)
noncomputable def PE (t:TE):Prop:=∀ (sc:Scope) (wr:List Nat) (env:Env) (X W:Addr→Prop) (s:Shared) (σ:St) (A:Around) (E:Value→Shared→Prop) (e:PySem.Expr) (d:D),
  chkE I sc t e=true→Room A k→FrOK G I sc wr env X W s.heap σ→BaseOK G s.heap→evE Φ t σ=some d→wpAny (model G.prog G.w) A (eval e env) (Post G I X s t d) E s
noncomputable def PT (t:TE):Prop:=∀ (sc:Scope) (wr:List Nat) (env:Env) (X W:Addr→Prop) (s:Shared) (σ:St) (A:Around) (E:Value→Shared→Prop) (e:PySem.Expr) (b:Bool),
  chkE I sc t e=true→Room A k→FrOK G I sc wr env X W s.heap σ→BaseOK G s.heap→evT Φ t σ=some b→wpAny (model G.prog G.w) A (isTrue e env (eval e env)) (fun c s'=>c=b∧Keeps s s') E s
noncomputable def PEs (ts:TEs):Prop:=∀ (sc:Scope) (wr:List Nat) (env:Env) (X W:Addr→Prop) (s:Shared) (σ:St) (A:Around) (E:Value→Shared→Prop) (pos:Pos) (es:List PySem.Expr) (ds:List D),
  chkEs I sc ts es=true→safes I.own ts=true→Room A k→FrOK G I sc wr env X W s.heap σ→BaseOK G s.heap→evEs Φ ts σ=some ds→
    wpAny (model G.prog G.w) A (spliced (backTo pos (starEach es env))) (fun vs s'=>Keeps s s'∧RepL G X s'.heap vs ds) E s
noncomputable def PAnd (ts:TEs):Prop:=∀ (sc:Scope) (wr:List Nat) (env:Env) (X W:Addr→Prop) (s:Shared) (σ:St) (A:Around) (E:Value→Shared→Prop) (pos:Pos) (whole:Sem Value) (es:List PySem.Expr) (b:Bool),
  chkEs I sc ts es=true→Room A k→FrOK G I sc wr env X W s.heap σ→BaseOK G s.heap→evAnd Φ ts σ=some b→wpAny (model G.prog G.w) A (isTrue (.BoolOp .And es pos) env whole) (fun c s'=>c=b∧Keeps s s') E s
noncomputable def POr (ts:TEs):Prop:=∀ (sc:Scope) (wr:List Nat) (env:Env) (X W:Addr→Prop) (s:Shared) (σ:St) (A:Around) (E:Value→Shared→Prop) (pos:Pos) (whole:Sem Value) (es:List PySem.Expr) (b:Bool),
  chkEs I sc ts es=true→Room A k→FrOK G I sc wr env X W s.heap σ→BaseOK G s.heap→evOr Φ ts σ=some b→wpAny (model G.prog G.w) A (isTrue (.BoolOp .Or es pos) env whole) (fun c s'=>c=b∧Keeps s s') E s
noncomputable def PC (ts:TEs):Prop:=∀ (A:Around) (sc:Scope) (wr:List Nat) (es:List PySem.Expr),Room A k→chkEs I sc ts es=true→TestsOK G A I sc wr es (evC Φ ts)
noncomputable def PI (t:TI):Prop:=∀ (sc:Scope) (wr:List Nat) (env:Env) (X W:Addr→Prop) (s:Shared) (σ:St) (A:Around) (E:Value→Shared→Prop) (e:PySem.Expr) (ds:List D),
  chkI I sc t e=true→itOk t=true→Room A k→FrOK G I sc wr env X W s.heap σ→BaseOK G s.heap→evI Φ t σ=some ds→wpAny (model G.prog G.w) A (eval e env) (fun x s'=>Keeps s s'∧IterOf G A X (itNm t) x ds s') E s∧ds.length ≤ 3 * cap
end
section
variable {G:Gl} {I:FI} {Φ:FEnv} {k:Nat} {X:Addr→Prop} {s s':Shared} {t:TE} {d:D} {v:Value}
theorem Post.of (hk:Keeps s s') (r:Rep G X s'.heap v d) (hf:fresh2 t=false):Post G I X s t d v s':=⟨hk,r.w,fun u=>r,fun h=>by rw [hf] at h; cases h⟩
theorem RepL.up {h h':Heap} {vs:List Value} {ds:List D} (r:RepL G X h vs ds) (k:∀ a o,h.get? a=some o→h'.get? a=some o):RepL G X h' vs ds:=r.mono fun a o u=>k a o
theorem Rep.up {h h':Heap} (r:Rep G X h v d) (k:∀ a o,h.get? a=some o→h'.get? a=some o):Rep G X h' v d:=r.mono fun a o u=>k a o
theorem pe_none:PE G I Φ k .cNone:=fun sc wr env X W s σ A E e d hc rm F B ev=>onConst_ hc fun c n p hc=>isCN_ hc (Option.some.inj ev ▸ Constant_none (Post.of Keeps.rfl .none rfl))
theorem pe_bool {b:Bool}:PE G I Φ k (.cBool b):=fun sc wr env X W s σ A E e d hc rm F B ev=>onConst_ hc fun c n p hc=>onCB_ hc fun c hc=>eqb_ hc ▸ Option.some.inj ev ▸ Constant_bool (Post.of Keeps.rfl (.bool _) rfl)
theorem pe_int {i:Int}:PE G I Φ k (.cInt i):=fun sc wr env X W s σ A E e d hc rm F B ev=>onConst_ hc fun c n p hc=>onCI_ hc fun c hc=>eqb_ hc ▸ Option.some.inj ev ▸ wpAny_Constant_int (Post.of (Keeps.toks _) (.int _ _) rfl)
theorem pe_str {i:Str}:PE G I Φ k (.cStr i):=fun sc wr env X W s σ A E e d hc rm F B ev=>onConst_ hc fun c n p hc=>onCS_ hc fun c hc=>eqb_ hc ▸ Option.some.inj ev ▸ Calls.Constant_str (Post.of (Keeps.toks _) (.str _ _) rfl)
theorem pe_var {i:Nat}:PE G I Φ k (.var i):=fun sc wr env X W s σ A E e d hc rm F B ev=>onNm_ hc fun x p hc=>F.load hc ev fun v u r1 r2=>⟨Keeps.rfl,r1,fun h=>r2 (not_own h),fun h=>nomatch h⟩
theorem listy_list:∀ (t:TE) (σ:St) (d:D),listy t=true→evE Φ t σ=some d→∃ ds,d=.list ds:=by
  intro t
  induction t using TE.rec (motive_2:=fun u=>True) (motive_3:=fun u=>True) with
  | list es=>exact fun σ d u h=>map_ h fun ds u e=>⟨ds,e.symm⟩
  | lcomp=>exact fun σ d u h=>bind_ h fun u u h=>map_ h fun ds u e=>⟨ds,e.symm⟩
  | slice e lo hi st ih=>
    exact fun σ d hl h=>bind_ h fun a e1 h=>bind_ h fun b u h=>bind_ h fun c u h=>bind_ h fun d' u h=>by
      obtain ⟨ds,rfl⟩:=ih σ a hl e1
      exact bind_ (show (optInt b).bind _=some d from h) fun u u h=>bind_ h fun u u h=>bind_ h fun u u h=>if_ h fun u h=>⟨_,(Option.some.inj h).symm⟩
  | nil | cons | exp | range1 | range2 | items | values | zip=>trivial
  | _=>exact fun σ d hl u=>(Bool.false_ne_true hl).elim
theorem pe_bin {op:Bop} {l r:TE} (hl:PE G I Φ k l) (hr:PE G I Φ k r):PE G I Φ k (.bin op l r):=by
  intro sc wr env X W s σ A E e d hc rm F B ev
  refine onBin_ hc fun a' o b' p hc=>and_ hc fun hc c3=>and_ hc fun c1 c2=>bind_ ev fun a e1 ev=>bind_ ev fun b e2 ev=>?_
  refine wpAny_BinOp (wpAny_mono (hl sc wr env X W s σ A E _ a c2 rm F B e1) (fun va s1 h1=>?_) fun u u x=>x)
  have k1:=Keeps.get h1.1
  refine wpAny_mono (hr sc wr env X W s1 σ A E _ b c3 rm (F.mono k1) (B.mono k1) e2) (fun vb s2 h2=>?_) fun u u x=>x
  have k2:=Keeps.get h2.1
  refine wpAny_mono (bin_sound (X:=X) ((F.mono k1).mono k2).live (h1.2.1.mono k2) h2.2.1 c1 ev) (fun v s3 h3=>?_) fun u u x=>x
  refine ⟨Keeps.trans (Keeps.trans h1.1 h2.1) h3.1,h3.2.1.w,fun u=>h3.2.1,fun hf=>?_⟩
  cases op with
  | add=>
    obtain ⟨ys,rfl⟩:=listy_list r σ b hf e2
    have hd:∃ ds,d=.list ds:=caI_ ev (fun u ev=>nomatch ev) fun ev=>caS_ ev (fun u ev=>nomatch ev) fun ev=>onL_ ev fun u ev=>if_ ev fun u ev=>⟨_,(Option.some.inj ev).symm⟩
    obtain ⟨ds,rfl⟩:=hd
    obtain ⟨a',e',hn,r'⟩:=h3.2.2 ds rfl rfl
    exact ⟨a',e',none_of_none (fun o q=>k2 _ _ (k1 _ _ q)) hn,r'⟩
  | _=>exact (Bool.false_ne_true hf).elim
end
section
variable {G:Gl} {I:FI} {Φ:FEnv} {k:Nat}
theorem pe_neg {t:TE} (h:PE G I Φ k t):PE G I Φ k (.neg t):=by
  intro sc wr env X W s σ A E e d hc rm F B ev
  refine onUn_ hc fun o a p hc=>and_ hc fun c1 c2=>bind_ ev fun x e1 ev=>onI_ (motive:=fun x=>evE Φ t σ=some x→_) ev (fun i ev e1=>?_) e1
  cases eqb_ c1
  cases ev
  refine UnaryOp_ (wpAny_mono (h sc wr env X W s σ A E _ _ c2 rm F B e1) (fun va s1 h1=>?_) fun u u x=>x)
  obtain ⟨t,rfl⟩:=h1.2.1.int_
  exact neg_int (Post.of (Keeps.trans h1.1 (Keeps.toks _)) (.int _ _) rfl)
theorem cmp_core {op:Cop} {l r:TE} (hl:PE G I Φ k l) (hr:PE G I Φ k r) {sc wr env X W s σ A E} {a:PySem.Expr} {o:CmpOp} {b:PySem.Expr} {da db:D} {c:Bool} {Q:Value→Shared→Prop}
    (hc1:copOk op o=true) (hc2:chkE I sc l a=true) (hc3:chkE I sc r b=true) (rm:Room A k) (F:FrOK G I sc wr env X W s.heap σ) (B:BaseOK G s.heap) (e1:evE Φ l σ=some da) (e2:evE Φ r σ=some db) (ev:evCmp op da db=some c)
    (hQ:∀ s',Keeps s s'→Q (.bool c) s') :
    wpAny (model G.prog G.w) A (eval a env) (fun va s₁=>wpAny (model G.prog G.w) A (eval b env) (fun vb s₂=>wpAny (model G.prog G.w) A (compareOp o va vb) Q E s₂) E s₁) E s:=by
  refine wpAny_mono (hl sc wr env X W s σ A E _ da hc2 rm F B e1) (fun va s1 h1=>?_) fun u u x=>x
  have k1:=Keeps.get h1.1
  refine wpAny_mono (hr sc wr env X W s1 σ A E _ db hc3 rm (F.mono k1) (B.mono k1) e2) (fun vb s2 h2=>?_) fun u u x=>x
  have k2:=Keeps.get h2.1
  refine wpAny_mono (cmp_sound (X:=X) rm (h1.2.1.mono k2) h2.2.1 hc1 ev) (fun v s3 h3=>?_) fun u u x=>x
  obtain ⟨rfl,k3⟩:=h3
  exact hQ s3 (Keeps.trans (Keeps.trans h1.1 h2.1) k3)
theorem pe_cmp {op:Cop} {l r:TE} (hl:PE G I Φ k l) (hr:PE G I Φ k r):PE G I Φ k (.cmp op l r):=fun sc wr env X W s σ A E e d hc rm F B ev=>
  onCmp_ hc fun a os bs p hc=>onOne_ hc fun o hc=>onOne_ hc fun b hc=>and_ hc fun hc c3=>and_ hc fun c1 c2=>bind_ ev fun a e1 ev=>bind_ ev fun b e2 ev=>map_ ev fun c ev e=>e ▸
    wpAny_Compare1 (cmp_core hl hr c1 c2 c3 rm F B e1 e2 ev fun s' k'=>Post.of k' (.bool _) rfl) (plain_marks (chkE_plain c3))
theorem pt_cmp {op:Cop} {l r:TE} (hl:PE G I Φ k l) (hr:PE G I Φ k r):PT G I Φ k (.cmp op l r):=fun sc wr env X W s σ A E e d hc rm F B ev=>
  onCmp_ hc fun a os bs p hc=>onOne_ hc fun o hc=>onOne_ hc fun b hc=>and_ hc fun hc c3=>and_ hc fun c1 c2=>bind_ ev fun a e1 ev=>bind_ ev fun b e2 ev=>
    wpAny_isTrue_Compare1 (cmp_core hl hr c1 c2 c3 rm F B e1 e2 ev fun s' k'=>wpAny_truthy_bool ⟨rfl,k'⟩) (plain_marks (chkE_plain c3))
theorem pt_not {t:TE} (h:PT G I Φ k t):PT G I Φ k (.not t):=by
  intro sc wr env X W s σ A E e b hc rm F B ev
  refine onUn_ hc fun o a p hc=>and_ hc fun c1 c2=>map_ ev fun c e1 e=>?_
  cases eqb_ c1
  subst e
  exact isTrue_not (wpAny_mono (h sc wr env X W s σ A E _ c c2 rm F B e1) (fun c' s' h'=>⟨congrArg _ h'.1,h'.2⟩) fun u u x=>x)
theorem pt_and {ts:TEs} (h:PAnd G I Φ k ts):PT G I Φ k (.and ts):=fun sc wr env X W s σ A E e b hc rm F B ev=>
  onBool_ hc fun o as p hc=>and_ hc fun c1 c2=>by
    cases eqb_ c1
    exact h sc wr env X W s σ A E _ _ _ b c2 rm F B ev
theorem pt_or {ts:TEs} (h:POr G I Φ k ts):PT G I Φ k (.or ts):=fun sc wr env X W s σ A E e b hc rm F B ev=>
  onBool_ hc fun o as p hc=>and_ hc fun c1 c2=>by
    cases eqb_ c1
    exact h sc wr env X W s σ A E _ _ _ b c2 rm F B ev
theorem pand_nil:PAnd G I Φ k .nil:=fun sc wr env X W s σ A E pos whole es b hc rm F B ev=>by
  cases List.isEmpty_iff.mp hc
  exact Option.some.inj ev ▸ isTrue_and_nil ⟨rfl,Keeps.rfl⟩
theorem pand_cons {t:TE} {r:TEs} (ht:PT G I Φ k t) (hr:PAnd G I Φ k r):PAnd G I Φ k (.cons t r):=by
  intro sc wr env X W s σ A E pos whole es b hc rm F B ev
  refine onCons_ hc fun a as hc=>and_ hc fun c1 c2=>bind_ ev fun c e1 ev=>isTrue_and (wpAny_mono (ht sc wr env X W s σ A E _ _ c1 rm F B e1) (fun c' s1 h1=>?_) fun u u x=>x)
  obtain ⟨rfl,k1⟩:=h1
  cases c' with
  | true=>
    have q:=Keeps.get k1
    exact wpAny_mono (hr sc wr env X W s1 σ A E pos whole _ b c2 rm (F.mono q) (B.mono q) ev) (fun c s2 h2=>⟨h2.1,Keeps.trans k1 h2.2⟩) fun u u x=>x
  | false=>exact ⟨Option.some.inj ev,k1⟩
theorem por_nil:POr G I Φ k .nil:=fun sc wr env X W s σ A E pos whole es b hc rm F B ev=>by
  cases List.isEmpty_iff.mp hc
  exact Option.some.inj ev ▸ isTrue_or_nil ⟨rfl,Keeps.rfl⟩
theorem por_cons {t:TE} {r:TEs} (ht:PT G I Φ k t) (hr:POr G I Φ k r):POr G I Φ k (.cons t r):=by
  intro sc wr env X W s σ A E pos whole es b hc rm F B ev
  refine onCons_ hc fun a as hc=>and_ hc fun c1 c2=>bind_ ev fun c e1 ev=>isTrue_or (wpAny_mono (ht sc wr env X W s σ A E _ _ c1 rm F B e1) (fun c' s1 h1=>?_) fun u u x=>x)
  obtain ⟨rfl,k1⟩:=h1
  cases c' with
  | false=>
    have q:=Keeps.get k1
    exact wpAny_mono (hr sc wr env X W s1 σ A E pos whole _ b c2 rm (F.mono q) (B.mono q) ev) (fun c s2 h2=>⟨h2.1,Keeps.trans k1 h2.2⟩) fun u u x=>x
  | true=>exact ⟨Option.some.inj ev,k1⟩
theorem pc_nil:PC G I Φ k .nil:=fun A sc wr es rm hc env X W s σ b E F B ev=>by
  cases List.isEmpty_iff.mp hc
  exact Option.some.inj ev ▸ wpAny_tests_nil ⟨rfl,Keeps.rfl⟩
theorem pc_one {t:TE} (ht:PT G I Φ k t):PC G I Φ k (.cons t .nil):=fun A sc wr es rm hc env X W s σ b E F B ev=>
  onCons_ (motive:=fun es=>wpAny _ _ (forIn es _ _) _ _ _) hc fun a as hc=>and_ hc fun c1 c2=>by
    cases List.isEmpty_iff.mp c2
    exact wpAny_tests_one (ht sc wr env X W s σ A E _ b c1 rm F B ev)
theorem pc_more {t u:TE} {r:TEs}:PC G I Φ k (.cons t (.cons u r)):=fun A sc wr es rm hc env X W s σ b E F B ev=>nomatch ev
theorem pt_plain {t:TE} (h:PE G I Φ k t) (hev:∀ σ b,evT Φ t σ=some b→∃ d,evE Φ t σ=some d∧truth d=some b) (hsh:∀ sc e,chkE I sc t e=true→∀ env whole,isTrue e env whole=(do let v ← whole; standAt e.pos; holding [v] (truthy v))):PT G I Φ k t:=by
  intro sc wr env X W s σ A E e b hc rm F B ev
  obtain ⟨d,e1,e2⟩:=hev σ b ev
  refine isTrue_plain (wpAny_mono (h sc wr env X W s σ A E _ d hc rm F B e1) (fun v s1 h1=>?_) fun u u x=>x) (hsh sc e hc _ _)
  exact wpAny_mono (truth_sound (X:=X) h1.2.1 e2) (fun c s2 h2=>⟨h2.1,Keeps.trans h1.1 h2.2⟩) fun u u x=>x
theorem pt_var {i:Nat}:PT G I Φ k (.var i):=pt_plain pe_var (fun σ b h=>bind_ h fun d e h=>⟨d,e,h⟩) fun sc e hc env whole=>onNm_ hc fun u u u=>rfl
theorem pt_sub {a i:TE} (h:PE G I Φ k (.sub a i)):PT G I Φ k (.sub a i):=pt_plain h (fun σ b h=>bind_ h fun d e h=>⟨d,e,h⟩) fun sc e hc env whole=>onSub_ hc fun u u u u=>rfl
theorem pt_isTup {a:TE} (h:PE G I Φ k (.isTup a)):PT G I Φ k (.isTup a):=
  pt_plain h (fun σ b h=>bind_ h fun d e h=>onI_ (motive:=fun d=>evE Φ a σ=some d→_) h (fun i h e=>⟨.bool false,bind_eq e rfl,h⟩) e) fun sc e hc env whole=>onFn_ hc fun u u u u u=>rfl
theorem pe_not {t:TE} (h:PE G I Φ k t):PE G I Φ k (.not t):=by
  intro sc wr env X W s σ A E e d hc rm F B ev
  refine onUn_ hc fun o a p hc=>and_ hc fun c1 c2=>bind_ ev fun d1 e1 ev=>map_ ev fun b e2 e3=>?_
  cases eqb_ c1
  subst e3
  refine UnaryOp_ (wpAny_mono (h sc wr env X W s σ A E _ _ c2 rm F B e1) (fun va s1 h1=>?_) fun u u x=>x)
  refine not_of (wpAny_mono (truth_sound (X:=X) h1.2.1 e2) (fun c s2 h2=>?_) fun u u x=>x)
  rw [h2.1]
  exact Post.of (Keeps.trans h1.1 h2.2) (.bool _) rfl
theorem pt_ite {t a b:TE} (ht:PT G I Φ k t) (ha:PT G I Φ k a) (hb:PT G I Φ k b):PT G I Φ k (.ite t a b):=by
  intro sc wr env X W s σ A E e c hc rm F B ev
  refine onIf_ hc fun x y z p hc=>and_ hc fun hc c3=>and_ hc fun c1 c2=>bind_ ev fun u e1 ev=>isTrue_IfExp (wpAny_mono (ht sc wr env X W s σ A E _ _ c1 rm F B e1) (fun c' s1 h1=>?_) fun v v x=>x)
  obtain ⟨rfl,k1⟩:=h1
  have q:=Keeps.get k1
  cases c' with
  | true=>exact wpAny_mono (ha sc wr env X W s1 σ A E _ c c2 rm (F.mono q) (B.mono q) ev) (fun c' s2 h2=>⟨h2.1,Keeps.trans k1 h2.2⟩) fun v v x=>x
  | false=>exact wpAny_mono (hb sc wr env X W s1 σ A E _ c c3 rm (F.mono q) (B.mono q) ev) (fun c' s2 h2=>⟨h2.1,Keeps.trans k1 h2.2⟩) fun v v x=>x
theorem Post.later {X:Addr→Prop} {s s1 s2:Shared} {t u:TE} {d:D} {v:Value} (k1:Keeps s s1) (p:Post G I X s1 t d v s2) (hs:safe I.own u=true→safe I.own t=true) (hf:fresh2 u=false):Post G I X s u d v s2:=
  ⟨Keeps.trans k1 p.1,p.2.1,fun h=>p.2.2.1 (hs h),fun h=>by rw [hf] at h; cases h⟩
theorem Post.later2 {X:Addr→Prop} {s s1 s2:Shared} {t u:TE} {d:D} {v:Value} (k1:Keeps s s1) (p:Post G I X s1 t d v s2) (hs:safe I.own u=true→safe I.own t=true) (hf:fresh2 u=true→fresh2 t=true):Post G I X s u d v s2:=
  ⟨Keeps.trans k1 p.1,p.2.1,fun h=>p.2.2.1 (hs h),fun h=>by
    obtain ⟨a,e,n,r⟩:=p.2.2.2 (hf h)
    exact ⟨a,e,none_of_none (fun o q=>Keeps.get k1 _ _ q) n,r⟩⟩
theorem both1 {a b:Bool} (h:(a && b)=true):a=true:=(Bool.and_eq_true_iff.mp h).1
theorem both2 {a b:Bool} (h:(a && b)=true):b=true:=(Bool.and_eq_true_iff.mp h).2
theorem pe_ite {t a b:TE} (ht:PT G I Φ k t) (ha:PE G I Φ k a) (hb:PE G I Φ k b):PE G I Φ k (.ite t a b):=by
  intro sc wr env X W s σ A E e c hc rm F B ev
  refine onIf_ hc fun x y z p hc=>and_ hc fun hc c3=>and_ hc fun c1 c2=>bind_ ev fun u e1 ev=>IfExp_ (wpAny_mono (ht sc wr env X W s σ A E _ _ c1 rm F B e1) (fun c' s1 h1=>?_) fun v v x=>x)
  obtain ⟨rfl,k1⟩:=h1
  have q:=Keeps.get k1
  cases c' with
  | true=>exact wpAny_mono (ha sc wr env X W s1 σ A E _ c c2 rm (F.mono q) (B.mono q) ev) (fun c' s2 h2=>Post.later2 k1 h2 both1 both1) fun v v x=>x
  | false=>exact wpAny_mono (hb sc wr env X W s1 σ A E _ c c3 rm (F.mono q) (B.mono q) ev) (fun c' s2 h2=>Post.later2 k1 h2 both2 both2) fun v v x=>x
theorem pe_or2 {a b:TE} (ha:PE G I Φ k a) (hb:PE G I Φ k b):PE G I Φ k (.or2 a b):=by
  intro sc wr env X W s σ A E e c hc rm F B ev
  refine onBool_ hc fun o as p hc=>and_ hc fun c0 hc=>onTwo_ hc fun x y hc=>and_ hc fun c1 c2=>bind_ ev fun d1 e1 ev=>bind_ ev fun t e2 ev=>?_
  cases eqb_ c0
  refine BoolOp_or (wpAny_mono (ha sc wr env X W s σ A E _ _ c1 rm F B e1) (fun v s1 h1=>?_) fun u u x=>x)
  have q:=Keeps.get h1.1
  refine wpAny_mono (truth_sound (X:=X) h1.2.1 e2) (fun c' s2 h2=>?_) fun u u x=>x
  obtain ⟨rfl,k2⟩:=h2
  have q2:=Keeps.get k2
  cases c' with
  | true=>exact Option.some.inj ev ▸ ⟨Keeps.trans h1.1 k2,h1.2.1.mono q2,fun h=>(h1.2.2.1 (both1 h)).up q2,fun h=>nomatch h⟩
  | false=>exact BoolOp_one (wpAny_mono (hb sc wr env X W s2 σ A E _ _ c2 rm ((F.mono q).mono q2) ((B.mono q).mono q2) ev) (fun v s3 h3=>Post.later (Keeps.trans h1.1 k2) h3 both2 rfl) fun u u x=>x)
theorem pt_or2 {a b:TE} (ha:PT G I Φ k a) (hb:PT G I Φ k b):PT G I Φ k (.or2 a b):=by
  intro sc wr env X W s σ A E e c hc rm F B ev
  refine onBool_ hc fun o as p hc=>and_ hc fun c0 hc=>onTwo_ hc fun x y hc=>and_ hc fun c1 c2=>bind_ ev fun t e1 ev=>?_
  cases eqb_ c0
  refine por_cons ha (por_cons hb por_nil) sc wr env X W s σ A E _ _ _ c (Bool.and_eq_true_iff.mpr ⟨c1,Bool.and_eq_true_iff.mpr ⟨c2,rfl⟩⟩) rm F B (bind_eq e1 ?_)
  cases t with
  | true=>exact ev
  | false=>exact bind_eq ev (by cases c <;> rfl)
theorem pe_sub {a i:TE} (ha:PE G I Φ k a) (hi:PE G I Φ k i):PE G I Φ k (.sub a i):=by
  intro sc wr env X W s σ A E e c hc rm F B ev
  refine onSub_ hc fun x y p hc=>and_ hc fun c1 c2=>bind_ ev fun d1 e1 ev=>bind_ ev fun d2 e2 ev=>?_
  refine Subscript_ (wpAny_mono (ha sc wr env X W s σ A E _ _ c1 rm F B e1) (fun v s1 h1=>?_) fun u u x=>x)
  have q:=Keeps.get h1.1
  refine wpAny_mono (hi sc wr env X W s1 σ A E _ _ c2 rm (F.mono q) (B.mono q) e2) (fun v s2 h2=>?_) fun u u x=>x
  have q2:=Keeps.get h2.1
  exact wpAny_mono (sub_sound (X:=X) (h1.2.1.mono q2) h2.2.1 ev (plain_sub (chkE_plain c2))) (fun v s3 h3=>Post.of (Keeps.trans (Keeps.trans h1.1 h2.1) h3.1) h3.2 rfl) fun u u x=>x
end
section
variable {G:Gl} {I:FI} {Φ:FEnv} {k:Nat}
theorem part_sound {t:TE} (h:PE G I Φ k t) {sc wr env X W s σ A E} {o:Option PySem.Expr} {d:D} (hc:o.elim (isCNone t) (fun l=>chkE I sc t l)=true) (rm:Room A k) (F:FrOK G I sc wr env X W s.heap σ) (B:BaseOK G s.heap) (ev:evE Φ t σ=some d) :
    wpAny (model G.prog G.w) A (evalPart o env) (fun v s'=>Keeps s s'∧RepW G X s'.heap v d) E s:=by
  cases o with
  | some e=>exact evalPart_some_step (wpAny_mono (h sc wr env X W s σ A E e d hc rm F B ev) (fun v s' h'=>⟨h'.1,h'.2.1⟩) fun u u x=>x)
  | none=>
    cases t with
    | cNone=>exact Option.some.inj ev ▸ evalPart_none_step ⟨Keeps.rfl,.inl .none⟩
    | _=>exact (Bool.false_ne_true hc).elim
theorem pe_slice {a lo hi st:TE} (ha:PE G I Φ k a) (hlo:PE G I Φ k lo) (hhi:PE G I Φ k hi) (hst:PE G I Φ k st):PE G I Φ k (.slice a lo hi st):=by
  intro sc wr env X W s σ A E e c hc rm F B ev
  refine onSub_ hc fun x y p hc=>onSlice_ hc fun l h' s' sp hc=>and_ hc fun hc c4=>and_ hc fun hc c3=>and_ hc fun c1 c2=>bind_ ev fun d1 e1 ev=>bind_ ev fun d2 e2 ev=>bind_ ev fun d3 e3 ev=>bind_ ev fun d4 e4 ev=>?_
  refine Subscript_ (wpAny_mono (ha sc wr env X W s σ A E _ _ c1 rm F B e1) (fun v s1 h1=>?_) fun u u x=>x)
  have q1:=Keeps.get h1.1
  have F1:=F.mono q1
  have B1:=B.mono q1
  refine wpAny_Slice (wpAny_mono (part_sound hlo c2 rm F1 B1 e2) (fun vl s2 h2=>?_) fun u u x=>x)
  have q2:=Keeps.get h2.1
  have F2:=F1.mono q2
  have B2:=B1.mono q2
  refine wpAny_mono (part_sound hhi c3 rm F2 B2 e3) (fun vh s3 h3=>?_) fun u u x=>x
  have q3:=Keeps.get h3.1
  have F3:=F2.mono q3
  refine wpAny_mono (part_sound hst c4 rm F3 (B2.mono q3) e4) (fun vs s4 h4=>?_) fun u u x=>x
  have q4:=Keeps.get h4.1
  have q5:∀ b o,s4.heap.get? b=some o→(s4.heap.push { cls:=.type "slice", data:=.fields #[vl,vh,vs] }).get? b=some o:=fun b o e=>Heap.get?_push_of_some _ e
  have q45:=fun b o e=>q5 b o (q4 b o e)
  have hs:∃ ops,∀ p,subscripted (.Slice l h' s' p) false v (.ref s4.heap.objs.size)=operate ops (getItem v (.ref s4.heap.objs.size)):=by
    cases s' with
    | none=>exact ⟨_,fun u=>rfl⟩
    | some _=>exact ⟨_,fun u=>rfl⟩
  obtain ⟨ops,hs⟩:=hs
  exact wpAny_mono (slice_sound (s:={ s4 with heap:=s4.heap.push { cls:=.type "slice", data:=.fields #[vl,vh,vs] } }) (X:=X) (F3.mono q45).live (((h1.2.1.mono q2).mono q3).mono q45) ((h2.2.mono q3).mono q45) (h3.2.mono q45) (h4.2.mono q5) (Heap.get?_push_size _ rfl) ev (hs _))
    (fun v s6 h6=>Post.of (Keeps.trans (Keeps.trans (Keeps.trans (Keeps.trans (Keeps.trans h1.1 h2.1) h3.1) h4.1) (Keeps.push _)) h6.1) h6.2 rfl) fun u u x=>x
theorem pes_nil:PEs G I Φ k .nil:=fun sc wr env X W s σ A E pos es ds hc hs rm F B ev=>by
  cases List.isEmpty_iff.mp hc
  exact Option.some.inj ev ▸ args_nil ⟨Keeps.rfl,.nil⟩
theorem pes_cons {t:TE} {r:TEs} (ht:PE G I Φ k t) (hr:PEs G I Φ k r):PEs G I Φ k (.cons t r):=by
  intro sc wr env X W s σ A E pos es ds hc hs rm F B ev
  refine onCons_ hc fun a as hc=>and_ hc fun c1 c2=>bind_ ev fun d1 e1 ev=>map_ ev fun ds1 e2 e3=>e3 ▸ ?_
  refine args_cons (wpAny_mono (ht sc wr env X W s σ A E _ _ c1 rm F B e1) (fun v s1 h1=>?_) fun u u x=>x) (plain_star (chkE_plain c1))
  have q1:=Keeps.get h1.1
  exact wpAny_mono (hr sc wr env X W s1 σ A E pos _ _ c2 (both2 hs) rm (F.mono q1) (B.mono q1) e2) (fun vs s2 h2=>⟨Keeps.trans h1.1 h2.1,.cons ((h1.2.2.1 (both1 hs)).up (Keeps.get h2.1)) h2.2⟩) fun u u x=>x
theorem chkEs_any {sc:Scope} {env:Env} {pos:Pos}:∀ {ts:TEs} {es:List PySem.Expr},chkEs I sc ts es=true→(backTo pos (starEach es env)).any (·.1)=false
  | .nil,_,h=>by cases List.isEmpty_iff.mp h; rfl
  | .cons _ _,_,h=>onCons_ h fun a as h=>and_ h fun c1 c2=>by
    rw [plain_star (chkE_plain c1)]
    exact chkEs_any (pos:=pos) c2
theorem evEs_length {σ:St}:∀ {ts:TEs} {es:List PySem.Expr} {sc:Scope} {ds:List D},chkEs I sc ts es=true→evEs Φ ts σ=some ds→es.length=ds.length
  | .nil,_,_,_,h,e=>by cases List.isEmpty_iff.mp h; cases e; rfl
  | .cons _ _,_,_,_,h,e=>onCons_ h fun a as h=>and_ h fun c1 c2=>bind_ e fun u u e=>map_ e fun u e2 e3=>e3 ▸ congrArg Nat.succ (evEs_length c2 e2)
theorem few_line {n:Nat} (h:decide (n ≤ 100)=true):n ≤ sizeLine:=by rw [sizeLine_eq]; exact Nat.le_trans (of_decide_eq_true h) (by decide)
theorem pe_list {ts:TEs} (h:PEs G I Φ k ts):PE G I Φ k (.list ts):=by
  intro sc wr env X W s σ A E e c hc rm F B ev
  refine onList_ hc fun as p hc=>and_ hc fun hc c3=>and_ hc fun c1 c2=>map_ ev fun ds e1 e2=>e2 ▸ ?_
  refine List_ (wpAny_mono (h sc wr env X W s σ A E _ _ _ c1 c2 rm F B e1) (fun vs s1 h1=>?_) fun u u x=>x)
  have q1:=Keeps.get h1.1
  have q:=fresh_list (F.mono q1).live h1.2
  exact wpAny_newObj_type ⟨Keeps.trans h1.1 (Keeps.push _),q.2.w,fun u=>q.2,fun u=>let ⟨a,e1,e2,e3⟩:=q.1; ⟨a,e1,none_of_none (fun o=>q1 a o) e2,e3⟩⟩
    (by show vs.toArray.size ≤ sizeLine; rw [List.size_toArray,h1.2.length,← evEs_length c1 e1]; exact few_line c3)
theorem pe_tuple {ts:TEs} (h:PEs G I Φ k ts):PE G I Φ k (.tuple ts):=by
  intro sc wr env X W s σ A E e c hc rm F B ev
  refine onTup_ hc fun as n p hc=>and_ hc fun hc c3=>and_ hc fun c1 c2=>map_ ev fun ds e1 e2=>e2 ▸ ?_
  refine Tuple_ (wpAny_mono (h sc wr env X W s σ A E _ _ _ c1 c2 rm F B e1) (fun vs s1 h1=>?_) fun u u x=>x)
  exact wpAny_newObj_type (Post.of (Keeps.trans h1.1 (Keeps.push _)) (fresh_tuple (F.mono (Keeps.get h1.1)).live h1.2) rfl) (by show vs.toArray.size ≤ sizeLine; rw [List.size_toArray,h1.2.length,← evEs_length c1 e1]; exact few_line c3)
theorem dict_new (h:Heap) (X:Addr→Prop) (hs:(h.objs.size == sysModules)=false):RepO G X (h.push { cls:=.type "dict", data:=.dict #[] }) h.objs.size (.dict []):=
  .inr ⟨[],[],rfl,⟨hs,Heap.DictOf.new h⟩,.nil⟩
theorem pe_dict0:PE G I Φ k .dict0:=by
  intro sc wr env X W s σ A E e c hc rm F B ev
  refine onDict_ hc fun ks vs p hc=>and_ hc fun c1 c2=>?_
  cases List.isEmpty_iff.mp c1
  cases List.isEmpty_iff.mp c2
  cases ev
  have r:=fun X=>dict_new (G:=G) s.heap X B.size_sys
  have r':=(r X).rep (F.live.fresh (none_size _))
  exact wpAny_Dict_empty ⟨Keeps.push _,r'.w,fun u=>r',fun u=>⟨_,rfl,none_size _,r _⟩⟩
theorem pe_dict1 {a b:TE} (ha:PE G I Φ k a) (hb:PE G I Φ k b):PE G I Φ k (.dict1 a b):=by
  intro sc wr env X W s σ A E e c hc rm F B ev
  refine onDict_ hc fun ks vs p hc=>onOne_ hc fun ka hc=>onSome_ hc fun ka hc=>onOne_ hc fun vb hc=>and_ hc fun hc c3=>and_ hc fun c1 c2=>bind_ ev fun x e1 ev=>bind_ ev fun y e2 ev=>onS_ (motive:=fun x=>evE Φ a σ=some x→_) ev (fun x ev e1=>?_) e1
  cases ev
  refine wpAny_Dict_walk (knd:=PySem.strKind G.prog G.w) rfl rfl (by simp) (by simp) ?_
  have q0:∀ b o,s.heap.get? b=some o→(s.heap.push { cls:=.type "dict", data:=.dict #[] }).get? b=some o:=fun b o e=>Heap.get?_push_of_some _ e
  have F0:=F.grow (N:=fun b=>b=s.heap.objs.size) (W':=W) q0 (fun b e=>e ▸ ⟨none_size _,_,Heap.get?_push_size _ rfl⟩) (fun u h=>h) (fun a h=>.inl (F.wx a h))
  refine pairTrees_cons_walk (wpAny_mono (ha sc wr env _ W _ σ A E _ _ c1 rm F0 (B.mono q0) e1) (fun va s1 h1=>?_) fun u u x=>x)
  obtain ⟨t,rfl⟩:=h1.2.1.str_
  obtain ⟨h1',t1,e1',q1⟩:=h1.1
  subst e1'
  refine wpAny_mono (hb sc wr env _ W _ σ A E _ _ c2 rm (F0.mono q1) ((B.mono q0).mono q1) e2) (fun vb s2 h2=>?_) fun u u x=>x
  have r2:=h2.2.2.1 c3
  obtain ⟨h2',t2,e2',q2⟩:=h2.1
  subst e2'
  refine pairTrees_nil_walk ⟨[(x,vb)],⟨strKind_is _ _ _ _,rfl,trivial⟩,(Heap.DictOf.new (knd:=PySem.strKind G.prog G.w) s.heap).at fun o e=>q2 _ _ (q1 _ _ e),fun h' hd hs=>?_⟩
  have kp:∀ b o,s.heap.get? b=some o→h'.get? b=some o:=fun b o e=>(hs.2 b (Nat.ne_of_lt (Heap.lt_size e))).trans (q2 _ _ (q1 _ _ (q0 b o e)))
  have r3:Rep G (fun a=>X a ∨ a=s.heap.objs.size) h' vb y:=r2.mono fun a o n e=>(hs.2 a fun q=>n (.inr q)).trans e
  have ro:RepO G (fun a=>X a ∨ a=s.heap.objs.size) h' s.heap.objs.size (.dict [(x,y)]):=.inr ⟨[(x,vb)],[(x,y)],rfl,⟨B.size_sys,hd⟩,.cons r3 .nil⟩
  have rd:=(ro.weak (Y:=X) fun u u u=>.inl).rep (F.live.fresh (none_size _))
  exact ⟨Keeps.mk' kp,rd.w,fun u=>rd,fun u=>⟨_,rfl,none_size _,ro⟩⟩
end
end Mine
namespace Mine
open PySem PySem.W PyProof.Rows PySem.Calls
section
variable {M:Model} {A:Around} {E:Value→Shared→Prop} {s:Shared} {env:Env}
theorem MCall {o:PySem.Expr} {name:Str} {apos pos:Pos} {args:List PySem.Expr} {Q:Value→Shared→Prop}
    (hb:attributeBase o name env (eval o env)=eval o env) (hf:methodCallForm args.length (backTo pos (starEach args env)) []=true) (hl:(apos.endLine == pos.line)=true)
    (h:wpAny M A (eval o env) (fun ov s₁=>wpAny M A (getMethod ov name (do return (← importBound o env).getD true)) (fun fx s₂=>wpAny M A (callWith pos fx.1 fx.2 (backTo pos (starEach args env)) []) Q E s₂) E s₁) E s) :
    wpAny M A (eval (.Call (.Attribute o name apos) args [] pos) env) Q E s:=by
  show wpAny M A (do
    let ov ← attributeBase o name env (eval o env)
    standAt apos.atName
    methodCall o name apos pos env ov (args.length + 0) (backTo pos (starEach args env)) []) Q E s
  rw [hb]
  refine wpAny_bind (wpAny_mono h (fun ov s₁ h₁=>wpAny_bind (wpAny_standAt ?_)) fun u u x=>x)
  unfold methodCall
  rw [Nat.add_zero,hf]
  refine wpAny_bind (wpAny_holding (m:=getMethod ov name (do return (← importBound o env).getD true)) (wpAny_mono h₁ (fun fx s₂ h₂=>?_) fun u u x=>x))
  have e:methodCallPos true o env apos pos=pure pos:=by unfold methodCallPos; rw [hl]; rfl
  rw [e]
  exact wpAny_bind (wpAny_pure h₂)
end
section
variable {G:Gl} {I:FI} {Φ:FEnv} {k:Nat} {sc:Scope} {wr:List Nat} {env:Env} {X W:Addr→Prop} {σ:St} {s:Shared} {A:Around} {E:Value→Shared→Prop}
theorem FrOK.glob_kind {h:Heap} (F:FrOK G I sc wr env X W h σ) {x:Str} (hg:globOk sc x=true):env.kindOf x=some .globalImplicit∧(x == Str.ofString "__debug__")=false:=by
  simp only [globOk,Bool.and_eq_true,beq_iff_eq,bne_iff_ne] at hg
  refine ⟨?_,beq_eq_false_iff_ne.mpr hg.2⟩
  rcases F.kinds x with e | ⟨e,_⟩
  · rw [e]; exact hg.1
  · rw [hg.1] at e; cases e
theorem load_glob {x:Str} {pos:Pos} {v:Value} {Q:Value→Shared→Prop} (F:FrOK G I sc wr env X W s.heap σ) (B:BaseOK G s.heap) (hg:globOk sc x=true) (hn:nsIn G.K mainGlobals x=some (some v)) (h:Q v s) :
    wpAny (model G.prog G.w) A (eval (.Name x pos) env) Q E s:=by
  obtain ⟨hk,hd⟩:=F.glob_kind hg
  refine Name_function_global F.kind hk (loadGlobal_global (mg:=G.mg) ?_ (mg_of B.K B.T.g hn) h) hd
  rw [F.glob]; exact B.T.g
theorem load_built {x:Str} {pos:Pos} {v:Value} {Q:Value→Shared→Prop} (F:FrOK G I sc wr env X W s.heap σ) (B:BaseOK G s.heap) (hg:globOk sc x=true) (hn:nsIn G.K mainGlobals x=some none) (hb:bootBuiltins x=some v) (hne:x ≠ Str.ofString "__name__") (h:Q v s) :
    wpAny (model G.prog G.w) A (eval (.Name x pos) env) Q E s:=by
  obtain ⟨hk,hd⟩:=F.glob_kind hg
  refine Name_function_global F.kind hk (loadGlobal_builtin (mg:=G.mg) (mb:=G.mb) ?_ (mg_none_of B.K B.T.g hn) ?_ ?_ h) hd
  · rw [F.glob]; exact B.T.g
  · rw [F.blt]; exact B.T.b
  · rw [B.T.builtins x hne]; exact hb
theorem bf_boot (f:Bf):bootBuiltins (bfName f)=some (bfVal f)∧bfName f ≠ Str.ofString "__name__":=by
  cases f <;> exact ⟨by decide +kernel,by decide +kernel⟩
theorem bf_name (f:Bf):bfName f ∈ [Str.ofString "len", Str.ofString "sum", Str.ofString "max", Str.ofString "tuple", Str.ofString "list", Str.ofString "range", Str.ofString "zip", Str.ofString "isinstance"]:=by
  cases f <;> decide +kernel
theorem callWith_bf {f:Bf} {pos:Pos} {e:PySem.Expr} {Q:Value→Shared→Prop} (he:plainE e=true)
    (h:wpAny (model G.prog G.w) A (eval e env) (fun v s₁=>wpAny (model G.prog G.w) A (call (bfVal f) [v]) Q E s₁) E s) :
    wpAny (model G.prog G.w) A (callWith pos (bfVal f) [] (backTo pos (starEach [e] env)) []) Q E s:=by
  have h':wpAny (model G.prog G.w) A (spliced (backTo pos (starEach [e] env))) (fun vs s₁=>wpAny (model G.prog G.w) A (call (bfVal f) vs) Q E s₁) E s:=args_cons (wpAny_mono h (fun v s₁ h₁=>args_nil h₁) fun u u x=>x) (plain_star he)
  cases f
  · exact callWith_builtin1 h' (plain_star he)
  · exact callWith_builtin1 h' (plain_star he)
  · exact callWith_builtin1 h' (plain_star he)
  · exact callWith_type1 h' (plain_star he)
theorem pe_bf {f:Bf} {t:TE} (C:CxOK G Φ k) (h:PE G I Φ k t):PE G I Φ k (.bf f t):=by
  intro sc wr env X W s σ A E e c hc rm F B ev
  refine onFn_ hc fun x xp as p hc=>onOne_ hc fun a hc=>and_ hc fun hc c3=>and_ hc fun c1 c2=>bind_ ev fun d1 e1 ev=>?_
  cases eqb_ c1
  refine Call_ (load_built F B c2 (C.names _ (bf_name f)) (bf_boot f).1 (bf_boot f).2 (callWith_bf (chkE_plain c3) (wpAny_mono (h sc wr env X W s σ A E _ _ c3 rm F B e1) (fun v s1 h1=>?_) fun u u x=>x)))
  exact wpAny_mono (bf_sound (X:=X) rm (F.mono (Keeps.get h1.1)).live h1.2.1 ev) (fun v s2 h2=>Post.of (Keeps.trans h1.1 h2.1) h2.2 rfl) fun u u x=>x
theorem callWith_fn {f:Value} {first:List Value} {pos:Pos} {ts:TEs} {a:PySem.Expr} {as:List PySem.Expr} {Q:Value→Shared→Prop} (B:BaseOK G s.heap) (hk:keepIn G.K f=true) (hc:chkEs I sc ts (a :: as)=true)
    (h:wpAny (model G.prog G.w) A (spliced (backTo pos (starEach (a :: as) env))) (fun vs s₁=>Keeps s s₁∧wpAny (model G.prog G.w) A (call f (first ++ vs)) Q E s₁) E s) :
    wpAny (model G.prog G.w) A (callWith pos f first (backTo pos (starEach (a :: as) env)) []) Q E s:=by
  cases ts with
  | nil=>exact nomatch hc
  | cons t r=>exact and_ hc fun c1 c2=>callWith_K B.K hk (wpAny_mono h (fun vs s₁ h₁=>⟨B.K.keeps (Keeps.get h₁.1),h₁.2⟩) fun u u x=>x) (plain_star (chkE_plain c1)) (chkEs_any c2)
theorem pe_fn {f:Str} {ts:TEs} (C:CxOK G Φ k) (hne:f ≠ Str.ofString "compare") (h:PEs G I Φ k ts):PE G I Φ k (.fn f ts):=by
  intro sc wr env X W s σ A E e c hc rm F B ev
  refine onFn_ hc fun x xp as p hc=>onCons_ hc fun a as hc=>and_ hc fun hc c5=>and_ hc fun hc c4=>and_ hc fun hc u=>and_ hc fun c1 c2=>bind_ ev fun ds e1 ev=>?_
  cases eqb_ c1
  obtain ⟨fa,h1,h2,h3⟩:=C.fn _ _ _ hne ev
  refine Call_ (load_glob F B c2 h1 (callWith_fn (first:=[]) B h2 c4 (wpAny_mono (h sc wr env X W s σ A E _ _ _ c4 c5 rm F B e1) (fun vs s1 q=>⟨q.1,?_⟩) fun u u x=>x)))
  have q1:=Keeps.get q.1
  exact wpAny_mono (h3 A X s1 vs E rm (B.mono q1) (F.mono q1).live q.2) (fun v s2 q2=>Post.of (Keeps.trans q.1 q2.1) q2.2 rfl) fun u u x=>x
theorem pe_cls {t:TE} (C:CxOK G Φ k) (h:PE G I Φ k t):PE G I Φ k (.cls t):=by
  intro sc wr env X W s σ A E e c hc rm F B ev
  refine onFn_ hc fun x xp as p hc=>onOne_ hc fun a hc=>and_ hc fun hc c4=>and_ hc fun hc c3=>and_ hc fun c1 c2=>map_ ev fun d1 e1 e2=>e2 ▸ ?_
  cases eqb_ c1
  obtain ⟨h1,h2,h3⟩:=C.cls
  have hcs:chkEs I sc (.cons t .nil) [a]=true:=Bool.and_eq_true_iff.mpr ⟨c3,rfl⟩
  refine Call_ (load_glob F B c2 h1 (callWith_fn (first:=[]) B h2 hcs (args_cons (wpAny_mono (h sc wr env X W s σ A E _ _ c3 rm F B e1) (fun v s1 q=>args_nil ⟨q.1,?_⟩) fun u u x=>x) (plain_star (chkE_plain c3)))))
  have q1:=Keeps.get q.1
  exact wpAny_mono (h3 A X s1 v _ E rm (B.mono q1) (F.mono q1).live (q.2.2.1 c4)) (fun v s2 q2=>Post.of (Keeps.trans q.1 q2.1) q2.2 rfl) fun u u x=>x
theorem pe_isTup {t:TE} (C:CxOK G Φ k) (h:PE G I Φ k t):PE G I Φ k (.isTup t):=by
  intro sc wr env X W s σ A E e c hc rm F B ev
  refine onFn_ hc fun x xp as p hc=>onTwo_ hc fun a b hc=>onNm_ hc fun y yp hc=>and_ hc fun hc c5=>and_ hc fun hc c4=>and_ hc fun hc c3=>and_ hc fun c1 c2=>bind_ ev fun d e1 ev=>onI_ (motive:=fun d=>evE Φ t σ=some d→_) ev (fun i ev e1=>?_) e1
  cases eqb_ c1
  cases eqb_ c3
  cases ev
  refine Call_ (load_built F B c2 (C.names _ (by decide +kernel)) (v:=.builtin "isinstance") (by decide +kernel) (by decide +kernel) (callWith_builtin1 ?_ (plain_star (chkE_plain c5))))
  refine args_cons (wpAny_mono (h sc wr env X W s σ A E _ _ c5 rm F B e1) (fun v s1 q=>?_) fun z z x=>x) (plain_star (chkE_plain c5))
  have q1:=Keeps.get q.1
  refine args_cons (load_built (F.mono q1) (B.mono q1) c4 (C.names _ (by decide +kernel)) (v:=.type "tuple") (by decide +kernel) (by decide +kernel) (args_nil ?_))
  obtain ⟨u,rfl⟩:=q.2.1.int_
  exact IsiPair.int_tuple (Post.of (Keeps.trans q.1 (Keeps.toks _)) (.bool _) rfl)
theorem repD_get {h:Heap} {a:Str}:∀ {kvs es},RepD G X h es kvs→(∀ d,lookD a kvs=some d→∃ v,getL a es=some (some v)∧Rep G X h v d)∧(lookD a kvs=none→getL a es=some none)
  | [],_,r=>⟨fun d e=>none_ne e,fun u=>r ▸ rfl⟩
  | (k',d0) :: _,_,⟨t',v',_,e,r,b⟩=>by
    subst e
    have ih:=repD_get (a:=a) b
    simp only [lookD,getL,List.find?_cons]
    by_cases e:k'=a
    · subst e
      have e1:(Value.str k' t').isStr k'=true:=by simp [Value.isStr]
      simp only [beq_self_eq_true,Option.map_some,e1]
      exact ⟨fun u e=>⟨_,rfl,Option.some.inj e ▸ r⟩,fun e=>nomatch e⟩
    · have e1:(Value.str k' t').isStr a=false:=by simp [Value.isStr,e]
      simp only [e1,beq_eq_false_iff_ne.mpr e,List.any_cons]
      exact ih
theorem obj_inst {h:Heap} {a C da:Addr} {es:List DictEntry} (h1:InstAt' h a C da) (h2:DictAt h da es):∃ n,InstAt h a (instObj C da) C (some (dictOf es n)):=by
  obtain ⟨n,e⟩:=h2
  exact ⟨n,h1,rfl,rfl,e⟩
theorem Rep.handed {h:Heap}:∀ {d:D} {v:Value},Rep G X h v d→handedIn v=true
  | .none,_,r | .bool _,_,r=>r ▸ rfl
  | .int _,_,⟨_,r⟩ | .str _,_,⟨_,r⟩=>r ▸ rfl
  | .opq _,_,⟨r,q⟩=>r ▸ q
  | .tuple _,_,⟨_,_,r,_⟩ | .list _,_,⟨_,_,r,_⟩ | .dict _,_,⟨_,_,r,_⟩ | .obj _,_,⟨_,_,_,r,_⟩=>r ▸ rfl
theorem pe_attr {t:TE} {n:Str} (C:CxOK G Φ k) (h:PE G I Φ k t):PE G I Φ k (.attr t n):=by
  intro sc wr env X W s σ A E e c hc rm F B ev
  refine onAttr_ hc fun a x p hc=>and_ hc fun c1 c2=>bind_ ev fun d1 e1 ev=>onO_ (motive:=fun d=>evE Φ t σ=some d→_) ev (fun kvs ev e1=>if_ ev fun hn ev=>?_) e1
  cases eqb_ c1
  subst hn
  refine Attribute_any_ (wpAny_mono (h sc wr env X W s σ A E _ _ c2 rm F B e1) (fun v s1 q=>?_) fun u u x=>x) (by
    show (do
      let o ← attributeBase _ _ env (eval _ env)
      standAt _
      let r ← holding [o] (getAttr o _ true)
      letTemporaryGo _ o r
      pure r)=_
    rw [plain_base (chkE_plain c2)])
  have q1:=Keeps.get q.1
  obtain ⟨a,da,es,rfl,n1,n2,i1,i2,r⟩:=q.2.1.obj_
  obtain ⟨n,Ia⟩:=obj_inst i1 i2
  obtain ⟨v,g1,rv⟩:=(repD_get (a:=Str.ofString "comp_select_list") r).1 _ ev
  exact get_value (B.mono q1).K Ia (plainGet_of C.pget).1 (findObj_own C.hasd C.attr rfl (by rw [lookIn_dict]; exact g1)) rv.handed (Post.of (Keeps.trans q.1 (Keeps.toks _)) rv rfl)
end
theorem few_form {I:FI} {sc:Scope} {env:Env} {pos:Pos} {ts:TEs} {es:List PySem.Expr} (h:chkEs I sc ts es=true) (hl:es.length ≤ 8):methodCallForm es.length (backTo pos (starEach es env)) []=true:=by
  have h2:(backTo pos (starEach es env)).all (fun x=>!x.1)=true:=by
    rw [← Bool.not_not (List.all _ _),List.not_all_eq_any_not]
    simpa using chkEs_any (env:=env) (pos:=pos) h
  unfold methodCallForm
  rw [h2]
  simp
  exact om145 hl
section
variable {G:Gl} {I:FI} {Φ:FEnv} {k:Nat} {X:Addr→Prop}
theorem callWith_mt {id:String} {o:Value} {sc:Scope} {env:Env} {s:Shared} {A:Around} {E:Value→Shared→Prop} {pos:Pos} {ts:TEs} {es:List PySem.Expr} {Q:Value→Shared→Prop} (hc:chkEs I sc ts es=true)
    (h:wpAny (model G.prog G.w) A (spliced (backTo pos (starEach es env))) (fun vs s₁=>wpAny (model G.prog G.w) A (call (.builtin id) (o :: vs)) Q E s₁) E s) :
    wpAny (model G.prog G.w) A (callWith pos (.builtin id) [o] (backTo pos (starEach es env)) []) Q E s:=by
  cases ts with
  | nil=>
    cases List.isEmpty_iff.mp hc
    exact callWith_method0 fun Γ p hΓ=>h Γ p hΓ Γ p hΓ
  | cons t r=>exact onCons_ (motive:=fun es=>wpAny _ A (spliced (backTo pos (starEach es env))) _ _ _→wpAny _ A (callWith pos _ [o] (backTo pos (starEach es env)) []) _ _ _) hc (fun a as hc h=>and_ hc fun c1 c2=>callWith_method1 h (plain_star (chkE_plain c1)) (chkEs_any c2)) h
theorem mt_own {h:Heap} {v:Value} {a:D} (C:CxOK G Φ k) (r:Rep G X h v (.obj [(Str.ofString "comp_select_list", a)])):∃ o da es n,v=.ref o∧InstAt h o (instObj G.C da) G.C (some (dictOf es n))∧(lookIn (Str.ofString "compare") (dictOf es n)).map (·.isSome)=some false:=by
  obtain ⟨o,da,es,rfl,n1,n2,i1,i2,rd⟩:=r
  obtain ⟨n,Ia⟩:=obj_inst i1 i2
  refine ⟨o,da,es,n,rfl,Ia,?_⟩
  rw [lookIn_dict,(repD_get (a:=Str.ofString "compare") rd).2 (by
    simp only [lookD,List.find?_cons]
    rw [show (Str.ofString "comp_select_list" == Str.ofString "compare")=false by decide +kernel]; rfl)]
  rfl
theorem pe_mt {m:Mt} {t:TE} {ts:TEs} (C:CxOK G Φ k) (ho:PE G I Φ k t) (ha:PEs G I Φ k ts):PE G I Φ k (.mt m t ts):=by
  intro sc wr env X W s σ A E e c hc rm F B ev
  refine onMeth_ hc fun ao xn ap es cp hl hc=>and_ hc fun hc hs=>and_ hc fun hc c4=>and_ hc fun hc c3=>and_ hc fun c1 c2=>bind_ ev fun d e1 ev=>bind_ ev fun ds e2 ev=>?_
  cases eqb_ c1
  refine MCall (plain_base (chkE_plain c3)) (few_form c4 (of_decide_eq_true c2)) hl (wpAny_mono (ho sc wr env X W s σ A E _ _ c3 rm F B e1) (fun ov s1 q=>?_) fun u u x=>x)
  have q1:=Keeps.get q.1
  have F1:=F.mono q1
  have B1:=B.mono q1
  by_cases hm:m=.compare
  · subst hm
    obtain ⟨⟨⟨a,rfl⟩,hds⟩,fa,f1,f2,f3,f4⟩:=C.cmp d ds c ev
    have r':=q.2.1.obj_
    obtain ⟨o,da,es',n,rfl,Ia,hno⟩:=mt_own C r'
    refine method_fn B1.K Ia (plainGet_of C.pget).1 (plainGet_of C.pget).2 f1 (beq_iff_eq.mp f2) hno ?_
    cases ts with
    | nil=>exact absurd (Option.some.inj e2).symm hds
    | cons t1 r1=>
      refine onCons_ (motive:=fun es=>chkEs I sc (.cons t1 r1) es=true→wpAny _ A (callWith cp _ _ (backTo cp (starEach es env)) []) _ _ _) c4 (fun a1 as1 u c4=>?_) c4
      refine callWith_fn (first:=[_]) B1 f3 c4 (wpAny_mono (ha sc wr env X W s1 σ A E _ _ _ c4 hs rm F1 B1 e2) (fun vs s2 q'=>⟨q'.1,?_⟩) fun u u x=>x)
      have q2:=Keeps.get q'.1
      exact wpAny_mono (f4 A X s2 _ E rm (B1.mono q2) (F1.mono q2).live (.cons (r'.up q2) q'.2)) (fun v s3 q3=>Post.of (Keeps.trans (Keeps.trans q.1 q'.1) q3.1) q3.2 rfl) fun u u x=>x
  · refine mt_method hm q.2.1 ev (callWith_mt c4 (wpAny_mono (ha sc wr env X W s1 σ A E _ _ _ c4 hs rm F1 B1 e2) (fun vs s2 q'=>?_) fun u u x=>x))
    have q2:=Keeps.get q'.1
    exact wpAny_mono (mt_call (X:=X) (F1.mono q2).live hm (q.2.1.mono q2) q'.2 ev) (fun v s3 q3=>Post.of (Keeps.trans (Keeps.trans q.1 q'.1) q3.1) q3.2 rfl) fun u u x=>x
theorem marks2 {o1 o2:CmpOp} {b c:PySem.Expr} (h:plainE c=true):lastMarks [o1,o2] [b,c]=false:=by
  show behindInMarks o2 c=false
  exact plain_marks h
theorem pe_cmp2 {o1 o2:Cop} {l m r:TE} (hl:PE G I Φ k l) (hm:PE G I Φ k m) (hr:PE G I Φ k r):PE G I Φ k (.cmp2 o1 o2 l m r):=by
  intro sc wr env X W s σ A E e d hc rm F B ev
  refine onCmp_ hc fun a' os bs p hc=>onTwo_ hc fun p1 p2 hc=>onTwo_ hc fun b' c' hc=>and_ hc fun hc c5=>and_ hc fun hc c4=>and_ hc fun hc c3=>and_ hc fun c1 c2=>bind_ ev fun a e1 ev=>bind_ ev fun b e2 ev=>bind_ ev fun t e3 ev=>?_
  refine Compare_chain (rs:=[]) (wpAny_mono (hl sc wr env X W s σ A E _ a c3 rm F B e1) (fun va s1 h1=>?_) fun u u x=>x) (marks2 (chkE_plain c5))
  have k1:=Keeps.get h1.1
  refine chain_link (wpAny_mono (hm sc wr env X W s1 σ A E _ b c4 rm (F.mono k1) (B.mono k1) e2) (fun vb s2 h2=>?_) fun u u x=>x)
  have k2:=Keeps.get h2.1
  have F2:=(F.mono k1).mono k2
  have B2:=(B.mono k1).mono k2
  have K2:=Keeps.trans h1.1 h2.1
  refine wpAny_mono (cmp_sound (X:=X) rm (h1.2.1.mono k2) h2.2.1 c1 e3) (fun v s3 h3=>?_) fun u u x=>x
  obtain ⟨rfl,h3⟩:=h3
  have k3:=Keeps.get h3
  refine wpAny_truthy_bool ?_
  cases t with
  | true=>
    refine bind_ ev fun c e4 ev=>map_ ev fun q ev e=>e ▸ chain_last (wpAny_mono (hr sc wr env X W s3 σ A E _ c c5 rm (F2.mono k3) (B2.mono k3) e4) (fun vc s4 h4=>?_) fun u u x=>x)
    refine wpAny_mono (cmp_sound (X:=X) rm ((h2.2.1.mono k3).mono (Keeps.get h4.1)) h4.2.1 c2 ev) (fun v s5 h5=>?_) fun u u x=>x
    obtain ⟨rfl,h5⟩:=h5
    exact Post.of (Keeps.trans (Keeps.trans (Keeps.trans K2 h3) h4.1) h5) (.bool _) rfl
  | false=>exact Option.some.inj ev ▸ Post.of (Keeps.trans K2 h3) (.bool _) rfl
theorem pt_cmp2 {o1 o2:Cop} {l m r:TE} (hl:PE G I Φ k l) (hm:PE G I Φ k m) (hr:PE G I Φ k r):PT G I Φ k (.cmp2 o1 o2 l m r):=by
  intro sc wr env X W s σ A E e d hc rm F B ev
  refine onCmp_ hc fun a' os bs p hc=>onTwo_ hc fun p1 p2 hc=>onTwo_ hc fun b' c' hc=>and_ hc fun hc c5=>and_ hc fun hc c4=>and_ hc fun hc c3=>and_ hc fun c1 c2=>bind_ ev fun a e1 ev=>bind_ ev fun b e2 ev=>bind_ ev fun t e3 ev=>?_
  refine isTrue_chain (rs:=[]) (wpAny_mono (hl sc wr env X W s σ A E _ a c3 rm F B e1) (fun va s1 h1=>?_) fun u u x=>x) (marks2 (chkE_plain c5))
  have k1:=Keeps.get h1.1
  refine test_link (wpAny_mono (hm sc wr env X W s1 σ A E _ b c4 rm (F.mono k1) (B.mono k1) e2) (fun vb s2 h2=>?_) fun u u x=>x)
  have k2:=Keeps.get h2.1
  have F2:=(F.mono k1).mono k2
  have B2:=(B.mono k1).mono k2
  have K2:=Keeps.trans h1.1 h2.1
  refine wpAny_mono (cmp_sound (X:=X) rm (h1.2.1.mono k2) h2.2.1 c1 e3) (fun v s3 h3=>?_) fun u u x=>x
  obtain ⟨rfl,h3⟩:=h3
  have k3:=Keeps.get h3
  refine wpAny_truthy_bool ?_
  cases t with
  | true=>
    refine bind_ ev fun c e4 ev=>test_last (wpAny_mono (hr sc wr env X W s3 σ A E _ c c5 rm (F2.mono k3) (B2.mono k3) e4) (fun vc s4 h4=>?_) fun u u x=>x)
    refine wpAny_mono (cmp_sound (X:=X) rm ((h2.2.1.mono k3).mono (Keeps.get h4.1)) h4.2.1 c2 ev) (fun v s5 h5=>?_) fun u u x=>x
    obtain ⟨rfl,h5⟩:=h5
    exact wpAny_truthy_bool ⟨rfl,Keeps.trans (Keeps.trans (Keeps.trans K2 h3) h4.1) h5⟩
  | false=>exact Option.some.inj ev ▸ ⟨rfl,Keeps.trans K2 h3⟩
theorem cap3 {n:Nat} (h:n ≤ cap):n ≤ 3 * cap:=Nat.le_trans h (by decide)
theorem pi_exp {t:TE} (h:PE G I Φ k t):PI G I Φ k (.exp t):=by
  intro sc wr env X W s σ A E e ds hc hok rm F B ev
  refine bind_ ev fun d e1 ev=>caL_ (motive:=fun d=>evE Φ t σ=some d→_) ev (fun x ev e1=>if_ ev fun hl ev=>?_) (fun ev=>onD_ (motive:=fun d=>evE Φ t σ=some d→_) ev fun x ev e1=>if_ ev fun hl ev=>?_) e1
  · exact Option.some.inj ev ▸ ⟨wpAny_mono (h sc wr env X W s σ A E _ _ (both1 hc) rm F B e1) (fun v s1 q=>⟨q.1,iter_list rm.handled (q.2.2.1 (both2 hc))⟩) fun u u x=>x,cap3 hl⟩
  · exact Option.some.inj ev ▸ ⟨wpAny_mono (h sc wr env X W s σ A E _ _ (both1 hc) rm F B e1) (fun v s1 q=>⟨q.1,iter_keys rm.handled (q.2.2.1 (both2 hc))⟩) fun u u x=>x,(List.length_map _).symm ▸ cap3 hl⟩
theorem rng_len {a b:Int} (h:rngOk a b=true):(rangeD a b).length ≤ 3 * cap:=by
  have h1:=of_decide_eq_true (both1 h)
  have h2:=of_decide_eq_true (both2 h)
  unfold rangeD cap at *
  rw [List.length_map,List.length_range]
  exact om146 h2 h1
theorem pi_range1 {t:TE} (C:CxOK G Φ k) (h:PE G I Φ k t):PI G I Φ k (.range1 t):=by
  intro sc wr env X W s σ A E e ds hc hok rm F B ev
  refine onFn_ hc fun x xp as p hc=>onOne_ hc fun a hc=>and_ hc fun hc c3=>and_ hc fun c1 c2=>bind_ ev fun d e1 ev=>onI_ (motive:=fun d=>evE Φ t σ=some d→_) ev (fun j ev e1=>if_ ev fun hr ev=>?_) e1
  cases eqb_ c1
  cases ev
  refine ⟨?_,rng_len hr⟩
  refine Call_ (load_built F B c2 (C.names _ (by decide +kernel)) (v:=.type "range") (by decide +kernel) (by decide +kernel) (callWith_type1 ?_ (plain_star (chkE_plain c3))))
  refine args_cons (wpAny_mono (h sc wr env X W s σ A E _ _ c3 rm F B e1) (fun v s1 q=>args_nil ?_) fun z z x=>x) (plain_star (chkE_plain c3))
  obtain ⟨u,rfl⟩:=q.2.1.int_
  exact call_range_1 ⟨Keeps.trans q.1 (Keeps.mk' fun b o e=>Heap.get?_push_of_some _ e),iter_range rm.handled (IsRange.new _ _ _ _ _ _ _) hr⟩
theorem pi_range2 {t u:TE} (C:CxOK G Φ k) (h:PE G I Φ k t) (h':PE G I Φ k u):PI G I Φ k (.range2 t u):=by
  intro sc wr env X W s σ A E e ds hc hok rm F B ev
  refine onFn_ hc fun x xp as p hc=>onTwo_ hc fun a b hc=>and_ hc fun hc c4=>and_ hc fun hc c3=>and_ hc fun c1 c2=>bind_ ev fun d e1 ev=>bind_ ev fun d' e2 ev=>
    onI_ (motive:=fun d=>evE Φ t σ=some d→_) ev (fun i ev e1=>onI_ (motive:=fun d=>evE Φ u σ=some d→_) ev (fun j ev e2=>if_ ev fun hr ev=>?_) e2) e1
  cases eqb_ c1
  cases ev
  refine ⟨?_,rng_len hr⟩
  have hcs:chkEs I sc (.cons u .nil) [b]=true:=Bool.and_eq_true_iff.mpr ⟨c4,rfl⟩
  refine Call_ (load_built F B c2 (C.names _ (by decide +kernel)) (v:=.type "range") (by decide +kernel) (by decide +kernel) (callWith_type1 ?_ (plain_star (chkE_plain c3)) (chkEs_any hcs)))
  refine args_cons (wpAny_mono (h sc wr env X W s σ A E _ _ c3 rm F B e1) (fun v s1 q=>?_) fun z z x=>x) (plain_star (chkE_plain c3))
  have q1:=Keeps.get q.1
  refine args_cons (wpAny_mono (h' sc wr env X W s1 σ A E _ _ c4 rm (F.mono q1) (B.mono q1) e2) (fun v s2 q'=>args_nil ?_) fun z z x=>x) (plain_star (chkE_plain c4))
  obtain ⟨u,rfl⟩:=q.2.1.int_
  obtain ⟨u',rfl⟩:=q'.2.1.int_
  exact call_range_2 ⟨Keeps.trans (Keeps.trans q.1 q'.1) (Keeps.mk' fun b o e=>Heap.get?_push_of_some _ e),iter_range rm.handled (IsRange.new _ _ _ _ _ _ _) hr⟩
end
section
variable {G:Gl} {I:FI} {Φ:FEnv} {k:Nat}
theorem pi_items {t:TE} (h:PE G I Φ k t):PI G I Φ k (.items t):=by
  intro sc wr env X W s σ A E e ds hc hok rm F B ev
  refine onMeth_ hc fun a x ap as p hl hc=>and_ hc fun c0 hc=>and_ hc fun hc c3=>and_ hc fun c1 c2=>bind_ ev fun d e1 ev=>onD_ (motive:=fun d=>evE Φ t σ=some d→_) ev (fun kvs ev e1=>if_ ev fun hn ev=>?_) e1
  cases eqb_ c1
  cases List.isEmpty_iff.mp c0
  cases ev
  refine ⟨?_,(List.length_map _).symm ▸ cap3 hn⟩
  refine MCall (plain_base (chkE_plain c2)) rfl hl (wpAny_mono (h sc wr env X W s σ A E _ _ c2 rm F B e1) (fun v s1 q=>?_) fun u u x=>x)
  obtain ⟨a,kv,rfl,n,p,r⟩:=q.2.2.1 c3
  refine getMethod_builtin p.2.typeIs PySem.F.plainAttrs_dict PySem.F.slot_dict_items PySem.F.type_dict_items p.2.mapOf.noDict ?_
  exact callWith_method0 (call_meetsIn PySem.F.slot_dict_items p.2.typeIs PySem.F.entry_dict_items (PySem.F.args_dict_items_1 _) (meets_dict_items (PySem.strKind G.prog G.w) _ p.1) ⟨⟨_,p.2⟩,Keeps.trans q.1 (Keeps.push _),
    iter_items rm.handled n ⟨_,Heap.get?_push_size _ rfl,rfl,rfl⟩ (p.at' fun o e=>Heap.get?_push_of_some _ e) (r.mono fun b o u e=>Heap.get?_push_of_some _ e)⟩)
theorem pi_values {t:TE} (h:PE G I Φ k t):PI G I Φ k (.values t):=by
  intro sc wr env X W s σ A E e ds hc hok rm F B ev
  refine onMeth_ hc fun a x ap as p hl hc=>and_ hc fun c0 hc=>and_ hc fun hc c3=>and_ hc fun c1 c2=>bind_ ev fun d e1 ev=>onD_ (motive:=fun d=>evE Φ t σ=some d→_) ev (fun kvs ev e1=>if_ ev fun hn ev=>?_) e1
  cases eqb_ c1
  cases List.isEmpty_iff.mp c0
  cases ev
  refine ⟨?_,(List.length_map _).symm ▸ cap3 hn⟩
  refine MCall (plain_base (chkE_plain c2)) rfl hl (wpAny_mono (h sc wr env X W s σ A E _ _ c2 rm F B e1) (fun v s1 q=>?_) fun u u x=>x)
  obtain ⟨a,kv,rfl,n,p,r⟩:=q.2.2.1 c3
  refine getMethod_builtin p.2.typeIs PySem.F.plainAttrs_dict PySem.F.slot_dict_values PySem.F.type_dict_values p.2.mapOf.noDict ?_
  exact callWith_method0 (call_meetsIn PySem.F.slot_dict_values p.2.typeIs PySem.F.entry_dict_values (PySem.F.args_dict_values_1 _) (meets_dict_values (PySem.strKind G.prog G.w) _ p.1) ⟨⟨_,p.2⟩,Keeps.trans q.1 (Keeps.push _),
    iter_vals rm.handled n ⟨_,Heap.get?_push_size _ rfl,rfl,rfl⟩ (p.at' fun o e=>Heap.get?_push_of_some _ e) (r.mono fun b o u e=>Heap.get?_push_of_some _ e)⟩)
theorem pi_zip {t u:TE}:PI G I Φ k (.zip t u):=fun sc wr env X W s σ A E e ds hc hok=>(Bool.false_ne_true hok).elim
theorem room4 {n:Nat} (h:n ≤ 4 * cap):n + 1 ≤ sizeLine:=by rw [sizeLine_eq]; exact Nat.le_trans (Nat.succ_le_succ h) (by decide)
theorem step_list {t:TE} {e:PySem.Expr} {A:Around} {sc':Scope} {tg:List Nat} (h:PE G I Φ k t) (hc:chkE I sc' t e=true) (hs:safe I.own t=true) (rm:Room A k):StepOK G A I sc' tg (stepLW G.prog G.w e) (stepL (evE Φ t)):=by
  intro env X W s σ a d d' E Q F B hx r hz ev hQ
  revert r hz hQ
  refine onL_ ev fun ys ev r hz hQ=>map_ ev fun y e2 e3=>?_
  subst e3
  refine wpAny_mono (h sc' tg env X W s σ A E e y hc rm F B e2) (fun v s1 q=>?_) fun u u x=>x
  have r2:=q.2.2.1 hs
  obtain ⟨h1,t1,e1,q1⟩:=q.1
  subst e1
  refine (r.mono (h':=h1) (fun o=>q1 a o) fun b o u=>q1 b o).is (fun vs ds e p rl=>?_) fun u u e u u=>nomatch e
  cases e
  obtain ⟨n,p⟩:=p
  refine wpAny_list_append_plain ⟨n,p⟩ (fun h' p' hs'=>?_) (by rw [List.size_toArray,rl.length]; exact Nat.le_of_succ_le (room4 hz))
  have kx:∀ b o,¬ X b→h1.get? b=some o→h'.get? b=some o:=fun b o n e=>(hs'.2 b fun z=>n (z ▸ hx)).trans e
  exact hQ _ (Nat.le_of_eq List.length_append) (.inl ⟨vs ++ [v],_,rfl,List.push_toArray vs v ▸ p',(rl.mono kx).append (.cons (r2.mono kx) .nil)⟩) ⟨h',t1,rfl,fun b o n e=>(hs'.2 b n).trans (q1 b o e)⟩
theorem step_dict {t u:TE} {e f:PySem.Expr} {A:Around} {sc':Scope} {tg:List Nat} (h:PE G I Φ k t) (hu:PE G I Φ k u) (hc:chkE I sc' t e=true) (hc':chkE I sc' u f=true) (hs:safe I.own u=true) (rm:Room A k):StepOK G A I sc' tg (stepKW G.prog G.w e f) (stepK (evE Φ t) (evE Φ u)):=by
  intro env X W s σ a d d' E Q F B hx r hz ev hQ
  revert r hz hQ
  refine onD_ ev fun ys ev r hz hQ=>bind_ ev fun key e2 ev=>onS_ (motive:=fun key=>evE Φ t σ=some key→_) ev (fun key ev e2=>map_ ev fun y e3 e4=>?_) e2
  subst e4
  refine wpAny_mono (h sc' tg env X W s σ A E e _ hc rm F B e2) (fun kv s1 q=>?_) fun g g x=>x
  obtain ⟨t',rfl⟩:=q.2.1.str_
  obtain ⟨h1,t1,e1,q1⟩:=q.1
  subst e1
  refine wpAny_mono (hu sc' tg env X W _ σ A E f y hc' rm (F.mono q1) (B.mono q1) e3) (fun v s2 q'=>?_) fun g g x=>x
  have r2:=q'.2.2.1 hs
  obtain ⟨h2,t2,e2,q2⟩:=q'.1
  subst e2
  have q12:∀ b o,s.heap.get? b=some o→h2.get? b=some o:=fun b o e=>q2 b o (q1 b o e)
  refine (r.mono (h':=h2) (fun o=>q12 a o) fun b o g=>q12 b o).is (fun g g e g g=>nomatch e) fun kv kvs e p rk=>?_
  cases e
  refine wpAny_dictSet_pairs (strKind_is G.prog G.w key t') p.2 (fun h' p' hs'=>?_) (by rw [rk.length]; exact Nat.le_of_succ_le (room4 hz))
  have kx:∀ b o,¬ X b→h2.get? b=some o→h'.get? b=some o:=fun b o n e=>(hs'.2 b fun z=>n (z ▸ hx)).trans e
  have nd:(kv.map (·.1)).Nodup:=let ⟨_,_,_,_,_,_,_,_,_,nd⟩:=p; nd
  exact hQ _ (dictPut_length _ _ _) (.inr ⟨_,_,rfl,⟨p.1,p'⟩,stored_put (rk.mono kx) nd (r2.mono kx)⟩) ⟨h',_,rfl,fun b o n e=>(hs'.2 b n).trans (q12 b o e)⟩
theorem comp_done {X:Addr→Prop} {s:Shared} {A:Around} {E:Value→Shared→Prop} {d:D} {Q:Value→Shared→Prop} (lv:Live X s.heap)
    (hQ:∀ Da h' tk,s.heap.get? Da=none→(∀ b o,s.heap.get? b=some o→h'.get? b=some o)→Rep G X h' (.ref Da) d→RepO G (fun b=>X b ∨ b=Da) h' Da d→Q (.ref Da) { s with heap:=h',toks:=tk }) :
    ∀ Da C h' tk,s.heap.get? Da=none→s.heap.get? C=none→C ≠ Da→(∃ m,h'.Ns C m)→(∀ b o,s.heap.get? b=some o→h'.get? b=some o)→RepO G (fun b=>X b ∨ b=C ∨ b=Da) h' Da d→
      compPost (model G.prog G.w) A E none Q (.ref Da) C (.ok .next) { s with heap:=h',toks:=tk }:=by
  rintro Da C h' tk nD nC hne ⟨m,hm⟩ kp r
  refine ⟨m,hm,fun h'' hs=>?_⟩
  have kp':∀ b o,s.heap.get? b=some o→h''.get? b=some o:=fun b o e=>(hs.2 b fun z=>by rw [z,nC] at e; cases e).trans (kp b o e)
  have r':RepO G (fun b=>X b ∨ b=C ∨ b=Da) h'' Da d:=r.mono (fun o e=>(hs.2 Da (Ne.symm hne)).trans e) fun b o n e=>(hs.2 b fun z=>n (.inr (.inl z))).trans e
  refine hQ Da h'' tk nD kp' ((r'.weak (Y:=X) fun b o u y=>.inl y).rep (lv.fresh nD)) (r'.weak fun b o u y=>?_)
  rcases y with y | y
  · exact .inl y
  · exact .inr (.inr y)
theorem newDict_sound {M:Model} {A:Around} {E:Value→Shared→Prop} {s:Shared} {Q:Value→Shared→Prop} (h:Q (.ref s.heap.objs.size) { s with heap:=s.heap.push { cls:=.type "dict", data:=.dict #[] } }):wpAny M A newDict Q E s:=by
  simp only [newDict,newObj]
  exact wpAny_bind (wpAny_alloc (wpAny_pure h))
theorem it_fit {it:TI} (h:itFit it true=true):itOk it=true∧itNm it=true:=⟨both1 h,by simpa using both2 h⟩
theorem pe_lcomp {t:TE} {tg:List Nat} {one:Bool} {it:TI} {cond:TEs} (ht:PE G I Φ k t) (hi:PI G I Φ k it) (hcd:PC G I Φ k cond):PE G I Φ k (.lcomp t tg one it cond):=by
  intro sc wr env X W s σ A E e c hc rm F B ev
  refine onLC_ hc fun a gs sc' p hc=>onGen_ hc fun tt ii ifs hc=>and_ hc fun hc c7=>and_ hc fun hc c6=>and_ hc fun hc c5=>and_ hc fun hc c4=>and_ hc fun hc c3=>and_ hc fun c1 c2=>bind_ ev fun ds e1 ev=>map_ ev fun ys e2 e3=>e3 ▸ ?_
  obtain ⟨hf,hlen⟩:=hi sc wr env X W s σ A E _ ds c4 (it_fit c1).1 rm F B e1
  rw [eval_ListComp]
  exact comp_sound (nm:=itNm it) (d0:=.list []) (o0:={ cls:=.type "list", data:=.seq ([]:List Value).toArray }) (step:=stepL (evE Φ t)) compRule_list rfl (plain_set (chkI_plain c4)) F B c2 c3 (it_fit c1).2 hf hlen rm.handled
    (fun s Q h=>wpAny_newObj_type h) (fun X h a e u=>.inl ⟨[],[],rfl,⟨_,e⟩,.nil⟩) rfl rfl (hcd A _ tg _ rm c5) (step_list ht c6 c7 rm) (compL_F [] e2) (comp_done F.live fun Da h' tk nD kp r r'=>⟨Keeps.mk' kp,r.w,fun u=>r,fun u=>⟨_,rfl,nD,r'⟩⟩)
theorem eval_DictComp {env:Env} (kx vx gens scope pos):eval (.DictComp kx vx gens scope pos) env=
    comprehension (.DictComp kx vx gens scope pos) scope env (firstIterPos gens pos) newDict (firstAsync gens) (firstIter gens env):=rfl
theorem pe_dcomp {t u:TE} {tg:List Nat} {one:Bool} {it:TI} {cond:TEs} (ht:PE G I Φ k t) (hu:PE G I Φ k u) (hi:PI G I Φ k it) (hcd:PC G I Φ k cond):PE G I Φ k (.dcomp t u tg one it cond):=by
  intro sc wr env X W s σ A E e c hc rm F B ev
  refine onDC_ hc fun a b gs sc' p hc=>onGen_ hc fun tt ii ifs hc=>and_ hc fun hc c8=>and_ hc fun hc c7=>and_ hc fun hc c6=>and_ hc fun hc c5=>and_ hc fun hc c4=>and_ hc fun hc c3=>and_ hc fun c1 c2=>bind_ ev fun ds e1 ev=>map_ ev fun ys e2 e3=>e3 ▸ ?_
  obtain ⟨hf,hlen⟩:=hi sc wr env X W s σ A E _ ds c4 (it_fit c1).1 rm F B e1
  rw [eval_DictComp]
  exact comp_sound (nm:=itNm it) (d0:=.dict []) (o0:={ cls:=.type "dict", data:=.dict #[] }) (step:=stepK (evE Φ t) (evE Φ u)) compRule_dict rfl (plain_set (chkI_plain c4)) F B c2 c3 (it_fit c1).2 hf hlen rm.handled
    (fun s Q h=>newDict_sound h) (fun X h a e hsy=>.inr ⟨[],[],rfl,⟨hsy,⟨_,#[],0,e,⟨rfl,rfl,rfl⟩,rfl,fun z he=>by simp at he,Pairs.nil,List.nodup_nil⟩⟩,.nil⟩) rfl rfl (hcd A _ tg _ rm c5) (step_dict ht hu c6 c7 c8 rm) (compD_F e2)
    (comp_done F.live fun Da h' tk nD kp r r'=>Post.of (Keeps.mk' kp) r rfl)
end
section
variable {prog:Program} {w:World} {A:Around} {E:Value→Shared→Prop} {s:Shared}
theorem wpAny_loadIfAlive {M:Model} {a:Addr} {Q:Option Obj→Shared→Prop} (h:Q (s.heap.get? a) s):wpAny M A (loadIfAlive a) Q E s:=fun u u u=>by
  unfold loadIfAlive
  rw [Sem.wp_loadIfAlive]
  exact h
noncomputable abbrev IsZipB (h:Heap) (z TI TO:Addr) (T:Addr) (b:Bool):Prop:=
  h.get? z=some { cls:=.type "zip", dict:=none,data:=.fields #[rawInt T,.bool b,.bool false,.ref TI,.ref TO],slots:=#[] }
theorem taken_not_free {z TI TO T:Addr} {b:Bool} {o:Obj} {Q:Bool→Shared→Prop} (hz:IsZipB s.heap z TI TO T b) (hT:s.heap.get? T=some o)
    (hQ:∀ h',IsZipB h' z TI TO T true→Heap.SameBut z s.heap h'→Q false { s with heap:=h' }):wpAny (model prog w) A (Builtin.SmallTypes.ownedTupleIsFree (.ref z)) Q E s:=by
  unfold Builtin.SmallTypes.ownedTupleIsFree
  refine wpAny_bind (wpAny_field hz rfl (x:=rawInt T) rfl ?_)
  show wpAny _ _ (loadIfAlive (Int.toNat T) >>= _) _ _ _
  rw [Int.toNat_natCast]
  refine wpAny_bind (wpAny_loadIfAlive ?_)
  rw [hT]
  simp only [Option.isNone_some,Bool.false_eq_true,if_false]
  refine wpAny_bind (wpAny_field hz rfl (x:=.bool b) rfl ?_)
  cases b with
  | true=>
    rw [if_neg (by decide)]
    exact wpAny_pure (hQ s.heap hz (.refl ..))
  | false=>
    rw [if_pos (by decide)]
    refine wpAny_bind (wpAny_setField_rec hz (by simp) fun h₁ hz₁ hs₁=>?_)
    exact wpAny_pure (hQ h₁ hz₁ hs₁)
theorem zip_taken_item {z TI TO T i1 i2 l1 l2:Addr} {bb:Bool} {oT:Obj} {k1 k2:Nat} {xs ys:Array Value} {x y:Value} {Q:Value→Shared→Prop} (D:ZipApart z TI TO i1 i2 l1 l2)
    (hz:IsZipB s.heap z TI TO T bb) (hT:s.heap.get? T=some oT) (hTI:IsPair s.heap TI (.ref i1) (.ref i2))
    (h1:s.heap.IsListIter i1 l1 k1) (h2:s.heap.IsListIter i2 l2 k2) (hl1:s.heap.IsList l1 xs) (hl2:s.heap.IsList l2 ys) (hx:xs[k1]?=some x) (hy:ys[k2]?=some y)
    (hQ:∀ h',IsZipB h' z TI TO T true→h'.IsListIter i1 l1 (k1 + 1)→h'.IsListIter i2 l2 (k2 + 1)→IsPair h' s.heap.objs.size x y→
      (∀ c o,c ≠ z→c ≠ i1→c ≠ i2→s.heap.get? c=some o→h'.get? c=some o)→Q (.ref s.heap.objs.size) { s with heap:=h' }) :
    wpAny (model prog w) A (Builtin.«zip.__next__» ⟨[.ref z],[]⟩) (fun fin s'=>∃ v,fin=.done (.ret v)∧Q v s') E s:=by
  show wpAny _ _ (field (.ref z) 2 >>= _) _ _ _
  refine wpAny_bind (wpAny_field hz rfl (x:=.bool false) rfl ?_)
  show wpAny _ _ (field (.ref z) 3 >>= _) _ _ _
  refine wpAny_bind (wpAny_field hz rfl (x:=.ref TI) rfl ?_)
  refine wpAny_bind (wpAny_seqItems hTI rfl ?_)
  show wpAny _ _ (Builtin.SmallTypes.ownedTupleIsFree (.ref z) >>= _) _ _ _
  refine wpAny_bind (taken_not_free hz hT fun h₁ hz₁ hs₁=>?_)
  simp only [Bool.false_eq_true,if_false]
  rw [← Array.forIn_toList]
  simp only [List.forIn_cons,List.forIn_nil]
  refine wpAny_bind (wpAny_bind (wpAny_bind (wpAny_holding ?_)))
  show wpAny _ _ (Builtin.SmallTypes.nextOf (.ref i1) >>= _) _ _ _
  refine wpAny_bind (wpAny_nextOf_list_item (h1.extBut hs₁.extBut D.i1z) (hl1.extBut hs₁.extBut D.l1z) hx fun h₂ h1₂ hs₂=>wpAny_pure ?_)
  refine wpAny_pure ?_
  refine wpAny_bind (wpAny_bind (wpAny_holding ?_))
  show wpAny _ _ (Builtin.SmallTypes.nextOf (.ref i2) >>= _) _ _ _
  refine wpAny_bind (wpAny_nextOf_list_item ((h2.extBut hs₁.extBut D.i2z).extBut hs₂.extBut D.i12.symm)
    ((hl2.extBut hs₁.extBut D.l2z).extBut hs₂.extBut D.l2i1) hy fun h₄ h2₄ hs₄=>wpAny_pure ?_)
  refine wpAny_pure (wpAny_pure ?_)
  refine wpAny_bind (wpAny_newTuple (hsz:=by show (2:Nat) ≤ sizeLine; rw [sizeLine_eq]; omega) ?_)
  have hsz:h₄.objs.size=s.heap.objs.size:=by rw [hs₄.1,hs₂.1,hs₁.1]
  refine wpAny_pure ⟨_,rfl,?_⟩
  show Q (.ref h₄.objs.size) _
  rw [hsz]
  refine hQ _ (Heap.get?_push_of_some _ (hs₄.extBut _ _ D.i2z.symm (hs₂.extBut _ _ D.i1z.symm hz₁))) ((h1₂.extBut hs₄.extBut D.i12).at fun o e=>Heap.get?_push_of_some _ e) (h2₄.at fun o e=>Heap.get?_push_of_some _ e) ?_ fun c o c1 c2 c3 e=>Heap.get?_push_of_some _ (hs₄.extBut _ _ c3 (hs₂.extBut _ _ c2 (hs₁.extBut _ _ c1 e)))
  have:=Heap.get?_push_size h₄ (o:={ cls:=.type "tuple", data:=.seq #[x,y] }) rfl
  rw [hsz] at this
  exact this
theorem zip_taken_end {z TI TO T i1 i2 l1 l2:Addr} {bb:Bool} {oT:Obj} {k1 k2:Nat} {xs ys:Array Value} {Q:Fin→Shared→Prop} (hh:A.handled=none) (D:ZipApart z TI TO i1 i2 l1 l2)
    (hz:IsZipB s.heap z TI TO T bb) (hT:s.heap.get? T=some oT) (hTI:IsPair s.heap TI (.ref i1) (.ref i2))
    (h1:s.heap.IsListIter i1 l1 k1) (h2:s.heap.IsListIter i2 l2 k2) (hl1:s.heap.IsList l1 xs) (hl2:s.heap.IsList l2 ys) (hend:xs[k1]?=none ∨ ys[k2]?=none)
    (hE:∀ h' e,(∀ c o,c ≠ z→c ≠ i1→c ≠ i2→s.heap.get? c=some o→h'.get? c=some o)→(∃ o,h'.get? e=some o∧o.cls=.type "StopIteration")→E (.ref e) { s with heap:=h' }) :
    wpAny (model prog w) A (Builtin.«zip.__next__» ⟨[.ref z],[]⟩) Q E s:=by
  show wpAny _ _ (field (.ref z) 2 >>= _) _ _ _
  refine wpAny_bind (wpAny_field hz rfl (x:=.bool false) rfl ?_)
  show wpAny _ _ (field (.ref z) 3 >>= _) _ _ _
  refine wpAny_bind (wpAny_field hz rfl (x:=.ref TI) rfl ?_)
  refine wpAny_bind (wpAny_seqItems hTI rfl ?_)
  show wpAny _ _ (Builtin.SmallTypes.ownedTupleIsFree (.ref z) >>= _) _ _ _
  refine wpAny_bind (taken_not_free hz hT fun h₁ hz₁ hs₁=>?_)
  simp only [Bool.false_eq_true,if_false]
  rw [← Array.forIn_toList]
  simp only [List.forIn_cons,List.forIn_nil]
  refine wpAny_bind (wpAny_bind (wpAny_bind (wpAny_holding ?_)))
  show wpAny _ _ (Builtin.SmallTypes.nextOf (.ref i1) >>= _) _ _ _
  cases hx:xs[k1]? with
  | none=>
    refine wpAny_bind (wpAny_nextOf_list_end hh (h1.extBut hs₁.extBut D.i1z) (hl1.extBut hs₁.extBut D.l1z) hx fun h₂ e hs₂ he=>?_)
    exact hE h₂ e (fun c o c1 c2 c3 x=>hs₂ _ _ c2 (hs₁.extBut _ _ c1 x)) he
  | some x=>
    have hy:ys[k2]?=none:=by rcases hend with h | h; rw [hx] at h; cases h; exact h
    refine wpAny_bind (wpAny_nextOf_list_item (h1.extBut hs₁.extBut D.i1z) (hl1.extBut hs₁.extBut D.l1z) hx fun h₂ h1₂ hs₂=>wpAny_pure ?_)
    refine wpAny_pure ?_
    refine wpAny_bind (wpAny_bind (wpAny_holding ?_))
    show wpAny _ _ (Builtin.SmallTypes.nextOf (.ref i2) >>= _) _ _ _
    refine wpAny_bind (wpAny_nextOf_list_end hh ((h2.extBut hs₁.extBut D.i2z).extBut hs₂.extBut D.i12.symm) ((hl2.extBut hs₁.extBut D.l2z).extBut hs₂.extBut D.l2i1) hy fun h₃ e hs₃ he=>?_)
    exact hE h₃ e (fun c o c1 c2 c3 x=>hs₃ _ _ c3 (hs₂.extBut _ _ c2 (hs₁.extBut _ _ c1 x))) he
structure ZP where
  z:Addr
  TI:Addr
  TO:Addr
  i1:Addr
  i2:Addr
  l1:Addr
  l2:Addr
  xs:Array Value
  ys:Array Value
noncomputable def ZP.ap (P:ZP):Prop:=ZipApart P.z P.TI P.TO P.i1 P.i2 P.l1 P.l2
noncomputable def ZP.out (P:ZP) (c:Addr):Prop:=c ≠ P.z∧c ≠ P.TO∧c ≠ P.i1∧c ≠ P.i2
noncomputable def ZP.has (P:ZP) (c:Addr):Prop:=c=P.z ∨ c=P.TI ∨ c=P.TO ∨ c=P.i1 ∨ c=P.i2 ∨ c=P.l1 ∨ c=P.l2
structure ZS (h:Heap) (P:ZP) (k:Nat):Prop where
  st:IsZip h P.z P.TI P.TO .none ∨ ∃ T o b,h.get? T=some o∧P.out T∧IsZipB h P.z P.TI P.TO T b
  TI:IsPair h P.TI (.ref P.i1) (.ref P.i2)
  TO:∃ a b,IsPair h P.TO a b
  it1:h.IsListIter P.i1 P.l1 k
  it2:h.IsListIter P.i2 P.l2 k
  l1:h.IsList P.l1 P.xs
  l2:h.IsList P.l2 P.ys
noncomputable def SL (h:Heap) (S:Addr) (ts:List Addr) (c:Nat):Prop:=h.get? S=some { cls:=.type "list", dict:=none,data:=.seq (ts.map Value.ref).toArray c,slots:=#[] }
noncomputable def Tups (h:Heap) (P:ZP) (S:Addr) (ts:List Addr):Prop:=∀ (j:Nat) (T:Addr),ts[j]?=some T→∃ x y,P.xs[j]?=some x∧P.ys[j]?=some y∧IsPair h T x y∧T ≠ S∧P.out T∧P.z < T
noncomputable def ZDone (P:ZP) (S:Addr) (h h':Heap):Prop:=∃ ts c,(∀ c o,c ≠ S→P.out c→h.get? c=some o→h'.get? c=some o)∧SL h' S ts c∧ts.length=min P.xs.size P.ys.size∧Tups h' P S ts
section
variable {P:ZP} {h h':Heap} {k:Nat} {S:Addr}
theorem ZP.has_out (hS:¬ P.has S):P.out S:=⟨fun e=>hS (.inl e),fun e=>hS (.inr (.inr (.inl e))),fun e=>hS (.inr (.inr (.inr (.inl e)))),fun e=>hS (.inr (.inr (.inr (.inr (.inl e)))))⟩
theorem ZS.frame (Z:ZS h P k) (kp:∀ a o,P.has a→h.get? a=some o→h'.get? a=some o) (hT:∀ T o,h.get? T=some o→∃ o',h'.get? T=some o'):ZS h' P k where
  st:=Z.st.imp (kp _ _ (.inl rfl)) fun ⟨T,o,b,e,n,q⟩=>let ⟨o',e'⟩:=hT T o e; ⟨T,o',b,e',n,kp _ _ (.inl rfl) q⟩
  TI:=kp _ _ (.inr (.inl rfl)) Z.TI
  TO:=let ⟨a,b,e⟩:=Z.TO; ⟨a,b,kp _ _ (.inr (.inr (.inl rfl))) e⟩
  it1:=Z.it1.at fun o=>kp _ o (.inr (.inr (.inr (.inl rfl))))
  it2:=Z.it2.at fun o=>kp _ o (.inr (.inr (.inr (.inr (.inl rfl)))))
  l1:=Z.l1.at fun o=>kp _ o (.inr (.inr (.inr (.inr (.inr (.inl rfl))))))
  l2:=Z.l2.at fun o=>kp _ o (.inr (.inr (.inr (.inr (.inr (.inr rfl))))))
theorem ZS.live (Z:ZS h P k) {c:Addr} (hc:P.has c):∃ o,h.get? c=some o:=by
  rcases hc with rfl | rfl | rfl | rfl | rfl | rfl | rfl
  · exact Z.st.elim (fun q=>⟨_,q⟩) fun ⟨_,_,_,_,_,q⟩=>⟨_,q⟩
  · exact ⟨_,Z.TI⟩
  · exact let ⟨_,_,q⟩:=Z.TO; ⟨_,q⟩
  · exact let ⟨_,q,_⟩:=Z.it1; ⟨_,q⟩
  · exact let ⟨_,q,_⟩:=Z.it2; ⟨_,q⟩
  · exact let ⟨_,q,_⟩:=Z.l1; ⟨_,q⟩
  · exact let ⟨_,q,_⟩:=Z.l2; ⟨_,q⟩
theorem ZS.new (Z:ZS h P k):¬ P.has h.objs.size:=fun q=>let ⟨_,e⟩:=Z.live q; Nat.lt_irrefl _ (Heap.lt_size e)
theorem ZS.lt (Z:ZS h P k):P.z < h.objs.size:=let ⟨_,e⟩:=Z.live (.inl rfl); Heap.lt_size e
theorem Tups.keep {ts:List Addr} (t:Tups h P S ts) (k:∀ c o,c ≠ S→P.out c→h.get? c=some o→h'.get? c=some o):Tups h' P S ts:=fun j T e=>
  let ⟨x,y,e1,e2,p,n1,n,l⟩:=t j T e; ⟨x,y,e1,e2,k _ _ n1 n p,n1,n,l⟩
theorem ZS.other (Z:ZS h P k) (hS:¬ P.has S) (oth:∀ b o,b ≠ S→h.get? b=some o→h'.get? b=some o) (hs:∃ o,h'.get? S=some o):ZS h' P k:=
  Z.frame (fun a o m e=>oth a o (fun q=>hS (q ▸ m)) e) fun T o e=>(Decidable.em (T=S)).elim (fun q=>q ▸ hs) fun q=>⟨o,oth T o q e⟩
end
section
variable {P:ZP} {k:Nat} {S:Addr} {x y:Value} {R:Result→Shared→Prop} {res:Value}
theorem zs_item {Q:Option Value→Shared→Prop} (D:P.ap) (Z:ZS s.heap P k) (hx:P.xs[k]?=some x) (hy:P.ys[k]?=some y)
    (hQ:∀ h',ZS h' P (k + 1)→IsPair h' s.heap.objs.size x y→(∀ c o,P.out c→s.heap.get? c=some o→h'.get? c=some o)→Q (some (.ref s.heap.objs.size)) { s with heap:=h' }) :
    wpAny (model prog w) A (pyNext (.ref P.z)) Q E s:=by
  obtain ⟨a,b,hTO⟩:=Z.TO
  have no:=ZP.has_out Z.new
  rcases Z.st with hz | ⟨T,oT,bb,hT,nT,hz⟩
  · exact wpAny_pyNext_zip_item D hz Z.TI hTO Z.it1 Z.it2 Z.l1 Z.l2 hx hy fun h' a1 a2 a3 a4 a5 a6 a7=>hQ h' ⟨.inr ⟨_,_,false,a5,no,a1⟩,a7 _ _ D.TIz D.TITO D.TIi1 D.TIi2 Z.TI,⟨_,_,a2⟩,a3,a4,Z.l1.at fun o=>a7 _ o D.l1z D.l1TO D.l1i1 D.l1i2,Z.l2.at fun o=>a7 _ o D.l2z D.l2TO D.l2i1 D.l2i2⟩ a5 fun c o n=>a7 c o n.1 n.2.1 n.2.2.1 n.2.2.2
  · have hTy:s.TypeIs (.ref P.z) "zip":=⟨_,hz,rfl⟩
    unfold pyNext
    exact wpAny_bind (wpAny_attempt (wpAny_callSpecial?_slot (name:=Str.ofString "__next__") hTy PySem.F.slot_zip_next
      (wpAny_call_entry PySem.F.slot_zip_next hTy PySem.F.entry_zip_next
        (zip_taken_item D hz hT Z.TI Z.it1 Z.it2 Z.l1 Z.l2 hx hy fun h' a1 a3 a4 a5 a7=>wpAny_pure (hQ h' ⟨.inr ⟨T,oT,true,a7 T oT nT.1 nT.2.2.1 nT.2.2.2 hT,nT,a1⟩,a7 _ _ D.TIz D.TIi1 D.TIi2 Z.TI,⟨_,_,a7 _ _ D.TOz D.TOi1 D.TOi2 hTO⟩,a3,a4,Z.l1.at fun o=>a7 _ o D.l1z D.l1i1 D.l1i2,Z.l2.at fun o=>a7 _ o D.l2z D.l2i1 D.l2i2⟩ a5 fun c o n=>a7 c o n.1 n.2.2.1 n.2.2.2)) (PySem.F.args_zip_next_1 _))))
theorem zs_end {Q:Option Value→Shared→Prop} (hh:A.handled=none) (D:P.ap) (Z:ZS s.heap P k) (hend:P.xs[k]?=none ∨ P.ys[k]?=none)
    (hQ:∀ h',(∀ c o,P.out c→s.heap.get? c=some o→h'.get? c=some o)→Q none { s with heap:=h' }):wpAny (model prog w) A (pyNext (.ref P.z)) Q E s:=by
  obtain ⟨a,b,hTO⟩:=Z.TO
  rcases Z.st with hz | ⟨T,oT,bb,hT,nT,hz⟩
  · exact wpAny_pyNext_zip_end hh D hz Z.TI hTO Z.it1 Z.it2 Z.l1 Z.l2 hend fun h' q=>hQ h' fun c o n=>q c o n.1 n.2.1 n.2.2.1 n.2.2.2
  · have hTy:s.TypeIs (.ref P.z) "zip":=⟨_,hz,rfl⟩
    unfold pyNext
    refine wpAny_bind (wpAny_attempt (wpAny_callSpecial?_slot (name:=Str.ofString "__next__") hTy PySem.F.slot_zip_next
      (wpAny_call_entry PySem.F.slot_zip_next hTy PySem.F.entry_zip_next (zip_taken_end hh D hz hT Z.TI Z.it1 Z.it2 Z.l1 Z.l2 hend fun h' e hk he=>?_) (PySem.F.args_zip_next_1 _))))
    obtain ⟨o,ho,hc⟩:=he
    exact wpAny_bind (wpAny_isInstance (T:="StopIteration") (b:=true) ⟨o,ho,hc⟩ isSubtype_stop (wpAny_pure (hQ _ fun c o n=>hk c o n.1 n.2.2.1 n.2.2.2)))
theorem zip_no_len:typeLookup (.type "zip") "__len__"=pure none:=by rw [typeLookup_type,builtinLookup_eq_fast]; kernel_rfl
theorem zip_no_hint:typeLookup (.type "zip") "__length_hint__"=pure none:=by rw [typeLookup_type,builtinLookup_eq_fast]; kernel_rfl
theorem tups_more {h h':Heap} {ts:List Addr} {T:Addr} (hk:ts.length=k) (ht:Tups h P S ts) (hx:P.xs[k]?=some x) (hy:P.ys[k]?=some y) (kp:∀ c o,c ≠ S→P.out c→h.get? c=some o→h'.get? c=some o) (p:IsPair h' T x y) (n1:T ≠ S) (n:P.out T∧P.z < T):Tups h' P S (ts ++ [T]):=fun j U e=>by
  by_cases hj:j < ts.length
  · exact ht.keep kp j U ((List.getElem?_append_left hj).symm.trans e)
  · have hl:=(List.getElem?_eq_some_iff.mp e).1
    rw [List.length_append,List.length_singleton] at hl
    cases (show j=k from om147 hl hk hj)
    rw [← hk,List.getElem?_concat_length] at e
    cases e
    exact ⟨x,y,hx,hy,p,n1,n⟩
theorem tups_min {h:Heap} {ts:List Addr} (hk:ts.length=k) (ht:Tups h P S ts) (hx:k ≤ P.xs.size) (hend:P.xs[k]?=none ∨ P.ys[k]?=none):ts.length=min P.xs.size P.ys.size:=by
  have hy:k ≤ P.ys.size:=by
    cases k with
    | zero=>exact Nat.zero_le _
    | succ k=>
      obtain ⟨x,y,_,e2,_⟩:=ht k _ (List.getElem?_eq_getElem (show k < ts.length from om8 hk))
      exact (Array.getElem?_eq_some_iff.mp e2).1
  rcases hend with e | e
  · have:=Array.getElem?_eq_none_iff.mp e; exact om148 hk hx hy this
  · have:=Array.getElem?_eq_none_iff.mp e; exact om149 hk hy hx this
theorem extend_zip (hh:A.handled=none) (D:P.ap) (hS:¬ P.has S) (hz:P.xs.size ≤ 1000000) :
    ∀ (n k:Nat) (s:Shared) (ts:List Addr) (c:Nat),n=P.xs.size + 1 - k→ZS s.heap P k→SL s.heap S ts c→ts.length=k→k ≤ P.xs.size→Tups s.heap P S ts→
    (∀ h' tk,ZDone P S s.heap h'→R (.ok (.ret res)) { s with heap:=h',toks:=tk })→codeAny (model prog w) A (.builtin "list.extend.loop" ⟨[.ref S,.ref P.z,res],[]⟩) R s:=by
  intro n
  induction n with
  | zero=>intro k s ts c hn _ _ _ hk; omega
  | succ n ih=>
    intro k s ts c hn Z hSs htl hk hts hR
    refine codeAny_builtin PySem.F.entry_extend_loop ?_
    rw [Around.under_plainId PySem.F.plain_extend_loop _]
    show wpAny _ A.in1 (pyNext (.ref P.z) >>= _) _ _ s
    by_cases hend:P.xs[k]?=none ∨ P.ys[k]?=none
    · exact wpAny_bind (zs_end hh D Z hend fun h' kp=>wpAny_pure (hR h' s.toks ⟨ts,c,fun c o u=>kp c o,kp _ _ (ZP.has_out hS) hSs,tups_min htl hts hk hend,hts.keep fun c o u=>kp c o⟩))
    · obtain ⟨x,hx⟩:=Option.ne_none_iff_exists'.mp fun q=>hend (.inl q)
      obtain ⟨y,hy⟩:=Option.ne_none_iff_exists'.mp fun q=>hend (.inr q)
      refine wpAny_bind (zs_item D Z hx hy fun h' Z' p kp=>?_)
      have hS':=kp _ _ (ZP.has_out hS) hSs
      show wpAny _ A.in1 (updateSeq S (·.push (.ref s.heap.objs.size)) >>= _) _ _ _
      refine wpAny_bind ?_
      have oth:∀ b o,b ≠ S→h'.get? b=some o→(h'.update S (Obj.mapSeq (·.push (.ref s.heap.objs.size)))).get? b=some o:=fun b o hb e=>(Heap.get?_update_other _ _ (Ne.symm hb)).trans e
      have hself:=Heap.get?_update_self (Obj.mapSeq (·.push (.ref s.heap.objs.size))) hS' rfl
      have nS:s.heap.objs.size ≠ S:=fun q=>Nat.lt_irrefl _ (q ▸ Heap.lt_size hSs)
      have keep:∀ c o,c ≠ S→P.out c→s.heap.get? c=some o→(h'.update S (Obj.mapSeq (·.push (.ref s.heap.objs.size)))).get? c=some o:=fun c o n1 n e=>oth c o n1 (kp c o n e)
      have hkx:=(Array.getElem?_eq_some_iff.mp hx).1
      refine wpAny_updateSeq hS' rfl (wpAny_pure ⟨plainId_quiet PySem.F.plain_extend_loop _,ih (k + 1) _ (ts ++ [s.heap.objs.size]) _ (om150 hn) (Z'.other hS oth ⟨_,hself⟩) (by unfold SL; simpa [Obj.mapSeq] using hself) (by rw [List.length_append,htl]; rfl) hkx (tups_more htl hts hx hy keep (oth _ _ nS p) nS ⟨ZP.has_out Z.new,Z.lt⟩) fun h'' tk q=>?_⟩) (by simp [htl,sizeLine_eq]; exact om43 hkx hz) (by simp [htl,sizeLine_eq]; exact om43 hkx hz)
      obtain ⟨ts',c',q1,q2⟩:=q
      exact hR h'' tk ⟨ts',c',fun c o n1 n e=>q1 c o n1 n (keep c o n1 n e),q2⟩
theorem lz_extend {c₀:Nat} (hh:A.handled=none) (D:P.ap) (hS:¬ P.has S) (hsz:P.xs.size ≤ 1000000) (Z:ZS s.heap P 0) (hz:IsZip s.heap P.z P.TI P.TO .none) (hSs:s.heap.get? S=some { cls:=.type "list", data:=.seq #[] c₀ })
    (hR:∀ h' tk,ZDone P S s.heap h'→R (.ok (.ret res)) { s with heap:=h',toks:=tk }) :
    wpAny (model prog w) A.in1 (Builtin.List.listExtendWith (.ref S) (.ref P.z) res)
      (fun fin s'=>match fin with | .done f=>R (.ok f) s' | .again c'=>c'.quiet=true∧codeAny (model prog w) A c' R s') (fun e s'=>R (.error e) s') s:=by
  have hSz:S ≠ P.z:=(ZP.has_out hS).1
  have hT:s.TypeIs (.ref P.z) "zip":=⟨_,hz,rfl⟩
  unfold Builtin.List.listExtendWith
  refine wpAny_bind (wpAny_typeOf hT ?_)
  have h1:Builtin.List.listSameRef (.ref S) (.ref P.z)=false:=by simp [Builtin.List.listSameRef,hSz]
  have h2:(Value.type "zip" == Value.type "list")=false:=by decide
  have h3:(Value.type "zip" == Value.type "tuple")=false:=by decide
  simp only [h1,h2,h3,Bool.or_false,Bool.false_eq_true,if_false]
  refine wpAny_bind (wpAny_pyIter_zip hz ?_)
  refine wpAny_bind (wpAny_holding ?_)
  unfold Builtin.List.listLengthHint
  refine wpAny_bind (wpAny_specialOf hT zip_no_len ?_)
  show wpAny _ A.in1 (specialOf (Value.ref P.z) (Str.ofString "__length_hint__") >>= _) _ _ _
  refine wpAny_bind (wpAny_specialOf hT zip_no_hint (wpAny_pure ?_))
  show wpAny _ A.in1 (rule "list.extend.makes-room" >>= fun u=>Builtin.List.listTouch (.ref S) >>= fun u=>
    again (.builtin "list.extend.loop" ⟨[.ref S,.ref P.z,res],[]⟩)) _ _ _
  refine wpAny_bind (wpAny_rule (wpAny_bind ?_))
  show wpAny _ A.in1 (updateSeq S (·.push .none) >>= fun u=>updateSeq S (·.pop)) _ _ _
  refine wpAny_bind (wpAny_updateSeq hSs rfl ?_)
  have hS₂:=Heap.get?_update_self (Obj.mapSeq (·.push Value.none)) hSs rfl
  refine wpAny_updateSeq (hz:=by seq_fits) hS₂ rfl ?_
  have hS₃:=Heap.get?_update_self (Obj.mapSeq (·.pop)) hS₂ rfl
  have oth:∀ b o,b ≠ S→s.heap.get? b=some o→((s.heap.update S (Obj.mapSeq (·.push Value.none))).update S (Obj.mapSeq (·.pop))).get? b=some o:=
    fun b o hb e=>(Heap.get?_update_other _ _ (Ne.symm hb)).trans ((Heap.get?_update_other _ _ (Ne.symm hb)).trans e)
  refine wpAny_pure ⟨plainId_quiet PySem.F.plain_extend_loop _,extend_zip hh D hS hsz (P.xs.size + 1) 0 _ [] _ rfl (Z.other hS oth ⟨_,hS₃⟩) hS₃ rfl (Nat.zero_le _) (fun j T e=>nomatch e) fun h' tk q=>?_⟩
  obtain ⟨ts',c',q1,q2⟩:=q
  exact hR h' tk ⟨ts',c',fun c o n1 n e=>q1 c o n1 n (oth c o n1 e),q2⟩
theorem lz_init (hh:A.handled=none) (D:P.ap) (hS:¬ P.has S) (hsz:P.xs.size ≤ 1000000) (Z:ZS s.heap P 0) (hz:IsZip s.heap P.z P.TI P.TO .none) (hSs:s.heap.get? S=some { cls:=.type "list", data:=.seq #[] })
    (hR:∀ h' tk,ZDone P S s.heap h'→R (.ok (.ret .none)) { s with heap:=h',toks:=tk }) :
    wpAny (model prog w) A.in1 (Builtin.«list.__init__» ⟨[.ref S,.ref P.z],[]⟩)
      (fun fin s'=>match fin with | .done f=>R (.ok f) s' | .again c'=>c'.quiet=true∧codeAny (model prog w) A c' R s') (fun e s'=>R (.error e) s') s:=by
  show wpAny _ A.in1 (do let old ← Builtin.List.listItems (.ref S); Builtin.List.listUpdate (.ref S) (fun u=>#[]); letGo old.toList.reverse; Builtin.List.listExtendWith (.ref S) (.ref P.z) .none) _ _ s
  refine wpAny_bind ?_
  unfold Builtin.List.listItems
  refine wpAny_bind (wpAny_seqItems hSs rfl (wpAny_pure ?_))
  show wpAny _ A.in1 (updateSeq S (fun u=>#[]) >>= fun u=>letGo (#[]:Array Value).toList.reverse >>= fun u=>Builtin.List.listExtendWith (.ref S) (.ref P.z) .none) _ _ s
  refine wpAny_bind (wpAny_updateSeq hSs rfl ?_)
  have hS₂:=Heap.get?_update_self (Obj.mapSeq (fun u=>(#[]:Array Value))) hSs rfl
  have oth:∀ b o,b ≠ S→s.heap.get? b=some o→(s.heap.update S (Obj.mapSeq (fun u=>(#[]:Array Value)))).get? b=some o:=
    fun b o hb e=>(Heap.get?_update_other _ _ (Ne.symm hb)).trans e
  refine wpAny_bind (wpAny_letGo ?_)
  refine lz_extend hh D hS hsz (Z.other hS oth ⟨_,hS₂⟩) (oth _ _ (Ne.symm (ZP.has_out hS).1) hz) hS₂ fun h' tk q=>?_
  obtain ⟨ts',c',q1,q2⟩:=q
  exact hR h' tk ⟨ts',c',fun c o n1 n e=>q1 c o n1 n (oth c o n1 e),q2⟩
theorem lz_call {Q:Value→Shared→Prop} (hh:A.handled=none) (D:P.ap) (hsz:P.xs.size ≤ 1000000) (Z:ZS s.heap P 0) (hz:IsZip s.heap P.z P.TI P.TO .none)
    (hQ:∀ h' tk,ZDone P s.heap.objs.size s.heap h'→Q (.ref s.heap.objs.size) { s with heap:=h',toks:=tk }) :
    wpAny (model prog w) A (call (.type "list") [.ref P.z]) Q E s:=by
  refine callType_codes (Q₁:=fun obj s₁=>obj=.ref s.heap.objs.size∧s₁={ s with heap:=s.heap.push { cls:=.type "list", data:=.seq #[] } }) PySem.F.called_list (PySem.F.typeCall_list_1 _) PySem.F.entry_list_init
    (code_list_new _ ⟨rfl,rfl⟩) fun obj s₁ h₁=>?_
  obtain ⟨rfl,rfl⟩:=h₁
  have hS:(s.heap.push { cls:=.type "list", data:=.seq #[] }).get? s.heap.objs.size=some { cls:=.type "list", data:=.seq #[] }:=Heap.get?_push_size _ rfl
  have pu:∀ b o,s.heap.get? b=some o→(s.heap.push { cls:=.type "list", data:=.seq #[] }).get? b=some o:=fun b o=>Heap.get?_push_of_some _
  refine ⟨⟨_,hS,rfl⟩,PySem.F.args_list_init_2 _ _,lz_init (A:=A.in1) hh D Z.new hsz (Z.frame (fun a o u=>pu a o) fun T o e=>⟨o,pu T o e⟩) (pu _ _ hz) hS fun h' tk q=>⟨rfl,hQ h' tk ?_⟩⟩
  obtain ⟨ts',c',q1,q2⟩:=q
  exact ⟨ts',c',fun c o n1 n e=>q1 c o n1 n (pu c o e),q2⟩
end
end
section
variable {G:Gl} {I:FI} {Φ:FEnv} {k:Nat}
theorem repL_ints {X:Addr→Prop} {h:Heap}:∀ (n:Nat) (f:Nat→Int) (vs:List Value),vs.length=n→(∀ (i:Nat) (v:Value),vs[i]?=some v→∃ t,v=.int (f i) t)→RepL G X h vs ((List.range n).map fun k=>D.int (f k))
  | 0,_,vs,h1,_=>List.length_eq_zero_iff.mp h1
  | n + 1,f,v :: vs,h1,h2=>by
    obtain ⟨t,rfl⟩:=h2 0 v rfl
    rw [List.range_succ_eq_map,List.map_cons,List.map_map]
    exact .cons (.int _ _) (repL_ints n (fun i=>f (i + 1)) vs (Nat.succ.inj h1) fun i=>h2 (i + 1))
theorem repL_range {X:Addr→Prop} {h:Heap} {a:Int} {n:Nat} {vs:List Value} (h1:vs.length=n) (h2:∀ (i:Nat) (v:Value),vs[i]?=some v→∃ t,v=.int (a + (i:Int) * 1) t):RepL G X h vs ((List.range n).map fun (k:Nat)=>D.int (a + k)):=
  repL_ints n (fun i=>a + (i:Int)) vs h1 fun i v e=>(h2 i v e).elim fun t q=>⟨t,by rw [q,Int.mul_one]⟩
theorem pe_listOf_range {t:TE} (C:CxOK G Φ k) (h:PE G I Φ k t):PE G I Φ k (.listOf (.range1 t)):=by
  intro sc wr env X W s σ A E e c hc rm F B ev
  refine onFn_ hc fun x xp as p hc=>onOne_ hc fun a hc=>and_ hc fun hc c3=>and_ hc fun c1 c2=>?_
  have hpl:=chkI_plain c3
  revert hpl
  refine onFn_ c3 fun x' xp' as' p' c3=>onOne_ c3 fun a' c3 hpl=>and_ c3 fun c3 c6=>and_ c3 fun c4 c5=>if_ ev fun z ev=>map_ ev fun ds ev e2=>bind_ ev fun d e1 ev=>onI_ (motive:=fun d=>evE Φ t σ=some d→_) ev (fun j ev e1=>if_ ev fun hr ef=>?_) e1
  cases eqb_ c1
  cases eqb_ c4
  cases ef
  subst e2
  refine Call_ (load_built F B c2 (C.names _ (by decide +kernel)) (v:=.type "list") (by decide +kernel) (by decide +kernel) (callWith_type1 ?_ (plain_star hpl)))
  refine args_cons ?_ (plain_star hpl)
  refine Call_ (load_built F B c5 (C.names _ (by decide +kernel)) (v:=.type "range") (by decide +kernel) (by decide +kernel) (callWith_type1 ?_ (plain_star (chkE_plain c6))))
  refine args_cons (wpAny_mono (h sc wr env X W s σ A E _ _ c6 rm F B e1) (fun v s1 q=>args_nil ?_) fun z z x=>x) (plain_star (chkE_plain c6))
  obtain ⟨u,rfl⟩:=q.2.1.int_
  obtain ⟨h1',t1,e1',q1⟩:=q.1
  subst e1'
  have hr':=of_decide_eq_true (both2 hr)
  have e62:(2:Int) ^ 62=4611686018427387904:=by decide
  unfold cap at hr'
  refine call_range_1 (args_nil ?_)
  refine call_list_range (n:=(j - 0).toNat) rm.handled (IsRange.new _ _ _ _ _ _ _) (small_one (by omega) (by omega) (om151 hr') (om152 hr')) ?_ (om153 hr') fun h' tk acc c' kp e2 hi=>?_
  · rw [rangeSize_one]; split <;> omega
  · have q01:∀ b o,s.heap.get? b=some o→(h1'.push { cls:=.type "range", data:=.fields #[.int 0 t1,.int j u,.int 1 (t1 + 1)] }).get? b=some o:=fun b o e=>Heap.get?_push_of_some _ (q1 b o e)
    exact Post.of (Keeps.mk' fun b o e=>kp b o (q01 b o e)) (.list (F.live.fresh (none_of_none (q01 _) (none_size _))) (vs:=acc.toList) ⟨⟨_,e2,rfl,c',by simp⟩,_,e2,rfl⟩ (repL_range (by rw [Array.length_toList]; exact hi.1) fun i v e=>hi.2 i v (by rw [← Array.getElem?_toList]; exact e))) rfl
theorem repL_pairs {X:Addr→Prop} {h:Heap}:∀ (xs ys:List D) (vs ws:List Value) (ts:List Addr),RepL G X h vs xs→RepL G X h ws ys→ts.length=min xs.length ys.length→(∀ (j:Nat) (T:Addr),ts[j]?=some T→¬ X T∧∃ x y,vs[j]?=some x∧ws[j]?=some y∧IsPair h T x y)→RepL G X h (ts.map Value.ref) ((xs.zip ys).map fun p=>.tuple [p.1,p.2])
  | [],_,_,_,ts,_,_,hl,_=>by rw [List.length_nil,Nat.zero_min] at hl; rw [List.length_eq_zero_iff.mp hl]; exact .nil
  | _ :: _,[],_,_,ts,_,_,hl,_=>by rw [List.length_nil,Nat.min_zero] at hl; rw [List.length_eq_zero_iff.mp hl]; exact .nil
  | _ :: xs,_ :: ys,_,_,[],_,_,hl,_=>by rw [List.length_cons,List.length_cons,Nat.succ_min_succ] at hl; cases hl
  | _ :: xs,_ :: ys,_,_,T :: ts,⟨v,vs,e1,a,b⟩,⟨w,ws,e2,a',b'⟩,hl,ht=>by
    subst e1 e2
    obtain ⟨nx,x,y,e1,e2,p⟩:=ht 0 T rfl
    cases e1
    cases e2
    exact .cons (.tuple nx (vs:=[_,_]) ⟨_,p,rfl,_,rfl⟩ (.cons a (.cons a' .nil))) (repL_pairs xs ys vs ws ts b b' (Nat.succ.inj (hl.trans (Nat.succ_min_succ _ _))) fun j T e=>ht (j + 1) T e)
theorem repL_tups {X:Addr→Prop} {h:Heap} {S z TI TO i1 i2 l1 l2:Addr} {vs ws:List Value} {xs ys:List D} {ts:List Addr} (r1:RepL G X h vs xs) (r2:RepL G X h ws ys) (ht:Tups h ⟨z,TI,TO,i1,i2,l1,l2,vs.toArray,ws.toArray⟩ S ts) (hl:ts.length=min vs.toArray.size ws.toArray.size) (hx:∀ T ∈ ts,¬ X T) :
    RepL G X h (ts.map Value.ref) ((xs.zip ys).map fun p=>.tuple [p.1,p.2]):=
  repL_pairs xs ys vs ws ts r1 r2 (by rw [hl,List.size_toArray,List.size_toArray,r1.length,r2.length]) fun j T e=>⟨hx T (List.mem_of_getElem? e),let ⟨x,y,e1,e2,p,_⟩:=ht j T e; ⟨x,y,(List.getElem?_toArray ..).symm.trans e1,(List.getElem?_toArray ..).symm.trans e2,p⟩⟩
theorem apart_new {h:Heap} {l1 l2:Addr} {o1 o2:Obj} (e1:h.get? l1=some o1) (e2:h.get? l2=some o2):ZipApart (h.objs.size + 4) (h.objs.size + 2) (h.objs.size + 3) h.objs.size (h.objs.size + 1) l1 l2:=by
  have hl1:=Heap.lt_size e1
  have hl2:=Heap.lt_size e2
  have n:∀ {a b i:Nat},a < b→a ≠ b + i:=fun l=>Nat.ne_of_lt (Nat.lt_of_lt_of_le l (Nat.le_add_right _ _))
  have m:∀ {a i j:Nat},i ≠ j→a + i ≠ a + j:=fun q e=>q (Nat.add_left_cancel e)
  constructor <;> first | exact n ‹_› | exact n (i:=0) ‹_› | exact m (by decide) | exact m (i:=0) (by decide) | exact m (j:=0) (by decide)
theorem pe_listOf_zip {t u:TE} (C:CxOK G Φ k) (h:PE G I Φ k t) (h':PE G I Φ k u):PE G I Φ k (.listOf (.zip t u)):=by
  intro sc wr env X W s σ A E e c hc rm F B ev
  refine onFn_ hc fun x xp as p hc=>onOne_ hc fun a hc=>and_ hc fun hc c3=>and_ hc fun c1 c2=>?_
  have hpl:=chkI_plain c3
  revert hpl
  refine onFn_ c3 fun x' xp' as' p' c3=>onTwo_ c3 fun a' b' c3 hpl=>and_ c3 fun c3 c9=>and_ c3 fun c3 c8=>and_ c3 fun c3 c7=>and_ c3 fun c3 c6=>and_ c3 fun c4 c5=>if_ ev fun z ev=>map_ ev fun ds ev e2=>bind_ ev fun d e1 ev=>bind_ ev fun d' e1' ev=>
    onL_ (motive:=fun d=>evE Φ t σ=some d→_) ev (fun xs ev e1=>onL_ (motive:=fun d'=>evE Φ u σ=some d'→_) ev (fun ys ev e1'=>if_ ev fun hz ef=>?_) e1') e1
  cases eqb_ c1
  cases eqb_ c4
  cases ef
  subst e2
  have hcs:chkEs I sc (.cons u .nil) [b']=true:=Bool.and_eq_true_iff.mpr ⟨c7,rfl⟩
  refine Call_ (load_built F B c2 (C.names _ (by decide +kernel)) (v:=.type "list") (by decide +kernel) (by decide +kernel) (callWith_type1 ?_ (plain_star hpl)))
  refine args_cons ?_ (plain_star hpl)
  refine Call_ (load_built F B c5 (C.names _ (by decide +kernel)) (v:=.type "zip") (by decide +kernel) (by decide +kernel) (callWith_type1 ?_ (plain_star (chkE_plain c6)) (chkEs_any hcs)))
  refine args_cons (wpAny_mono (h sc wr env X W s σ A E _ _ c6 rm F B e1) (fun v s1 q=>?_) fun z z x=>x) (plain_star (chkE_plain c6))
  have ra:=q.2.2.1 c8
  obtain ⟨h1,t1,q',q1⟩:=q.1
  subst q'
  refine args_cons (wpAny_mono (h' sc wr env X W _ σ A E _ _ c7 rm (F.mono q1) (B.mono q1) e1') (fun v' s2 q'=>args_nil ?_) fun z z x=>x) (plain_star (chkE_plain c7))
  have rb:=q'.2.2.1 c9
  obtain ⟨h2,t2,e',q2⟩:=q'.1
  subst e'
  obtain ⟨l1,vs,rfl,n1,p1,r1⟩:=ra.up q2
  obtain ⟨l2,ws,rfl,n2,p2,r2⟩:=rb
  obtain ⟨_,g1,_⟩:=p1.1
  obtain ⟨_,g2,_⟩:=p2.1
  have q02:∀ b o,s.heap.get? b=some o→h2.get? b=some o:=fun b o e=>q2 b o (q1 b o e)
  refine call_zip_2 p1.1 p2.1 fun h3 z1 z2 z3 z4 z5 z6 kp=>args_nil ?_
  refine lz_call (P:=⟨_,_,_,_,_,l1,l2,vs.toArray,ws.toArray⟩) (s:={ s with heap:=h3,toks:=t2 }) rm.handled (apart_new g1 g2) (by rw [List.size_toArray,r1.length]; exact hz.1) ⟨.inl z1,z2,⟨_,_,z3⟩,z4,z5,p1.1.at fun o e=>kp _ _ e,p2.1.at fun o e=>kp _ _ e⟩ z1 fun h4 tk ⟨ts,c',kp4,e4,hl,ht⟩=>?_
  have k24:∀ b o,h2.get? b=some o→h4.get? b=some o:=fun b o e=>
    have n:∀ i,b ≠ h2.objs.size + i:=fun i=>Nat.ne_of_lt (Nat.lt_of_lt_of_le (Heap.lt_size e) (Nat.le_add_right _ _))
    kp4 b o (fun q=>Nat.lt_irrefl _ (q ▸ Heap.lt_size (kp b o e))) ⟨n 4,n 3,n 0,n 1⟩ (kp b o e)
  have hxT:∀ T ∈ ts,¬ X T:=fun T hT hx=>by
    obtain ⟨j,hj⟩:=List.mem_iff_getElem?.mp hT
    obtain ⟨_,_,_,_,_,_,_,hgt⟩:=ht j T hj
    obtain ⟨o,e⟩:=F.live T hx
    exact absurd (Nat.lt_of_le_of_lt (Nat.le_add_right _ 4) hgt) (Nat.not_lt.mpr (Nat.le_of_lt (Heap.lt_size (q02 _ _ e))))
  exact Post.of (Keeps.mk' fun b o e=>k24 b o (q02 b o e)) (.list (F.live.fresh (none_of_none (fun o e=>kp _ _ (q02 _ _ e)) (none_size _))) (vs:=ts.map Value.ref) ⟨⟨_,e4,rfl,_,rfl⟩,_,e4,rfl⟩ (repL_tups (r1.up k24) (r2.up k24) ht hl hxT)) rfl
end
mutual
noncomputable def okE:TE→Bool
  | .cNone=>true
  | .cBool _=>true
  | .cInt _=>true
  | .cStr _=>true
  | .var _=>true
  | .bin _ l r=>okE l && okE r
  | .neg e=>okE e
  | .cmp _ l r=>okE l && okE r
  | .cmp2 _ _ l m r=>okE l && okE m && okE r
  | .not e=>okE e
  | .and es=>okEs es
  | .or es=>okEs es
  | .or2 l r=>okE l && okE r
  | .ite l m r=>okE l && okE m && okE r
  | .sub l r=>okE l && okE r
  | .slice a b c d=>okE a && okE b && okE c && okE d
  | .list es=>okEs es
  | .tuple es=>okEs es
  | .dict0=>true
  | .dict1 l r=>okE l && okE r
  | .lcomp t _ _ it cd=>okE t && okI it && okEs cd
  | .dcomp t u _ _ it cd=>okE t && okE u && okI it && okEs cd
  | .bf _ e=>okE e
  | .listOf it=>okI it
  | .fn f ts=>f != Str.ofString "compare" && okEs ts
  | .cls e=>okE e
  | .mt _ o ts=>okE o && okEs ts
  | .attr e _=>okE e
  | .isTup e=>okE e
noncomputable def okEs:TEs→Bool
  | .nil=>true
  | .cons e r=>okE e && okEs r
noncomputable def okI:TI→Bool
  | .exp e=>okE e
  | .range1 e=>okE e
  | .range2 a b=>okE a && okE b
  | .items e=>okE e
  | .values e=>okE e
  | .zip a b=>okE a && okE b
end
section
variable {G:Gl} {I:FI} {Φ:FEnv} {k:Nat}
theorem pe_dead {t:TE} (h:∀ σ,evE Φ t σ=none):PE G I Φ k t:=fun sc wr env X W s σ A E e c hc rm F B ev=>nomatch (h σ).symm.trans ev
theorem pt_dead {t:TE} (h:∀ σ,evT Φ t σ=none):PT G I Φ k t:=fun sc wr env X W s σ A E e c hc rm F B ev=>nomatch (h σ).symm.trans ev
mutual
theorem all_E (C:CxOK G Φ k):∀ t:TE,okE t=true→PE G I Φ k t∧PT G I Φ k t
  | .cNone=>fun z=>⟨pe_none,pt_dead fun z=>rfl⟩
  | .cBool _=>fun z=>⟨pe_bool,pt_dead fun z=>rfl⟩
  | .cInt _=>fun z=>⟨pe_int,pt_dead fun z=>rfl⟩
  | .cStr _=>fun z=>⟨pe_str,pt_dead fun z=>rfl⟩
  | .var _=>fun z=>⟨pe_var,pt_var⟩
  | .bin _ l r=>fun h=>⟨pe_bin (all_E C l (both1 h)).1 (all_E C r (both2 h)).1,pt_dead fun z=>rfl⟩
  | .neg e=>fun h=>⟨pe_neg (all_E C e h).1,pt_dead fun z=>rfl⟩
  | .cmp _ l r=>fun h=>⟨pe_cmp (all_E C l (both1 h)).1 (all_E C r (both2 h)).1,pt_cmp (all_E C l (both1 h)).1 (all_E C r (both2 h)).1⟩
  | .cmp2 _ _ l m r=>fun h=>⟨pe_cmp2 (all_E C l (both1 (both1 h))).1 (all_E C m (both2 (both1 h))).1 (all_E C r (both2 h)).1,pt_cmp2 (all_E C l (both1 (both1 h))).1 (all_E C m (both2 (both1 h))).1 (all_E C r (both2 h)).1⟩
  | .not e=>fun h=>⟨pe_not (all_E C e h).1,pt_not (all_E C e h).2⟩
  | .and es=>fun h=>⟨pe_dead fun z=>rfl,pt_and (all_Es C es h).2.1⟩
  | .or es=>fun h=>⟨pe_dead fun z=>rfl,pt_or (all_Es C es h).2.2.1⟩
  | .or2 a b=>fun h=>⟨pe_or2 (all_E C a (both1 h)).1 (all_E C b (both2 h)).1,pt_or2 (all_E C a (both1 h)).2 (all_E C b (both2 h)).2⟩
  | .ite t a b=>fun h=>⟨pe_ite (all_E C t (both1 (both1 h))).2 (all_E C a (both2 (both1 h))).1 (all_E C b (both2 h)).1,pt_ite (all_E C t (both1 (both1 h))).2 (all_E C a (both2 (both1 h))).2 (all_E C b (both2 h)).2⟩
  | .sub a i=>fun h=>
    have q:=pe_sub (all_E C a (both1 h)).1 (all_E C i (both2 h)).1
    ⟨q,pt_sub q⟩
  | .slice a b c d=>fun h=>⟨pe_slice (all_E C a (both1 (both1 (both1 h)))).1 (all_E C b (both2 (both1 (both1 h)))).1 (all_E C c (both2 (both1 h))).1 (all_E C d (both2 h)).1,pt_dead fun z=>rfl⟩
  | .list es=>fun h=>⟨pe_list (all_Es C es h).1,pt_dead fun z=>rfl⟩
  | .tuple es=>fun h=>⟨pe_tuple (all_Es C es h).1,pt_dead fun z=>rfl⟩
  | .dict0=>fun z=>⟨pe_dict0,pt_dead fun z=>rfl⟩
  | .dict1 a b=>fun h=>⟨pe_dict1 (all_E C a (both1 h)).1 (all_E C b (both2 h)).1,pt_dead fun z=>rfl⟩
  | .lcomp t _ _ it cd=>fun h=>⟨pe_lcomp (all_E C t (both1 (both1 h))).1 (all_I C it (both2 (both1 h))).1 (all_Es C cd (both2 h)).2.2.2,pt_dead fun z=>rfl⟩
  | .dcomp t u _ _ it cd=>fun h=>⟨pe_dcomp (all_E C t (both1 (both1 (both1 h)))).1 (all_E C u (both2 (both1 (both1 h)))).1 (all_I C it (both2 (both1 h))).1 (all_Es C cd (both2 h)).2.2.2,pt_dead fun z=>rfl⟩
  | .bf _ e=>fun h=>⟨pe_bf C (all_E C e h).1,pt_dead fun z=>rfl⟩
  | .listOf it=>fun h=>⟨(all_I C it h).2,pt_dead fun z=>rfl⟩
  | .fn f ts=>fun h=>⟨pe_fn C (bne_iff_ne.mp (both1 h)) (all_Es C ts (both2 h)).1,pt_dead fun z=>rfl⟩
  | .cls e=>fun h=>⟨pe_cls C (all_E C e h).1,pt_dead fun z=>rfl⟩
  | .mt _ o ts=>fun h=>⟨pe_mt C (all_E C o (both1 h)).1 (all_Es C ts (both2 h)).1,pt_dead fun z=>rfl⟩
  | .attr e _=>fun h=>⟨pe_attr C (all_E C e h).1,pt_dead fun z=>rfl⟩
  | .isTup e=>fun h=>
    have q:=pe_isTup C (all_E C e h).1
    ⟨q,pt_isTup q⟩
theorem all_Es (C:CxOK G Φ k):∀ ts:TEs,okEs ts=true→PEs G I Φ k ts∧PAnd G I Φ k ts∧POr G I Φ k ts∧PC G I Φ k ts
  | .nil=>fun u=>⟨pes_nil,pand_nil,por_nil,pc_nil⟩
  | .cons t r=>fun h=>
    have q:=all_E C t (both1 h)
    have q':=all_Es C r (both2 h)
    ⟨pes_cons q.1 q'.1,pand_cons q.2 q'.2.1,por_cons q.2 q'.2.2.1,match r with | .nil=>pc_one q.2 | .cons _ _=>pc_more⟩
theorem all_I (C:CxOK G Φ k):∀ t:TI,okI t=true→PI G I Φ k t∧PE G I Φ k (.listOf t)
  | .exp e=>fun h=>⟨pi_exp (all_E C e h).1,pe_dead fun u=>rfl⟩
  | .range1 e=>fun h=>⟨pi_range1 C (all_E C e h).1,pe_listOf_range C (all_E C e h).1⟩
  | .range2 a b=>fun h=>⟨pi_range2 C (all_E C a (both1 h)).1 (all_E C b (both2 h)).1,pe_dead fun u=>rfl⟩
  | .items e=>fun h=>⟨pi_items (all_E C e h).1,pe_dead fun u=>rfl⟩
  | .values e=>fun h=>⟨pi_values (all_E C e h).1,pe_dead fun u=>rfl⟩
  | .zip a b=>fun h=>⟨pi_zip,pe_listOf_zip C (all_E C a (both1 h)).1 (all_E C b (both2 h)).1⟩
end
end
section
variable {G:Gl} {I:FI} {sc:Scope} {wr:List Nat} {env:Env} {X W:Addr→Prop} {h h':Heap} {σ σ':St}
theorem FrOK.dropJ (F:FrOK G I sc wr env X W h σ) {J:Addr} (nw:¬ W J) (hx:X J) (nl:J ≠ env.locals) (nc:∀ y c,env.cells.lookup y=some c→c ≠ J)
    (no:∀ i x a,I.tbl[i]?=some x→i ∈ I.own→St.get σ i ≠ none→rd h env x=some (.ref a)→a ≠ J)
    (k:∀ a o,a ≠ J→h.get? a=some o→h'.get? a=some o):FrOK G I sc wr env (fun a=>X a∧a ≠ J) W h' σ:=
  (F.turnZ (Z:=(·=J)) (Ne.symm nl) nc k (fun u e=>e ▸ hx) no (fun a q=>(F.live a q.1).elim fun o e=>⟨o,k a o q.2 e⟩) (fun a w=>⟨F.wx a w,fun e=>nw (e ▸ w)⟩) (fun u q n=>⟨q,n⟩) (fun u u u q=>q.1) fun u w=>w).1
end
noncomputable def allI (I:FI):List Nat:=List.range I.tbl.length
theorem mem_allI {I:FI} {i:Nat} {x:Str} (h:I.tbl[i]?=some x):i ∈ allI I:=List.mem_range.mpr (List.getElem?_eq_some_iff.mp h).1
structure Ent (G:Gl) (s0:Shared) (X0 X W:Addr→Prop) (s:Shared):Prop where
  base:BaseOK G s0.heap
  live0:Live X0 s0.heap
  kp:Keeps s0 s
  x0:∀ a,X0 a→X a
  w0:∀ a,W a→s0.heap.get? a=none
theorem Ent.b {G:Gl} {s0 s:Shared} {X0 X W:Addr→Prop} (e:Ent G s0 X0 X W s):BaseOK G s.heap:=e.base.mono (Keeps.get e.kp)
structure SP (G:Gl) (I:FI) (sc:Scope) (env:Env) (s0:Shared) (X0 X W:Addr→Prop) (s:Shared) (X' W':Addr→Prop) (s':Shared) (σ':St):Prop where
  fr:FrOK G I sc (allI I) env X' W' s'.heap σ'
  ent:Ent G s0 X0 X' W' s'
  kp:KeepsW W s s'
  xn:∀ a,X' a→X a ∨ s.heap.get? a=none
  wn:∀ a,W' a→W a ∨ s.heap.get? a=none
  xk:∀ a o,s.heap.get? a=some o→X a→¬ W a→X' a
section
variable {G:Gl} {I:FI} {sc:Scope} {env:Env} {s0:Shared} {X0 X W X1 W1 X2 W2:Addr→Prop} {s s1 s2:Shared} {σ1 σ2:St}
theorem SP.trans (wx:∀ a,W a→X a) (p:SP G I sc env s0 X0 X W s X1 W1 s1 σ1) (q:SP G I sc env s0 X0 X1 W1 s1 X2 W2 s2 σ2):SP G I sc env s0 X0 X W s X2 W2 s2 σ2 where
  fr:=q.fr
  ent:=q.ent
  kp:=by
    obtain ⟨h1,t1,e1,k1⟩:=p.kp
    subst e1
    obtain ⟨h2,t2,e2,k2⟩:=q.kp
    subst e2
    refine ⟨h2,t2,rfl,fun b o n e=>k2 b o (fun w=>?_) (k1 b o n e)⟩
    rcases p.wn b w with w | w
    · exact n w
    · rw [e] at w; cases w
  xn:=fun a x=>by
    rcases q.xn a x with x | x
    · exact p.xn a x
    · by_cases w:W a
      · exact .inl (wx a w)
      · exact .inr (none_of_none (fun o e=>KeepsW.get p.kp a o w e) x)
  wn:=fun a x=>by
    rcases q.wn a x with x | x
    · exact p.wn a x
    · by_cases w:W a
      · exact .inl w
      · exact .inr (none_of_none (fun o e=>KeepsW.get p.kp a o w e) x)
  xk:=fun a o e x w=>by
    refine q.xk a o (KeepsW.get p.kp a o w e) (p.xk a o e x w) fun w1=>?_
    rcases p.wn a w1 with z | z
    · exact w z
    · rw [e] at z; cases z
theorem Ent.step (e:Ent G s0 X0 X W s) (k:KeepsW W s s1) (hx:∀ a,X0 a→X1 a) (hw:∀ a,W1 a→W a ∨ s.heap.get? a=none):Ent G s0 X0 X1 W1 s1 where
  base:=e.base
  live0:=e.live0
  kp:=by
    obtain ⟨h0,t0,e0,k0⟩:=e.kp
    subst e0
    obtain ⟨h1,t1,e1,k1⟩:=k
    subst e1
    refine Keeps.mk' fun b o q=>k1 b o (fun w=>?_) (k0 b o q)
    have:=e.w0 b w
    rw [q] at this
    cases this
  x0:=hx
  w0:=fun a w=>by
    rcases hw a w with w | w
    · exact e.w0 a w
    · exact none_of_none (fun o q=>Keeps.get e.kp a o q) w
end
noncomputable def FlowOK (G:Gl) (X0:Addr→Prop) (s':Shared):Flow→Fl→Prop
  | .next,.next=>True
  | .cont,.cont=>True
  | .ret v,.ret d=>Rep G X0 s'.heap v d
  | _,_=>False
section
variable (G:Gl) (I:FI) (Φ:FEnv) (k:Nat)
noncomputable def PS (t:TS):Prop:=∀ (sc:Scope) (env:Env) (s0:Shared) (X0 X W:Addr→Prop) (s:Shared) (σ σ':St) (A:Around) (E:Value→Shared→Prop) (st:Stmt) (fl:Fl),
  chkS I sc t st=true→Room A k→FrOK G I sc (allI I) env X W s.heap σ→Ent G s0 X0 X W s→evS Φ t σ=some (fl,σ')→
  wpAny (model G.prog G.w) A (exec st env) (fun f s'=>∃ X' W',SP G I sc env s0 X0 X W s X' W' s' σ'∧FlowOK G X0 s' f fl) E s
noncomputable def PSs (t:TSs):Prop:=∀ (sc:Scope) (env:Env) (s0:Shared) (X0 X W:Addr→Prop) (s:Shared) (σ σ':St) (A:Around) (E:Value→Shared→Prop) (ss:List Stmt) (fl:Fl),
  chkSs I sc t ss=true→Room A k→FrOK G I sc (allI I) env X W s.heap σ→Ent G s0 X0 X W s→evSs Φ t σ=some (fl,σ')→
  wpAny (model G.prog G.w) A (execs ss env) (fun f s'=>∃ X' W',SP G I sc env s0 X0 X W s X' W' s' σ'∧FlowOK G X0 s' f fl) E s
end
section
variable {G:Gl} {I:FI} {Φ:FEnv} {k:Nat}
theorem SP.keeps {sc:Scope} {env:Env} {s0:Shared} {X0 X W:Addr→Prop} {s s':Shared} {σ:St} (F:FrOK G I sc (allI I) env X W s.heap σ) (e:Ent G s0 X0 X W s) (kp:Keeps s s'):SP G I sc env s0 X0 X W s X W s' σ:=
  ⟨F.mono (Keeps.get kp),e.step (Keeps.toW kp) e.x0 fun u w=>.inl w,Keeps.toW kp,fun u x=>.inl x,fun u w=>.inl w,fun u u u x u=>x⟩
theorem ps_cont:PS G I Φ k .cont:=by
  intro sc env s0 X0 X W s σ σ' A E st fl hc rm F e ev
  refine onCont_ hc fun p u=>?_
  cases ev
  exact wpAny_Continue ⟨X,W,SP.keeps F e Keeps.rfl,trivial⟩
theorem ps_dead:PS G I Φ k .dead:=fun sc env s0 X0 X W s σ σ' A E st fl hc rm F e ev=>none_ne ev
theorem pss_nil:PSs G I Φ k .nil:=by
  intro sc env s0 X0 X W s σ σ' A E ss fl hc rm F e ev
  cases List.isEmpty_iff.mp hc
  cases ev
  exact wpAny_execs_nil ⟨X,W,SP.keeps F e Keeps.rfl,trivial⟩
theorem flow_next {X0:Addr→Prop} {s:Shared}:∀ {f:Flow} {fl:Fl},FlowOK G X0 s f fl→fl.ctorIdx=0→f=.next∧fl=.next
  | .next,.next,_,_=>⟨rfl,rfl⟩
  | .cont,.cont,_,h | .ret _,.ret _,_,h=>nomatch h
theorem flow_other {X0:Addr→Prop} {s:Shared} {f:Flow} {fl:Fl} (h:FlowOK G X0 s f fl) (n:fl.ctorIdx ≠ 0):f ≠ .next:=fun e=>by
  subst e
  cases fl with
  | next=>exact n rfl
  | _=>exact h
theorem pss_cons {t:TS} {r:TSs} (ht:PS G I Φ k t) (hr:PSs G I Φ k r):PSs G I Φ k (.cons t r):=by
  intro sc env s0 X0 X W s σ σ' A E ss fl hc rm F e ev
  refine onCons_ hc fun st ss hc=>and_ hc fun c1 c2=>bind_ ev fun x e1 ev=>wpAny_execs_cons (wpAny_mono (ht sc env s0 X0 X W s σ x.2 A E _ x.1 c1 rm F e e1) (fun f s1 h1=>?_) fun u u x=>x)
  obtain ⟨X1,W1,p1,fo⟩:=h1
  refine ife_ ev (fun hx ev=>?_) fun hx ev=>?_
  · obtain ⟨rfl,e3⟩:=flow_next fo hx
    refine wpAny_mono (hr sc env s0 X0 X1 W1 s1 x.2 σ' A E _ fl c2 rm p1.fr p1.ent ev) (fun f2 s2 h2=>?_) fun u u x=>x
    obtain ⟨X2,W2,p2,fo2⟩:=h2
    exact ⟨X2,W2,SP.trans F.wx p1 p2,fo2⟩
  · have:=flow_other fo hx
    cases ev
    cases f with
    | next=>exact absurd rfl this
    | _=>exact ⟨X1,W1,p1,fo⟩
theorem ps_if {t:TE} {a b:TSs} (ht:PT G I Φ k t) (ha:PSs G I Φ k a) (hb:PSs G I Φ k b):PS G I Φ k (.ifS t a b):=by
  intro sc env s0 X0 X W s σ σ' A E st fl hc rm F e ev
  refine onIfS_ hc fun te a' b' p hc=>and_ hc fun hc c3=>and_ hc fun c1 c2=>bind_ ev fun c e1 ev=>wpAny_If (wpAny_mono (ht sc _ env X W s σ A E _ _ c1 rm F e.b e1) (fun c' s1 h1=>?_) fun u u x=>x)
  obtain ⟨rfl,k1⟩:=h1
  have p1:=SP.keeps F e k1
  cases c' with
  | true=>exact wpAny_mono (ha sc env s0 X0 X W s1 σ σ' A E _ fl c2 rm p1.fr p1.ent ev) (fun f2 s2 ⟨X2,W2,p2,fo2⟩=>⟨X2,W2,SP.trans F.wx p1 p2,fo2⟩) fun u u x=>x
  | false=>exact wpAny_mono (hb sc env s0 X0 X W s1 σ σ' A E _ fl c3 rm p1.fr p1.ent ev) (fun f2 s2 ⟨X2,W2,p2,fo2⟩=>⟨X2,W2,SP.trans F.wx p1 p2,fo2⟩) fun u u x=>x
theorem isVarT_ {p:Prop}:∀ {t:TE},isVarT t=true→(∀ i,t=.var i→p)→p:=by
  intro t h H
  cases t with
  | var i=>exact H i rfl
  | _=>exact (Bool.false_ne_true h).elim
theorem ps_ret {t:TE} (ht:PE G I Φ k t):PS G I Φ k (.ret t):=by
  intro sc env s0 X0 X W s σ σ' A E st fl hc rm F e ev
  refine onRet_ hc fun o p hc=>onSome_ hc fun x hc=>and_ hc fun c1 c2=>map_ ev fun d e1 e2=>?_
  cases e2
  refine wpAny_Return_some ?_
  by_cases hs:safe I.own t=true
  · exact wpAny_mono (ht sc _ env X W s σ A E _ _ c1 rm F e.b e1) (fun v s1 h1=>⟨X,W,SP.keeps F e h1.1,(h1.2.2.1 hs).weak fun a o u q=>e.x0 a q⟩) fun u u x=>x
  · refine isVarT_ ((Bool.or_eq_true_iff.mp c2).resolve_left hs) fun i q=>?_
    subst q
    have hno:i ∈ I.own:=Classical.byContradiction fun n=>hs (by show (!I.own.contains i)=true; simpa using n)
    refine onNm_ c1 fun x xp hcn=>F.load hcn e1 fun v hrd u u=>⟨X,W,SP.keeps F e Keeps.rfl,?_⟩
    have hx:I.tbl[i]?=some x:=eq_of_beq (both1 (both1 hcn))
    obtain ⟨a,ea,oa,wa⟩:=F.owns i _ d hx (both2 (both1 hcn)) e1 hno
    cases hrd.symm.trans ea
    refine (oa.rep.weak (Y:=X0) fun b o u q=>e.x0 b q).rep fun q=>?_
    obtain ⟨o,eo⟩:=e.live0 a q
    exact nomatch (e.w0 a (wa (mem_allI hx))).symm.trans eo
end
section
variable {G:Gl} {I:FI} {sc:Scope} {wr:List Nat} {env:Env} {X W:Addr→Prop} {h:Heap} {σ:St}
theorem rd_vis (F:FrOK G I sc wr env X W h σ) {y:Str} {v:Value} (e:rd h env y=some v):vis (sc.names.lookup y)=true:=by
  refine (F.kinds y).elim (fun q=>?_) fun q=>q.1 ▸ rfl
  unfold rd at e
  rw [q] at e
  cases hq:sc.names.lookup y with
  | none=>rw [hq] at e; cases e
  | some kd=>
    rw [hq] at e
    cases kd with
    | globalExplicit=>cases e
    | globalImplicit=>cases e
    | _=>rfl
theorem own_live (F:FrOK G I sc wr env X W h σ) {j:Nat} {y:Str} {a:Addr} (hj:I.tbl[j]?=some y) (ho:j ∈ I.own) (hg:St.get σ j ≠ none) (e:rd h env y=some (.ref a)):(∃ d,OwnOK G env X h a d)∧∃ o,h.get? a=some o:=by
  cases hs:St.get σ j with
  | none=>exact absurd hs hg
  | some d=>
    obtain ⟨a',e',r,_⟩:=F.owns j y d hj (rd_vis F e) hs ho
    rw [e] at e'
    cases e'
    exact ⟨⟨d,r⟩,r.rep.get⟩
end
section
variable {G:Gl} {I:FI} {Φ:FEnv} {k:Nat} {sc:Scope} {env:Env} {s0:Shared} {X0 X W:Addr→Prop} {s s1:Shared} {σ:St} {A:Around} {E:Value→Shared→Prop}
structure Ready (G:Gl) (I:FI) (env:Env) (X W:Addr→Prop) (h:Heap) (i:Nat) (v:Value) (d:D):Prop where
  rep:i ∉ I.own→Rep G X h v d
  own:i ∈ I.own→∃ a,v=.ref a∧OwnOK G env X h a d∧W a
noncomputable def Free (I:FI) (env:Env) (h:Heap) (σ:St) (i:Nat) (v:Value):Prop:=i ∈ I.own→∀ j y,j ≠ i→j ∈ I.own→I.tbl[j]?=some y→St.get σ j ≠ none→rd h env y ≠ some v
theorem store_ready {i:Nat} {x:Str} {v:Value} {d:D} (F:FrOK G I sc (allI I) env X W s.heap σ) (ok:tgtOk I sc x i=true) (r:Ready G I env X W s.heap i v d) (fr:Free I env s.heap σ i v) :
    wpAny (model G.prog G.w) A (storeName env x v) (fun u s'=>FrOK G I sc (allI I) env X W s'.heap (St.put σ i d)∧KeepsW W s s' ∧
      (∀ a,a ≠ env.locals→(∀ y c,env.cells.lookup y=some c→c ≠ a)→W a→∀ o,s.heap.get? a=some o→s'.heap.get? a=some o)∧(∀ y,y ≠ x→rd s'.heap env y=rd s.heap env y)∧rd s'.heap env x=some v) E s:=by
  have hi:=tgt_at ok
  refine F.store ok (mem_allI hi) r.rep (fun ho=>?_) fun s' F' k' kw ro rx=>⟨F',k',fun a n1 n2 w o e=>kw a w n1 n2 o e,ro,rx⟩
  obtain ⟨a,rfl,oa,w⟩:=r.own ho
  exact ⟨a,rfl,oa,w,fun j y h1 h2 h3 h4=>fr ho j y h1 h2 h3 h4⟩
theorem put_own {t:TE} {i:Nat} (hp:putOk I i t=true) (ho:i ∈ I.own):fresh t=true:=by
  unfold putOk at hp
  rwa [if_pos (List.contains_iff_mem.mpr ho)] at hp
theorem put_safe {t:TE} {i:Nat} (hp:putOk I i t=true) (ho:i ∉ I.own):safe I.own t=true:=by
  unfold putOk at hp
  rwa [if_neg fun q=>ho (List.contains_iff_mem.mp q)] at hp
theorem Ent.ne (e:Ent G s0 X0 X W s) {a b:Addr} {o:Obj} (ha:s.heap.get? a=none) (hb:s.heap.get? b=some o):b ≠ a:=fun q=>nomatch (q ▸ hb).symm.trans ha
theorem put_ready {t:TE} {i:Nat} {v:Value} {d:D} (F:FrOK G I sc (allI I) env X W s.heap σ) (e:Ent G s0 X0 X W s) (hp:putOk I i t=true) (p:Post G I X s t d v s1) :
    ∃ X' W',FrOK G I sc (allI I) env X' W' s1.heap σ∧Ent G s0 X0 X' W' s1∧Ready G I env X' W' s1.heap i v d∧Free I env s1.heap σ i v∧(∀ a,X' a→X a ∨ s.heap.get? a=none)∧(∀ a,W' a→W a ∨ s.heap.get? a=none)∧(∀ a,W a→W' a) ∧
      (∀ a,X' a→X a ∨ v=.ref a)∧(i ∉ I.own→∀ a,X' a→X a)∧(∀ a,X a→X' a):=by
  have k1:=Keeps.get p.1
  by_cases ho:i ∈ I.own
  · obtain ⟨a,rfl,na,ra⟩:=p.2.2.2 (fresh_two (put_own hp ho))
    have nl:a ≠ env.locals:=fun q=>let ⟨_,_,_,_,e',_⟩:=F.ns; e.ne na e' q.symm
    have nc:∀ y c,env.cells.lookup y=some c→c ≠ a:=fun y c hc=>let ⟨o,e'⟩:=F.live c (F.cx y c hc).1; e.ne na e'
    have F':=F.grow (N:=fun b=>b=a) (W':=fun b=>W b ∨ b=a) k1 (fun b q=>q ▸ ⟨na,ra.get⟩) (fun b w=>.inl w) fun b w=>w.elim (fun w=>.inl (F.wx b w)) .inr
    have new:∀ {P:Addr→Prop} (b:Addr),P b ∨ b=a→P b ∨ s.heap.get? b=none:=fun b q=>q.elim .inl fun q=>.inr (q ▸ na)
    exact ⟨fun b=>X b ∨ b=a,fun b=>W b ∨ b=a,F',e.step (Keeps.toW p.1) (fun b q=>.inl (e.x0 b q)) new,⟨fun n=>absurd ho n,fun u=>⟨a,rfl,⟨.inr rfl,ra,nl,nc⟩,.inr rfl⟩⟩,fun u j y hne hj hy hg q=>by
      obtain ⟨_,o,e'⟩:=own_live F hy hj hg ((rd_mono F k1 y).symm.trans q)
      exact (nomatch na.symm.trans e'),new,new,fun b w=>.inl w,fun b q=>q.elim .inl fun q=>.inr (q ▸ rfl),fun n=>absurd ho n,fun b q=>.inl q⟩
  · exact ⟨X,W,F.mono k1,e.step (Keeps.toW p.1) e.x0 fun u w=>.inl w,⟨fun u=>p.2.2.1 (put_safe hp ho),fun n=>absurd n ho⟩,fun n=>absurd n ho,fun b q=>.inl q,fun b q=>.inl q,fun b w=>w,fun b q=>.inl q,fun u b q=>q,fun b q=>q⟩
theorem put_store {t:TE} {i:Nat} {x:Str} {v:Value} {d:D} (F:FrOK G I sc (allI I) env X W s.heap σ) (e:Ent G s0 X0 X W s) (ok:tgtOk I sc x i=true) (hp:putOk I i t=true) (p:Post G I X s t d v s1) :
    wpAny (model G.prog G.w) A (storeName env x v) (fun u s'=>∃ X' W',SP G I sc env s0 X0 X W s X' W' s' (St.put σ i d)) E s1:=by
  obtain ⟨X',W',F',e',r,fr,xn,wn,ww,_,_,xx⟩:=put_ready F e hp p
  refine wpAny_mono (store_ready F' ok r fr) (fun u s2 h2=>?_) fun u u x=>x
  obtain ⟨F2,k2,_⟩:=h2
  have kw:KeepsW W s s2:=by
    obtain ⟨h1,t1,e1,q1⟩:=p.1
    subst e1
    obtain ⟨h2,t2,e2,q2⟩:=k2
    subst e2
    exact ⟨h2,t2,rfl,fun b o n q=>q2 b o (fun w=>(wn b w).elim n fun w=>nomatch w.symm.trans q) (q1 b o q)⟩
  exact ⟨X',W',F2,e.step kw e'.x0 wn,kw,xn,wn,fun a u u x u=>xx a x⟩
theorem swaps_cases (value:PySem.Expr) (x:Str) (p:Pos) (l:Nat) (env:Env):swapsWith value (some (.Name x p)) l env=pure false ∨ (swapsWith value (some (.Name x p)) l env=pure true∧(value.ctorIdx=8 ∨ value.ctorIdx=9 ∨ value.ctorIdx=10)):=by
  have two:∀ (b:Bool) (p:Prop),p→(pure b:Sem Bool)=pure false ∨ ((pure b:Sem Bool)=pure true∧p):=fun b p q=>by cases b; exact .inl rfl; exact .inr ⟨rfl,q⟩
  cases value with
  | ListComp=>exact two _ _ (.inl rfl)
  | SetComp=>exact two _ _ (.inr (.inl rfl))
  | DictComp=>exact two _ _ (.inr (.inr rfl))
  | _=>exact .inl rfl
end
section
variable {G:Gl} {I:FI} {Φ:FEnv} {k:Nat} {sc:Scope} {env:Env} {s0:Shared} {X0 X W:Addr→Prop} {s s1:Shared} {σ:St} {A:Around} {E:Value→Shared→Prop}
theorem comp_used {i:Nat} {x:Str} {p:Pos} {d:D} (F:FrOK G I sc (allI I) env X W s.heap σ) (e:Ent G s0 X0 X W s) (ok:tgtOk I sc x i=true) (no:i ∉ I.own) :
    ∀ Da C h' tk,s.heap.get? Da=none→s.heap.get? C=none→C ≠ Da→(∃ m,h'.Ns C m)→(∀ b o,s.heap.get? b=some o→h'.get? b=some o)→RepO G (fun b=>X b ∨ b=C ∨ b=Da) h' Da d→
      compPost (model G.prog G.w) A E (some (assign (.Name x p) env)) (fun u s'=>∃ X' W',SP G I sc env s0 X0 X W s X' W' s' (St.put σ i d)) (.ref Da) C (.ok .next) { s with heap:=h',toks:=tk }:=by
  rintro Da C h' tk nD nC hne ⟨m,hm⟩ kp r
  have hi:=tgt_at ok
  have ne:∀ {b o},s.heap.get? b=some o→b ≠ C:=fun q=>e.ne nC q
  have F1:=F.grow (h':=h') (N:=fun b=>b=C) (W':=W) kp (fun b q=>q ▸ ⟨nC,let ⟨o,_,_,q,_⟩:=hm; ⟨o,q⟩⟩) (fun b w=>w) fun b w=>.inl (F.wx b w)
  have rD:Rep G (fun b=>X b ∨ b=C) h' (.ref Da) d:=(r.weak (Y:=fun b=>X b ∨ b=C) fun b o u y=>y.elim .inl fun y=>.inr (.inl y)).rep fun q=>q.elim (F.live.fresh nD) (Ne.symm hne)
  have nWC:¬ W C:=fun w=>let ⟨_,q⟩:=F.live C (F.wx C w); ne q rfl
  show wpAny _ A (assign (.Name x p) env (.ref Da)) _ E _
  refine wpAny_mono (FrOK.assign_name (s:={ s with heap:=h',toks:=tk }) F1 ok no (mem_allI hi) rD) (fun u s2 z2=>?_) fun u u x=>x
  obtain ⟨F2,⟨h2,t2,e2,q2⟩,ro⟩:=z2
  subst e2
  refine ⟨m,hm.at' fun o q=>q2 C o nWC q,fun h3 hs=>?_⟩
  have F3:=F2.dropJ (J:=C) (h':=h3) nWC (.inr rfl) (fun q=>let ⟨_,_,_,_,e',_⟩:=F.ns; ne e' q.symm) (fun y c hc=>let ⟨o,e'⟩:=F.live c (F.cx y c hc).1; ne e') (fun j y a hj ho hg q=>by
    have hji:j ≠ i:=fun z=>no (z ▸ ho)
    rw [St.get_put (by rw [F.size]; exact (List.getElem?_eq_some_iff.mp hi).1),if_neg hji] at hg
    obtain ⟨_,o,e'⟩:=own_live F hj ho hg ((rd_mono F kp y).symm.trans ((ro y fun z=>hji (tbl_inj F.nodup (z ▸ hj) hi)).symm.trans q))
    exact ne e') fun a o n q=>(hs.2 a n).trans q
  have kw:KeepsW W s { s with heap:=h3,toks:=t2 }:=⟨h3,t2,rfl,fun b o n q=>(hs.2 b (ne q)).trans (q2 b o n (kp b o q))⟩
  exact ⟨_,W,F3,e.step kw (fun a q=>⟨.inl (e.x0 a q),let ⟨_,e'⟩:=F.live a (e.x0 a q); ne e'⟩) fun u w=>.inl w,kw,fun a q=>q.1.elim .inl fun q=>.inr (q ▸ nC),fun a w=>.inl w,fun a o eo x u=>⟨.inl x,ne eo⟩⟩
theorem used_lcomp {t:TE} {tg:List Nat} {one:Bool} {it:TI} {cond:TEs} {i:Nat} {x:Str} {p:Pos} {v:PySem.Expr} {d:D} (ht:PE G I Φ k t) (hi:PI G I Φ k it) (hcd:PC G I Φ k cond) (rm:Room A k)
    (F:FrOK G I sc (allI I) env X W s.heap σ) (e:Ent G s0 X0 X W s) (ok:tgtOk I sc x i=true) (no:i ∉ I.own) (hc:chkE I sc (.lcomp t tg one it cond) v=true) (ev:evE Φ (.lcomp t tg one it cond) σ=some d) :
    wpAny (model G.prog G.w) A (evalThenUse v env (assign (.Name x p) env)) (fun u s'=>∃ X' W',SP G I sc env s0 X0 X W s X' W' s' (St.put σ i d)) E s:=by
  refine onLC_ hc fun a gs sc' p hc=>onGen_ hc fun tt ii ifs hc=>and_ hc fun hc c7=>and_ hc fun hc c6=>and_ hc fun hc c5=>and_ hc fun hc c4=>and_ hc fun hc c3=>and_ hc fun c1 c2=>bind_ ev fun ds e1 ev=>map_ ev fun ys e2 e3=>e3 ▸ ?_
  obtain ⟨hf,hlen⟩:=hi sc _ env X W s σ A E _ ds c4 (it_fit c1).1 rm F e.b e1
  exact wpAny_bind (wpAny_mono (comp_sound (nm:=itNm it) (d0:=.list []) (o0:={ cls:=.type "list", data:=.seq ([]:List Value).toArray }) (step:=stepL (evE Φ t)) compRule_list rfl (plain_set (chkI_plain c4)) F e.b c2 c3 (it_fit c1).2 hf hlen rm.handled
    (fun s Q h=>wpAny_newObj_type h) (fun X h a e u=>.inl ⟨[],[],rfl,⟨_,e⟩,.nil⟩) rfl rfl (hcd A _ tg _ rm c5) (step_list ht c6 c7 rm) (compL_F [] e2) (comp_used F e ok no)) (fun u s' h'=>wpAny_pure h') fun u u x=>x)
theorem used_dcomp {t u:TE} {tg:List Nat} {one:Bool} {it:TI} {cond:TEs} {i:Nat} {x:Str} {p:Pos} {v:PySem.Expr} {d:D} (ht:PE G I Φ k t) (hu:PE G I Φ k u) (hi:PI G I Φ k it) (hcd:PC G I Φ k cond) (rm:Room A k)
    (F:FrOK G I sc (allI I) env X W s.heap σ) (e:Ent G s0 X0 X W s) (ok:tgtOk I sc x i=true) (no:i ∉ I.own) (hc:chkE I sc (.dcomp t u tg one it cond) v=true) (ev:evE Φ (.dcomp t u tg one it cond) σ=some d) :
    wpAny (model G.prog G.w) A (evalThenUse v env (assign (.Name x p) env)) (fun z s'=>∃ X' W',SP G I sc env s0 X0 X W s X' W' s' (St.put σ i d)) E s:=by
  refine onDC_ hc fun a b gs sc' p hc=>onGen_ hc fun tt ii ifs hc=>and_ hc fun hc c8=>and_ hc fun hc c7=>and_ hc fun hc c6=>and_ hc fun hc c5=>and_ hc fun hc c4=>and_ hc fun hc c3=>and_ hc fun c1 c2=>bind_ ev fun ds e1 ev=>map_ ev fun ys e2 e3=>e3 ▸ ?_
  obtain ⟨hf,hlen⟩:=hi sc _ env X W s σ A E _ ds c4 (it_fit c1).1 rm F e.b e1
  exact wpAny_bind (wpAny_mono (comp_sound (nm:=itNm it) (d0:=.dict []) (o0:={ cls:=.type "dict", data:=.dict #[] }) (step:=stepK (evE Φ t) (evE Φ u)) compRule_dict rfl (plain_set (chkI_plain c4)) F e.b c2 c3 (it_fit c1).2 hf hlen rm.handled
    (fun s Q h=>newDict_sound h) (fun X h a e hsy=>.inr ⟨[],[],rfl,⟨hsy,⟨_,#[],0,e,⟨rfl,rfl,rfl⟩,rfl,fun z he=>by simp at he,Pairs.nil,List.nodup_nil⟩⟩,.nil⟩) rfl rfl (hcd A _ tg _ rm c5) (step_dict ht hu c6 c7 c8 rm) (compD_F e2) (comp_used F e ok no)) (fun z s' h'=>wpAny_pure h') fun z z x=>x)
theorem comp_only {I:FI} {sc:Scope} {t:TE} {v:PySem.Expr} {n:Nat} (hc:chkE I sc t v=true) (hv:v.ctorIdx=n) (hn:n=8 ∨ n=9 ∨ n=10):(t.ctorIdx == 20 || t.ctorIdx == 21)=true:=by
  have z:∀ {m:Nat} {p:Prop},m=n→(m == 8 || m == 9 || m == 10)=false→p:=fun q z=>by
    subst q
    rcases hn with rfl | rfl | rfl <;> cases z
  cases t with
  | lcomp=>rfl
  | dcomp=>rfl
  | «cNone»=>exact onConst_ (motive:=fun v=>v.ctorIdx=n→_) hc (fun u u u u q=>z q rfl) hv
  | «cBool»=>exact onConst_ (motive:=fun v=>v.ctorIdx=n→_) hc (fun u u u u q=>z q rfl) hv
  | «cInt»=>exact onConst_ (motive:=fun v=>v.ctorIdx=n→_) hc (fun u u u u q=>z q rfl) hv
  | «cStr»=>exact onConst_ (motive:=fun v=>v.ctorIdx=n→_) hc (fun u u u u q=>z q rfl) hv
  | «var»=>exact onNm_ (motive:=fun v=>v.ctorIdx=n→_) hc (fun u u u q=>z q rfl) hv
  | «bin»=>exact onBin_ (motive:=fun v=>v.ctorIdx=n→_) hc (fun u u u u u q=>z q rfl) hv
  | «neg»=>exact onUn_ (motive:=fun v=>v.ctorIdx=n→_) hc (fun u u u u q=>z q rfl) hv
  | «cmp»=>exact onCmp_ (motive:=fun v=>v.ctorIdx=n→_) hc (fun u u u u u q=>z q rfl) hv
  | «cmp2»=>exact onCmp_ (motive:=fun v=>v.ctorIdx=n→_) hc (fun u u u u u q=>z q rfl) hv
  | «not»=>exact onUn_ (motive:=fun v=>v.ctorIdx=n→_) hc (fun u u u u q=>z q rfl) hv
  | «and»=>exact onBool_ (motive:=fun v=>v.ctorIdx=n→_) hc (fun u u u u q=>z q rfl) hv
  | «or»=>exact onBool_ (motive:=fun v=>v.ctorIdx=n→_) hc (fun u u u u q=>z q rfl) hv
  | «or2»=>exact onBool_ (motive:=fun v=>v.ctorIdx=n→_) hc (fun u u u u q=>z q rfl) hv
  | «ite»=>exact onIf_ (motive:=fun v=>v.ctorIdx=n→_) hc (fun u u u u u q=>z q rfl) hv
  | «sub»=>exact onSub_ (motive:=fun v=>v.ctorIdx=n→_) hc (fun u u u u q=>z q rfl) hv
  | «slice»=>exact onSub_ (motive:=fun v=>v.ctorIdx=n→_) hc (fun u u u u q=>z q rfl) hv
  | «list»=>exact onList_ (motive:=fun v=>v.ctorIdx=n→_) hc (fun u u u q=>z q rfl) hv
  | «tuple»=>exact onTup_ (motive:=fun v=>v.ctorIdx=n→_) hc (fun u u u u q=>z q rfl) hv
  | «dict0»=>exact onDict_ (motive:=fun v=>v.ctorIdx=n→_) hc (fun u u u u q=>z q rfl) hv
  | «dict1»=>exact onDict_ (motive:=fun v=>v.ctorIdx=n→_) hc (fun u u u u q=>z q rfl) hv
  | «bf»=>exact onFn_ (motive:=fun v=>v.ctorIdx=n→_) hc (fun u u u u u q=>z q rfl) hv
  | «listOf»=>exact onFn_ (motive:=fun v=>v.ctorIdx=n→_) hc (fun u u u u u q=>z q rfl) hv
  | «fn»=>exact onFn_ (motive:=fun v=>v.ctorIdx=n→_) hc (fun u u u u u q=>z q rfl) hv
  | «cls»=>exact onFn_ (motive:=fun v=>v.ctorIdx=n→_) hc (fun u u u u u q=>z q rfl) hv
  | «isTup»=>exact onFn_ (motive:=fun v=>v.ctorIdx=n→_) hc (fun u u u u u q=>z q rfl) hv
  | «mt»=>exact onMeth_ (motive:=fun v=>v.ctorIdx=n→_) hc (fun u u u u u u u q=>z q rfl) hv
  | «attr»=>exact onAttr_ (motive:=fun v=>v.ctorIdx=n→_) hc (fun u u u u q=>z q rfl) hv
theorem ps_assign {i:Nat} {t:TE} (C:CxOK G Φ k) (hok:okE t=true):PS G I Φ k (.assign i t):=by
  intro sc env s0 X0 X W s σ σ' A E st fl hc rm F e ev
  have ht:=(all_E (I:=I) C t hok).1
  refine onAsg_ hc fun ts v pos hc=>onOne_ hc fun u hc=>onNm_ hc fun x p' hc=>and_ hc fun hc hp=>and_ hc fun ok hce=>map_ ev fun d e1 e2=>?_
  cases e2
  rcases swaps_cases v x p' pos.line env with hs | ⟨hs,hv⟩
  · refine wpAny_Assign_Name (wpAny_mono (ht sc _ env X W s σ A E _ _ hce rm F e.b e1) (fun w s1 h1=>?_) fun z z x=>x) hs
    exact wpAny_mono (put_store F e ok hp h1) (fun _ s2 ⟨X',W',sp⟩=>⟨X',W',sp,trivial⟩) fun z z x=>x
  · rw [exec_Assign_Name_used _ _ _ _ hs]
    have key:wpAny (model G.prog G.w) A (evalThenUse v env (assign (.Name x p') env)) (fun z s'=>∃ X' W',SP G I sc env s0 X0 X W s X' W' s' (St.put σ i d)) E s:=by
      have q:=comp_only hce rfl hv
      cases t with
      | lcomp t tg one it cond=>exact used_lcomp (all_E C t (both1 (both1 hok))).1 (all_I C it (both2 (both1 hok))).1 (all_Es C cond (both2 hok)).2.2.2 rm F e ok (fun q=>Bool.false_ne_true (put_own hp q)) hce e1
      | dcomp t u tg one it cond=>exact used_dcomp (all_E C t (both1 (both1 (both1 hok)))).1 (all_E C u (both2 (both1 (both1 hok)))).1 (all_I C it (both2 (both1 hok))).1 (all_Es C cond (both2 hok)).2.2.2 rm F e ok (fun q=>Bool.false_ne_true (put_own hp q)) hce e1
      | _=>exact (Bool.false_ne_true q).elim
    exact wpAny_bind (wpAny_standAt (wpAny_bind (wpAny_mono key (fun _ s2 ⟨X',W',sp⟩=>wpAny_pure ⟨X',W',sp,trivial⟩) fun z z x=>x)))
end
section
variable {G:Gl} {I:FI} {sc:Scope} {wr:List Nat} {env:Env} {X W:Addr→Prop} {h h':Heap} {σ:St}
theorem FrOK.turnOwn (F:FrOK G I sc wr env X W h σ) {j:Nat} {y:Str} {a:Addr} {d d':D} (hj:I.tbl[j]?=some y) (ho:j ∈ I.own) (hd:St.get σ j=some d) (hr:rd h env y=some (.ref a)) (k:∀ b o,b ≠ a→h.get? b=some o→h'.get? b=some o) (r':RepO G X h' a d') :
    FrOK G I sc wr env X W h' (St.put σ j d'):=by
  obtain ⟨a',e',r,w⟩:=F.owns j y d hj (rd_vis F hr) hd ho
  rw [hr] at e'
  cases e'
  have rr:=rd_but (Z:=(·=a)) F (Ne.symm r.nl) r.nc k
  have kx:∀ b o,¬ X b→h.get? b=some o→h'.get? b=some o:=fun b o n e=>k b o (fun q=>n (q ▸ r.x)) e
  obtain ⟨m,hn⟩:=F.ns
  have hlt:j < σ.length:=by rw [F.size]; exact (List.getElem?_eq_some_iff.mp hj).1
  have gne:∀ i,St.get (St.put σ j d') i ≠ none→St.get σ i ≠ none:=fun i hi=>by
    rw [St.get_put hlt] at hi
    set_option tactic.hygienic true in split at hi
    · rename_i q; rw [q,hd]; exact fun z=>nomatch z
    · exact hi
  exact
  { kind:=F.kind,glob:=F.glob,blt:=F.blt,kinds:=F.kinds,nocd:=F.nocd,size:=by rw [St.length_put]; exact F.size,nodup:=F.nodup
    live:=fun b q=>by
      by_cases e:b=a
      · rw [e]; exact r'.get
      · obtain ⟨o,e'⟩:=F.live b q; exact ⟨o,k b o e e'⟩
    wx:=F.wx
    ns:=⟨m,hn.at' fun o e=>k _ o (Ne.symm r.nl) e⟩
    lx:=F.lx
    cells:=fun x hx=>let ⟨c,v,hc,o,e,d⟩:=F.cells x hx; ⟨c,v,hc,o,k _ _ (r.nc x c hc) e,d⟩
    cx:=F.cx
    cinj:=F.cinj
    writable:=F.writable
    vars:=fun i x d2 h1 h2 h3 h4=>by
      have hij:i ≠ j:=fun q=>h4 (q ▸ ho)
      rw [St.get_put hlt,if_neg hij] at h3
      obtain ⟨v,e,r2⟩:=F.vars i x d2 h1 h2 h3 h4
      exact ⟨v,by rw [rr]; exact e,r2.mono kx⟩
    owns:=fun i x d2 h1 h2 h3 h4=>by
      by_cases hij:i=j
      · subst hij
        rw [St.get_put hlt,if_pos rfl] at h3
        cases h3
        rw [hj] at h1
        cases h1
        exact ⟨a,by rw [rr]; exact hr,⟨r.x,r',r.nl,r.nc⟩,w⟩
      · rw [St.get_put hlt,if_neg hij] at h3
        obtain ⟨b,e,r2,w2⟩:=F.owns i x d2 h1 h2 h3 h4
        have nb:b ≠ a:=fun q=>by
          subst q
          exact F.apart i j x y b hij h4 ho h1 hj (by rw [h3]; exact fun z=>nomatch z) (by rw [hd]; exact fun z=>nomatch z) e hr
        exact ⟨b,by rw [rr]; exact e,⟨r2.x,r2.rep.mono (fun o=>k b o nb) kx,r2.nl,r2.nc⟩,w2⟩
    apart:=fun i i' x x' b h1 h2 h3 h4 h5 h6 h7 h8=>by rw [rr] at h8 ⊢; exact F.apart i i' x x' b h1 h2 h3 h4 h5 (gne i h6) (gne i' h7) h8 }
end
section
variable {G:Gl} {I:FI} {Φ:FEnv} {k:Nat} {sc:Scope} {env:Env} {s0:Shared} {X0 X W:Addr→Prop} {s s1:Shared} {σ:St} {A:Around} {E:Value→Shared→Prop}
theorem SP.own {j:Nat} {y:Str} {a:Addr} {d d':D} {h':Heap} {tk:Nat} (F:FrOK G I sc (allI I) env X W s.heap σ) (e:Ent G s0 X0 X W s) (hj:I.tbl[j]?=some y) (ho:j ∈ I.own) (hd:St.get σ j=some d) (hr:rd s.heap env y=some (.ref a)) (k:∀ b o,b ≠ a→s.heap.get? b=some o→h'.get? b=some o) (r':RepO G X h' a d') :
    SP G I sc env s0 X0 X W s X W { s with heap:=h',toks:=tk } (St.put σ j d'):=by
  obtain ⟨a',e',r,w⟩:=F.owns j y d hj (rd_vis F hr) hd ho
  rw [hr] at e'
  cases e'
  have kw:KeepsW W s { s with heap:=h',toks:=tk }:=⟨h',tk,rfl,fun b o n q=>k b o (fun z=>n (z ▸ w (mem_allI hj))) q⟩
  exact ⟨F.turnOwn hj ho hd hr k r',e.step kw e.x0 fun u w=>.inl w,kw,fun u q=>.inl q,fun u q=>.inl q,fun u u u x u=>x⟩
theorem own_of {j:Nat} {y:Str} {d:D} (F:FrOK G I sc (allI I) env X W s.heap σ) (hn:nameOk I sc y j=true) (ho:I.own.contains j=true) (hd:St.get σ j=some d) :
    I.tbl[j]?=some y∧j ∈ I.own∧∃ a,rd s.heap env y=some (.ref a)∧OwnOK G env X s.heap a d∧W a:=
  have hj:I.tbl[j]?=some y:=eq_of_beq (both1 (both1 hn))
  have hm:=List.contains_iff_mem.mp ho
  let ⟨a,e,r,w⟩:=F.owns j y d hj (both2 (both1 hn)) hd hm
  ⟨hj,hm,a,e,r,w (mem_allI hj)⟩
theorem load_own {j:Nat} {y:Str} {p:Pos} {a:Addr} {d:D} {Q:Value→Shared→Prop} (F:FrOK G I sc (allI I) env X W s.heap σ) (hn:nameOk I sc y j=true) (hd:St.get σ j=some d) (hr:rd s.heap env y=some (.ref a)) (h:Q (.ref a) s):wpAny (model G.prog G.w) A (eval (.Name y p) env) Q E s:=
  F.load hn hd fun v e u u=>by rw [hr] at e; cases e; exact h
theorem noInter (F:FrOK G I sc (allI I) env X W s.heap σ):interactive env=false:=by
  unfold interactive
  rw [F.kind]
  rfl
theorem list_at {a:Addr} {h:Heap} {vs:List Value} (p:h.PlainList a (List.toArray vs)):∃ o,h.get? a=some o∧o.cls=.type "list"∧o.dict=none:=let ⟨n,q⟩:=p; ⟨_,q,rfl,rfl⟩
theorem ps_append {j:Nat} {t:TE} (ht:PE G I Φ k t):PS G I Φ k (.append j t):=by
  intro sc env s0 X0 X W s σ σ' A E st fl hc rm F e ev
  refine onExp_ hc fun x p hc=>onMeth_ hc fun o n ap as cp hl hc=>onNm_ hc fun y yp hc=>onOne_ hc fun a' hc=>and_ hc fun hc hs=>and_ hc fun hc hce=>and_ hc fun hc ho=>and_ hc fun c1 hn=>bind_ ev fun l e1 ev=>bind_ ev fun d e2 ev=>onL_ (motive:=fun l=>St.get σ j=some l→_) ev (fun ds ev e1=>if_ ev fun hz ev=>?_) e1
  cases eqb_ c1
  cases ev
  obtain ⟨hj,hm,a,hr,oa,w⟩:=own_of F hn ho e1
  have hcs:chkEs I sc (.cons t .nil) [a']=true:=Bool.and_eq_true_iff.mpr ⟨hce,rfl⟩
  refine wpAny_Expr_any (MCall (plain_base rfl) (few_form hcs (by simp)) hl (load_own F hn e1 hr ?_)) (noInter F) rfl
  refine oa.rep.is (fun vs ds e' p rl=>?_) fun u u e' u u=>nomatch e'
  cases e'
  obtain ⟨o,q,oc,od⟩:=list_at p
  refine getMethod_builtin (T:="list") (id:="list.append") ⟨o,q,oc⟩ PySem.F.plainAttrs_list PySem.F.slot_list_append PySem.F.type_list_append (fun b e=>Value.ref.inj e ▸ ⟨o,q,od⟩) ?_
  refine callWith_method1 (args_cons (wpAny_mono (ht sc _ env X W s σ A E _ _ hce rm F e.b e2) (fun v s1 h1=>args_nil ?_) fun u u x=>x) (plain_star (chkE_plain hce))) (plain_star (chkE_plain hce))
  have q1:=Keeps.get h1.1
  have p1:=SP.keeps F e h1.1
  obtain ⟨n,p⟩:=p
  refine wpAny_list_append_plain (⟨n,q1 _ _ p⟩:s1.heap.PlainList a (List.toArray vs)) (fun h' p'' hs'=>?_) (by rw [List.size_toArray,rl.length]; exact cap_line hz)
  have kx:∀ b o,¬ X b→s1.heap.get? b=some o→h'.get? b=some o:=fun b o n q=>(hs'.2 b fun z=>n (z ▸ oa.x)).trans q
  exact ⟨X,W,SP.trans F.wx p1 (SP.own (tk:=s1.toks) p1.fr p1.ent hj hm e1 ((rd_mono F q1 _).trans hr) (fun b o n q=>(hs'.2 b n).trans q) (.inl ⟨vs ++ [v],_,rfl,List.push_toArray vs v ▸ p'',((rl.up q1).mono kx).append (.cons ((h1.2.2.1 hs).mono kx) .nil)⟩)),trivial⟩
end
theorem RepL.dropLast {G:Gl} {X:Addr→Prop} {h:Heap}:∀ {ds vs},RepL G X h vs ds→RepL G X h vs.dropLast ds.dropLast
  | [],_,r=>by cases r; exact .nil
  | [_],_,⟨_,_,e,_,b⟩=>by cases b; cases e; exact .nil
  | _ :: d :: ds,_,⟨v,_,e,a,⟨w,ws,e',b,c⟩⟩=>by
    subst e'
    subst e
    exact .cons a (RepL.dropLast (ds:=d :: ds) (.cons b c))
section
variable {G:Gl} {I:FI} {Φ:FEnv} {k:Nat} {sc:Scope} {env:Env} {s0:Shared} {X0 X W:Addr→Prop} {s s1:Shared} {σ σ':St} {A:Around} {E:Value→Shared→Prop}
theorem SP.stored (F:FrOK G I sc (allI I) env X W s.heap σ) (e:Ent G s0 X0 X W s) (F':FrOK G I sc (allI I) env X W s1.heap σ') (kw:KeepsW W s s1):SP G I sc env s0 X0 X W s X W s1 σ':=
  ⟨F',e.step kw e.x0 fun u w=>.inl w,kw,fun u x=>.inl x,fun u w=>.inl w,fun u u u x u=>x⟩
theorem eval_pop {j:Nat} {y:Str} {ap cp yp:Pos} {ds:List D} {d:D} {Q:Value→Shared→Prop} (F:FrOK G I sc (allI I) env X W s.heap σ) (e:Ent G s0 X0 X W s) (hl:(ap.endLine == cp.line)=true)
    (hn:nameOk I sc y j=true) (ho:I.own.contains j=true) (hd:St.get σ j=some (.list ds)) (hlast:ds.getLast?=some d) (hz:ds.length ≤ cap)
    (hQ:∀ v h',SP G I sc env s0 X0 X W s X W { s with heap:=h' } (St.put σ j (.list ds.dropLast))→Rep G X h' v d→Q v { s with heap:=h' }) :
    wpAny (model G.prog G.w) A (eval (.Call (.Attribute (.Name y yp) (Str.ofString "pop") ap) [] [] cp) env) Q E s:=by
  obtain ⟨hj,hm,a,hr,oa,w⟩:=own_of F hn ho hd
  refine MCall (plain_base rfl) rfl hl (load_own F hn hd hr ?_)
  refine oa.rep.is (fun vs ds' e' p rl=>?_) fun u u e' u u=>nomatch e'
  cases e'
  have hlen:=rl.length
  rw [List.getLast?_eq_getElem?] at hlast
  obtain ⟨v,hv,rv⟩:=rl.get hlast
  obtain ⟨n,ho'⟩:=p
  refine getMethod_builtin (T:="list") (id:="list.pop") ⟨_,ho',rfl⟩ PySem.F.plainAttrs_list PySem.F.slot_list_pop PySem.F.type_list_pop (fun b e=>Value.ref.inj e ▸ ⟨_,ho',rfl⟩) ?_
  refine callWith_method0 (call_meets PySem.F.slot_list_pop ⟨_,ho',rfl⟩ PySem.F.entry_list_pop (PySem.F.args_list_pop_1 _) (MeetsSeq.list_pop_last a vs.toArray n v (by rw [List.size_toArray,hlen,List.getElem?_toArray]; exact hv) (by rw [List.size_toArray,hlen]; exact cap_line hz)) ⟨ho',?_⟩)
  have hs':Heap.SameBut a s.heap (s.heap.update a (Obj.mapSeq fun xs=>xs.eraseIdxIfInBounds (vs.toArray.size - 1))):=Heap.SameBut.update ..
  have hp':=PySem.IsL.update ho' (fun xs=>xs.eraseIdxIfInBounds (vs.toArray.size - 1))
  have he:vs.toArray.eraseIdxIfInBounds (vs.toArray.size - 1)=vs.dropLast.toArray:=by
    rw [List.size_toArray,List.eraseIdxIfInBounds_toArray,List.eraseIdx_length_sub_one]
  rw [he] at hp'
  have kx:∀ b o,¬ X b→s.heap.get? b=some o→_:=fun b o q=>(hs'.2 b fun z=>q (z ▸ oa.x)).trans
  exact hQ v _ (SP.own (tk:=s.toks) F e hj hm hd hr (fun b o q=>(hs'.2 b q).trans) (.inl ⟨vs.dropLast,_,rfl,⟨_,hp'⟩,(rl.mono kx).dropLast⟩)) (rv.mono kx)
theorem ps_pop0 {j:Nat}:PS G I Φ k (.pop0 j):=by
  intro sc env s0 X0 X W s σ σ' A E st fl hc rm F e ev
  refine onExp_ hc fun x p hc=>onMeth_ hc fun o n ap as cp hl hc=>onNm_ hc fun y yp hc=>and_ hc fun c0 hc=>and_ hc fun hc ho=>and_ hc fun c1 hn=>bind_ ev fun l e1 ev=>onL_ (motive:=fun l=>St.get σ j=some l→_) ev (fun ds ev e1=>bind_ ev fun d e2 ev=>onS_ (motive:=fun d=>ds.getLast?=some d→_) ev (fun d ev e2=>if_ ev fun hz ev=>?_) e2) e1
  cases eqb_ c1
  cases List.isEmpty_iff.mp c0
  cases ev
  refine wpAny_Expr_any (eval_pop F e hl hn ho e1 e2 hz fun v h' sp ⟨t,rv⟩=>?_) (noInter F) rfl
  subst rv
  exact ⟨X,W,sp,trivial⟩
theorem ps_popUnpack {is:List Nat} {j:Nat}:PS G I Φ k (.popUnpack is j):=by
  intro sc env s0 X0 X W s σ σ' A E st fl hc rm F e ev
  refine onAsg_ hc fun ts x p hc=>onOne_ hc fun u hc=>onTup_ hc fun us un up hc=>onMeth_ hc fun o n ap as cp hl hc=>onNm_ hc fun y yp hc=>and_ hc fun c0 hc=>and_ hc fun hc ho=>and_ hc fun hc hn=>and_ hc fun hc c1=>and_ hc fun hc hle=>and_ hc fun ht hnd=>
    bind_ ev fun l e1 ev=>onL_ (motive:=fun l=>St.get σ j=some l→_) ev (fun ds ev e1=>bind_ ev fun d e2 ev=>if_ ev fun hz ev=>map_ ev fun σ1 hb ev=>?_) e1
  cases eqb_ c1
  cases List.isEmpty_iff.mp c0
  cases ev
  have hte:tgtE I sc false is (.Tuple us un up)=true:=Bool.and_eq_true_iff.mpr ⟨Bool.and_eq_true_iff.mpr ⟨ht,hle⟩,hnd⟩
  refine Assign_Tuple (eval_pop F e hl hn ho e1 e2 hz fun v h' sp rv=>?_)
  refine wpAny_mono (FrOK.assign_tgt (s:={ s with heap:=h' }) (t:=.Tuple us un up) sp.fr rm.handled hte (fun i hi=>let ⟨_,_,hx,_⟩:=tgtE_facts hte i hi; mem_allI hx) rv hb) (fun z s2 h2=>?_) fun z z x=>x
  exact ⟨X,W,SP.trans F.wx sp (SP.stored sp.fr sp.ent h2.1 h2.2.1),trivial⟩
theorem RepW.tup {G:Gl} {X:Addr→Prop} {h:Heap} {v:Value} {ds:List D} (r:RepW G X h v (.tuple ds)):Rep G X h v (.tuple ds):=by
  obtain ⟨a,vs,rfl,n,p,q⟩:=r.tuple_
  exact .tuple n p q
theorem ps_unpack {is:List Nat} {t:TE} (ht':PE G I Φ k t):PS G I Φ k (.unpack is t):=by
  intro sc env s0 X0 X W s σ σ' A E st fl hc rm F e ev
  refine onAsg_ hc fun ts v p hc=>onOne_ hc fun u hc=>onTup_ hc fun us un up hc=>and_ hc fun hc hsh=>and_ hc fun hc hce=>and_ hc fun hc hle=>and_ hc fun ht hnd=>bind_ ev fun d e1 ev=>map_ ev fun σ1 hb ev=>?_
  cases ev
  have hte:tgtE I sc false is (.Tuple us un up)=true:=Bool.and_eq_true_iff.mpr ⟨Bool.and_eq_true_iff.mpr ⟨ht,hle⟩,hnd⟩
  refine Assign_Tuple (wpAny_mono (ht' sc _ env X W s σ A E _ _ hce rm F e.b e1) (fun w s1 h1=>?_) fun z z x=>x) (by cases v <;> first | rfl | exact (Bool.false_ne_true hsh).elim) (by cases v <;> first | rfl | exact (Bool.false_ne_true hsh).elim)
  have p1:=SP.keeps F e h1.1
  have rt:Rep G X s1.heap w d:=onT_ (motive:=fun d=>RepW G X s1.heap w d→Rep G X s1.heap w d) (show onT d _=some σ' from hb) (fun ds z r=>r.tup) h1.2.1
  exact wpAny_mono (FrOK.assign_tgt (t:=.Tuple us un up) p1.fr rm.handled hte (fun i hi=>let ⟨_,_,hx,_⟩:=tgtE_facts hte i hi; mem_allI hx) rt hb) (fun z s2 h2=>⟨X,W,SP.trans F.wx p1 (SP.stored p1.fr p1.ent h2.1 h2.2.1),trivial⟩) fun z z x=>x
end
section
variable {G:Gl} {I:FI} {Φ:FEnv} {k:Nat} {sc:Scope} {wr:List Nat} {env:Env} {s0:Shared} {X0 X W:Addr→Prop} {s s1:Shared} {σ σ':St} {A:Around} {E:Value→Shared→Prop}
theorem FrOK.loadN (F:FrOK G I sc wr env X W s.heap σ) {i:Nat} {x:Str} {d:D} {Q:Value→Shared→Prop} (ok:nameOk I sc x i=true) (hd:St.get σ i=some d)
    (h:∀ v,rd s.heap env x=some v→RepW G X s.heap v d→Q v s):wpAny (model G.prog G.w) A (loadName env x) Q E s:=by
  simp only [nameOk,Bool.and_eq_true,beq_iff_eq,bne_iff_ne] at ok
  obtain ⟨⟨ht,hv⟩,hdb⟩:=ok
  have key:∃ v,rd s.heap env x=some v∧RepW G X s.heap v d:=by
    by_cases ho:i ∈ I.own
    · obtain ⟨a,e,r,_⟩:=F.owns i x d ht hv hd ho
      exact ⟨_,e,.inr ⟨a,rfl,r.rep⟩⟩
    · obtain ⟨v,e,r⟩:=F.vars i x d ht hv hd ho
      exact ⟨v,e,r.w⟩
  obtain ⟨v,e,r1⟩:=key
  have hq:=h v e r1
  rcases F.kindOf_vis hv with hl | hc
  · obtain ⟨m,hn⟩:=F.ns
    rw [rd_local hl hn] at e
    exact wpAny_loadName_local F.kind hl hn e hq
  · obtain ⟨c,w,hcl,hcell⟩:=F.cells x hc
    rw [rd_cell hc hcl hcell] at e
    subst e
    cases hk:env.kindOf x with
    | none=>rw [hk] at hc; cases hc
    | some kd=>
      cases kd <;> rw [hk] at hc <;> simp only [inCell,Bool.false_eq_true] at hc
      · exact wpAny_loadName_cell F.kind hk hcl hcell hq
      · refine wpAny_loadName_free F.kind hk hcl hcell hq ?_
        rcases F.kinds x with e | ⟨_,e⟩
        · exact F.nocd x (e.symm.trans hk)
        · rw [hk] at e; cases e
theorem ps_augVar {i:Nat} {t:TE} (ht:PE G I Φ k t):PS G I Φ k (.augVar i t):=by
  intro sc env s0 X0 X W s σ σ' A E st fl hc rm F e ev
  refine onAug_ hc fun u op x p hc=>onNm_ hc fun y yp hc=>and_ hc fun c0 hc=>and_ hc fun hc hce=>and_ hc fun hc hno=>and_ hc fun hn hg=>bind_ ev fun a e1 ev=>bind_ ev fun b e2 ev=>
    onI_ (motive:=fun a=>St.get σ i=some a→_) ev (fun a ev e1=>onI_ (motive:=fun b=>evE Φ t σ=some b→_) ev (fun b ev e2=>?_) e2) e1
  have no:=not_own hno
  cases eqb_ c0
  cases ev
  refine wpAny_AugAssign_Name (F.loadN hn e1 fun va z ra=>?_)
  obtain ⟨ta,rfl⟩:=ra.int_
  refine wpAny_mono (ht sc _ env X W s σ A E _ _ hce rm F e.b e2) (fun vb s1 h1=>?_) fun z z x=>x
  obtain ⟨tb,rfl⟩:=h1.2.1.int_
  have p1:=SP.keeps F e h1.1
  have p2:=SP.keeps p1.fr p1.ent (Keeps.toks (s:=s1) (s1.toks + 1))
  exact wpAny_iadd_int (wpAny_mono (store_ready (v:=.int (a + b) s1.toks) (d:=.int (a + b)) p2.fr hg ⟨fun z=>.int _ _,fun n=>absurd n no⟩ fun n=>absurd n no) (fun z s3 h3=>⟨X,W,SP.trans F.wx p1 (SP.trans F.wx p2 (SP.stored p2.fr p2.ent h3.1 h3.2.1)),trivial⟩) fun z z x=>x)
theorem own_setItem {j:Nat} {y:Str} {a:Addr} {kv:Str} {t:Tok} {v:Value} {d:D} {kvs:List (Str × D)} {Q:Unit→Shared→Prop} (F:FrOK G I sc (allI I) env X W s.heap σ) (e:Ent G s0 X0 X W s) (hj:I.tbl[j]?=some y) (ho:j ∈ I.own) (hd:St.get σ j=some (.dict kvs)) (hr:rd s.heap env y=some (.ref a))
    (hz:kvs.length ≤ cap) (rv:Rep G X s.heap v d) (hQ:∀ s',SP G I sc env s0 X0 X W s X W s' (St.put σ j (.dict (dictPut kv d kvs)))→Q () s') :
    wpAny (model G.prog G.w) A (setItem (.ref a) (.str kv t) v) Q E s:=by
  obtain ⟨a',e',oa,w⟩:=F.owns j y _ hj (rd_vis F hr) hd ho
  rw [hr] at e'
  cases e'
  refine oa.rep.is (fun u u e1 u u=>nomatch e1) fun kw kvs' e1 p rk=>?_
  cases e1
  refine wpAny_setItem_pairs (strKind_is G.prog G.w kv t) p.2 (fun h' p' hs'=>?_) (by rw [rk.length]; exact cap_line hz)
  have kx:∀ b o,¬ X b→s.heap.get? b=some o→h'.get? b=some o:=fun b o n e=>(hs'.2 b fun z=>n (z ▸ oa.x)).trans e
  have nd:(kw.map (·.1)).Nodup:=let ⟨_,_,_,_,_,_,_,_,_,nd⟩:=p; nd
  exact hQ _ (SP.own F e hj ho hd hr (fun b o q=>(hs'.2 b q).trans) (.inr ⟨_,_,rfl,⟨p.1,p'⟩,stored_put (rk.mono kx) nd (rv.mono kx)⟩))
theorem ps_setItem {j:Nat} {u t:TE} (hu:PE G I Φ k u) (ht:PE G I Φ k t):PS G I Φ k (.setItem j u t):=by
  intro sc env s0 X0 X W s σ σ' A E st fl hc rm F e ev
  refine onAsg_ hc fun ts v p hc=>onOne_ hc fun w hc=>onSub_ hc fun o a sp hc=>onNm_ hc fun y yp hc=>and_ hc fun hc hsl=>and_ hc fun hc hs=>and_ hc fun hc hcv=>and_ hc fun hc hck=>and_ hc fun hn ho=>bind_ ev fun d e1 ev=>bind_ ev fun l e2 ev=>bind_ ev fun kk e3 ev=>
    onD_ (motive:=fun l=>St.get σ j=some l→_) ev (fun kvs ev e2=>onS_ (motive:=fun kk=>evE Φ u σ=some kk→_) ev (fun kk ev e3=>if_ ev fun hz ev=>?_) e3) e2
  cases ev
  obtain ⟨hj,hm,b,hr,oa,w⟩:=own_of F hn ho e2
  refine wpAny_Assign_Subscript (wpAny_mono (ht sc _ env X W s σ A E _ _ hcv rm F e.b e1) (fun vv s1 h1=>?_) fun z z x=>x) (by cases v <;> rfl)
  have p1:=SP.keeps F e h1.1
  have hr1:=(rd_mono F (Keeps.get h1.1) y).trans hr
  refine load_own p1.fr hn e2 hr1 ?_
  refine wpAny_mono (hu sc _ env X W s1 σ A E _ _ hck rm p1.fr p1.ent.b e3) (fun kv s2 h2=>?_) fun z z x=>x
  have p2:=SP.keeps p1.fr p1.ent h2.1
  obtain ⟨tk,rfl⟩:=h2.2.1.str_
  exact own_setItem p2.fr p2.ent hj hm e2 ((rd_mono p1.fr (Keeps.get h2.1) y).trans hr1) hz ((h1.2.2.1 hs).up (Keeps.get h2.1)) fun s3 sp3=>⟨X,W,SP.trans F.wx p1 (SP.trans F.wx p2 sp3),trivial⟩
theorem ps_augItem {j:Nat} {u t:TE} (hu:PE G I Φ k u) (ht:PE G I Φ k t):PS G I Φ k (.augItem j u t):=by
  intro sc env s0 X0 X W s σ σ' A E st fl hc rm F e ev
  refine onAug_ hc fun w op v p hc=>onSub_ hc fun o a sp hc=>onNm_ hc fun y yp hc=>and_ hc fun c0 hc=>and_ hc fun hc hsl=>and_ hc fun hc hcv=>and_ hc fun hc hck=>and_ hc fun hn ho=>bind_ ev fun l e1 ev=>bind_ ev fun kk e2 ev=>bind_ ev fun dd e3 ev=>
    onD_ (motive:=fun l=>St.get σ j=some l→_) ev (fun kvs ev e1=>onS_ (motive:=fun kk=>evE Φ u σ=some kk→_) ev (fun kk ev e2=>onI_ (motive:=fun dd=>evE Φ t σ=some dd→_) ev (fun bb ev e3=>bind_ ev fun aa e4 ev=>onI_ (motive:=fun aa=>lookD kk kvs=some aa→_) ev (fun aa ev e4=>if_ ev fun hz ev=>?_) e4) e3) e2) e1
  cases eqb_ c0
  cases ev
  obtain ⟨hj,hm,b,hr,oa,w⟩:=own_of F hn ho e1
  refine wpAny_AugAssign_Subscript_any (load_own F hn e1 hr ?_) (by intros; cases a <;> first | rfl | exact (Bool.false_ne_true hsl).elim)
  refine wpAny_mono (hu sc _ env X W s σ A E _ _ hck rm F e.b e2) (fun kv s2 h2=>?_) fun z z x=>x
  have p2:=SP.keeps F e h2.1
  obtain ⟨tk,rfl⟩:=h2.2.1.str_
  have hr2:=(rd_mono F (Keeps.get h2.1) y).trans hr
  refine wpAny_mono (get_sound (.inr ⟨b,rfl,oa.rep.mono (fun o=>Keeps.get h2.1 b o) fun b o z=>Keeps.get h2.1 b o⟩) h2.2.1 (show evSub (.dict kvs) (.str kk)=some (.int aa) from e4)).2 (fun vo s3 h3=>?_) fun z z x=>x
  have p3:=SP.keeps p2.fr p2.ent h3.1
  have hr3:=(rd_mono p2.fr (Keeps.get h3.1) y).trans hr2
  refine wpAny_mono (ht sc _ env X W s3 σ A E _ _ hcv rm p3.fr p3.ent.b e3) (fun vv s4 h4=>?_) fun z z x=>x
  have p4:=SP.keeps p3.fr p3.ent h4.1
  obtain ⟨ta,rfl⟩:=(Rep.w h3.2).int_
  obtain ⟨tb,rfl⟩:=h4.2.1.int_
  have p5:=SP.keeps p4.fr p4.ent (Keeps.toks (s:=s4) (s4.toks + 1))
  exact wpAny_iadd_int (own_setItem p5.fr p5.ent hj hm e1 ((rd_mono p3.fr (Keeps.get h4.1) y).trans hr3) hz (.int _ _) fun s6 sp6=>⟨X,W,SP.trans F.wx p2 (SP.trans F.wx p3 (SP.trans F.wx p4 (SP.trans F.wx p5 sp6))),trivial⟩)
theorem FrOK.release {h:Heap} (F:FrOK G I sc (allI I) env X W h σ) {j:Nat} {y:Str} {a:Addr} {d:D} (hj:I.tbl[j]?=some y) (ho:j ∈ I.own) (hd:St.get σ j=some d) (hr:rd h env y=some (.ref a)) :
    FrOK G I sc (allI I) env (fun b=>X b∧b ≠ a) (fun b=>W b∧b ≠ a) h (σ.set j none):=by
  obtain ⟨a',e',oa,w⟩:=F.owns j y d hj (rd_vis F hr) hd ho
  rw [hr] at e'
  cases e'
  have hlt:j < σ.length:=by rw [F.size]; exact (List.getElem?_eq_some_iff.mp hj).1
  have gs:∀ i,St.get (σ.set j none) i=if i=j then none else St.get σ i:=fun i=>by
    have:=clearT_get [j] σ i
    simpa [clearT] using this
  exact
  { kind:=F.kind,glob:=F.glob,blt:=F.blt,kinds:=F.kinds,nocd:=F.nocd,size:=by rw [List.length_set]; exact F.size,nodup:=F.nodup
    live:=fun b q=>F.live b q.1
    wx:=fun b q=>⟨F.wx b q.1,q.2⟩
    ns:=F.ns
    lx:=⟨F.lx,Ne.symm oa.nl⟩
    cells:=F.cells
    cx:=fun x c hc=>⟨⟨(F.cx x c hc).1,oa.nc x c hc⟩,(F.cx x c hc).2⟩
    cinj:=F.cinj
    writable:=fun i hi x hx=>⟨fun q=>⟨(F.writable i hi x hx).1 q,Ne.symm oa.nl⟩,fun q c hc=>⟨(F.writable i hi x hx).2 q c hc,oa.nc x c hc⟩⟩
    vars:=fun i x d' h1 h2 h3 h4=>by
      rw [gs] at h3
      split at h3
      · cases h3
      · obtain ⟨v,e,r⟩:=F.vars i x d' h1 h2 h3 h4
        exact ⟨v,e,r.weak fun b o u q=>q.1⟩
    owns:=fun i x d' h1 h2 h3 h4=>by
      rw [gs] at h3
      set_option tactic.hygienic true in split at h3
      · cases h3
      · rename_i hij
        obtain ⟨b,e,r,w'⟩:=F.owns i x d' h1 h2 h3 h4
        have nb:b ≠ a:=fun q=>by
          subst q
          exact F.apart i j x y b hij h4 ho h1 hj (by rw [h3]; exact fun z=>nomatch z) (by rw [hd]; exact fun z=>nomatch z) e hr
        exact ⟨b,e,⟨⟨r.x,nb⟩,r.rep.weak fun b o u q=>q.1,r.nl,r.nc⟩,fun z=>⟨w' z,nb⟩⟩
    apart:=fun i i' x x' b h1 h2 h3 h4 h5 h6 h7 h8=>by
      rw [gs] at h6 h7
      split at h6
      · exact absurd rfl h6
      · split at h7
        · exact absurd rfl h7
        · exact F.apart i i' x x' b h1 h2 h3 h4 h5 h6 h7 h8 }
theorem ps_move {i j:Nat}:PS G I Φ k (.move i j):=by
  intro sc env s0 X0 X W s σ σ' A E st fl hc rm F e ev
  refine onAsg_ hc fun ts v p hc=>onOne_ hc fun u hc=>onNm_ hc fun x xp hc=>onNm_ hc fun y yp hc=>and_ hc fun hc hno=>and_ hc fun hc ho=>and_ hc fun hg hn=>map_ ev fun d e1 ev=>?_
  have no:=not_own hno
  cases ev
  obtain ⟨hj,hm,a,hr,oa,w⟩:=own_of F hn ho e1
  refine wpAny_Assign_Name (load_own F hn e1 hr ?_)
  have F1:=F.release hj hm e1 hr
  have e1':Ent G s0 X0 (fun b=>X b∧b ≠ a) (fun b=>W b∧b ≠ a) s:=e.step KeepsW.rfl (fun b q=>⟨e.x0 b q,fun z=>let ⟨_,eo⟩:=e.live0 b q; absurd (eo.symm.trans (show s0.heap.get? b=none from z ▸ e.w0 a w)) fun q=>nomatch q⟩) fun b q=>.inl q.1
  have rv:Rep G (fun b=>X b∧b ≠ a) s.heap (.ref a) d:=(oa.rep.weak fun b o t q=>q.1).rep fun q=>q.2 rfl
  refine wpAny_mono (store_ready F1 hg ⟨fun t=>rv,fun n=>absurd n no⟩ fun n=>absurd n no) (fun t s3 h3=>?_) fun t t x=>x
  have q:=SP.stored F1 e1' h3.1 h3.2.1
  exact ⟨_,_,⟨q.fr,q.ent,h3.2.1.wide fun b z=>z.1,fun b z=>.inl z.1,fun b z=>.inl z.1,fun b o t z n=>⟨z,fun z'=>n (z' ▸ w)⟩⟩,trivial⟩
end
theorem ite_P {α:Type} {c:Prop} [d:Decidable c] {a b:α} (P:α→Prop) (ha:c→P a) (hb:¬ c→P b):P (if c then a else b):=match d with
  | Decidable.isTrue h=>ha h
  | Decidable.isFalse h=>hb h
@[elab_as_elim] theorem two_names {α β:Type} {f:α→Option β} {a b:α} {P:List β→Prop} (x y:β) (hx:f a=none ∨ f a=some x) (hy:f b=none ∨ f b=some y) (h:∀ l,l.length ≠ 2→P l) (h2:P [x,y]):P (List.filterMap f [a,b]):=by
  rw [List.filterMap_cons,List.filterMap_cons,List.filterMap_nil]
  rcases hx with hx | hx <;> rcases hy with hy | hy <;> rw [hx,hy] <;> first | exact h2 | exact h _ (fun z=>nomatch z)
theorem swapped_cases {x y:Str} {px py tp p2:Pos} {kk k2:Nat} {e f:PySem.Expr} {env:Env} (h:(!([e,f].all (constantsAlone 8)) || [e,f].all (foldedForSure 8))=true) :
    swappedStores [.Tuple [.Name x px,.Name y py] kk tp] (.Tuple [e,f] k2 p2) env=pure none ∨ swappedStores [.Tuple [.Name x px,.Name y py] kk tp] (.Tuple [e,f] k2 p2) env=pure (some [x,y]):=by
  let P:Sem (Option (List Str))→Prop:=fun m=>m=pure none ∨ m=pure (some [x,y])
  have P0:P (pure none):=.inl rfl
  show P _
  refine ite_P P (fun u=>P0) fun u=>ite_P P (fun u=>P0) fun u=>?_
  dsimp only
  refine two_names x y ?_ ?_ (fun l hl=>?_) ?_
  · exact ite_P (fun m=>m=none ∨ m=some x) (fun u=>.inr rfl) fun u=>.inl rfl
  · exact ite_P (fun m=>m=none ∨ m=some y) (fun u=>.inr rfl) fun u=>.inl rfl
  · exact ite_P P (fun u=>P0) fun q=>absurd (Bool.or_eq_true_iff.mpr (.inl (bne_iff_ne.mpr hl))) q
  · refine ite_P P (fun u=>P0) fun u=>ite_P P (fun u=>P0) fun n=>ite_P P (fun c=>?_) fun u=>.inr rfl
    rcases Bool.or_eq_true_iff.mp h with h | h
    · rw [c] at h; cases h
    · exact absurd h n
section
variable {G:Gl} {I:FI} {Φ:FEnv} {k:Nat} {sc:Scope} {env:Env} {s0:Shared} {X0 X W X' W':Addr→Prop} {s s1:Shared} {σ σ':St} {A:Around} {E:Value→Shared→Prop}
theorem two_stores {i j:Nat} {x y:Str} {va vb:Value} {da db:D} {Q:Unit→Shared→Prop} (F:FrOK G I sc (allI I) env X W s.heap σ) (okx:tgtOk I sc x i=true) (oky:tgtOk I sc y j=true) (hij:i ≠ j)
    (ra:Ready G I env X W s.heap i va da) (rb:Ready G I env X W s.heap j vb db) (fa:Free I env s.heap σ i va) (fb:Free I env s.heap σ j vb) (hne:i ∈ I.own→j ∈ I.own→va ≠ vb)
    (hQ:∀ s',FrOK G I sc (allI I) env X W s'.heap ((σ.put i da).put j db)→KeepsW W s s'→Q () s') :
    wpAny (model G.prog G.w) A (storeName env x va) (fun u s1=>wpAny (model G.prog G.w) A (storeName env y vb) Q E s1) E s:=by
  have hi:I.tbl[i]?=some x:=by simp only [tgtOk,Bool.and_eq_true,beq_iff_eq] at okx; exact okx.1
  have hj:I.tbl[j]?=some y:=by simp only [tgtOk,Bool.and_eq_true,beq_iff_eq] at oky; exact oky.1
  have hlt:i < σ.length:=by rw [F.size]; exact (List.getElem?_eq_some_iff.mp hi).1
  refine wpAny_mono (store_ready F okx ra fa) (fun u s1 h1=>?_) fun u u x=>x
  obtain ⟨F1,k1,kw1,ro1,rx1⟩:=h1
  have kx:=KeepsW.notX k1 F.wx
  have rb':Ready G I env X W s1.heap j vb db:=⟨fun n=>(rb.rep n).mono kx,fun n=>by
    obtain ⟨b,rfl,ob,w⟩:=rb.own n
    exact ⟨b,rfl,⟨ob.x,ob.rep.mono (fun o=>kw1 b ob.nl (fun y c hc=>ob.nc y c hc) w o) kx,ob.nl,ob.nc⟩,w⟩⟩
  refine wpAny_mono (store_ready F1 oky rb' fun hjo j' y' h2 h3 h4 h5=>?_) (fun u s2 h2=>?_) fun u u x=>x
  · by_cases e:j'=i
    · subst e
      rw [hi] at h4
      cases h4
      rw [rx1]
      intro z
      exact hne h3 hjo (Option.some.inj z)
    · rw [St.get_put hlt,if_neg e] at h5
      rw [ro1 y' fun z=>e (tbl_inj F.nodup (z ▸ h4) hi)]
      exact fb hjo j' y' h2 h3 h4 h5
  · exact hQ s2 h2.1 (KeepsW.trans k1 h2.2.1)
theorem Ready.up {i:Nat} {v:Value} {d:D} (r:Ready G I env X W s.heap i v d) (kp:∀ a o,s.heap.get? a=some o→s1.heap.get? a=some o) (hx:∀ a,X' a→X a ∨ s.heap.get? a=none) (xx:∀ a,X a→X' a) (ww:∀ a,W a→W' a):Ready G I env X' W' s1.heap i v d:=by
  have wk:∀ a o,s.heap.get? a=some o→X' a→X a:=fun a o e q=>by
    rcases hx a q with q | q
    · exact q
    · rw [e] at q; cases q
  refine ⟨fun n=>((r.rep n).weak wk).mono fun a o u=>kp a o,fun n=>?_⟩
  obtain ⟨a,rfl,oa,w⟩:=r.own n
  exact ⟨a,rfl,⟨xx a oa.x,(oa.rep.weak wk).mono (fun o=>kp a o) fun a o u=>kp a o,oa.nl,oa.nc⟩,ww a w⟩
theorem St.put_comm {i j:Nat} {a b:D} (h:i ≠ j):(σ.put i a).put j b=(σ.put j b).put i a:=by
  unfold St.put
  exact List.set_comm _ _ h
theorem ps_assign2 {i j:Nat} {ta tb:TE} (ha:PE G I Φ k ta) (hb:PE G I Φ k tb):PS G I Φ k (.assign2 i j ta tb):=by
  intro sc env s0 X0 X W s σ σ' A E st fl hc rm F e ev
  refine onAsg_ hc fun ts w pos hc=>onOne_ hc fun u hc=>onTup_ hc fun us tk tp hc=>onTwo_ hc fun u1 u2 hc=>onNm_ hc fun x xp hc=>onNm_ hc fun y yp hc=>onTup_ hc fun ws vk vp hc=>onTwo_ hc fun ea eb hc=>
    and_ hc fun hc hsw=>and_ hc fun hc hpb=>and_ hc fun hc hpa=>and_ hc fun hc hcb=>and_ hc fun hc hca=>and_ hc fun hc hij=>and_ hc fun okx oky=>bind_ ev fun da e1 ev=>map_ ev fun db e2 ev=>?_
  replace hij:=bne_iff_ne.mp hij
  cases ev
  have main:∀ QQ:Value→Shared→Prop,(∀ T va vb s3,IsTup s3.heap T #[va,vb]→(∀ h' , (∀ b o,s3.heap.get? b=some o→h'.get? b=some o)→∃ X' W',FrOK G I sc (allI I) env X' W' h' σ∧Ready G I env X' W' h' i va da∧Ready G I env X' W' h' j vb db∧Free I env h' σ i va∧Free I env h' σ j vb∧(i ∈ I.own→j ∈ I.own→va ≠ vb) ∧
      (∀ s4,s4={ s3 with heap:=h' }→∀ s5,FrOK G I sc (allI I) env X' W' s5.heap ((σ.put i da).put j db)→KeepsW W' s4 s5→∃ X' W',SP G I sc env s0 X0 X W s X' W' s5 ((σ.put i da).put j db)))→QQ (.ref T) s3)→wpAny (model G.prog G.w) A (eval (.Tuple [ea,eb] vk vp) env) QQ E s:=by
    intro QQ hQ
    refine Tuple_ (args_cons (wpAny_mono (ha sc _ env X W s σ A E _ _ hca rm F e.b e1) (fun va s1 h1=>?_) fun v v x=>x) (plain_star (chkE_plain hca)))
    obtain ⟨X1,W1,F1,en1,r1,f1,xn1,wn1,ww1,_,_,xx1⟩:=put_ready F e hpa h1
    refine args_cons (wpAny_mono (hb sc _ env X1 W1 s1 σ A E _ _ hcb rm F1 en1.b e2) (fun vb s2 h2=>args_nil ?_) fun v v x=>x) (plain_star (chkE_plain hcb))
    obtain ⟨X2,W2,F2,en2,r2,f2,xn2,wn2,ww2,_,_,xx2⟩:=put_ready F1 en1 hpb h2
    refine wpAny_newObj_type (hQ s2.heap.objs.size va vb _ ⟨_,Heap.get?_push_size _ rfl,rfl,_,rfl⟩ fun h' kp=>?_) (by show [va,vb].toArray.size ≤ sizeLine; rw [sizeLine_eq]; simp)
    have q1:=Keeps.get h1.1
    have q2:=Keeps.get h2.1
    have q3:∀ b o,s2.heap.get? b=some o→h'.get? b=some o:=fun b o q=>kp b o (Heap.get?_push_of_some _ q)
    refine ⟨X2,W2,F2.mono q3,?_,?_,?_,?_,?_,?_⟩
    · exact Ready.up (s1:={ s2 with heap:=h' }) r1 (fun a o q=>q3 a o (q2 a o q)) xn2 xx2 ww2
    · exact Ready.up (s1:={ s2 with heap:=h' }) r2 q3 (fun a q=>.inl q) (fun a q=>q) fun a q=>q
    · intro n j' y' g1 g2 g3 g4
      have:=f1 n j' y' g1 g2 g3 g4
      rw [rd_mono F2 q3,rd_mono F1 q2]
      exact this
    · intro n j' y' g1 g2 g3 g4
      rw [rd_mono F2 q3]
      exact f2 n j' y' g1 g2 g3 g4
    · intro ni nj z
      subst z
      have hf:fresh tb=true:=by
        unfold putOk at hpb
        rw [if_pos (by simpa using nj)] at hpb
        exact hpb
      obtain ⟨b,rfl,nb,_⟩:=h2.2.2.2 (fresh_two hf)
      obtain ⟨a,ez,oa,_⟩:=r1.own ni
      cases ez
      obtain ⟨o,eo⟩:=oa.rep.get
      rw [nb] at eo
      cases eo
    · rintro s4 rfl s5 F5 k5
      have kw:KeepsW W s s5:=by
        obtain ⟨h1',t1,rfl,_⟩:=id h1.1
        obtain ⟨h2',t2,rfl,_⟩:=id h2.1
        obtain ⟨h5',t5,rfl,k5'⟩:=k5
        refine ⟨h5',t5,rfl,fun b o n q=>k5' b o (fun w=>?_) (q3 b o (q2 b o (q1 b o q)))⟩
        rcases wn2 b w with w | w
        · rcases wn1 b w with w | w
          · exact n w
          · rw [q] at w; cases w
        · rw [q1 b o q] at w; cases w
      have xn:∀ a,X2 a→X a ∨ s.heap.get? a=none:=fun a q=>by
        rcases xn2 a q with q | q
        · exact xn1 a q
        · exact .inr (none_of_none (fun o=>q1 a o) q)
      have wn:∀ a,W2 a→W a ∨ s.heap.get? a=none:=fun a q=>by
        rcases wn2 a q with q | q
        · exact wn1 a q
        · exact .inr (none_of_none (fun o=>q1 a o) q)
      exact ⟨X2,W2,F5,e.step kw en2.x0 wn,kw,xn,wn,fun a v v q v=>xx2 a (xx1 a q)⟩
  rcases swapped_cases (x:=x) (y:=y) (px:=xp) (py:=yp) (kk:=tk) (tp:=tp) (k2:=vk) (p2:=vp) (env:=env) hsw with hw | hw
  · refine Assign_Tuple (main _ fun T va vb s3 hT hm=>?_) rfl hw
    refine wpAny_assign_Tuple (items:=#[va,vb]) rm.handled hT rfl rfl fun h' he=>?_
    obtain ⟨X',W',F',ra,rb,fa,fb,hne,fin⟩:=hm h' (extBut_size he)
    refine assignInOrder_cons (assign_Name ?_)
    refine wpAny_mono (two_stores (Q:=fun v s5=>∃ X' W',SP G I sc env s0 X0 X W s X' W' s5 ((σ.put i da).put j db)) (s:={ s3 with heap:=h' }) F' okx oky hij ra rb fa fb hne fun s5 F5 k5=>fin _ rfl s5 F5 k5) (fun v s4 h4=>?_) fun v v x=>x
    refine assignInOrder_cons (assign_Name (wpAny_mono h4 (fun v s5 h5=>assignInOrder_nil ?_) fun v v x=>x))
    obtain ⟨X5,W5,sp⟩:=h5
    exact ⟨X5,W5,sp,trivial⟩
  · refine Assign_Tuple_swapped (main _ fun T va vb s3 hT hm=>?_) rfl hw
    refine unpackItems_tuple (items:=#[va,vb]) rm.handled hT fun h' he=>?_
    obtain ⟨X',W',F',ra,rb,fa,fb,hne,fin⟩:=hm h' (extBut_size he)
    refine assignInOrder_cons (bindName_ ?_)
    refine wpAny_mono (two_stores (Q:=fun v s5=>∃ X' W',SP G I sc env s0 X0 X W s X' W' s5 ((σ.put i da).put j db)) (s:={ s3 with heap:=h' }) F' oky okx (Ne.symm hij) rb ra fb fa (fun a b z=>hne b a z.symm) fun s5 F5 k5=>fin _ rfl s5 (by rw [St.put_comm hij]; exact F5) k5) (fun v s4 h4=>?_) fun v v x=>x
    refine assignInOrder_cons (bindName_ (wpAny_mono h4 (fun v s5 h5=>assignInOrder_nil ?_) fun v v x=>x))
    obtain ⟨X5,W5,sp⟩:=h5
    exact ⟨X5,W5,sp,trivial⟩
end
section
variable {prog:Program} {w:World} {A:Around} {s:Shared} {env:Env}
theorem forLoop_let {R:Result→Shared→Prop} {target:PySem.Expr} {it:Value} {body:List Stmt} (I:Nat→Shared→Prop)
    (turn:∀ n s,I n s→wpAny (model prog w) A (pyNext it) (fun r s₁=>match r with
      | none=>R (.ok .next) s₁
      | some v=>wpAny (model prog w) A (letOwnedTupleGo target it v) (fun u s₀=>wpAny (model prog w) A (assign target env v) (fun u s₂=>wpAny (model prog w) A (execs body env) (fun f s₃=>match f with
          | .next | .cont=>∃ m,m < n∧I m s₃
          | .brk=>R (.ok .next) s₃
          | .ret v=>R (.ok (.ret v)) s₃) (notedBy (model prog w) A env fun e s'=>R (.error e) s') s₂) (notedBy (model prog w) A env fun e s'=>R (.error e) s') s₀) (notedBy (model prog w) A env fun e s'=>R (.error e) s') s₁) (notedBy (model prog w) A env fun e s'=>R (.error e) s') s)
    (n:Nat) (h:I n s):codeAny (model prog w) A (.forLoop target it body [] env) R s:=by
  refine codeAny_loop' rfl I (fun n s hI=>?_) n h
  show wpAny _ _ ((forTurn target it body [] env).onRaise (fun x=>do noteFrame x env; theTreesLotGoes x)) _ _ s
  refine wpAny_noted ?_
  simp only [forTurn]
  refine wpAny_bind (wpAny_standAt (wpAny_bind (wpAny_onRaise (wpAny_mono (turn n s hI) (fun r s₁ h₁=>?_) fun u u h'=>wpAny_standAt h'))))
  cases r with
  | none=>exact wpAny_pure (.inr ⟨rfl,codeAny_block (wpAny_execs_nil h₁)⟩)
  | some v=>
    refine wpAny_bind (wpAny_mono h₁ (fun u s₀ h₀=>?_) fun u u h'=>h')
    refine wpAny_bind (wpAny_mono h₀ (fun u s₂ h₂=>wpAny_bind (wpAny_mono h₂ (fun f s₃ h₃=>?_) fun u u h'=>h')) fun u u h'=>h')
    cases f with
    | next=>exact wpAny_pure (.inl ⟨rfl,h₃⟩)
    | cont=>exact wpAny_pure (.inl ⟨rfl,h₃⟩)
    | brk=>exact wpAny_pure h₃
    | ret v=>exact wpAny_pure h₃
theorem forLoop_var {R:Result→Shared→Prop} {target:PySem.Expr} {it:Value} {body:List Stmt} (I:Nat→Shared→Prop)
    (turn:∀ (N:Shared→Prop) (V:Value→Shared→Prop) (EE:Value→Shared→Prop),(∀ s,R (.ok .next) s→N s)→(∀ v s,R (.ok (.ret v)) s→V v s)→∀ n s,I n s→wpAny (model prog w) A (pyNext it) (fun r s₁=>match r with
      | none=>N s₁
      | some v=>wpAny (model prog w) A (letOwnedTupleGo target it v) (fun u s₀=>wpAny (model prog w) A (assign target env v) (fun u s₂=>wpAny (model prog w) A (execs body env) (fun f s₃=>match f with
          | .next | .cont=>∃ m,m < n∧I m s₃
          | .brk=>N s₃
          | .ret v=>V v s₃) EE s₂) EE s₀) EE s₁) EE s)
    (n:Nat) (h:I n s):codeAny (model prog w) A (.forLoop target it body [] env) R s:=
  forLoop_let I (turn (fun s=>R (.ok .next) s) (fun v s=>R (.ok (.ret v)) s) _ (fun u h=>h) fun u u h=>h) n h
end
section
variable {G:Gl} {I:FI} {Φ:FEnv} {k:Nat} {sc:Scope} {env:Env} {s0:Shared} {X0 X W X1 W1:Addr→Prop} {s s1 s2:Shared} {σ σ':St} {A:Around} {E:Value→Shared→Prop}
theorem SP.turnJ {J:Addr} {h5:Heap} {tk:Nat} (X2:Addr→Prop) (e:Ent G s0 X0 X W s) (p:SP G I sc env s0 X0 X W s X1 W1 s1 σ) (nJ:s.heap.get? J=none) (F5:FrOK G I sc (allI I) env X2 W1 h5 σ) (k5:∀ b o,b ≠ J→s1.heap.get? b=some o→h5.get? b=some o)
    (h1:∀ a,X2 a→X1 a) (h2:∀ a,a ≠ J→X1 a→X2 a):SP G I sc env s0 X0 X W s X2 W1 { s1 with heap:=h5,toks:=tk } σ where
  fr:=F5
  ent:={
    base:=p.ent.base
    live0:=p.ent.live0
    kp:=by
      have nJ0:s0.heap.get? J=none:=none_of_none (fun o=>Keeps.get e.kp J o) nJ
      obtain ⟨h0,t0,rfl,k0⟩:=p.ent.kp
      exact Keeps.mk' fun b o q=>k5 b o (fun z=>by rw [z,nJ0] at q; cases q) (k0 b o q)
    x0:=fun a q=>h2 a (fun z=>by
      obtain ⟨o,eo⟩:=e.live0 a q
      rw [z,none_of_none (fun o=>Keeps.get e.kp J o) nJ] at eo
      cases eo) (p.ent.x0 a q)
    w0:=p.ent.w0 }
  kp:=by
    obtain ⟨h0,t0,rfl,k0⟩:=p.kp
    exact ⟨h5,tk,rfl,fun b o n q=>k5 b o (fun z=>by rw [z,nJ] at q; cases q) (k0 b o n q)⟩
  xn:=fun a q=>p.xn a (h1 a q)
  wn:=p.wn
  xk:=fun a o eo x w=>h2 a (fun z=>by rw [z,nJ] at eo; cases eo) (p.xk a o eo x w)
theorem flow_ret:∀ {f:Flow} {fl:Fl},FlowOK G X0 s f fl→fl.ctorIdx=2→∃ v,f=.ret v
  | .ret v,.ret _,_,_=>⟨v,rfl⟩
  | .next,.next,_,h | .cont,.cont,_,h=>nomatch h
theorem flow_ret' {v:Value}:∀ {fl:Fl},FlowOK G X0 s (.ret v) fl→fl.ctorIdx=2
  | .ret _,_=>rfl
  | .next,h | .cont,h=>h.elim
theorem ps_for {tg:List Nat} {one:Bool} {it:TI} {body:TSs} (hi:PI G I Φ k it) (hb:PSs G I Φ k body):PS G I Φ k (.forS tg one it body):=by
  intro sc env s0 X0 X W s σ σ' A E st fl hc rm F e ev
  refine onFor_ hc fun t ie b els pos hc=>and_ hc fun c0 hc=>and_ hc fun hc hcb=>and_ hc fun hc hci=>and_ hc fun hok ht=>bind_ ev fun ds e1 ev=>?_
  cases List.isEmpty_iff.mp c0
  have hnm':=(Bool.or_eq_true_iff.mp (both2 hok)).imp_right (Bool.not_eq_true' one).mp
  obtain ⟨hf,hlen⟩:=hi sc _ env X W s σ A E _ ds hci (both1 hok) rm F e.b e1
  refine wpAny_For (wpAny_mono hf (fun x s1 h1=>?_) fun u u x=>x) (plain_set (chkI_plain hci))
  obtain ⟨k1,hit⟩:=h1
  have p1:=SP.keeps F e k1
  have F1:=p1.fr
  have en1:=p1.ent
  refine hit _ _ fun J h2 tk2 nJ lJ k2 hSm=>?_
  have F2:FrOK G I sc (allI I) env (fun b=>X b ∨ b=J) W h2 σ:=F1.grow (N:=fun b=>b=J) (W':=W) k2 (fun b q=>by subst q; exact ⟨nJ,lJ⟩) (fun b w=>w) fun b w=>.inl (F1.wx b w)
  obtain ⟨Sm,IT,hs0⟩:=hSm (fun b=>X b ∨ s1.heap.get? b=none) (.inr nJ) fun b o q hx=>by
    rcases hx with hx | hx
    · exact hx
    · rw [q] at hx; cases hx
  have kk2:Keeps s1 { s1 with heap:=h2,toks:=tk2 }:=Keeps.mk' k2
  have p2:SP G I sc env s0 X0 X W s1 (fun b=>X b ∨ b=J) W { s1 with heap:=h2,toks:=tk2 } σ:=
    ⟨F2,en1.step (Keeps.toW kk2) (fun a q=>.inl (en1.x0 a q)) fun u w=>.inl w,Keeps.toW kk2,fun a q=>by
      rcases q with q | q
      · exact .inl q
      · rw [q]; exact .inr nJ,fun a q=>.inl q,fun a o u q u=>.inl q⟩
  have nl:J ≠ env.locals:=fun q=>by obtain ⟨m,o,es,ep,e',_⟩:=F1.ns; rw [← q,nJ] at e'; cases e'
  have nc:∀ y c,env.cells.lookup y=some c→c ≠ J:=fun y c hc q=>by
    obtain ⟨o,e'⟩:=F1.live c (F1.cx y c hc).1
    rw [q,nJ] at e'; cases e'
  have nWJ:¬ W J:=fun w=>by
    obtain ⟨o,e'⟩:=F1.live J (F1.wx J w)
    rw [nJ] at e'; cases e'
  have tin:∀ i ∈ tg,i ∈ allI I:=fun i hi'=>by
    obtain ⟨_,x,hx,_⟩:=tgtE_facts ht i hi'
    exact mem_allI hx
  let Inv:Nat→Shared→Prop:=fun n s'=>∃ i Xc Wc σc,SP G I sc env s0 X0 X W s1 Xc Wc s' σc∧Xc J∧¬ Wc J∧Sm i s'.heap∧forL (evSs Φ body) one tg (ds.drop i) σc=some (fl,σ')∧i ≤ ds.length∧n=ds.length + 1 - i
  refine forLoop_var Inv ?_ (ds.length + 1) ⟨0,_,W,σ,p2,.inr rfl,nWJ,hs0,by rw [List.drop_zero]; exact ev,Nat.zero_le _,rfl⟩
  rintro N V EE hN hV n s' ⟨i,Xc,Wc,σc,sp,xJ,wJ,hs,hc,hile,rfl⟩
  have noJ:∀ i x a,I.tbl[i]?=some x→i ∈ I.own→St.get σc i ≠ none→rd s'.heap env x=some (.ref a)→a ≠ J:=fun i x a g1 g2 g3 g4 z=>by
    cases hq:St.get σc i with
    | none=>exact g3 hq
    | some d=>
      obtain ⟨a',e',_,w⟩:=sp.fr.owns i x d g1 (rd_vis sp.fr g4) hq g2
      rw [g4] at e'
      cases e'
      exact wJ (z ▸ w (mem_allI g1))
  have xX:∀ (Y V:Addr→Prop) (s'':Shared) (τ:St),SP G I sc env s0 X0 X W s1 Y V s'' τ→∀ a,Y a→(X a ∨ s1.heap.get? a=none):=fun Y V s'' τ sp a q=>sp.xn a q
  by_cases hlt:i < ds.length
  · rw [List.drop_eq_getElem_cons hlt] at hc
    refine bind_ hc fun σ1 hbt hc=>bind_ hc fun r e2 hc=>?_
    have hdi:ds[i]?=some ds[i]:=List.getElem?_eq_getElem hlt
    have key:∀ (N:Shared→Prop) (QQ:Value→Shared→Prop) (EE:Value→Shared→Prop),(∀ v h' tk',Sm (i + 1) h'→Rep G Xc h' v ds[i]→(∀ b o,b ≠ J→s'.heap.get? b=some o→h'.get? b=some o)→QQ v { s' with heap:=h',toks:=tk' })→
        wpAny (model G.prog G.w) A (pyNext (.ref J)) (fun r s₁=>match r with | none=>N s₁ | some v=>wpAny (model G.prog G.w) A (letOwnedTupleGo t (.ref J) v) (fun u s₂=>QQ v s₂) EE s₁) EE s':=fun N QQ EE hQ=>by
      refine wpAny_mono (IT.next i ds[i] t s' QQ EE (tgtE_fit ht hnm' hbt) hs hdi fun v h' tk' a1 a2 a3=>hQ v h' tk' a1 (a2 Xc sp.fr.live fun a q=>xX _ _ _ _ sp a q) a3) (fun r s₁ hr=>?_) fun u u e=>e
      cases r with
      | none=>exact hr.elim
      | some v=>exact hr
    refine key _ _ _ fun v h5 tk5 hs5 r5 k5=>?_
    obtain ⟨F5,rd5⟩:=sp.fr.monoJ (h':=h5) xJ (let ⟨o,fs,q,_⟩:=IT.live _ _ hs5; ⟨o,q⟩) nl nc noJ k5
    have sp5:=SP.turnJ (tk:=tk5) Xc en1 sp nJ F5 k5 (fun a q=>q) fun a u q=>q
    refine wpAny_mono (FrOK.assign_tgt (s:={ s' with heap:=h5,toks:=tk5 }) F5 rm.handled ht tin r5 hbt) (fun u s6 h6=>?_) fun u u e=>e
    obtain ⟨F6,k6,_⟩:=h6
    have sp56:=SP.stored sp5.fr sp5.ent F6 k6
    have sp6:=SP.trans F1.wx sp5 sp56
    have kx:∀ (sa sb:Shared) (V:Addr→Prop) (wx:∀ a,V a→(X a ∨ s1.heap.get? a=none)),KeepsW V sa sb→∀ b o,¬ (X b ∨ s1.heap.get? b=none)→sa.heap.get? b=some o→sb.heap.get? b=some o:=fun sa sb V wx kw b o n q=>KeepsW.get kw b o (fun w=>n (wx b w)) q
    have hs6:Sm (i + 1) s6.heap:=IT.frame _ _ _ hs5 (fun o q=>KeepsW.get k6 J o wJ q) (kx _ _ _ (fun a w=>xX _ _ _ _ sp5 a (sp5.fr.wx a w)) k6)
    obtain ⟨oJ,_,eJ,_⟩:=IT.live _ _ hs6
    refine wpAny_mono (hb sc env s0 X0 Xc Wc s6 σ1 r.2 A _ _ r.1 hcb rm F6 sp6.ent e2) (fun f s7 h7=>?_) fun u u e=>e
    obtain ⟨X7,W7,sp67,fo⟩:=h7
    have sp7:=SP.trans F1.wx sp6 sp67
    have next:forL (evSs Φ body) one tg (ds.drop (i + 1)) r.2=some (fl,σ')→∃ m,m < ds.length + 1 - i∧Inv m s7:=fun hc=>
      ⟨ds.length + 1 - (i + 1),Nat.sub_lt_sub_left (Nat.lt_succ_of_lt hlt) (Nat.lt_succ_self i),i + 1,X7,W7,r.2,sp7,sp67.xk J oJ eJ xJ wJ,fun w=>(sp67.wn J w).elim wJ fun q=>absurd (eJ.symm.trans q) (fun z=>nomatch z),IT.frame _ _ _ hs6 (fun o q=>KeepsW.get sp67.kp J o wJ q) (kx _ _ _ (fun a w=>xX _ _ _ _ sp6 a (sp6.fr.wx a w)) sp67.kp),hc,hlt,rfl⟩
    refine ife_ hc (fun q hc=>?_) fun q hc=>?_
    · cases hc
      cases f with
      | ret v=>exact hV _ _ ⟨X7,W7,SP.trans F.wx p1 sp7,fo⟩
      | brk=>exact fo.elim
      | _=>let ⟨_,e⟩:=flow_ret fo q; nomatch e
    · cases f with
      | ret v=>exact (q (flow_ret' fo)).elim
      | brk=>exact fo.elim
      | _=>exact next hc
  · have hie:i=ds.length:=om154 hile hlt
    subst hie
    rw [List.drop_length] at hc
    cases hc
    refine wpAny_mono (IT.done _ N _ hs fun h5 tk5 k5=>?_) (fun r s5 hr=>?_) fun u u e=>e
    · have F5:=sp.fr.dropJ (h':=h5) wJ xJ nl nc noJ k5
      exact hN _ ⟨_,_,SP.trans F.wx p1 (SP.turnJ (tk:=tk5) (fun a=>Xc a∧a ≠ J) en1 sp nJ F5 k5 (fun a q=>q.1) fun a n q=>⟨q,n⟩),trivial⟩
    · cases r with
      | none=>exact hr
      | some _=>exact hr.elim
mutual
noncomputable def okS:TS→Bool
  | .assign _ t | .unpack _ t | .append _ t | .augVar _ t | .ret t=>okE t
  | .assign2 _ _ a b | .setItem _ a b | .augItem _ a b=>okE a && okE b
  | .ifS t a b=>okE t && (okSs a && okSs b)
  | .forS _ _ it b=>okI it && okSs b
  | .popUnpack _ _ | .pop0 _ | .move _ _ | .cont | .dead=>true
noncomputable def okSs:TSs→Bool
  | .nil=>true
  | .cons t r=>okS t && okSs r
end
mutual
theorem all_S (C:CxOK G Φ k):∀ t:TS,okS t=true→PS G I Φ k t
  | .assign _ _,h=>ps_assign C h
  | .assign2 _ _ a b,h=>ps_assign2 (all_E C a (both1 h)).1 (all_E C b (both2 h)).1
  | .unpack _ t,h=>ps_unpack (all_E C t h).1
  | .popUnpack _ _,_=>ps_popUnpack
  | .append _ t,h=>ps_append (all_E C t h).1
  | .pop0 _,_=>ps_pop0
  | .setItem _ a b,h=>ps_setItem (all_E C a (both1 h)).1 (all_E C b (both2 h)).1
  | .augItem _ a b,h=>ps_augItem (all_E C a (both1 h)).1 (all_E C b (both2 h)).1
  | .augVar _ t,h=>ps_augVar (all_E C t h).1
  | .move _ _,_=>ps_move
  | .ifS t a b,h=>ps_if (all_E C t (both1 h)).2 (all_Ss C a (both1 (both2 h))) (all_Ss C b (both2 (both2 h)))
  | .forS _ _ it b,h=>ps_for (all_I C it (both1 h)).1 (all_Ss C b (both2 h))
  | .ret t,h=>ps_ret (all_E C t h).1
  | .cont,_=>ps_cont
  | .dead,_=>ps_dead
theorem all_Ss (C:CxOK G Φ k):∀ t:TSs,okSs t=true→PSs G I Φ k t
  | .nil,_=>pss_nil
  | .cons t r,h=>pss_cons (all_S C t (both1 h)) (all_Ss C r (both2 h))
end
end
theorem bindL_other {kd:Str→Option NameKind} {x:Str}:∀ {l:List (Str × Value)} {m:Str→Option Value},x ∉ l.map (·.1)→bindL kd l m x=m x
  | [],_,_=>rfl
  | (n,v) :: r,m,h=>by
    simp only [List.map_cons,List.mem_cons,not_or] at h
    unfold bindL
    rw [bindL_other h.2]
    split
    · simp [h.1]
    · rfl
theorem bindC_other {kd:Str→Option NameKind} {x:Str}:∀ {l:List (Str × Value)} {m:Str→Option Value},x ∉ l.map (·.1)→bindC kd l m x=m x
  | [],_,_=>rfl
  | (n,v) :: r,m,h=>by
    simp only [List.map_cons,List.mem_cons,not_or] at h
    unfold bindC
    rw [bindC_other h.2]
    split
    · rfl
    · simp [h.1]
theorem bindL_get {kd:Str→Option NameKind} {x:Str} {v:Value}:∀ {l:List (Str × Value)} {m:Str→Option Value},(l.map (·.1)).Nodup→(x,v) ∈ l→kd x=some .local→bindL kd l m x=some v
  | (n,w) :: r,m,hn,hm,hk=>by
    simp only [List.map_cons,List.nodup_cons] at hn
    unfold bindL
    rcases List.mem_cons.mp hm with e | e
    · cases e
      rw [bindL_other hn.1,if_pos hk]
      simp
    · exact bindL_get hn.2 e hk
theorem bindC_get {kd:Str→Option NameKind} {x:Str} {v:Value}:∀ {l:List (Str × Value)} {m:Str→Option Value},(l.map (·.1)).Nodup→(x,v) ∈ l→kd x=some .cell→bindC kd l m x=some v
  | (n,w) :: r,m,hn,hm,hk=>by
    simp only [List.map_cons,List.nodup_cons] at hn
    unfold bindC
    rcases List.mem_cons.mp hm with e | e
    · cases e
      rw [bindC_other hn.1,if_neg (by rw [hk]; decide)]
      simp
    · exact bindC_get hn.2 e hk
noncomputable def start (I:FI) (ds:List D):St:=ds.map some ++ List.replicate (I.tbl.length - ds.length) none
theorem start_get {I:FI} {ds:List D} {i:Nat} {d:D} (h:St.get (start I ds) i=some d):ds[i]?=some d:=by
  unfold St.get start at h
  rw [List.getElem?_append] at h
  split at h
  · rw [List.getElem?_map] at h
    cases q:ds[i]? with
    | none=>rw [q] at h; cases h
    | some e=>rw [q] at h; simpa using h
  · rw [List.getElem?_replicate] at h
    split at h <;> simp at h
theorem start_length {I:FI} {ds:List D} (h:ds.length ≤ I.tbl.length):(start I ds).length=I.tbl.length:=by
  unfold start; simp; exact om15 h
structure DefOK (I:FI) (scope:Scope) (n:Nat):Prop where
  kind:scope.kind=.function
  co:scope.isCoroutine=false
  gen:scope.isGenerator=false
  nd:(scope.names.map (·.1)).Nodup
  free:∀ p ∈ scope.names,p.2 ≠ .free
  tbl:I.tbl.Nodup
  par:∀ x ∈ I.tbl.take n,mine (scope.names.lookup x)=true
  own:∀ i < n,i ∉ I.own
  len:n ≤ I.tbl.length
section
variable {G:Gl} {I:FI} {Φ:FEnv} {k n:Nat} {scope:Scope} {X:Addr→Prop} {s:Shared} {A:Around} {E:Value→Shared→Prop}
theorem entry_frame {s':Shared} {qual:Str} {f:Addr} {cdv:Value} {vs:List Value} {ds:List D} (O:DefOK I scope n) (lv:Live X s.heap) (B:BaseOK G s.heap) (hl:ds.length=n) (r:RepL G X s.heap vs ds) {env:Env} (he:env=envOfC qual scope s.heap.objs.size f cdv)
    (x:InCallC s env.locals (bindL env.kindOf ((I.tbl.take n).zip vs) fun u=>none) env.cells (bindC env.kindOf ((I.tbl.take n).zip vs) fun u=>none) s') :
    ∃ X' W,FrOK G I scope (allI I) env X' W s'.heap (start I ds)∧Ent G s X X' W s'∧(∀ a,X' a→X a ∨ s.heap.get? a=none)∧∀ a o,s.heap.get? a=some o→a ≠ env.locals∧∀ y c,env.cells.lookup y=some c→c ≠ a:=by
  obtain ⟨nL,nC⟩:(∀ o,s.heap.get? env.locals ≠ some o)∧(∀ y c,env.cells.lookup y=some c→∀ o,s.heap.get? c ≠ some o):=by
    refine ⟨fun o e=>?_,fun y c hc o e=>?_⟩
    · exact absurd (Heap.lt_size e) (Nat.not_lt.mpr x.toInCall.fresh)
    · have h1:=x.above y c (mem_of_lookup hc)
      have h2:=x.toInCall.fresh
      exact absurd (Heap.lt_size e) (Nat.not_lt.mpr (Nat.le_of_lt (Nat.lt_of_le_of_lt h2 h1)))
  have kp:=x.toInCall.keep
  have noX:∀ a,X a→a ≠ env.locals∧∀ y c,env.cells.lookup y=some c→c ≠ a:=fun a q=>by
    obtain ⟨o,e⟩:=lv a q
    exact ⟨fun z=>nL o (z ▸ e),fun y c hc z=>nC y c hc o (z ▸ e)⟩
  have kd:∀ y,env.kindOf y=scope.names.lookup y:=fun y=>by rw [he]; rfl
  have hlv:=r.length
  have hzn:(((I.tbl.take n).zip vs).map (·.1))=I.tbl.take n:=by
    rw [List.map_fst_zip]
    rw [List.length_take,hlv,hl]
    have:=O.len
    exact om155
  have znd:(((I.tbl.take n).zip vs).map (·.1)).Nodup:=by rw [hzn]; exact O.tbl.sublist (List.take_sublist _ _)
  let W:Addr→Prop:=fun a=>a=env.locals ∨ ∃ y,env.cells.lookup y=some a
  let X':Addr→Prop:=fun a=>X a ∨ W a
  have wk:∀ a o,s.heap.get? a=some o→X' a→X a:=fun a o e q=>by
    rcases q with q | q | ⟨y,q⟩
    · exact q
    · exact absurd (q ▸ e) (nL o)
    · exact absurd e (nC y a q o)
  have cellx:∀ y,inCell (env.kindOf y)=true→env.kindOf y=some .cell:=fun y hy=>by
    cases hq:env.kindOf y with
    | none=>rw [hq] at hy; cases hy
    | some k'=>
      rw [hq] at hy
      cases k' <;> simp only [inCell,Bool.false_eq_true] at hy
      · rfl
      · rw [kd] at hq
        exact absurd rfl (O.free _ (mem_of_lookup hq))
  have F:FrOK G I scope (allI I) env X' W s'.heap (start I ds):=
  { kind:=by rw [he]; exact O.kind
    glob:=by rw [he]; rfl
    blt:=by rw [he]; rfl
    kinds:=fun y=>.inl (kd y)
    nocd:=fun y hy=>absurd rfl (O.free _ (mem_of_lookup hy))
    size:=start_length (by have:=O.len; exact om156 hl this)
    nodup:=O.tbl
    live:=fun a q=>by
      rcases q with q | q | ⟨y,q⟩
      · obtain ⟨o,e⟩:=lv a q; exact ⟨o,kp a o e⟩
      · obtain ⟨o,es,ep,e,_⟩:=x.toInCall.ns; exact ⟨o,q ▸ e⟩
      · obtain ⟨o,e,_⟩:=x.cell y a q; exact ⟨o,e⟩
    wx:=fun a w=>.inr w
    ns:=⟨_,x.toInCall.ns⟩
    lx:=.inr (.inl rfl)
    cells:=fun y hy=>by
      have h1:=cellx y hy
      rw [kd] at h1
      have h2:((cellsFrom (s.heap.objs.size + 1) scope.names []).lookup y).isSome=true:=cellsFrom_some _ _ _ (.inl h1)
      have h3:env.cells=cellsFrom (s.heap.objs.size + 1) scope.names []:=by rw [he]; rfl
      rw [← h3] at h2
      obtain ⟨c,hc⟩:=Option.isSome_iff_exists.mp h2
      exact ⟨c,_,hc,x.cell y c hc⟩
    cx:=fun y c hc=>⟨.inr (.inr ⟨y,hc⟩),fun z=>by have:=x.above y c (mem_of_lookup hc); rw [z] at this; exact absurd this (Nat.lt_irrefl _)⟩
    cinj:=fun y z c h1 h2=>name_of_addr x.apart (mem_of_lookup h1) (mem_of_lookup h2)
    writable:=fun i hi y hy=>⟨fun u=>.inl rfl,fun u c hc=>.inr ⟨y,hc⟩⟩
    vars:=fun i y d h1 h2 h3 h4=>by
      have h5:=start_get h3
      have hi:i < n:=by rw [← hl]; exact (List.getElem?_eq_some_iff.mp h5).1
      obtain ⟨v,hv,rv⟩:=r.get h5
      have hm:(y,v) ∈ (I.tbl.take n).zip vs:=by
        refine List.mem_of_getElem? (i:=i) ?_
        rw [List.getElem?_zip_eq_some]
        exact ⟨by rw [List.getElem?_take,if_pos hi]; exact h1,hv⟩
      have hmine:=O.par y (List.mem_of_getElem? (i:=i) (by rw [List.getElem?_take,if_pos hi]; exact h1))
      refine ⟨v,?_,(rv.weak wk).mono fun a o u=>kp a o⟩
      cases hq:env.kindOf y with
      | none=>rw [kd] at hq; rw [hq] at hmine; cases hmine
      | some k'=>
        have hq':=hq
        rw [kd] at hq'
        rw [hq'] at hmine
        cases k' <;> simp only [mine,Bool.false_eq_true] at hmine
        · rw [rd_local hq x.toInCall.ns]
          exact bindL_get znd hm hq
        · have h1:=hq'
          have h2:((cellsFrom (s.heap.objs.size + 1) scope.names []).lookup y).isSome=true:=cellsFrom_some _ _ _ (.inl h1)
          have h3:env.cells=cellsFrom (s.heap.objs.size + 1) scope.names []:=by rw [he]; rfl
          rw [← h3] at h2
          obtain ⟨c,hc⟩:=Option.isSome_iff_exists.mp h2
          rw [rd_cell (by rw [hq]; rfl) hc (x.cell y c hc)]
          exact bindC_get znd hm hq
    owns:=fun i y d h1 h2 h3 h4=>by
      have h5:=start_get h3
      exact absurd h4 (O.own i (by rw [← hl]; exact (List.getElem?_eq_some_iff.mp h5).1))
    apart:=fun i j y z a h1 h2 h3 h4 h5 h6 h7=>by
      cases hq:St.get (start I ds) i with
      | none=>exact absurd hq h6
      | some d=>
        have h5:=start_get hq
        exact absurd h2 (O.own i (by rw [← hl]; exact (List.getElem?_eq_some_iff.mp h5).1)) }
  have nw:∀ a,W a→s.heap.get? a=none:=fun a w=>by
    cases q:s.heap.get? a with
    | none=>rfl
    | some o=>
      rcases w with w | ⟨y,w⟩
      · exact absurd (w ▸ q) (nL o)
      · exact absurd q (nC y a w o)
  refine ⟨X',W,F,⟨B,lv,?_,fun a q=>.inl q,nw⟩,fun a q=>q.elim .inl fun w=>.inr (nw a w),fun a o e=>⟨fun z=>nL o (z ▸ e),fun y c hc z=>nC y c hc o (z ▸ e)⟩⟩
  obtain ⟨h',tk,rfl,q⟩:=x.done
  exact Keeps.mk' q
theorem code_mine {f:Addr} {name qual:Str} {params:Arguments} {body:List Stmt} {dV kV doc pm cdv ct oc:Value} {an od:Option Addr} {osl:Array (Option Value)} {t:TSs} {vs:List Value} {ds:List D} {d:D} {σ':St} {R:Result→Shared→Prop} {args:Args}
    (ho:G.K.lookup f=some ⟨oc,od,.func (fnOf name qual params body scope dV kV doc pm an cdv ct),osl⟩) (hcd:codeIn G.K cdv qual=true) (O:DefOK I scope n) (hbind:BindsTo s (fnOf name qual params body scope dV kV doc pm an cdv ct) args ((I.tbl.take n).zip vs))
    (hchk:chkSs I scope t body=true) (hok:okSs t=true) (C:CxOK G Φ k) (hl:ds.length=n) (ev:evSs Φ t (start I ds)=some (.ret d,σ'))
    (rm:Room A (k + 1)) (B:BaseOK G s.heap) (lv:Live X s.heap) (r:RepL G X s.heap vs ds) (hR:∀ v s',Keeps s s'→Rep G X s'.heap v d→R (.ok (.ret v)) s') :
    codeAny (model G.prog G.w) A (.call (.ref f) args) R s:=by
  have hlv:=r.length
  refine codeAny_call_function (fd:=fnOf name qual params body scope dV kV doc pm an cdv ct) (Room.dp rm) (B.K _ _ ho) rfl O.co O.gen rfl (codeRec_of B.K hcd) (hbind _ _ _ _ ?_)
  refine wpAny_newFunctionEnv_cells O.kind (fun y hy=>?_) fun env he s' x=>?_
  · have hy':y.1 ∈ I.tbl.take n:=(List.of_mem_zip (show (y.1,y.2) ∈ _ from hy)).1
    have hm:=O.par y.1 hy'
    cases hq:scope.names.lookup y.1 with
    | none=>rw [hq] at hm; cases hm
    | some k'=>
      rw [hq] at hm
      cases k' <;> simp only [mine,Bool.false_eq_true] at hm
      · exact .inl rfl
      · exact .inr ⟨rfl,cellsFrom_some _ _ _ (.inl hq)⟩
  · have he':env=envOfC qual scope s.heap.objs.size f cdv:=he
    obtain ⟨X',W,F,e,_⟩:=entry_frame O lv B hl r he' x
    refine ⟨B.T.nolimit.keeps x.toInCall.keep,codeAny_func ?_⟩
    refine wpAny_mono (all_Ss C t hok scope env s X X' W s' (start I ds) σ' (A.deeper env) _ body (.ret d) hchk rm.deeper F e ev) (fun fl s2 h2=>?_) fun u u z=>z
    obtain ⟨X2,W2,sp,fo⟩:=h2
    cases fl <;> first | exact fo.elim | exact hR _ _ sp.ent.kp fo
theorem call_mine {f:Addr} {name qual:Str} {params:Arguments} {body:List Stmt} {dV kV doc pm cdv ct oc:Value} {an od:Option Addr} {osl:Array (Option Value)} {t:TSs} {vs:List Value} {ds:List D} {d:D} {σ':St}
    (ho:G.K.lookup f=some ⟨oc,od,.func (fnOf name qual params body scope dV kV doc pm an cdv ct),osl⟩) (hcd:codeIn G.K cdv qual=true) (O:DefOK I scope n) (hbind:BindsTo s (fnOf name qual params body scope dV kV doc pm an cdv ct) ⟨vs,[]⟩ ((I.tbl.take n).zip vs))
    (hchk:chkSs I scope t body=true) (hok:okSs t=true) (C:CxOK G Φ k) (hl:ds.length=n) (ev:evSs Φ t (start I ds)=some (.ret d,σ'))
    (rm:Room A (k + 1)) (B:BaseOK G s.heap) (lv:Live X s.heap) (r:RepL G X s.heap vs ds) :
    wpAny (model G.prog G.w) A (call (.ref f) vs) (fun v s'=>Keeps s s'∧Rep G X s'.heap v d) E s:=
  wpAny_call (code_mine ho hcd O hbind hchk hok C hl ev rm B lv r fun v s' k' r'=>⟨k',r'⟩)
end
theorem wp_skip {M:Model} {A:Around} {s:Shared} {α:Type} {Q:α→Shared→Prop} {E:Value→Shared→Prop} {c:Prop} [d:Decidable c] {a b:Sem α} (n:¬ c) (h:wpAny M A b Q E s):wpAny M A (if c then a else b) Q E s:=by rw [if_neg n]; exact h
theorem wp_forIn {M:Model} {A:Around} {s:Shared} {α β:Type} {Q:β→Shared→Prop} {E:Value→Shared→Prop} {f:α→β→Sem (ForInStep β)} (g:β→α→β) (hf:∀ x r,f x r=pure (.yield (g r x))):∀ {l:List α} {i:β},Q (l.foldl g i) s→wpAny M A (forIn l i f) Q E s
  | [],_,h=>wpAny_pure h
  | x :: l,i,h=>by
    rw [List.forIn_cons,hf,pure_bind]
    exact wp_forIn g hf h
noncomputable def addSlot (sl:List (Str × Value)) (p:Str × Value):List (Str × Value):=if (sl.lookup p.1).isNone=true then sl ++ [(p.1,p.2)] else sl
theorem binds_core {s:Shared} {fd:FuncData} {names:List Str} {vs:List Value} {ds:List Value} {slots r:List (Str × Value)} (h1:fd.params.posonlyargs=[]) (h2:fd.params.args.map (·.arg)=names) (h3:fd.params.vararg=none) (h4:fd.params.kwonlyargs=[]) (h5:fd.params.kwarg=none)
    (hdef:∀ (M:Model) (A:Around) (E:Value→Shared→Prop) (Q:Option (Array Value)→Shared→Prop),(∀ v,(v.getD #[]).toList=ds→Q v s)→wpAny M A (seqItems? fd.defaults) Q E s) (hl:vs.length ≤ names.length) (hd:ds.length ≤ names.length)
    (hm:(names.take (names.length - ds.length)).filter (fun n=>((names.zip vs).lookup n).isNone)=[]) (hs:List.foldl addSlot (names.zip vs) ((names.drop (names.length - ds.length)).zip ds)=slots) (hr:names.filterMap (fun n=>(slots.lookup n).map (n,·))=r) :
    BindsTo s fd ⟨vs,[]⟩ r:=by
  intro M A E Q hq
  obtain ⟨ar,kd,df,hp,hN⟩:∃ ar kd df,fd.params=⟨[],ar,none,[],kd,none,df⟩∧ar.map (·.arg)=names:=by
    revert h1 h2 h3 h4 h5
    cases fd.params
    rintro rfl rfl rfl rfl rfl
    exact ⟨_,_,_,rfl,rfl⟩
  unfold bindArgs
  refine wpAny_bind (wpAny_pure ?_)
  rw [hp]
  refine wpAny_bind (hdef _ _ _ _ fun v hv=>?_)
  rw [hv]
  dsimp only
  rw [hN]
  refine wp_skip (fun q=>absurd hl (Nat.not_le_of_lt (decide_eq_true_eq.mp (Bool.and_eq_true_iff.mp q).1))) ?_
  show wpAny M A (if (!(List.filter (fun n=>((names.zip vs).lookup n).isNone) (names.take (names.length - (ds.drop (ds.length - names.length)).length))).isEmpty)=true then _ else _) Q E s
  rw [Nat.sub_eq_zero_of_le hd,List.drop_zero,hm]
  refine wp_skip (fun q=>nomatch q) (wpAny_bind (wp_forIn addSlot (fun x r=>ite_P (·=_) (fun q=>?_) fun q=>?_) ?_))
  · exact congrArg (fun z=>pure (ForInStep.yield z)) (if_pos q).symm
  · exact congrArg (fun z=>pure (ForInStep.yield z)) (if_neg q).symm
  refine wpAny_bind (wpAny_pure (wp_skip (fun q=>nomatch q) (wpAny_pure ?_)))
  show Q (List.filterMap (fun n=>(List.lookup n (List.foldl addSlot (names.zip vs) ((names.drop (names.length - (ds.drop (ds.length - names.length)).length)).zip (ds.drop (ds.length - names.length))))).map (n,·)) (names ++ [])) s
  rw [List.append_nil,Nat.sub_eq_zero_of_le hd,List.drop_zero,hs,hr]
  exact hq
theorem zip_filterMap:∀ (names:List Str) (vs:List Value),names.length=vs.length→names.Nodup→names.filterMap (fun n=>((names.zip vs).lookup n).map (n,·))=names.zip vs
  | [],_,_,_=>by simp
  | n :: ns,[],h,_=>by simp at h
  | n :: ns,v :: vs,h,hn=>by
    simp only [List.nodup_cons] at hn
    rw [List.filterMap_cons]
    simp only [List.zip_cons_cons,List.lookup_cons,beq_self_eq_true,Option.map_some]
    congr 1
    have key:∀ (l:List Str) (g h:Str→Option (Str × Value)),(∀ x ∈ l,g x=h x)→l.filterMap g=l.filterMap h:=fun l g h e=>by
      induction l with
      | nil=>rfl
      | cons a r ih=>rw [List.filterMap_cons,List.filterMap_cons,e a (.head _),ih fun x hx=>e x (.tail _ hx)]
    refine (key _ _ _ fun x hx=>?_).trans (zip_filterMap ns vs (by simpa using h) hn.2)
    have:(x == n)=false:=beq_eq_false_iff_ne.mpr fun e=>hn.1 (e ▸ hx)
    rw [this]
theorem zip_missing:∀ (names:List Str) (vs:List Value),names.length=vs.length→names.filter (fun n=>((names.zip vs).lookup n).isNone)=[]
  | [],_,_=>rfl
  | n :: ns,[],h=>by simp at h
  | n :: ns,v :: vs,h=>by
    rw [List.filter_eq_nil_iff]
    intro x hx
    have key:∀ (ns:List Str) (vs:List Value),ns.length=vs.length→x ∈ ns→((ns.zip vs).lookup x).isSome=true:=by
      intro ns
      induction ns with
      | nil=>intro vs _ h; cases h
      | cons a r ih=>
        intro vs h hx
        cases vs with
        | nil=>simp at h
        | cons b t=>
          rw [List.zip_cons_cons,List.lookup_cons]
          set_option tactic.hygienic true in split
          · rfl
          · rename_i q
            rcases List.mem_cons.mp hx with e | e
            · subst e; simp at q
            · exact ih t (by simpa using h) e
    have:=key (n :: ns) (v :: vs) h hx
    cases q:List.lookup x ((n :: ns).zip (v :: vs)) with
    | none=>rw [q] at this; cases this
    | some w=>exact fun z=>nomatch z
theorem binds_plain {s:Shared} {fd:FuncData} {names:List Str} {vs:List Value} (h1:fd.params.posonlyargs=[]) (h2:fd.params.args.map (·.arg)=names) (h3:fd.params.vararg=none) (h4:fd.params.kwonlyargs=[]) (h5:fd.params.kwarg=none)
    (h6:fd.defaults=.none) (hl:vs.length=names.length) (hn:names.Nodup):BindsTo s fd ⟨vs,[]⟩ (names.zip vs):=
  binds_core (ds:=[]) h1 h2 h3 h4 h5 (fun M A E Q h=>by rw [h6]; exact wpAny_bind (wpAny_pure (wpAny_pure (h none rfl)))) (Nat.le_of_eq hl) (Nat.zero_le _) (by rw [List.length_nil,Nat.sub_zero,List.take_length]; exact zip_missing _ _ hl.symm) (by rw [List.zip_nil_right]; rfl) (zip_filterMap _ _ hl.symm hn)
theorem binds_two {s:Shared} {fd:FuncData} {n0 n1 n2:Str} {D:Addr} {od:Obj} {n:Nat} {v0 v1:Value} (h1:fd.params.posonlyargs=[]) (h2:fd.params.args.map (·.arg)=[n0,n1,n2]) (h3:fd.params.vararg=none) (h4:fd.params.kwonlyargs=[]) (h5:fd.params.kwarg=none)
    (h6:fd.defaults=.ref D) (hD:s.heap.get? D=some od) (hd:od.data=.seq #[.none,.none] n) (e1:(n1 == n0)=false) (e2:(n2 == n0)=false) (e3:(n2 == n1)=false) :
    BindsTo s fd ⟨[v0,v1],[]⟩ ([n0,n1,n2].zip [v0,v1,.none])∧∀ v2,BindsTo s fd ⟨[v0,v1,v2],[]⟩ ([n0,n1,n2].zip [v0,v1,v2]):=by
  have df:∀ (M:Model) (A:Around) (E:Value→Shared→Prop) (Q:Option (Array Value)→Shared→Prop),(∀ v,(v.getD #[]).toList=[Value.none,.none]→Q v s)→wpAny M A (seqItems? fd.defaults) Q E s:=fun M A E Q h=>by rw [h6]; exact wpAny_seqItems hD hd (h _ rfl)
  have g:∀ v2,List.filterMap (fun n=>(List.lookup n [(n0,v0),(n1,v1),(n2,v2)]).map (n,·)) [n0,n1,n2]=[(n0,v0),(n1,v1),(n2,v2)]:=fun v2=>by
    simp only [List.filterMap,List.lookup,beq_self_eq_true,e1,e2,e3,Option.map_some]
  exact ⟨binds_core h1 h2 h3 h4 h5 df (by simp) (by simp) (by simp [List.filter,List.lookup]) (by simp [addSlot,List.lookup,e1,e2,e3]) (g _),fun v2=>binds_core h1 h2 h3 h4 h5 df (by simp) (by simp) (by simp [List.filter,List.lookup]) (by simp [addSlot,List.lookup,e1,e2,e3]) (g v2)⟩
noncomputable def scOk (I:FI) (scope:Scope) (n:Nat):Bool:=
  scope.kind == .function && !scope.isCoroutine && !scope.isGenerator && decide (scope.names.map (·.1)).Nodup && scope.names.all (·.2 != .free) && decide I.tbl.Nodup && (I.tbl.take n).all (fun x=>mine (scope.names.lookup x)) && I.own.all (fun i=>decide (n ≤ i)) && decide (n ≤ I.tbl.length)
theorem scOk_def {I:FI} {scope:Scope} {n:Nat} (h:scOk I scope n=true):DefOK I scope n:=
  and_ h fun h h9=>and_ h fun h h8=>and_ h fun h h7=>and_ h fun h h6=>and_ h fun h h5=>and_ h fun h h4=>and_ h fun h h3=>and_ h fun h1 h2=>
    ⟨eqb_ h1,(Bool.not_eq_true' _).mp h2,(Bool.not_eq_true' _).mp h3,of_decide_eq_true h4,fun p hp=>bne_iff_ne.mp (List.all_eq_true.mp h5 p hp),of_decide_eq_true h6,List.all_eq_true.mp h7,fun i hi hm=>absurd (of_decide_eq_true (List.all_eq_true.mp h8 i hm)) (Nat.not_le_of_lt hi),of_decide_eq_true h9⟩
noncomputable def noDefaults (v:Value):Bool:=v == .none
noncomputable def onFunc (K:Frag) (fa:Addr) (k:FuncData→Bool):Bool:=match K.lookup fa with
  | some o=>if h:o.data.ctorIdx=7 then Data.func.elim o.data h k else false
  | none=>false
theorem onFunc_ {K:Frag} {fa:Addr} {k:FuncData→Bool} {p:Prop} (h:onFunc K fa k=true) (H:∀ oc od osl fd,K.lookup fa=some ⟨oc,od,.func fd,osl⟩→k fd=true→p):p:=by
  unfold onFunc at h
  cases e:K.lookup fa with
  | none=>rw [e] at h; cases h
  | some o=>
    rw [e] at h
    obtain ⟨oc,od,dt,osl⟩:=o
    exact dif_elim h fun q h=>Data.func.elim (motive:=fun dt=>K.lookup fa=some ⟨oc,od,dt,osl⟩→∀ q:dt.ctorIdx=7,Data.func.elim dt q k=true→p) dt q (fun fd e u h=>H oc od osl fd e h) e q h
noncomputable def onBody (b:FuncBody) (k:List Stmt→Bool):Bool:=if h:b.ctorIdx=0 then FuncBody.stmts.elim b h k else false
@[elab_as_elim] theorem onBody_ {b:FuncBody} {k:List Stmt→Bool} {motive:FuncBody→Prop} (h:onBody b k=true) (H:∀ ss,k ss=true→motive (.stmts ss)):motive b:=
  dif_elim h fun q h=>FuncBody.stmts.elim (motive:=fun b=>∀ q:b.ctorIdx=0,FuncBody.stmts.elim b q k=true→motive b) b q (fun ss u h=>H ss h) q h
noncomputable def defAt (K:Frag) (fa:Addr) (I:FI) (t:TSs) (n:Nat):Bool:=onFunc K fa fun fd=>fd.globals == mainGlobals && fd.closure.isEmpty && fd.builtins == builtinsNs && codeIn K fd.code fd.qualname && scOk I fd.scope n &&
      fd.params.posonlyargs.isEmpty && fd.params.args.map (·.arg) == I.tbl.take n && fd.params.vararg.isNone && fd.params.kwonlyargs.isEmpty && fd.params.kwarg.isNone && noDefaults fd.defaults &&
      onBody fd.body fun b=>chkSs I fd.scope t b
theorem fd_eta {fd:FuncData} {b:List Stmt} (h1:fd.globals=mainGlobals) (h2:fd.closure=[]) (h3:fd.builtins=builtinsNs) (h4:fd.body=.stmts b) :
    fd=fnOf fd.name fd.qualname fd.params b fd.scope fd.defaults fd.kwdefaults fd.doc fd.pyModule fd.annotations fd.code fd.closureTuple:=by
  cases fd
  simp only at h1 h2 h3 h4
  subst h1 h2 h3 h4
  rfl
noncomputable def retOf:Fl→Option D
  | .ret d=>some d
  | .next | .cont=>none
theorem retOf_:∀ {f:Fl} {d:D},retOf f=some d→f=.ret d
  | .ret _,_,h=>Option.some.inj h ▸ rfl
  | .next,_,h | .cont,_,h=>none_ne h
noncomputable def runF (Φ:FEnv) (I:FI) (t:TSs) (n:Nat) (ds:List D):Option D:=if ds.length=n then (evSs Φ t (start I ds)).bind fun r=>retOf r.1 else none
noncomputable def CallsTo (G:Gl) (k:Nat) (fa:Addr) (F:List D→Option D):Prop:=∀ (ds:List D) (d:D),F ds=some d→∀ (A:Around) (X:Addr→Prop) (s:Shared) (vs:List Value) (E:Value→Shared→Prop),Room A k→BaseOK G s.heap→Live X s.heap→RepL G X s.heap vs ds→
  wpAny (model G.prog G.w) A (call (.ref fa) vs) (fun v s'=>Keeps s s'∧Rep G X s'.heap v d) E s
theorem Room.down {A:Around} {k n:Nat} (h:n ≤ k) (r:Room A k):Room A n:=r.less h
theorem CallsTo.up {G:Gl} {k n:Nat} {fa:Addr} {F:List D→Option D} (h:CallsTo G n fa F) (hn:n ≤ k):CallsTo G k fa F:=fun ds d e A X s vs E rm=>h ds d e A X s vs E (rm.less hn)
theorem defAt_calls {G:Gl} {k n:Nat} {fa:Addr} {I:FI} {t:TSs} {Φ:FEnv} (h:defAt G.K fa I t n=true) (hok:okSs t=true) (C:CxOK G Φ k):CallsTo G (k + 1) fa (runF Φ I t n):=
  onFunc_ h fun oc od osl fd ho h=>and_ h fun h h12=>and_ h fun h h11=>and_ h fun h h10=>and_ h fun h h9=>and_ h fun h h8=>and_ h fun h h7=>and_ h fun h h6=>and_ h fun h h5=>and_ h fun h h4=>and_ h fun h h3=>and_ h fun h1 h2=>
    onBody_ (motive:=fun b=>fd.body=b→CallsTo G (k + 1) fa (runF Φ I t n)) h12 (fun b hb hbd ds d ev A X s vs E rm B lv r=>if_ ev fun hl ev=>bind_ ev fun ⟨f,σ'⟩ e2 ev=>by
      have e:=fd_eta (eqb_ h1) (List.isEmpty_iff.mp h2) (eqb_ h3) hbd
      cases retOf_ ev
      refine call_mine (e ▸ ho) h4 (scOk_def h5) ?_ hb hok C hl e2 rm B lv r
      exact e ▸ binds_plain (List.isEmpty_iff.mp h6) (eq_of_beq h7) (Option.isNone_iff_eq_none.mp h8) (List.isEmpty_iff.mp h9) (Option.isNone_iff_eq_none.mp h10) (eqb_ h11) (r.length.trans (hl.trans (List.length_take.trans (Nat.min_eq_left (scOk_def h5).len)).symm)) ((scOk_def h5).tbl.sublist (List.take_sublist _ _))) rfl
noncomputable def onRef {α:Type} (v:Value) (k:Addr→Option α):Option α:=if h:v.ctorIdx=10 then Value.ref.elim v h k else none
@[elab_as_elim] theorem onRef_ {α:Type} {y:α} {v:Value} {k:Addr→Option α} {motive:Value→Prop} (h:onRef v k=some y) (H:∀ a,k a=some y→motive (.ref a)):motive v:=
  dife_ h (fun q h=>Value.ref.elim (motive:=fun v=>∀ q:v.ctorIdx=10,Value.ref.elim v q k=some y→motive v) v q (fun a u h=>H a h) q h) none_ne
noncomputable def nameAt (K:Frag) (f:Str):Option Addr:=(nsIn K mainGlobals f).bind fun o=>o.bind fun v=>onRef v fun fa=>if keepIn K (.ref fa) then some fa else none
theorem nameAt_of {K:Frag} {f:Str} {fa:Addr} (h:nameAt K f=some fa):nsIn K mainGlobals f=some (some (.ref fa))∧keepIn K (.ref fa)=true:=
  bind_ h fun o e h=>bind_ h fun v e' h=>onRef_ (motive:=fun v=>o=some v→_) h (fun a h e'=>if_ h fun q h=>by
    cases h
    exact ⟨e.trans (congrArg some e'),q⟩) e'
noncomputable abbrev Tab:=List (Str × (List D→Option D))
noncomputable def Tab.env (T:Tab):FEnv:=fun f ds=>(T.lookup f).bind fun F=>F ds
structure ClsOK (G:Gl) (k:Nat):Prop where
  cls:nsIn G.K mainGlobals (Str.ofString "TupleComp")=some (some (.ref G.C))∧keepIn G.K (.ref G.C)=true ∧
    ∀ (A:Around) (X:Addr→Prop) (s:Shared) (v:Value) (d:D) (E:Value→Shared→Prop),Room A k→BaseOK G s.heap→Live X s.heap→Rep G X s.heap v d→
      wpAny (model G.prog G.w) A (call (.ref G.C) [v]) (fun v s'=>Keeps s s'∧Rep G X s'.heap v (.obj [(Str.ofString "comp_select_list", d)])) E s
  pget:plainGet G.K G.C (Str.ofString "compare")=true
  hasd:hasDictIn G.K G.C=true
  attr:findIn G.K (.ref G.C) (Str.ofString "comp_select_list")=some none
  names:∀ x,x ∈ [Str.ofString "len", Str.ofString "sum", Str.ofString "max", Str.ofString "tuple", Str.ofString "list", Str.ofString "range", Str.ofString "zip", Str.ofString "isinstance"]→nsIn G.K mainGlobals x=some none
theorem ClsOK.up {G:Gl} {k n:Nat} (C:ClsOK G n) (h:n ≤ k):ClsOK G k:=
  ⟨⟨C.cls.1,C.cls.2.1,fun A X s v d E rm=>C.cls.2.2 A X s v d E (rm.less h)⟩,C.pget,C.hasd,C.attr,C.names⟩
noncomputable def CmpF (F:List D→Option D) (ds:List D):Option D:=ds.head?.bind fun d=>onO d fun kvs=>(one? kvs).bind fun p=>if p.1=Str.ofString "comp_select_list"∧ds.tail ≠ [] then F ds else none
theorem CmpF_ {F:List D→Option D} {d0 d:D} {ds:List D} (h:CmpF F (d0 :: ds)=some d):((∃ a,d0=.obj [(Str.ofString "comp_select_list", a)])∧ds ≠ [])∧F (d0 :: ds)=some d:=
  onO_ (motive:=fun d'=>((∃ a,d'=.obj [(Str.ofString "comp_select_list", a)])∧ds ≠ [])∧F (d0 :: ds)=some d) (show onO d0 _=some d from h) fun kvs e=>bind_ e fun p e1 e=>if_ e fun q e=>⟨⟨⟨p.2,by rw [one_ e1,← q.1]⟩,q.2⟩,e⟩
noncomputable def EntOK (G:Gl) (k:Nat) (f:Str) (F:List D→Option D):Prop:=
  if f=Str.ofString "compare" then ∃ fa F',F=CmpF F'∧findIn G.K (.ref G.C) (Str.ofString "compare")=some (some (.ref fa))∧isFn G.K (.ref fa)=true∧keepIn G.K (.ref fa)=true∧CallsTo G k fa F'
  else ∃ fa,nameAt G.K f=some fa∧CallsTo G k fa F
theorem EntOK.up {G:Gl} {k n:Nat} {f:Str} {F:List D→Option D} (h:EntOK G n f F) (hn:n ≤ k):EntOK G k f F:=
  ite_P (·→EntOK G k f F) (fun e h=>show EntOK G k f F from (if_pos e).mpr (let ⟨fa,F',h0,h1,h2,h3,h4⟩:=h; ⟨fa,F',h0,h1,h2,h3,h4.up hn⟩)) (fun e h=>(if_neg e).mpr (let ⟨fa,h1,h2⟩:=h; ⟨fa,h1,h2.up hn⟩)) h
theorem tab_cx {G:Gl} {k:Nat} {T:Tab} (C:ClsOK G k) (h:∀ p ∈ T,EntOK G k p.1 p.2):CxOK G T.env k where
  fn:=fun f ds d hne e=>bind_ e fun F hF e=>by
    obtain ⟨fa,h1,h2⟩:=(if_neg hne).mp (h _ (mem_of_lookup hF))
    obtain ⟨h3,h4⟩:=nameAt_of h1
    exact ⟨fa,h3,h4,h2 ds d e⟩
  cmp:=fun d0 ds d e=>bind_ e fun F hF e=>by
    obtain ⟨fa,F',h0,h1,h2,h3,h4⟩:=(if_pos rfl).mp (h _ (mem_of_lookup hF))
    rw [show F=CmpF F' from h0] at e
    have key:=CmpF_ e
    exact ⟨key.1,fa,h1,h2,h3,h4 _ d key.2⟩
  cls:=C.cls
  pget:=C.pget
  hasd:=C.hasd
  attr:=C.attr
  names:=C.names
noncomputable def coreOk (K:Frag) (fd:FuncData) (I:FI) (n:Nat):Bool:=
  fd.globals == mainGlobals && fd.closure.isEmpty && fd.builtins == builtinsNs && codeIn K fd.code fd.qualname && scOk I fd.scope n
noncomputable def headOk (K:Frag) (fd:FuncData) (I:FI) (n:Nat):Bool:=
  coreOk K fd I n && fd.params.posonlyargs.isEmpty && fd.params.args.map (·.arg) == I.tbl.take n && fd.params.vararg.isNone && fd.params.kwonlyargs.isEmpty && fd.params.kwarg.isNone
noncomputable def bodyOf (fd:FuncData):List Stmt:=if h:fd.body.ctorIdx=0 then FuncBody.stmts.elim fd.body h id else []
noncomputable def bodyIs (fd:FuncData):Bool:=fd.body.ctorIdx == 0
theorem body_eq {fd:FuncData} (h:bodyIs fd=true):fd.body=.stmts (bodyOf fd):=by
  unfold bodyOf
  revert h
  unfold bodyIs
  cases fd.body with
  | stmts b=>exact fun u=>rfl
  | expr e=>exact fun h=>(Bool.false_ne_true h).elim
section
variable {G:Gl} {I:FI} {Φ:FEnv} {k n:Nat} {X:Addr→Prop} {s:Shared} {A:Around} {E:Value→Shared→Prop}
theorem code_hand {f:Addr} {oc:Value} {od:Option Addr} {osl:Array (Option Value)} {fd:FuncData} {ds:List D} {R:Result→Shared→Prop} {args:Args}
    (ho:G.K.lookup f=some ⟨oc,od,.func fd,osl⟩) (hh:coreOk G.K fd I n=true) (hb:bodyIs fd=true) (hl:ds.length=n) (rm:Room A (k + 1)) (B:BaseOK G s.heap) (lv:Live X s.heap)
    (hbind:∀ (A':Around) (E':Value→Shared→Prop) (Q:List (Str × Value)→Shared→Prop),(∀ s1 vs,Keeps s s1→RepL G X s1.heap vs ds→Q ((I.tbl.take n).zip vs) s1)→wpAny (model G.prog G.w) A' (bindArgs fd args) Q E' s)
    (hrun:∀ (env:Env) (X' W:Addr→Prop) (s':Shared) (A':Around) (E':Value→Shared→Prop),Room A' k→FrOK G I fd.scope (allI I) env X' W s'.heap (start I ds)→Ent G s X X' W s'→((∀ a,X' a→X a ∨ s.heap.get? a=none)∧∀ a o,s.heap.get? a=some o→a ≠ env.locals∧∀ y c,env.cells.lookup y=some c→c ≠ a)→
      wpAny (model G.prog G.w) A' (execs (bodyOf fd) env) (fun fl s2=>R (.ok (.ret (match fl with | .ret v=>v | _=>.none))) s2) E' s') :
    codeAny (model G.prog G.w) A (.call (.ref f) args) R s:=by
  refine and_ hh fun hh h5=>and_ hh fun hh h4=>and_ hh fun hh h3=>and_ hh fun h1 h2=>?_
  replace h1:=eqb_ h1
  replace h2:=List.isEmpty_iff.mp h2
  replace h3:=eqb_ h3
  have hb':=body_eq hb
  have O:=scOk_def h5
  refine codeAny_call_function (fd:=fd) (Room.dp rm) (B.K _ _ ho) rfl O.co O.gen hb' (codeRec_of B.K h4) (hbind _ _ _ fun s1 vs k1 r=>?_)
  have hv:=r.length
  have q1:=Keeps.get k1
  rw [h1,h2,h3]
  refine wpAny_newFunctionEnv_cells O.kind (fun y hy=>?_) fun env he s' x=>?_
  · have hy':y.1 ∈ I.tbl.take n:=(List.of_mem_zip (show (y.1,y.2) ∈ _ from hy)).1
    have hm:=O.par y.1 hy'
    cases hq:fd.scope.names.lookup y.1 with
    | none=>rw [hq] at hm; cases hm
    | some k'=>
      rw [hq] at hm
      cases k' <;> simp only [mine,Bool.false_eq_true] at hm
      · exact .inl rfl
      · exact .inr ⟨rfl,cellsFrom_some _ _ _ (.inl hq)⟩
  · have he':env=envOfC fd.qualname fd.scope s1.heap.objs.size f fd.code:=he
    obtain ⟨X',W,F,e,ub⟩:=entry_frame O (lv.mono q1) (B.mono q1) hl r he' x
    refine ⟨(B.mono q1).T.nolimit.keeps x.toInCall.keep,codeAny_func ?_⟩
    refine hrun env X' W s' (A.deeper env) _ rm.deeper F ⟨B,lv,Keeps.trans k1 e.kp,e.x0,fun a w=>none_of_none (fun o=>q1 a o) (e.w0 a w)⟩ ⟨fun a q=>?_,fun a o eo=>ub.2 a o (q1 a o eo)⟩
    rcases ub.1 a q with q | q
    · exact .inl q
    · exact .inr (none_of_none (fun o=>q1 a o) q)
theorem head_binds {fd:FuncData} {K:Frag} {vs:List Value} (hh:headOk K fd I n=true) (hd:noDefaults fd.defaults=true) (hv:vs.length=n):BindsTo s fd ⟨vs,[]⟩ ((I.tbl.take n).zip vs):=by
  refine and_ hh fun hh h10=>and_ hh fun hh h9=>and_ hh fun hh h8=>and_ hh fun hh h7=>and_ hh fun hc h6=>?_
  have O:=scOk_def (both2 hc)
  exact binds_plain (List.isEmpty_iff.mp h6) (eq_of_beq h7) (Option.isNone_iff_eq_none.mp h8) (List.isEmpty_iff.mp h9) (Option.isNone_iff_eq_none.mp h10) (eqb_ hd) (hv.trans (List.length_take.trans (Nat.min_eq_left O.len)).symm) (O.tbl.sublist (List.take_sublist _ _))
theorem call_hand {f:Addr} {oc:Value} {od:Option Addr} {osl:Array (Option Value)} {fd:FuncData} {vs:List Value} {ds:List D} {Q:Value→Shared→Prop}
    (ho:G.K.lookup f=some ⟨oc,od,.func fd,osl⟩) (hh:headOk G.K fd I n=true) (hb:bodyIs fd=true) (hd:noDefaults fd.defaults=true) (hl:ds.length=n) (rm:Room A (k + 1)) (B:BaseOK G s.heap) (lv:Live X s.heap) (r:RepL G X s.heap vs ds)
    (hrun:∀ (env:Env) (X' W:Addr→Prop) (s':Shared) (A':Around) (E':Value→Shared→Prop),Room A' k→FrOK G I fd.scope (allI I) env X' W s'.heap (start I ds)→Ent G s X X' W s'→((∀ a,X' a→X a ∨ s.heap.get? a=none)∧∀ a o,s.heap.get? a=some o→a ≠ env.locals∧∀ y c,env.cells.lookup y=some c→c ≠ a)→
      wpAny (model G.prog G.w) A' (execs (bodyOf fd) env) (fun fl s2=>Q (match fl with | .ret v=>v | _=>.none) s2) E' s') :
    wpAny (model G.prog G.w) A (call (.ref f) vs) Q E s:=
  wpAny_call (code_hand ho (both1 (both1 (both1 (both1 (both1 hh))))) hb hl rm B lv (fun A' E' Q h=>head_binds hh hd (r.length.trans hl) _ _ _ _ (h s vs Keeps.rfl r)) hrun)
end
theorem RepW.opq_ {G:Gl} {X:Addr→Prop} {h:Heap} {v w:Value} (r:RepW G X h v (.opq w)):v=w:=r.is (fun u e=>nomatch e) (fun u e=>nomatch e) (·.1)
section
variable {α β:Type} {y:β}
noncomputable def onC (l:List α) (k:α→List α→Option β):Option β:=match l with
  | []=>none
  | a :: r=>k a r
@[elab_as_elim] theorem onC_ {l:List α} {k:α→List α→Option β} {motive:List α→Prop} (h:onC l k=some y) (H:∀ a r,k a r=some y→motive (a :: r)):motive l:=
  match l,h with
  | a :: r,h=>H a r h
end
noncomputable def onSet (s:Stmt) (k:Str→PySem.Expr→Bool):Bool:=onAsg s fun ts e=>onOne ts fun t=>onNm t fun x u=>k x e
@[elab_as_elim] theorem onSet_ {s:Stmt} {k:Str→PySem.Expr→Bool} {motive:Stmt→Prop} (h:onSet s k=true) (H:∀ x xp e p,k x e=true→motive (.Assign [.Name x xp] e p)):motive s:=
  onAsg_ (motive:=motive) (show onAsg s _=true from h) fun ts e p h=>onOne_ (motive:=fun ts=>motive (.Assign ts e p)) h fun t h=>onNm_ (motive:=fun t=>motive (.Assign [t] e p)) h fun x xp h=>H x xp e p h
noncomputable def onCmp1 (e:PySem.Expr) (k:PySem.Expr→CmpOp→PySem.Expr→Bool):Bool:=onCmp e fun l ops rs=>onOne ops fun op=>onOne rs fun r=>k l op r
@[elab_as_elim] theorem onCmp1_ {e:PySem.Expr} {k:PySem.Expr→CmpOp→PySem.Expr→Bool} {motive:PySem.Expr→Prop} (h:onCmp1 e k=true) (H:∀ l op r p,k l op r=true→motive (.Compare l [op] [r] p)):motive e:=
  onCmp_ (motive:=motive) (show onCmp e _=true from h) fun l ops rs p h=>onOne_ (motive:=fun ops=>motive (.Compare l ops rs p)) h fun op h=>onOne_ (motive:=fun rs=>motive (.Compare l [op] rs p)) h fun r h=>H l op r p h
noncomputable def onStr (e:PySem.Expr) (k:Str→Bool):Bool:=onConst e fun c=>onCS c k
@[elab_as_elim] theorem onStr_ {e:PySem.Expr} {k:Str→Bool} {motive:PySem.Expr→Prop} (h:onStr e k=true) (H:∀ x n p,k x=true→motive (.Constant (.str x) n p)):motive e:=
  onConst_ (motive:=motive) (show onConst e _=true from h) fun c n p h=>onCS_ (motive:=fun c=>motive (.Constant c n p)) h fun x h=>H x n p h
noncomputable def onInt (e:PySem.Expr) (k:Int→Bool):Bool:=onConst e fun c=>onCI c k
@[elab_as_elim] theorem onInt_ {e:PySem.Expr} {k:Int→Bool} {motive:PySem.Expr→Prop} (h:onInt e k=true) (H:∀ x n p,k x=true→motive (.Constant (.int x) n p)):motive e:=
  onConst_ (motive:=motive) (show onConst e _=true from h) fun c n p h=>onCI_ (motive:=fun c=>motive (.Constant c n p)) h fun x h=>H x n p h
noncomputable def onRetE (s:Stmt) (k:PySem.Expr→Bool):Bool:=onRet s fun o=>onSome o k
@[elab_as_elim] theorem onRetE_ {s:Stmt} {k:PySem.Expr→Bool} {motive:Stmt→Prop} (h:onRetE s k=true) (H:∀ e p,k e=true→motive (.Return (some e) p)):motive s:=
  onRet_ (motive:=motive) (show onRet s _=true from h) fun o p h=>onSome_ (motive:=fun o=>motive (.Return o p)) h fun e h=>H e p h
noncomputable def onIf1 (s:Stmt) (k:PySem.Expr→Stmt→Bool):Bool:=onIfS s fun c a els=>onOne a fun a=>els.isEmpty && k c a
@[elab_as_elim] theorem onIf1_ {s:Stmt} {k:PySem.Expr→Stmt→Bool} {motive:Stmt→Prop} (h:onIf1 s k=true) (H:∀ c a p,k c a=true→motive (.If c [a] [] p)):motive s:=
  onIfS_ (motive:=motive) (show onIfS s _=true from h) fun c a els p h=>onOne_ (motive:=fun a=>motive (.If c a els p)) h fun a h=>and_ h fun h1 h2=>by
    cases List.isEmpty_iff.mp h1
    exact H c a p h2
noncomputable def onNA (e:PySem.Expr) (k:Str→Str→Bool):Bool:=onAttr e fun o a u=>onNm o fun x u=>k x a
@[elab_as_elim] theorem onNA_ {e:PySem.Expr} {k:Str→Str→Bool} {motive:PySem.Expr→Prop} (h:onNA e k=true) (H:∀ x xp a p,k x a=true→motive (.Attribute (.Name x xp) a p)):motive e:=
  onAttr_ (motive:=motive) (show onAttr e _=true from h) fun o a p h=>onNm_ (motive:=fun o=>motive (.Attribute o a p)) h fun x xp h=>H x xp a p h
noncomputable def i_kind:FI:=⟨[Str.ofString "name", Str.ofString "x", Str.ofString "t"],[]⟩
noncomputable def kind1 (sc:Scope) (s:Stmt):Bool:=onSet s fun t e=>onFn e fun ty as=>onOne as fun x=>onNm x fun x u=>tgtOk i_kind sc t 2 && ty == Str.ofString "type" && globOk sc ty && nameOk i_kind sc x 1
noncomputable def kind2 (sc:Scope) (s:Stmt):Bool:=onIf1 s fun c a=>onCmp1 c fun l op r=>onNm l fun t u=>onNm r fun st u=>onRetE a fun e=>onStr e fun r=>op == .Is && nameOk i_kind sc t 2 && st == Str.ofString "str" && globOk sc st && r == Str.ofString ""
noncomputable def kindBody (sc:Scope) (b:List Stmt):Bool:=onCons b fun s1 b=>onCons b fun s2 u=>kind1 sc s1 && kind2 sc s2
noncomputable def kindAt (K:Frag) (fa:Addr):Bool:=onFunc K fa fun fd=>headOk K fd i_kind 2 && bodyIs fd && noDefaults fd.defaults && kindBody fd.scope (bodyOf fd)
noncomputable def kindF (ds:List D):Option D:=onC ds fun a r=>(one? r).bind fun b=>onS a fun u=>onS b fun u=>some (.str (Str.ofString ""))
theorem kind_calls {G:Gl} {k:Nat} {fa:Addr} (h:kindAt G.K fa=true) (n1:nsIn G.K mainGlobals (Str.ofString "type")=some none) (n2:nsIn G.K mainGlobals (Str.ofString "str")=some none):CallsTo G (k + 1) fa kindF:=by
  refine onFunc_ h fun oc od osl fd ho h=>and_ h fun h h4=>and_ h fun h h3=>and_ h fun h1 h2=>?_
  intro ds d ev A X s vs E rm B lv r
  revert r
  refine onC_ ev fun a ds ev=>bind_ ev fun b e1 ev=>?_
  cases one_ e1
  refine onS_ ev fun a ev=>onS_ ev fun b ev r=>?_
  cases ev
  refine call_hand ho h1 h2 h3 rfl rm B lv r fun env X' W s' A' E' rm' F e ub=>?_
  generalize bodyOf fd=b at h4
  refine onCons_ h4 fun s1 b h4=>onCons_ h4 fun s2 b h4=>?_
  refine onSet_ (both1 h4) fun t tp ex p1 q=>onFn_ q fun ty typ as cp q=>onOne_ q fun x q=>onNm_ q fun x xp q=>and_ q fun q g2=>and_ q fun q c1=>and_ q fun g1 c0=>?_
  cases eqb_ c0
  refine wpAny_execs_cons (wpAny_Assign_Name (Call_ (load_built F e.b c1 n1 (v:=.type "type") (by decide +kernel) (by decide +kernel) (callWith_type1 (args_cons (F.load g2 (d:=.str _) rfl fun v u r1 u=>args_nil ?_) rfl) rfl))))
  obtain ⟨t,rfl⟩:=r1.str_
  refine call_type_of (Tx:="str") rfl (by decide +kernel) ?_
  refine wpAny_mono (store_ready (v:=.type "str") (d:=.opq (.type "str")) F g1 ⟨fun u=>.opq rfl,fun n=>nomatch n⟩ fun n=>nomatch n) (fun u s2 h2=>?_) fun u u x=>x
  obtain ⟨F2,k2,_⟩:=h2
  have sp2:=SP.stored F e F2 k2
  refine onIf1_ (both2 h4) fun c a p q=>onCmp1_ q fun l op r p q=>onNm_ q fun t2 t2p q=>onNm_ q fun st stp q=>onRetE_ q fun r p q=>onStr_ q fun r n p q=>and_ q fun q c4=>and_ q fun q g5=>and_ q fun q c3=>and_ q fun c2 g4=>?_
  cases eqb_ c2
  cases eqb_ c3
  cases eqb_ c4
  refine wpAny_execs_cons (wpAny_If (wpAny_isTrue_Compare1 (F2.load (d:=.opq (.type "str")) g4 rfl fun v2 u r2 u=>?_) rfl))
  rw [r2.opq_]
  refine load_built F2 sp2.ent.b g5 n2 (v:=.type "str") (by decide +kernel) (by decide +kernel) ?_
  refine wpAny_is_self rfl (wpAny_truthy_bool ?_)
  refine wpAny_execs_cons (wpAny_Return_some (Calls.Constant_str ?_))
  exact ⟨Keeps.trans sp2.ent.kp (Keeps.toks _),.str _ _⟩
noncomputable def normAt (K:Frag) (fa:Addr):Bool:=onFunc K fa fun fd=>coreOk K fd i_normpath 2 && fd.params.posonlyargs.isEmpty && fd.params.args.isEmpty && fd.params.kwonlyargs.isEmpty && noDefaults fd.defaults && bodyIs fd && chkSs i_normpath fd.scope t_normpath (bodyOf fd) &&
      onSome fd.params.vararg fun a=>onSome fd.params.kwarg fun b=>a.arg == Str.ofString "args" && b.arg == Str.ofString "kwargs"
noncomputable def normF (Φ:FEnv) (ds:List D):Option D:=(one? ds).bind fun d=>runF Φ i_normpath t_normpath 2 [.tuple [d],.dict []]
theorem binds_star {M:Model} {A:Around} {E:Value→Shared→Prop} {Q:List (Str × Value)→Shared→Prop} {s:Shared} {fd:FuncData} {pa pb:Arg} {v0:Value} (h1:fd.params.posonlyargs=[]) (h2:fd.params.args=[]) (h3:fd.params.vararg=some pa) (h4:fd.params.kwonlyargs=[]) (h5:fd.params.kwarg=some pb) (h6:fd.defaults=.none)
    (hq:Q [(pa.arg,.ref s.heap.objs.size),(pb.arg,.ref (s.heap.push { cls:=.type "tuple", data:=.seq [v0].toArray }).objs.size)] { s with heap:=(s.heap.push { cls:=.type "tuple", data:=.seq [v0].toArray }).push { cls:=.type "dict", data:=.dict #[] } }):wpAny M A (bindArgs fd ⟨[v0],[]⟩) Q E s:=by
  obtain ⟨kd,df,hp⟩:∃ kd df,fd.params=⟨[],[],some pa,[],kd,some pb,df⟩:=by
    revert h1 h2 h3 h4 h5
    cases fd.params
    rintro rfl rfl rfl rfl rfl
    exact ⟨_,_,rfl⟩
  unfold bindArgs
  refine wpAny_bind (wpAny_pure ?_)
  rw [hp,h6]
  refine wpAny_bind (wpAny_bind (wpAny_pure (wpAny_pure ?_)))
  refine wp_skip (fun q=>nomatch q) (wp_skip (fun q=>nomatch q) (wpAny_bind (wpAny_pure (wpAny_bind (wpAny_pure (wp_skip (fun q=>nomatch q) (wpAny_bind (wpAny_newObj_type ?_ (by show [v0].toArray.size ≤ sizeLine; rw [sizeLine_eq]; exact Nat.le_of_ble_eq_true rfl)))))))))
  exact wp_skip (Nat.not_lt_zero _) (wpAny_bind (wpAny_alloc (wpAny_bind (wpAny_pure (wpAny_pure hq)))))
theorem norm_calls {G:Gl} {k:Nat} {fa:Addr} {Φ:FEnv} (h:normAt G.K fa=true) (C:CxOK G Φ k):CallsTo G (k + 1) fa (normF Φ):=by
  refine onFunc_ h fun oc od osl fd ho h=>and_ h fun h h8=>and_ h fun h h7=>and_ h fun h h6=>and_ h fun h h5=>and_ h fun h h4=>and_ h fun h h3=>and_ h fun h1 h2=>?_
  intro ds d ev A X s vs E rm B lv r
  refine bind_ ev fun d0 e1 ev'=>if_ ev' fun hl ev'=>bind_ ev' fun ⟨f,σ'⟩ e2 ev'=>?_
  cases one_ e1
  cases retOf_ ev'
  obtain ⟨v0,rfl,r0⟩:=r.one
  refine wpAny_call (code_hand ho h1 h6 (ds:=[.tuple [d0],.dict []]) rfl rm B lv (fun A' E' Q hq=>?_) fun env X' W s' A' E' rm' F e ub=>?_)
  · refine onSome_ (motive:=fun o=>fd.params.vararg=o→_) h8 (fun pa h8 ha=>onSome_ (motive:=fun o=>fd.params.kwarg=o→_) h8 (fun pb h8 hb=>?_) rfl) rfl
    refine binds_star (List.isEmpty_iff.mp h2) (List.isEmpty_iff.mp h3) ha (List.isEmpty_iff.mp h4) hb (eqb_ h5) ?_
    rw [eqb_ (both1 h8),eqb_ (both2 h8)]
    refine hq _ [_,_] (Keeps.trans (Keeps.push _) (Keeps.push (s:={ s with heap:=s.heap.push { cls:=.type "tuple", data:=.seq [v0].toArray } }) _)) (.cons ((fresh_tuple lv (RepL.cons r0 .nil)).up fun b o e=>Heap.get?_push_of_some _ e) (.cons ?_ .nil))
    have q1:∀ b o,s.heap.get? b=some o→(s.heap.push { cls:=.type "tuple", data:=.seq [v0].toArray }).get? b=some o:=fun b o e=>Heap.get?_push_of_some _ e
    exact (dict_new (G:=G) (s.heap.push { cls:=.type "tuple", data:=.seq [v0].toArray }) X (B.mono q1).size_sys).rep ((lv.mono q1).fresh (none_size _))
  · refine wpAny_mono (all_Ss C t_normpath (by decide) fd.scope env s X X' W s' (start i_normpath _) σ' A' E' (bodyOf fd) (.ret d) h7 rm' F e e2) (fun fl s2 h2=>?_) fun u u z=>z
    obtain ⟨X2,W2,sp,fo⟩:=h2
    cases fl with
    | ret v=>exact ⟨sp.ent.kp,fo⟩
    | _=>exact fo.elim
section
variable {prog:Program} {w:World} {A:Around} {E:Value→Shared→Prop} {s:Shared} {K:Frag} {x C dx:Addr} {name:Str} {v:Value} {es:List DictEntry} {n:Nat}
theorem putL_len (name:Str) (hsh:Int) (key v:Value):∀ es:List DictEntry,(putL name hsh key v es).length ≤ es.length + 1
  | []=>by simp [putL]
  | e :: r=>by
    unfold putL
    split
    · simp
    · have:=putL_len name hsh key v r
      simp only [List.length_cons]
      exact Nat.succ_le_succ this
theorem set_inst {Q:Unit→Shared→Prop} (X:K.In s.heap) (I:InstAt s.heap x (instObj C dx) C (some (dictOf es n))) (hs:findIn K (.ref C) "__setattr__"=some (some (.builtin "object.__setattr__")))
    (hp:plainOver K C=true) (ht:takerIn K C name=some none) (hh:hasDictIn K C=true) (hl:(getL name es).isSome=true) (hz:es.length ≤ 100)
    (h:∀ h' t,h'.get? dx=some (dictOf (putL name (PyData.keyHash w.params name) (.str name t) v es) (putN name es n))→Heap.SameBut dx s.heap h'→Q () { s with heap:=h',toks:=s.toks + 2 }) :
    wpAny (model prog w) A (setAttr (.ref x) name v) Q E s:=by
  refine set_plain X I hs (osa_open (s:={ s with toks:=s.toks + 1 }) X I hp ht fun b=>?_)
  obtain ⟨cd,hc,hcd⟩:=any_some hh
  have D:s.heap.get? dx=some (dictOf es n):=I.dict
  have D':({ s with toks:=s.toks + 1 }:Shared).heap.get? dx=some (dictOf es n):=D
  have new:(s.heap.update dx (Obj.putName name (PyData.keyHash w.params name) (.str name (s.toks + 1)) v)).get? dx=some (dictOf (putL name (PyData.keyHash w.params name) (.str name (s.toks + 1)) v es) (putN name es n)):=by
    rw [Heap.get?_update_self _ D (by rw [putName_dict]; rfl),putName_dict]
  have hlen:(putL name (PyData.keyHash w.params name) (.str name (s.toks + 1)) v es).length ≤ es.length + 1:=putL_len _ _ _ _ _
  refine wpAny_bind (wpAny_pure (wpAny_bind (wpAny_bind (wpAny_loadPart (show ({ s with toks:=s.toks + 1 }:Shared).heap.get? x=_ from I.at_) (wpAny_bind (Looks.here (s:={ s with toks:=s.toks + 1 }) (looks_clsIn X hc) ?_))))))
  rw [hcd]
  refine wpAny_pure (a:=some dx) (wpAny_bind (wpAny_pure (wpAny_bind ?_)))
  unfold nsSet
  refine wpAny_bind (wpAny_bind (wpAny_askSetting (wpAny_pure (wpAny_bind (wpAny_mkText (wpAny_bind (wpAny_loadPart D' ?_)))))))
  have noRef:(!es.toArray.any (·.key.isStr name) && es.toArray.any (·.refKey))=false:=by
    simp only [List.any_toArray]
    unfold getL at hl
    set_option tactic.hygienic true in split at hl
    · rename_i en he
      rw [List.any_eq_true.mpr ⟨en,List.mem_of_find?_eq_some he,List.find?_some he⟩]; rfl
    · set_option tactic.hygienic true in split at hl
      · cases hl
      · rename_i z; rw [Bool.not_eq_true] at z; rw [z,Bool.and_false]
  dsimp only
  rw [aRefKeyMayBeTheName_at,noRef]
  refine wpAny_updatePart D' ?_
  refine wpAny_bind (wpAny_lookBehind new (pastItsLine_dict (by rw [List.size_toArray,sizeLine_eq]; exact om157 hz hlen)) ?_)
  exact wpAny_pure (h _ (s.toks + 1) new (Heap.SameBut.update ..))
theorem under_room {k:Nat} {args:Args} (r:Room A (k + 1)):Room (A.under (.builtin "type.__call__" args)) k:=by
  have f0:(Code.builtin "type.__call__" args).frames=0:=by kernel_rfl
  have h1:(Code.builtin "type.__call__" args).weight ≤ 5:=by
    have g0:(Code.builtin "type.__call__" args).isGuard=false:=by kernel_rfl
    have c0:(Code.builtin "type.__call__" args).isCaller=false:=by kernel_rfl
    unfold Code.weight
    rw [f0,g0,c0]
    split <;> simp
  have h2:(Code.builtin "type.__call__" args).cUnits ≤ 50:=by
    show 1 + 3 * (Code.builtin "type.__call__" args).frames ≤ 50
    rw [f0]
    decide
  refine ⟨r.handled,?_,?_⟩
  · have:=r.depth
    show A.depth + _ + 5 * k ≤ 600
    exact om158 this h1
  · have:=r.units
    show A.units + _ + 50 * k ≤ 5000
    exact om159 this h2
theorem make_inst {fI:Addr} {rest:List Value} {Q:Value→Shared→Prop} (X:K.In s.heap) (hm:makesIn K C=true) (hi:findIn K (.ref C) "__init__"=some (some (.ref fI))) (hf:isFn K (.ref fI)=true)
    (h:codeAny (model prog w) (A.under (.builtin "type.__call__" ⟨.ref C :: rest,[]⟩)) (.call (.ref fI) ⟨.ref (s.heap.objs.size + 1) :: rest,[]⟩) (InitBack (s.heap.objs.size + 1) fun r s'=>match r with | .ok (.ret v)=>Q v s' | .ok _=>False | .error e=>E e s')
      { s with heap:=(s.heap.push emptyDict).push (instObj C s.heap.objs.size) }) :
    wpAny (model prog w) A (call (.ref C) rest) Q E s:=by
  obtain ⟨hh,g,d,t,os⟩:=s
  exact wpAny_call (make_core (makes_of X hm) (looks_findIn X hi) (fun self=>bind_fn X self (beq_iff_eq.mp hf)) (.inl rfl) h)
end
noncomputable def i_init:FI:=⟨[Str.ofString "self", Str.ofString "comp_select_list"],[]⟩
noncomputable def initBody (sc:Scope) (b:List Stmt):Bool:=onOne b fun s=>onAsg s fun ts e=>onOne ts fun t=>onNA t fun x a=>onNm e fun y u=>nameOk i_init sc x 0 && nameOk i_init sc y 1 && a == Str.ofString "comp_select_list"
noncomputable def initAt (K:Frag) (fa:Addr):Bool:=onFunc K fa fun fd=>headOk K fd i_init 2 && bodyIs fd && noDefaults fd.defaults && initBody fd.scope (bodyOf fd)
noncomputable def clsAt (K:Frag) (C fI:Addr):Bool:=makesIn K C && findIn K (.ref C) "__init__" == some (some (.ref fI)) && isFn K (.ref fI) && findIn K (.ref C) "__setattr__" == some (some (.builtin "object.__setattr__")) && plainOver K C && hasDictIn K C
noncomputable def tupAt (K:Frag) (C fI:Addr):Bool:=clsAt K C fI && initAt K fI && takerIn K C (Str.ofString "comp_select_list") == some none
theorem inst_heap {h:Heap} {C:Addr}:((h.push emptyDict).push (instObj C h.objs.size)).get? (h.objs.size + 1)=some (instObj C h.objs.size)∧((h.push emptyDict).push (instObj C h.objs.size)).get? h.objs.size=some (dictOf [] 0)∧∀ b o,h.get? b=some o→((h.push emptyDict).push (instObj C h.objs.size)).get? b=some o:=by
  refine ⟨?_,?_,fun b o e=>Heap.get?_push_of_some _ (Heap.get?_push_of_some _ e)⟩
  · have:=Heap.get?_push_size (h:=h.push emptyDict) (o:=instObj C h.objs.size) rfl
    rwa [Heap.size_push] at this
  · exact Heap.get?_push_of_some _ (Heap.get?_push_size _ rfl)
theorem tup_calls {G:Gl} {k:Nat} {fI:Addr} (h:tupAt G.K G.C fI=true) {A:Around} {X:Addr→Prop} {s:Shared} {v:Value} {d:D} {E:Value→Shared→Prop} (rm:Room A (k + 2)) (B:BaseOK G s.heap) (lv:Live X s.heap) (r:Rep G X s.heap v d) :
    wpAny (model G.prog G.w) A (call (.ref G.C) [v]) (fun v s'=>Keeps s s'∧Rep G X s'.heap v (.obj [(Str.ofString "comp_select_list", d)])) E s:=by
  refine and_ h fun h h3=>and_ h fun h h2=>and_ h fun h c6=>and_ h fun h c5=>and_ h fun h c4=>and_ h fun h c3=>and_ h fun c1 c2=>onFunc_ h2 fun oc od osl fd ho h=>and_ h fun h h7=>and_ h fun h h6=>and_ h fun h4 h5=>?_
  replace c2:=eq_of_beq c2
  replace c4:=eq_of_beq c4
  replace h3:=eq_of_beq h3
  refine make_inst B.K c1 c2 c3 ?_
  obtain ⟨hx,hdx,kp⟩:=inst_heap (h:=s.heap) (C:=G.C)
  let X1:Addr→Prop:=fun a=>X a ∨ a=s.heap.objs.size ∨ a=s.heap.objs.size + 1
  have nX1:∀ a o,s.heap.get? a=some o→X1 a→X a:=fun a o e q=>by
    rcases q with q | q | q
    · exact q
    · rw [q,none_size] at e; cases e
    · exact absurd (Heap.lt_size e) (by rw [q]; exact Nat.not_lt.mpr (Nat.le_succ _))
  have lv1:Live X1 ((s.heap.push emptyDict).push (instObj G.C s.heap.objs.size)):=fun a q=>by
    rcases q with q | q | q
    · obtain ⟨o,e⟩:=lv a q; exact ⟨o,kp a o e⟩
    · rw [q]; exact ⟨_,hdx⟩
    · rw [q]; exact ⟨_,hx⟩
  have r1:RepL G X1 ((s.heap.push emptyDict).push (instObj G.C s.heap.objs.size)) [.ref (s.heap.objs.size + 1),v] [.opq (.ref (s.heap.objs.size + 1)),d]:=.cons (.opq rfl) (.cons ((r.weak nX1).up kp) .nil)
  refine code_hand (X:=X1) (s:={ s with heap:=(s.heap.push emptyDict).push (instObj G.C s.heap.objs.size) }) ho (both1 (both1 (both1 (both1 (both1 h4))))) h5 (ds:=[.opq (.ref (s.heap.objs.size + 1)),d]) rfl (under_room rm) (B.mono kp) lv1
    (fun A' E' Q hq=>head_binds h4 h6 rfl _ _ _ _ (hq _ _ Keeps.rfl r1)) fun env X' W s' A' E' rm' F e ub=>?_
  generalize bodyOf fd=b at h7
  refine onOne_ h7 fun st h7=>onAsg_ h7 fun ts ex p h7=>onOne_ h7 fun t h7=>onNA_ h7 fun x xp a ap h7=>onNm_ h7 fun y yp h7=>and_ h7 fun h7 c0=>and_ h7 fun g1 g2=>?_
  cases eqb_ c0
  refine wpAny_execs_cons (plainObj_wpAny_Assign_Attribute (F.load (d:=d) g2 rfl fun v1 u u r1=>F.load (d:=.opq (.ref (s.heap.objs.size + 1))) g1 rfl fun v2 u r2 u=>?_))
  rw [r2.opq_]
  have ek:=Keeps.get e.kp
  have rv:=r1 (by decide)
  refine set_inst (es:=[]) (n:=0) e.b.K ⟨ek _ _ hx,rfl,rfl,ek _ _ hdx⟩ c4 c5 h3 c6 rfl (by simp) fun h' t hd' hs'=>wpAny_execs_nil ⟨rfl,?_,?_⟩
  · obtain ⟨h0,t0,rfl,k0⟩:=e.kp
    exact Keeps.mk' fun b o q=>(hs'.2 b fun z=>by rw [z,none_size] at q; cases q).trans (k0 b o (kp b o q))
  · have n1:¬ X s.heap.objs.size:=lv.fresh (none_size _)
    have n2:¬ X (s.heap.objs.size + 1):=fun q=>by
      obtain ⟨o,eo⟩:=lv _ q
      exact absurd (Heap.lt_size eo) (Nat.not_lt.mpr (Nat.le_succ _))
    refine .obj (da:=s.heap.objs.size) n2 n1 ?_ ⟨_,hd'⟩ ?_
    · exact (hs'.2 _ (Nat.succ_ne_self _)).trans (ek _ _ hx)
    · refine .cons ?_ .nil
      have hxd:X' s.heap.objs.size:=e.x0 _ (.inr (.inl rfl))
      exact (rv.mono (h':=h') fun a o n q=>(hs'.2 a fun z=>n (z ▸ hxd)).trans q).weak fun a o u q=>e.x0 a (.inl q)
noncomputable def setObj (es:Array (Int × Value)) (ep:Nat) (t:SetTable):Obj:={ cls:=.type "set", dict:=none,data:=.set es ep t }
noncomputable def ledOf (w:World):Bool:=!w.params.followText "set-order"
theorem put_led (t:SetTable) (j:Nat):(t.put j).1.led=t.led:=rfl
theorem orStandIn_led (t:SetTable) (n:Nat):(t.orStandIn n).led=t.led:=by
  unfold SetTable.orStandIn
  split <;> rfl
theorem layNew_led (t:SetTable) (es:Array (Int × Value)) (h:Int) (x:Value):(layNew t es h x).2.1.led=t.led:=by
  unfold layNew
  split
  · exact orStandIn_led _ _
  · rfl
theorem laid_led {mask f m:Nat} {led pl:Bool} {hs:Array Int} {r:SetTable × Array Nat} (h:SetTable.laid mask f m led pl hs=some r):r.1.led=led:=by
  unfold SetTable.laid at h
  simp only [Option.bind_eq_bind,Option.bind_eq_some_iff,Option.pure_def,Option.some.injEq] at h
  obtain ⟨_,_,rfl⟩:=h
  rfl
theorem relayAll_led (t:SetTable) (es:Array (Int × Value)) (n:Nat):(relayAll t es n).2.1.led=t.led:=by
  unfold relayAll
  set_option tactic.hygienic true in split
  · rename_i t' order e
    dsimp only
    split
    · exact laid_led e
    · rfl
  · rfl
section
variable {prog:Program} {w:World} {A:Around} {E:Value→Shared→Prop} {s:Shared}
theorem add_tail {g:Bool→Sem Unit} (hg:∀ (b:Bool) (s₁:Shared) (Q':Unit→Shared→Prop),Q' () s₁→wpAny (model prog w) A (g b) Q' E s₁) {S:Addr} {led:Bool} {e1:Int × Value} {t2:SetTable} {es0:Array (Int × Value)} {ep0:Nat} {t0:SetTable}
    (ho:s.heap.get? S=some (setObj es0 ep0 t0)) (hf:t2.fits 1=true) (hl:t2.led=led) {wasDummy:Bool} {R:Option Bool→Shared→Prop}
    (h:∀ h',(∃ ep t,h'.get? S=some (setObj #[e1] ep t)∧t.fits 1=true∧t.led=led)∧Heap.SameBut S s.heap h'→R (some true) { s with heap:=h' }) :
    wpAny (model prog w) A (do
        storeSet S #[e1] t2
        if (!wasDummy && t2.tooFull)=true then do
            g (relayAll t2 #[e1] (SetTable.grown (#[e1]:Array (Int × Value)).size)).2.2
            storeSet S (relayAll t2 #[e1] (SetTable.grown (#[e1]:Array (Int × Value)).size)).1 (relayAll t2 #[e1] (SetTable.grown (#[e1]:Array (Int × Value)).size)).2.1
            pure (some true)
          else pure (some true)) R E s:=by
  refine wpAny_bind (wpAny_storeSet_of ho rfl ?_ (by rw [sizeLine_eq]; show 1 ≤ _; decide))
  obtain ⟨ep1,ho1⟩:∃ ep,(s.heap.update S (Obj.putSet #[e1] t2)).get? S=some (setObj #[e1] ep t2):=by
    exact ⟨ep0 + 1,Heap.get?_update_self (Obj.putSet #[e1] t2) ho rfl⟩
  have hsb1:=Heap.SameBut.update s.heap S (Obj.putSet #[e1] t2)
  split
  · have hp:=relayAll_perm t2 #[e1] (SetTable.grown (#[e1]:Array (Int × Value)).size)
    have hfr:=relayAll_fits t2 #[e1] (SetTable.grown (#[e1]:Array (Int × Value)).size)
    have hlr:=relayAll_led t2 #[e1] (SetTable.grown (#[e1]:Array (Int × Value)).size)
    generalize hRl:relayAll t2 #[e1] (SetTable.grown (#[e1]:Array (Int × Value)).size)=Rl at hp hfr hlr ⊢
    obtain ⟨es2,t3,gave2⟩:=Rl
    dsimp only at hp hfr hlr ⊢
    have hes:es2=#[e1]:=Array.toList_inj.mp (List.perm_singleton.mp (by simpa using hp))
    subst hes
    refine wpAny_bind (hg _ _ _ ?_)
    refine wpAny_bind (wpAny_storeSet_of ho1 rfl ?_ (by rw [sizeLine_eq]; show 1 ≤ _; decide))
    obtain ⟨ep2,ho2⟩:∃ ep,((s.heap.update S (Obj.putSet #[e1] t2)).update S (Obj.putSet #[e1] t3)).get? S=some (setObj #[e1] ep t3):=by
      exact ⟨ep1 + 1,Heap.get?_update_self (Obj.putSet #[e1] t3) ho1 rfl⟩
    exact wpAny_pure (h _ ⟨⟨ep2,t3,ho2,hfr,hlr.trans hl⟩,hsb1.trans (Heap.SameBut.update _ S _)⟩)
  · exact wpAny_pure (h _ ⟨⟨ep1,t2,ho1,hf,hl⟩,hsb1⟩)
theorem set_add_first {S:Addr} {led:Bool} {y:Str} {tk:Tok} {Q:Bool→Shared→Prop} (ho:s.heap.get? S=some (setObj #[] 0 (.fresh 0 0 led)))
    (hQ:∀ b h' ep t,h'.get? S=some (setObj #[((PySem.strKind prog w).hash y,.str y tk)] ep t)→t.fits 1=true→t.led=led→Heap.SameBut S s.heap h'→Q b { s with heap:=h' }) :
    wpAny (model prog w) A (setAddHashed S (.str y tk) ((PySem.strKind prog w).hash y)) Q E s:=by
  have hkey:=PySem.strKind_is prog w y tk
  have hf:(SetTable.fresh 0 0 led).fits (#[]:Array (Int × Value)).size=true:=by rfl
  have hel:ElemsOf (PySem.strKind prog w) (#[]:Array (Int × Value)).toList:=fun e he=>by simp at he
  unfold setAddHashed setAddHashedIn
  refine wpAny_holding (wpAny_bind (wpAny_setState_of ho rfl hf ?_))
  dsimp only
  rw [byScan_of (knd:=PySem.strKind prog w) rfl (by decide) hel]
  simp only [↓reduceIte]
  unfold setAddByScan
  refine wpAny_bind (wpAny_bind (wpAny_rule ?_))
  refine wpAny_bind (wpAny_setScan_of hkey ho rfl hf hel ?_)
  simp only [List.findIdx?_nil]
  have hgw:∀ (b:Bool) {s₁:Shared} {Q':Unit→Shared→Prop},Q' () s₁→wpAny (model prog w) A (match b with | true=>rule "set.scan.the-table-gave-way" | false=>pure ()) Q' E s₁:=
    fun b s₁ Q' hq=>by cases b <;> first | exact wpAny_pure hq | exact wpAny_rule hq
  have hperm:=layNew_perm (SetTable.fresh 0 0 led) #[] ((PySem.strKind prog w).hash y) (.str y tk)
  have hfits:=layNew_fits (SetTable.fresh 0 0 led) #[] ((PySem.strKind prog w).hash y) (.str y tk)
  have hled:=layNew_led (SetTable.fresh 0 0 led) #[] ((PySem.strKind prog w).hash y) (.str y tk)
  generalize hL:layNew (SetTable.fresh 0 0 led) #[] ((PySem.strKind prog w).hash y) (.str y tk)=L at hperm hfits hled ⊢
  obtain ⟨es1,t1,wasDummy,gave⟩:=L
  dsimp only at hperm hfits hled ⊢
  have hes:es1=#[((PySem.strKind prog w).hash y,.str y tk)]:=by
    have:=List.perm_singleton.mp (by simpa using hperm)
    exact Array.toList_inj.mp this
  subst hes
  refine wpAny_bind (hgw _ ?_)
  have fin:∀ h',(∃ ep t,h'.get? S=some (setObj #[((PySem.strKind prog w).hash y,.str y tk)] ep t)∧t.fits 1=true∧t.led=led)∧Heap.SameBut S s.heap h'→Q true { s with heap:=h' }:=by
    rintro h' ⟨⟨ep,t,h1,h2,h3⟩,hs⟩
    exact hQ true h' ep t h1 h2 h3 hs
  split
  · refine wpAny_bind ?_
    rw [hashByValue_scannable 8 rfl]
    refine wpAny_pure ?_
    refine add_tail (led:=led) (fun b s₁ Q' hq=>hgw b hq) ho ?_ ?_ fun h' hh=>?_
    · split
      · exact hfits
      · exact SetTable.fits_plain_off hfits
    · split <;> exact hled
    · exact wpAny_pure (fin h' hh)
  · refine wpAny_bind (wpAny_pure ?_)
    simp only [↓reduceIte]
    refine add_tail (led:=led) (fun b s₁ Q' hq=>hgw b hq) ho hfits hled fun h' hh=>?_
    exact wpAny_pure (fin h' hh)
theorem set_loop_one {S l I:Addr} {y:Str} {tk:Tok} {led:Bool} {R:Result→Shared→Prop} (hh:A.handled=none) (hSI:S ≠ I) (hSl:S ≠ l) (hlI:l ≠ I) (hs:s.heap.get? S=some (setObj #[] 0 (.fresh 0 0 led)))
    (hl:s.heap.IsList l #[.str y tk]) (hi:s.heap.IsListIter I l 0)
    (hR:∀ h' tk' ep t,h'.get? S=some (setObj #[((PySem.strKind prog w).hash y,.str y tk)] ep t)→t.fits 1=true→t.led=led→(∀ b o,b ≠ S→b ≠ I→s.heap.get? b=some o→h'.get? b=some o)→R (.ok (.ret .none)) { s with heap:=h',toks:=tk' }) :
    codeAny (model prog w) A (.builtin "set.update.loop" ⟨[.ref S,.ref I],[]⟩) R s:=by
  have hh1:A.in1.handled=none:=hh
  have W:=Walks.list (prog:=prog) (w:=w) (A:=A.in1) hh1 I l hlI #[.str y tk]
  have step:∀ (s:Shared) (R:Result→Shared→Prop),wpAny (model prog w) A.in1 (pyNext (.ref I)) (fun r s₁=>match r with
      | none=>R (.ok (.ret .none)) s₁
      | some v=>wpAny (model prog w) A.in1 (setAdd S v) (fun u s₂=>codeAny (model prog w) A (.builtin "set.update.loop" ⟨[.ref S,.ref I],[]⟩) R s₂) (fun e s'=>R (.error e) s') s₁) (fun e s'=>R (.error e) s') s→
      codeAny (model prog w) A (.builtin "set.update.loop" ⟨[.ref S,.ref I],[]⟩) R s:=by
    intro s R h
    refine codeAny_builtin F.entry_set_update_loop ?_
    rw [Around.under_plainId F.plain_set_update_loop _]
    show wpAny _ A.in1 (pyNext (.ref I) >>= _) _ _ s
    refine wpAny_bind (wpAny_mono h (fun r s₁ h₁=>?_) fun u u x=>x)
    cases r with
    | none=>exact wpAny_pure h₁
    | some v=>
      show wpAny _ A.in1 (holding [v] (setAdd S v) >>= _) _ _ s₁
      exact wpAny_bind (wpAny_holding (wpAny_mono h₁ (fun u s₂ h₂=>wpAny_pure ⟨plainId_quiet F.plain_set_update_loop _,h₂⟩) fun u u x=>x))
  refine step s R (W.item 0 s _ _ (by show 0 < 1; decide) ⟨hi,hl⟩ fun v h1 tk1 hP st1 k1=>?_)
  have hv:v=.str y tk:=by simpa using hP.symm
  subst hv
  have k1':∀ b o,b ≠ I→s.heap.get? b=some o→h1.get? b=some o:=fun b o hb e=>k1 b o (by simpa using hb) e
  dsimp only
  unfold setAdd
  refine wpAny_holding (wpAny_bind ((PySem.strKind prog w).pyHash (k:=y) (PySem.strKind_is _ _ _ _) ?_))
  refine set_add_first (led:=led) (k1' _ _ hSI hs) fun b h2 ep t g1 g2 g3 g4=>?_
  have k2:∀ b o,b ≠ S→b ≠ I→s.heap.get? b=some o→h2.get? b=some o:=fun b o n1 n2 e=>(g4.2 b n1).trans (k1' b o n2 e)
  have st2:h2.IsListIter I l 1∧h2.IsList l #[.str y tk]:=by
    obtain ⟨⟨o,e,r⟩,⟨o',e',r'⟩⟩:=st1
    exact ⟨⟨o,(g4.2 _ (Ne.symm hSI)).trans e,r⟩,⟨o',(g4.2 _ (Ne.symm hSl)).trans e',r'⟩⟩
  refine step _ R (W.done _ _ _ st2 fun h3 tk3 k3=>?_)
  have k3':∀ b o,b ≠ I→h2.get? b=some o→h3.get? b=some o:=fun b o hb e=>k3 b o (by simpa using hb) e
  exact hR h3 tk3 ep t (k3' _ _ hSI g1) g2 g3 fun b o n1 n2 e=>k3' b o n2 (k2 b o n1 n2 e)
theorem set_new_led (a:Value) {Q₁:Value→Shared→Prop}
    (h:Q₁ (.ref s.heap.objs.size) { s with heap:=s.heap.push (setObj #[] 0 (.fresh 0 0 (ledOf w))) }) :
    codeAny (model prog w) A (.call (.builtin "set.__new__") ⟨[.type "set", a],[]⟩) (wants Q₁ E) s:=by
  refine codeAny_of_tree ?_
  show wpAny _ A.in1 (do checkBuiltinCall "set.__new__" ⟨[.type "set", a],[]⟩; again (.builtin "set.__new__" ⟨[.type "set", a],[]⟩)) _ _ s
  refine wpAny_bind (wpAny_of_eq (F.newCall_set_1 a) (wpAny_pure ⟨plainId_quiet F.plain_set_new _,codeAny_builtin F.entry_set_new ?_⟩))
  rw [Around.under_plainId F.plain_set_new _]
  unfold Builtin.«set.__new__» Builtin.Frozenset.newClass
  have hsub:=sub_set_self
  obtain ⟨hp,g,d,tk,os⟩:=s
  dsimp only
  wp_walk
  refine wpAny_askSetting (wpAny_pure ?_)
  dsimp only
  simp only [newObj]
  refine wpAny_bind (wpAny_alloc (wpAny_pure ?_))
  exact wpAny_pure h
set_option maxHeartbeats 3200000 in
theorem set_one {l:Addr} {y:Str} {tk:Tok} {Q:Value→Shared→Prop} (hh:A.handled=none) (hl:s.heap.IsList l #[.str y tk])
    (h:∀ h' tk' ep t,h'.get? s.heap.objs.size=some (setObj #[((PySem.strKind prog w).hash y,.str y tk)] ep t)→t.fits 1=true→t.led=ledOf w→(∀ b o,s.heap.get? b=some o→h'.get? b=some o)→Q (.ref s.heap.objs.size) { s with heap:=h',toks:=tk' }) :
    wpAny (model prog w) A (call (.type "set") [.ref l]) Q E s:=by
  obtain ⟨c,tl,hmro⟩:=F.called_set.mro
  have hmade:=F.called_set.made
  have hsub:=F.called_set.sub
  refine wpAny_call (codeAny_of_tree ?_)
  show wpAny _ _ (callAny (.type "set") _) _ _ _
  refine wpAny_pure ⟨Code.quiet_builtin _ (by decide +kernel),codeAny_builtin F.entry_type_call ?_⟩
  rw [Around.under_plain (weight_type_call_type "set" [.ref l] []) rfl]
  have h1:=F.called_set.notType
  have h2:=F.called_set.canCreate
  have hct:=F.typeCall_set_1 (.ref l)
  repeat (any_goals (first | assumption | wp_step))
  refine codeAny_mono (set_new_led (.ref l) (E:=E) (Q₁:=fun obj s₁=>obj=.ref s.heap.objs.size∧s₁={ s with heap:=s.heap.push (setObj #[] 0 (.fresh 0 0 (ledOf w))) }) ⟨rfl,rfl⟩) fun r s₁ hr=>?_
  rcases r with e | (obj | _ | _ | _)
  · exact hr
  all_goals first | exact hr.elim | skip
  obtain ⟨rfl,rfl⟩:=hr
  have hS:(s.heap.push (setObj #[] 0 (.fresh 0 0 (ledOf w)))).get? s.heap.objs.size=some (setObj #[] 0 (.fresh 0 0 (ledOf w))):=Heap.get?_push_size _ rfl
  have hT:Shared.TypeIs { s with heap:=s.heap.push (setObj #[] 0 (.fresh 0 0 (ledOf w))) } (.ref s.heap.objs.size) "set":=⟨_,hS,rfl⟩
  have hli:=F.called_set.init.lookup
  have hbi:=F.called_set.init.bind (.ref s.heap.objs.size)
  repeat (any_goals (first | assumption | wp_step))
  refine codeAny_mono (codeAny_call_builtin (R:=wants (fun r s₂=>r=.none∧Q (.ref s.heap.objs.size) s₂) E) F.called_set.init.plain F.entry_set_init (check_set_init_1 hT ?_)) fun r₂ s₂ hr₂=>?_
  · obtain ⟨ol,hol,hcl,nl,hdl⟩:=hl
    obtain ⟨ocls,odict,odata,oslots⟩:=ol
    simp only at hcl hdl
    subst hcl; subst hdl
    have hol':(s.heap.push (setObj #[] 0 (.fresh 0 0 (ledOf w)))).get? l=some { cls:=.type "list", dict:=odict,data:=.seq #[.str y tk] nl,slots:=oslots }:=Heap.get?_push_of_some _ hol
    have hsls:=F.sub_list_set
    have hslf:=F.sub_list_frozenset
    have hne:(Value.type "list" == Value.type "dict")=false:=by decide
    have hl1:(s.heap.push (setObj #[] 0 (.fresh 0 0 (ledOf w)))).IsList l #[.str y tk]:=⟨_,hol',rfl,nl,rfl⟩
    unfold Builtin.«set.__init__» noKeywords Builtin.Frozenset.updateFrom
    generalize hPI:pyIter=PI
    wp_walk
    subst hPI
    refine wpAny_pyIter_list hl1 ?_
    refine wpAny_bind (wpAny_runValue ?_)
    have hlS:l < s.heap.objs.size:=Heap.lt_size hol
    have hn:l < (s.heap.push (setObj #[] 0 (.fresh 0 0 (ledOf w)))).objs.size:=by rw [Heap.size_push]; exact Nat.lt_succ_of_lt hlS
    have hn2:s.heap.objs.size < (s.heap.push (setObj #[] 0 (.fresh 0 0 (ledOf w)))).objs.size:=by rw [Heap.size_push]; exact Nat.lt_succ_self _
    refine set_loop_one (by simp [hh]) (Nat.ne_of_lt hn2) (Nat.ne_of_gt hlS) (Nat.ne_of_lt hn) (Heap.get?_push_of_some _ hS) (hl1.push _) ⟨_,Heap.get?_push_size _ rfl,rfl,rfl⟩ fun h' tk' ep t g1 g2 g3 g4=>?_
    show wpAny _ _ _ _ _ _
    refine wpAny_pure ?_
    show wpAny _ _ (ret Value.none) _ _ _
    refine wpAny_pure ⟨rfl,h h' tk' ep t g1 g2 g3 fun b o e=>?_⟩
    have hb:=Heap.lt_size e
    exact g4 b o (Nat.ne_of_lt hb) (Nat.ne_of_lt (Nat.lt_trans hb hn2)) (Heap.get?_push_of_some _ (Heap.get?_push_of_some _ e))
  · rcases r₂ with e | (r | _ | _ | _)
    · exact hr₂
    all_goals first | exact hr₂.elim | skip
    obtain ⟨rfl,hq⟩:=hr₂
    repeat (any_goals (first | assumption | wp_step))
end
noncomputable def SetAt (prog:Program) (w:World) (h:Heap) (a:Addr) (S:Option Str):Prop:=
  ∃ es ep t,h.get? a=some (setObj es ep t)∧t.fits es.size=true∧((S=none∧es=#[]) ∨ ∃ y tk,S=some y∧es=#[((PySem.strKind prog w).hash y,.str y tk)]∧t.led=ledOf w)
theorem entry_set_iter:entryFor table "set.__iter__"=some Builtin.«frozenset.__iter__»:=
  entryFor_alias (id':="frozenset.__iter__") (by kernel_rfl) rfl (by decide +kernel) (by kernel_rfl)
theorem slot_set_next:Slot "set_iterator" "__next__" "set_iterator.__next__":=
  .of (owner:="set_iterator") (n:="__next__") (by rw [typeLookup_type,builtinLookup_eq_fast]; kernel_rfl) (by decide +kernel) (by decide +kernel) (by decide +kernel)
    (by first | exact .inl (by decide +kernel) | exact .inr (by decide +kernel)) (by rw [isSubtype_type]; kernel_rfl)
theorem entry_set_next:entryFor table "set_iterator.__next__"=some Builtin.«set_iterator.__next__»:=entryFor_of_fast (by kernel_rfl)
theorem args_set_next (a:Value):argsOk "set_iterator.__next__" ⟨[a],[]⟩:=by unfold argsOk; kernel_rfl
section
variable {prog:Program} {w:World} {A:Around} {E:Value→Shared→Prop} {s:Shared} {a:Addr} {S:Option Str}
theorem SetAt.at' {h h':Heap} (x:SetAt prog w h a S) (k:∀ o,h.get? a=some o→h'.get? a=some o):SetAt prog w h' a S:=
  let ⟨es,ep,t,e,r⟩:=x; ⟨es,ep,t,k _ e,r⟩
theorem SetAt.setOf {h:Heap} (x:SetAt prog w h a S):h.SetOf (PySem.strKind prog w) a (fun k=>S == some k) (if S.isSome then 1 else 0):=by
  obtain ⟨es,ep,t,e,hf,⟨rfl,rfl⟩ | ⟨y,tk,rfl,rfl,hl⟩⟩:=x
  · exact ⟨_,_,ep,t,e,⟨rfl,rfl,rfl⟩,rfl,fun e he=>by simp at he,fun k=>by simp,by decide,hf,rfl⟩
  · refine ⟨_,_,ep,t,e,⟨rfl,rfl,rfl⟩,rfl,fun e he=>?_,fun k=>?_,by show 1 < scanBound; decide,hf,rfl⟩
    · have:=List.mem_singleton.mp he
      subst this
      exact ⟨⟨y,PySem.strKind_is prog w y tk,rfl⟩,rfl⟩
    · constructor
      · intro q
        have:y=k:=by simpa using q
        subst this
        exact ⟨_,List.mem_singleton.mpr rfl,PySem.strKind_is prog w y tk⟩
      · rintro ⟨e,he,q⟩
        have:=List.mem_singleton.mp he
        subst this
        have:=(PySem.strKind prog w).inj _ _ _ q (PySem.strKind_is prog w y tk)
        simp [this]
theorem set_in {k:Str} {tk:Tok} {Q:Value→Shared→Prop} (x:SetAt prog w s.heap a S) (h:Q (.bool (S == some k)) { s with toks:=s.toks + 1 }):wpAny (model prog w) A (compareOp .In (.str k tk) (.ref a)) Q E s:=
  wpAny_inSet_of (PySem.strKind_is prog w k tk) rfl x.setOf h
noncomputable def itObj (sl i:Int) (a:Addr) (n ep:Nat):Obj:={ cls:=.type "set_iterator", data:=.fields #[rawInt sl,rawInt i,.ref a,rawInt n,rawInt ep] }
theorem set_iter {es:Array (Int × Value)} {ep:Nat} {t:SetTable} {Q:Value→Shared→Prop} (ho:s.heap.get? a=some (setObj es ep t)) (hf:t.fits es.size=true) (h1:es.size ≤ 1)
    (hQ:Q (.ref s.heap.objs.size) { s with heap:=s.heap.push (itObj 0 0 a es.size ep) }):wpAny (model prog w) A (pyIter (.ref a)) Q E s:=by
  have hT:s.TypeIs (.ref a) "set":=⟨_,ho,rfl⟩
  refine wpAny_pyIter_slot hT F.slot_set_iter (wpAny_call_entry F.slot_set_iter hT entry_set_iter ?_ (F.args_set_iter_1 _))
  unfold Builtin.«frozenset.__iter__» Builtin.Frozenset.slot0 slotArgs Builtin.Frozenset.addrOf Builtin.Frozenset.sizeOf
  refine wpAny_bind (wpAny_bind (wpAny_pure (wpAny_pure ?_)))
  refine wpAny_bind (wpAny_bind (wpAny_setEntries_of ho rfl hf (wpAny_pure ?_)))
  unfold setDrawn setsByText
  refine wpAny_bind (wpAny_bind (wpAny_setState_of ho rfl hf ?_))
  dsimp only
  refine wpAny_bind (wpAny_bind (wpAny_askSetting (wpAny_pure (wpAny_pure ?_))))
  have hd:decide (es.size > 1)=false:=decide_eq_false (om160 h1)
  show wpAny _ _ (if (!w.params.followText "set-order" && (!t.plain && decide (es.size > 1)))=true then _ else _) _ _ s
  rw [hd,Bool.and_false,Bool.and_false,if_neg Bool.false_ne_true]
  refine wpAny_bind (wpAny_pure ?_)
  refine wpAny_bind (wpAny_setEpoch_of ho rfl hf ?_)
  refine wpAny_bind (wpAny_newObj_type (wpAny_pure ⟨_,rfl, "set_iterator", _,⟨_,Heap.get?_push_size _ rfl,rfl⟩,slot_set_next.lookup,?_⟩) (by show sizeOk _; simp only [sizeOk,List.size_toArray,List.length_cons,List.length_nil,sizeLine_eq]; omega))
  exact hQ
theorem fields_at {J:Addr} {sl i:Int} {n ep:Nat} (hJ:s.heap.get? J=some (itObj sl i a n ep)) {Q:Array Value→Shared→Prop} (h:Q #[rawInt sl,rawInt i,.ref a,rawInt n,rawInt ep] s):wpAny (model prog w) A (fieldsOf (.ref J)) Q E s:=
  wpAny_fieldsOf hJ rfl h
theorem place_one {t:SetTable} (hf:t.fits 1=true):∃ j,t.place=#[j]:=by
  simp only [SetTable.fits,Bool.and_eq_true,beq_iff_eq] at hf
  obtain ⟨h1,_⟩:=hf
  refine ⟨t.place[0],?_⟩
  apply Array.ext
  · simpa using h1
  · intro i hi _
    have:i=0:=om162 hi h1
    subst this
    rfl
theorem setNext_one {e:Int × Value} {ep sl g:Nat} {t:SetTable} {Q:Option (Value × Nat)→Shared→Prop} (ho:s.heap.get? a=some (setObj #[e] ep t)) (hf:t.fits 1=true) (hl:t.led=ledOf w)
    (h:Q (if w.params.followText "set-order"=true then (if g=0 then some (e.2,sl) else none) else (if sl ≤ t.place[0]! then some (e.2,t.place[0]! + 1) else none)) s):wpAny (model prog w) A (setNext a sl g ep) Q E s:=by
  unfold setNext
  refine wpAny_bind (wpAny_setState_of ho rfl hf ?_)
  dsimp only
  unfold setsByText
  refine wpAny_bind (wpAny_bind (wpAny_askSetting (wpAny_pure ?_)))
  obtain ⟨j,hj⟩:=place_one hf
  cases hq:w.params.followText "set-order"
  · rw [hq] at h
    rw [if_neg (by show ¬ w.params.followText "set-order"=true; rw [hq]; exact Bool.false_ne_true)]
    show wpAny _ _ (if (!t.plain && decide ((#[e]:Array (Int × Value)).size > 1))=true then _ else _) _ _ s
    rw [show decide ((#[e]:Array (Int × Value)).size > 1)=false from rfl,Bool.and_false,if_neg Bool.false_ne_true]
    refine wpAny_bind ?_
    have hled:t.led=true:=by rw [hl]; unfold ledOf; rw [hq]; rfl
    show wpAny _ _ (if (!t.led && !(#[e]:Array (Int × Value)).isEmpty)=true then _ else _) _ _ s
    rw [hled]
    rw [if_neg (by simp)]
    refine wpAny_pure ?_
    rw [if_neg Bool.false_ne_true,hj] at h
    rw [hj]
    have hb:SetTable.below #[j] sl=if j < sl then 1 else 0:=by
      simp [SetTable.below,SetTable.below.go]
    rw [hb]
    by_cases hlt:j < sl
    · rw [if_pos hlt]
      rw [if_neg (by show ¬ sl ≤ j; exact om44 hlt)] at h
      exact wpAny_pure h
    · rw [if_neg hlt]
      rw [if_pos (by show sl ≤ j; exact Nat.le_of_not_lt hlt)] at h
      exact wpAny_pure h
  · rw [hq,if_pos rfl] at h
    show wpAny _ _ (if w.params.followText "set-order"=true then _ else _) Q E s
    rw [if_pos hq]
    have hw:∀ (Q:Array (Int × Value)→Shared→Prop),Q #[e] s→wpAny (model prog w) A (setWalk a) Q E s:=fun Q hQ=>by
      unfold setWalk
      refine wpAny_bind (wpAny_setState_of ho rfl hf ?_)
      dsimp only
      unfold setsByText
      refine wpAny_bind (wpAny_bind (wpAny_askSetting (wpAny_pure ?_)))
      show wpAny _ _ (if w.params.followText "set-order"=true then _ else _) Q E s
      rw [if_pos hq]
      refine wpAny_bind (wpAny_askSetting (wpAny_pure ?_))
      have:pickOrder (w.params.setOrder a ep) #[e]=#[e]:=by
        unfold pickOrder
        show pickOrder.go _ 1 0 [e] #[]=#[e]
        unfold pickOrder.go
        simp [Nat.mod_one,pickOrder.go]
      show Q (pickOrder (w.params.setOrder a ep) #[e]) s
      rw [this]
      exact hQ
    rw [if_neg (by simp)]
    refine wpAny_bind (hw _ (wpAny_pure ?_))
    cases g with
    | zero=>exact h
    | succ g=>exact h
theorem setNext_none {ep sl g:Nat} {t:SetTable} {Q:Option (Value × Nat)→Shared→Prop} (ho:s.heap.get? a=some (setObj #[] ep t)) (hf:t.fits 0=true) (h:Q none s):wpAny (model prog w) A (setNext a sl g ep) Q E s:=by
  unfold setNext
  refine wpAny_bind (wpAny_setState_of ho rfl hf ?_)
  dsimp only
  unfold setsByText
  refine wpAny_bind (wpAny_bind (wpAny_askSetting (wpAny_pure ?_)))
  cases hq:w.params.followText "set-order"
  · rw [if_neg (by show ¬ w.params.followText "set-order"=true; rw [hq]; exact Bool.false_ne_true)]
    show wpAny _ _ (if (!t.plain && false)=true then _ else _) _ _ s
    rw [Bool.and_false,if_neg Bool.false_ne_true]
    refine wpAny_bind ?_
    show wpAny _ _ (if (!t.led && false)=true then _ else _) _ _ s
    rw [Bool.and_false,if_neg Bool.false_ne_true]
    exact wpAny_pure (wpAny_pure h)
  · show wpAny _ _ (if w.params.followText "set-order"=true then _ else _) Q E s
    rw [if_pos hq,if_neg (by simp)]
    have hw:∀ (Q:Array (Int × Value)→Shared→Prop),Q #[] s→wpAny (model prog w) A (setWalk a) Q E s:=fun Q hQ=>by
      unfold setWalk
      refine wpAny_bind (wpAny_setState_of ho rfl hf ?_)
      dsimp only
      unfold setsByText
      refine wpAny_bind (wpAny_bind (wpAny_askSetting (wpAny_pure ?_)))
      show wpAny _ _ (if w.params.followText "set-order"=true then _ else _) Q E s
      rw [if_pos hq]
      exact wpAny_bind (wpAny_askSetting (wpAny_pure hQ))
    exact wpAny_bind (hw _ (wpAny_pure h))
noncomputable def SetStep (prog:Program) (w:World) (J a:Addr) (S:Option Str) (i:Nat) (h:Heap):Prop:=
  ∃ es ep t sl,h.get? J=some (itObj (Int.ofNat sl) (Int.ofNat i) a es.size ep)∧h.get? a=some (setObj es ep t)∧t.fits es.size=true ∧
    ((S=none∧es=#[]) ∨ ∃ y tk,S=some y∧es=#[((PySem.strKind prog w).hash y,.str y tk)]∧t.led=ledOf w∧(if i=0 then sl=0 else (w.params.followText "set-order"=false→t.place[0]! < sl)))
theorem set_next_item {J:Addr} {y:Str} {Q:Option Value→Shared→Prop} (hne:a ≠ J) (st:SetStep prog w J a (some y) 0 s.heap) (hQ:∀ h' tk,SetStep prog w J a (some y) 1 h'→Heap.SameBut J s.heap h'→Q (some (.str y tk)) { s with heap:=h' }):wpAny (model prog w) A (pyNext (.ref J)) Q E s:=by
  obtain ⟨es,ep,t,sl,hJ,ho,hf,⟨q,_⟩ | ⟨y',tk,q,rfl,hl,hsl⟩⟩:=st
  · cases q
  cases q
  rw [if_pos rfl] at hsl
  subst hsl
  have hT:s.TypeIs (.ref J) "set_iterator":=⟨_,hJ,rfl⟩
  unfold pyNext
  refine wpAny_bind (wpAny_attempt (wpAny_callSpecial?_slot (name:=Str.ofString "__next__") hT slot_set_next (wpAny_call_entry slot_set_next hT entry_set_next ?_ (args_set_next _))))
  unfold Builtin.«set_iterator.__next__» slotArgs
  refine wpAny_bind (wpAny_pure ?_)
  refine wpAny_bind (wpAny_fieldsOf hJ rfl ?_)
  dsimp only [rawInt]
  refine wpAny_bind (wpAny_setEntries_of ho rfl hf ?_)
  rw [if_neg (by simp)]
  refine wpAny_bind (setNext_one (a:=a) (by simpa using ho) hf hl ?_)
  have fin:∀ nx:Nat,(w.params.followText "set-order"=false→t.place[0]! < nx)→wpAny (model prog w) A.in1 (do setField (.ref J) 0 (.int nx 0); setField (.ref J) 1 (.int (0 + 1) 0); ret (.str y tk)) (fun fin s'=>∃ v,fin=Fin.done (Flow.ret v)∧wpAny (model prog w) A (pure (some v)) Q E s')
      (fun e s'=>wpAny (model prog w) A (do let r ← isInstance e (Value.type "StopIteration"); if r=true then pure none else throw e) Q E s') s:=by
    intro nx hnx
    refine wpAny_bind (wpAny_setField hJ rfl (by simp) ?_)
    have h1:(s.heap.update J (Obj.mapFields (·.setIfInBounds 0 (.int nx 0)))).get? J=some (itObj nx 0 a 1 ep):=Heap.get?_update_self _ hJ rfl
    refine wpAny_bind (wpAny_setField (s:={ s with heap:=s.heap.update J (Obj.mapFields (·.setIfInBounds 0 (.int nx 0))) }) h1 rfl (by simp) ?_)
    have h2:((s.heap.update J (Obj.mapFields (·.setIfInBounds 0 (.int nx 0)))).update J (Obj.mapFields (·.setIfInBounds 1 (.int (0 + 1) 0)))).get? J=some (itObj nx 1 a 1 ep):=Heap.get?_update_self _ h1 rfl
    have hs:Heap.SameBut J s.heap ((s.heap.update J (Obj.mapFields (·.setIfInBounds 0 (.int nx 0)))).update J (Obj.mapFields (·.setIfInBounds 1 (.int (0 + 1) 0)))):=(Heap.SameBut.update s.heap J _).trans (Heap.SameBut.update _ J _)
    exact wpAny_pure ⟨_,rfl,wpAny_pure (hQ _ tk ⟨#[((PySem.strKind prog w).hash y,.str y tk)],ep,t,nx,(show Heap.get? _ J=some (itObj (Int.ofNat nx) (Int.ofNat 1) a 1 ep) from h2),(hs.2 a hne).trans ho,hf,.inr ⟨y,tk,rfl,rfl,hl,by rw [if_neg (by decide)]; exact hnx⟩⟩ hs)⟩
  cases hq:w.params.followText "set-order"
  · rw [if_neg Bool.false_ne_true,if_pos (show (Int.ofNat 0).toNat ≤ t.place[0]! from Nat.zero_le _)]
    exact fin (t.place[0]! + 1) fun u=>Nat.lt_succ_self _
  · rw [if_pos rfl,if_pos (show (Int.ofNat 0).toNat=0 from rfl)]
    exact fin 0 fun z=>by rw [hq] at z; cases z
theorem set_next_end {J:Addr} {i:Nat} {Q:Option Value→Shared→Prop} (hh:A.handled=none) (st:SetStep prog w J a S i s.heap) (hi:i=(if S.isSome then 1 else 0)) (hQ:∀ h',Heap.ExtBut J s.heap h'→Q none { s with heap:=h' }):wpAny (model prog w) A (pyNext (.ref J)) Q E s:=by
  obtain ⟨es,ep,t,sl,hJ,ho,hf,hes⟩:=st
  have hT:s.TypeIs (.ref J) "set_iterator":=⟨_,hJ,rfl⟩
  unfold pyNext
  refine wpAny_bind (wpAny_attempt (wpAny_callSpecial?_slot (name:=Str.ofString "__next__") hT slot_set_next (wpAny_call_entry slot_set_next hT entry_set_next ?_ (args_set_next _))))
  unfold Builtin.«set_iterator.__next__» slotArgs
  refine wpAny_bind (wpAny_pure ?_)
  refine wpAny_bind (wpAny_fieldsOf hJ rfl ?_)
  dsimp only [rawInt]
  refine wpAny_bind (wpAny_setEntries_of ho rfl hf ?_)
  rw [if_neg (by simp)]
  have step:∀ (Q':Option (Value × Nat)→Shared→Prop),Q' none s→wpAny (model prog w) A.in1 (setNext a (Int.ofNat sl).toNat (Int.ofNat i).toNat (Int.ofNat ep).toNat) Q' (fun e s'=>wpAny (model prog w) A (do let r ← isInstance e (Value.type "StopIteration"); if r=true then pure none else throw e) Q E s') s:=fun Q' hq'=>by
    rcases hes with ⟨rfl,rfl⟩ | ⟨y,tk,rfl,rfl,hl,hsl⟩
    · exact setNext_none ho hf hq'
    · have hi1:i=1:=by simpa using hi
      subst hi1
      refine setNext_one (a:=a) (by simpa using ho) hf hl ?_
      rw [if_neg (by decide)] at hsl
      cases hq:w.params.followText "set-order"
      · have:=hsl hq
        rw [if_neg Bool.false_ne_true,if_neg (by show ¬ sl ≤ _; exact om44 this)]
        exact hq'
      · exact hq'
  refine wpAny_bind (step _ ?_)
  dsimp only
  refine wpAny_bind (wpAny_setField hJ rfl (by simp) ?_)
  refine wpAny_bind ?_
  simp only [newExc,newTuple]
  refine wpAny_bind (wpAny_newObj_type ?_ (by size_fits))
  refine wpAny_bind (m:=firstArgMember _ _) (wpAny_of_eq (a:=Value.none) (by first | rfl | (simp only [firstArgMember]; rfl)) ?_)
  refine wpAny_newObj_type ?_ (by size_fits)
  simp only [raiseNew]
  refine wpAny_bind (wpAny_handled ?_)
  rw [show A.in1.handled=none from hh]
  refine wpAny_bind (wpAny_pure (wpAny_throw ?_))
  refine wpAny_bind (wpAny_isInstance (T:="StopIteration") (b:=true) ⟨_,Heap.get?_push_size _ rfl,rfl⟩ isSubtype_stop ?_)
  exact wpAny_pure (hQ _ (((Heap.SameBut.update ..).extBut.push _).push _))
end
structure RdAt (G:Gl) (IC:Addr) (h:Heap) (R da ms dl ig:Addr) (mods dirs:Option Str) (T:List (Str × Int)):Prop where
  inst:h.get? R=some (instObj IC da)
  dict:∃ t1 t2 t3 a b c n,h.get? da=some (dictOf [⟨a,.str (Str.ofString "_mods") t1,.ref ms⟩,⟨b,.str (Str.ofString "_dirs") t2,.ref dl⟩,⟨c,.str (Str.ofString "_ignore") t3,.ref ig⟩] n)
  mods:SetAt G.prog G.w h ms mods
  dirs:∃ vs,ListAt h dl (List.toArray vs)∧Strs vs dirs.toList
  ign:∃ kv,TabOf G.prog G.w h ig kv∧RepK G (fun u=>False) h kv (T.map fun p=>(p.1,D.int p.2))
  n1:R ≠ ig
  n2:da ≠ ig
  n3:ms ≠ ig
  n4:dl ≠ ig
theorem repK_ints {G:Gl} {X Y:Addr→Prop} {h h':Heap}:∀ {T:List (Str × Int)} {kv},RepK G X h kv (T.map fun p=>(p.1,D.int p.2))→RepK G Y h' kv (T.map fun p=>(p.1,D.int p.2))
  | [],_,e=>e
  | _ :: _,_,⟨v,r,e,a,b⟩=>⟨v,r,e,a,repK_ints b⟩
section
variable {G:Gl} {IC:Addr} {h h':Heap} {R da ms dl ig:Addr} {mods dirs:Option Str} {T:List (Str × Int)}
theorem RdAt.tab (r:RdAt G IC h R da ms dl ig mods dirs T) (X:Addr→Prop):RepW G X h (.ref ig) (.dict (T.map fun p=>(p.1,D.int p.2))):=by
  obtain ⟨kv,t,k⟩:=r.ign
  exact .inr ⟨ig,rfl,.inr ⟨kv,_,rfl,t,repK_ints k⟩⟩
theorem RdAt.live (r:RdAt G IC h R da ms dl ig mods dirs T):∀ a,(a=R ∨ a=da ∨ a=ms ∨ a=dl ∨ a=ig)→∃ o,h.get? a=some o:=by
  rintro a (rfl | rfl | rfl | rfl | rfl)
  · exact ⟨_,r.inst⟩
  · obtain ⟨_,_,_,_,_,_,_,e⟩:=r.dict; exact ⟨_,e⟩
  · obtain ⟨_,_,_,e,_⟩:=r.mods; exact ⟨_,e⟩
  · obtain ⟨_,⟨⟨_,e,_⟩,_⟩,_⟩:=r.dirs; exact ⟨_,e⟩
  · obtain ⟨_,t,_⟩:=r.ign; exact t.get
theorem RdAt.mono (r:RdAt G IC h R da ms dl ig mods dirs T) (k:∀ a o,(a=R ∨ a=da ∨ a=ms ∨ a=dl ∨ a=ig)→h.get? a=some o→h'.get? a=some o):RdAt G IC h' R da ms dl ig mods dirs T where
  inst:=k _ _ (.inl rfl) r.inst
  dict:=let ⟨t1,t2,t3,a,b,c,n,e⟩:=r.dict; ⟨t1,t2,t3,a,b,c,n,k _ _ (.inr (.inl rfl)) e⟩
  mods:=r.mods.at' fun o=>k _ o (.inr (.inr (.inl rfl)))
  dirs:=let ⟨vs,e,q⟩:=r.dirs; ⟨vs,e.at' fun o=>k _ o (.inr (.inr (.inr (.inl rfl)))),q⟩
  ign:=let ⟨kv,t,q⟩:=r.ign; ⟨kv,t.at' fun o=>k _ o (.inr (.inr (.inr (.inr rfl)))),repK_ints q⟩
  n1:=r.n1
  n2:=r.n2
  n3:=r.n3
  n4:=r.n4
theorem RdAt.turn {T':List (Str × Int)} {kv:List (Str × Value)} (r:RdAt G IC h R da ms dl ig mods dirs T) (hs:Heap.SameBut ig h h') (ht:TabOf G.prog G.w h' ig kv) (hk:RepK G (fun u=>False) h' kv (T'.map fun p=>(p.1,D.int p.2))):RdAt G IC h' R da ms dl ig mods dirs T' where
  inst:=(hs.2 _ r.n1).trans r.inst
  dict:=let ⟨t1,t2,t3,a,b,c,n,e⟩:=r.dict; ⟨t1,t2,t3,a,b,c,n,(hs.2 _ r.n2).trans e⟩
  mods:=r.mods.at' fun o e=>(hs.2 _ r.n3).trans e
  dirs:=let ⟨vs,e,q⟩:=r.dirs; ⟨vs,e.at' fun o e=>(hs.2 _ r.n4).trans e,q⟩
  ign:=⟨kv,ht,hk⟩
  n1:=r.n1
  n2:=r.n2
  n3:=r.n3
  n4:=r.n4
end
noncomputable def igAt (K:Frag) (IC NF fI:Addr):Bool:=
  clsAt K IC fI && findIn K (.ref IC) (Str.ofString "names") == some (some (.ref NF)) && isFn K (.ref NF) && keepIn K (.ref NF) && plainGet K IC (Str.ofString "names") &&
  findIn K (.ref IC) (Str.ofString "_mods") == some none && findIn K (.ref IC) (Str.ofString "_dirs") == some none && findIn K (.ref IC) (Str.ofString "_ignore") == some none &&
  takerIn K IC (Str.ofString "_mods") == some none && takerIn K IC (Str.ofString "_dirs") == some none && takerIn K IC (Str.ofString "_ignore") == some none
structure IgOK (K:Frag) (IC NF fI:Addr):Prop where
  cls:clsAt K IC fI=true
  nam:findIn K (.ref IC) (Str.ofString "names")=some (some (.ref NF))
  isf:isFn K (.ref NF)=true
  kep:keepIn K (.ref NF)=true
  pg:plainGet K IC (Str.ofString "names")=true
  f1:findIn K (.ref IC) (Str.ofString "_mods")=some none
  f2:findIn K (.ref IC) (Str.ofString "_dirs")=some none
  f3:findIn K (.ref IC) (Str.ofString "_ignore")=some none
  t1:takerIn K IC (Str.ofString "_mods")=some none
  t2:takerIn K IC (Str.ofString "_dirs")=some none
  t3:takerIn K IC (Str.ofString "_ignore")=some none
theorem igOK_of {K:Frag} {IC NF fI:Addr} (h:igAt K IC NF fI=true):IgOK K IC NF fI:=by
  unfold igAt at h
  simp only [Bool.and_eq_true,beq_iff_eq] at h
  obtain ⟨⟨⟨⟨⟨⟨⟨⟨⟨⟨h1,h2⟩,h3⟩,h4⟩,h5⟩,h6⟩,h7⟩,h8⟩,h9⟩,h10⟩,h11⟩:=h
  exact ⟨h1,h2,h3,h4,h5,h6,h7,h8,h9,h10,h11⟩
theorem IgOK.hasd {K:Frag} {IC NF fI:Addr} (h:IgOK K IC NF fI):hasDictIn K IC=true:=by
  have:=h.cls
  unfold clsAt at this
  simp only [Bool.and_eq_true] at this
  exact this.2
section
variable {G:Gl} {IC NF fI:Addr} {R da ms dl ig:Addr} {mods dirs:Option Str} {T:List (Str × Int)} {I:FI} {sc:Scope} {wr:List Nat} {env:Env} {X W:Addr→Prop} {σ:St} {s:Shared} {A:Around} {E:Value→Shared→Prop}
theorem eval_fld {slf fld:Str} {p p2:Pos} {Q:Value→Shared→Prop} {i:Nat} {v:Value} (F:FrOK G I sc wr env X W s.heap σ) (B:BaseOK G s.heap) (O:IgOK G.K IC NF fI) (hn:nameOk I sc slf i=true) (hσ:St.get σ i=some (.opq (.ref R)))
    (hf:findIn G.K (.ref IC) fld=some none) {es:List DictEntry} {n:Nat} (I1:InstAt s.heap R (instObj IC da) IC (some (dictOf es n))) (hl:getL fld es=some (some v)) (hv:handedIn v=true) (h:Q v { s with toks:=s.toks + 1 }) :
    wpAny (model G.prog G.w) A (eval (.Attribute (.Name slf p) fld p2) env) Q E s:=by
  refine Attribute_any_ (F.load hn hσ fun v0 u r0 u=>?_) (by
    show (do
      let o ← attributeBase _ _ env (eval _ env)
      standAt _
      let r ← holding [o] (getAttr o _ true)
      letTemporaryGo _ o r
      pure r)=_
    rw [plain_base rfl])
  rw [r0.opq_]
  exact get_value B.K I1 (plainGet_of O.pg).1 (findObj_own O.hasd hf rfl (by rw [lookIn_dict]; exact hl)) hv h
theorem RdAt.fld_ign (r:RdAt G IC s.heap R da ms dl ig mods dirs T):∃ es n,InstAt s.heap R (instObj IC da) IC (some (dictOf es n))∧getL (Str.ofString "_ignore") es=some (some (.ref ig))∧getL (Str.ofString "_mods") es=some (some (.ref ms))∧getL (Str.ofString "_dirs") es=some (some (.ref dl)):=by
  obtain ⟨t1,t2,t3,a,b,c,n,e⟩:=r.dict
  exact ⟨_,n,⟨r.inst,rfl,rfl,e⟩,rfl,rfl,rfl⟩
theorem starts_call {a b xs:Str} {xp ap cp:Pos} {arg:PySem.Expr} {Q:Value→Shared→Prop} {i:Nat} (F:FrOK G I sc wr env X W s.heap σ) (hl:(ap.endLine == cp.line)=true) (hn:nameOk I sc xs i=true) (hσ:St.get σ i=some (.str a)) (hp:plainE arg=true) (lv:Live X s.heap)
    (h:wpAny (model G.prog G.w) A (eval arg env) (fun v s1=>Keeps s s1∧(∃ t,v=.str b t)∧∀ s2,Keeps s1 s2→Q (.bool (Txt.startswith a b)) s2) E s) :
    wpAny (model G.prog G.w) A (eval (.Call (.Attribute (.Name xs xp) (Str.ofString "startswith") ap) [arg] [] cp) env) Q E s:=by
  have hform:methodCallForm [arg].length (backTo cp (starEach [arg] env)) []=true:=by
    rw [plain_star hp]; rfl
  refine MCall (plain_base rfl) hform hl (F.load hn hσ fun v0 u r0 u=>?_)
  obtain ⟨t,rfl⟩:=r0.str_
  refine mt_method (m:=.startswith) (Φ:=fun u u=>none) (do':=.str a) (d:=.bool (Txt.startswith a b)) (dargs:=[.str b]) (by decide) r0 rfl ?_
  refine callWith_method1 (args_cons (wpAny_mono h (fun v s1 h1=>args_nil ?_) fun u u x=>x) (plain_star hp)) (plain_star hp)
  obtain ⟨k1,⟨tb,rfl⟩,hq⟩:=h1
  refine wpAny_mono (mt_call (X:=X) (m:=.startswith) (Φ:=fun u u=>none) (do':=.str a) (d:=.bool (Txt.startswith a b)) (dargs:=[.str b]) (lv.mono (Keeps.get k1)) (by decide) (RepW.mono r0 (Keeps.get k1)) (.cons (.str _ _) .nil) rfl) (fun v s2 h2=>?_) fun u u x=>x
  cases h2.2
  exact hq s2 h2.1
end
noncomputable def i_names:FI:=⟨[Str.ofString "self", Str.ofString "filename", Str.ofString "modulename", Str.ofString "mod", Str.ofString "d"],[]⟩
noncomputable def isIgn (sc:Scope) (fld:Str) (e:PySem.Expr):Bool:=onNA e fun s a=>nameOk i_names sc s 0 && a == fld
noncomputable def isVar (sc:Scope) (i:Nat) (e:PySem.Expr):Bool:=onNm e fun m u=>nameOk i_names sc m i
noncomputable def isInt (r:Int) (e:PySem.Expr):Bool:=onInt e fun v=>v == r
noncomputable def storeIs (sc:Scope) (r:Int) (b:List Stmt):Bool:=onTwo b fun s1 s2=>onAsg s1 fun ts e=>onOne ts fun t=>onSub t fun o i=>onRetE s2 fun f=>isIgn sc (Str.ofString "_ignore") o && isVar sc 2 i && isInt r e && isInt r f
noncomputable def startsIs (sc:Scope) (i j:Nat) (sufOk:PySem.Expr→Bool) (e:PySem.Expr):Bool:=onMeth e fun o st as=>onNm o fun m u=>onOne as fun a=>onBin a fun l op e=>onNm l fun d u=>op == .Add && nameOk i_names sc m i && st == Str.ofString "startswith" && nameOk i_names sc d j && sufOk e
noncomputable def isText (x:Str) (e:PySem.Expr):Bool:=onStr e fun v=>v == x
noncomputable def isGlob (sc:Scope) (x:Str) (e:PySem.Expr):Bool:=onNm e fun v u=>v == x && globOk sc x
noncomputable def st1Is (sc:Scope) (s:Stmt):Bool:=onIf1 s fun c a=>onCmp1 c fun m op o=>onRetE a fun e=>onSub e fun o2 m2=>op == .In && isVar sc 2 m && isIgn sc (Str.ofString "_ignore") o && isIgn sc (Str.ofString "_ignore") o2 && isVar sc 2 m2
noncomputable def st2Is (sc:Scope) (s:Stmt):Bool:=onIfS s fun c b els=>onCmp1 c fun m op o=>els.isEmpty && op == .In && isVar sc 2 m && isIgn sc (Str.ofString "_mods") o && storeIs sc 1 b
noncomputable def forIs (sc:Scope) (i j:Nat) (fld:Str) (sufOk:PySem.Expr→Bool) (s:Stmt):Bool:=onFor s fun d o b els=>onNm d fun d u=>onOne b fun s=>onIfS s fun c b els2=>els.isEmpty && els2.isEmpty && tgtOk i_names sc d j && isIgn sc fld o && startsIs sc i j sufOk c && storeIs sc 1 b
noncomputable def st4Is (sc:Scope) (s:Stmt):Bool:=onIfS s fun c b els=>onCmp1 c fun m op n=>onConst n fun n=>els.isEmpty && op == .Is && isCN n && isVar sc 1 m && storeIs sc 1 b
noncomputable def namesBody (sc:Scope) (b:List Stmt):Bool:=onCons b fun a b=>onCons b fun s2 b=>onCons b fun c b=>onCons b fun d b=>onCons b fun e r=>st1Is sc a && st2Is sc s2 && forIs sc 2 3 (Str.ofString "_mods") (isText (Str.ofString ".")) c && st4Is sc d && forIs sc 1 4 (Str.ofString "_dirs") (isGlob sc (Str.ofString "sep")) e && storeIs sc 0 r
section
variable {G:Gl} {IC NF fI:Addr} {R da ms dl ig:Addr} {mods dirs:Option Str} {T:List (Str × Int)} {sc:Scope} {env:Env} {X W:Addr→Prop} {σ:St} {s se:Shared} {A:Around} {E:Value→Shared→Prop} {k:Nat}
theorem lookI_any {T:List (Str × Int)} {mn:Str}:(T.any fun p=>p.1 == mn)=(lookI mn T).isSome:=by
  unfold lookI
  induction T with
  | nil=>rfl
  | cons p T ih=>
    rw [List.any_cons,List.find?_cons]
    cases h:(p.1 == mn)
    · simpa using ih
    · simp
theorem put_new {T:List (Str × Int)} {mn:Str} {r:Int} (h:lookI mn T=none):dictPut mn (D.int r) (T.map fun p=>(p.1,D.int p.2))=(T ++ [(mn,r)]).map fun p=>(p.1,D.int p.2):=by
  induction T with
  | nil=>rfl
  | cons p T ih=>
    have h':(p.1 == mn)=false∧lookI mn T=none:=by
      unfold lookI at h ⊢
      rw [List.find?_cons] at h
      cases q:(p.1 == mn)
      · rw [q] at h; exact ⟨rfl,h⟩
      · rw [q] at h; cases h
    simp only [List.map_cons,dictPut,h'.1,List.cons_append]
    rw [if_neg Bool.false_ne_true,ih h'.2]
theorem lookD_map {T:List (Str × Int)} {mn:Str}:lookD mn (T.map fun p=>(p.1,D.int p.2))=(lookI mn T).map D.int:=by
  unfold lookD lookI
  induction T with
  | nil=>rfl
  | cons p T ih=>
    simp only [List.map_cons,List.find?_cons]
    cases h:(p.1 == mn)
    · simpa using ih
    · simp
structure NmSt (G:Gl) (IC:Addr) (R da ms dl ig:Addr) (mods dirs:Option Str) (T:List (Str × Int)) (sc:Scope) (env:Env) (X W:Addr→Prop) (σ:St) (se s:Shared) (fn:D) (mn:Str):Prop where
  fr:FrOK G i_names sc (allI i_names) env X W s.heap σ
  b0:BaseOK G se.heap
  kp:Keeps se s
  r0:RdAt G IC se.heap R da ms dl ig mods dirs T
  w0:∀ a,W a→se.heap.get? a=none
  xi:X ig
  ni:ig ≠ env.locals∧∀ y c,env.cells.lookup y=some c→c ≠ ig
  s0:St.get σ 0=some (.opq (.ref R))
  s1:St.get σ 1=some fn
  s2:St.get σ 2=some (.str mn)
theorem NmSt.base {fn:D} {mn:Str} (N:NmSt G IC R da ms dl ig mods dirs T sc env X W σ se s fn mn):BaseOK G s.heap:=N.b0.mono (Keeps.get N.kp)
theorem NmSt.rd {fn:D} {mn:Str} (N:NmSt G IC R da ms dl ig mods dirs T sc env X W σ se s fn mn):RdAt G IC s.heap R da ms dl ig mods dirs T:=N.r0.mono fun a o u=>Keeps.get N.kp a o
theorem NmSt.tok {fn:D} {mn:Str} (N:NmSt G IC R da ms dl ig mods dirs T sc env X W σ se s fn mn) (t:Nat):NmSt G IC R da ms dl ig mods dirs T sc env X W σ se { s with toks:=t } fn mn:=
  ⟨N.fr,N.b0,Keeps.trans N.kp (Keeps.toks _),N.r0,N.w0,N.xi,N.ni,N.s0,N.s1,N.s2⟩
theorem NmSt.later {s':Shared} {fn:D} {mn:Str} (N:NmSt G IC R da ms dl ig mods dirs T sc env X W σ se s fn mn) (k:Keeps s s'):NmSt G IC R da ms dl ig mods dirs T sc env X W σ se s' fn mn:=
  ⟨N.fr.mono (Keeps.get k),N.b0,Keeps.trans N.kp k,N.r0,N.w0,N.xi,N.ni,N.s0,N.s1,N.s2⟩
noncomputable def NmEnd (G:Gl) (IC:Addr) (R da ms dl ig:Addr) (mods dirs:Option Str) (se:Shared) (r:Int) (T':List (Str × Int)) (v:Value) (s':Shared):Prop:=
  (∃ t,v=.int r t)∧KeepsW (·=ig) se s'∧RdAt G IC s'.heap R da ms dl ig mods dirs T'
theorem eval_ign {e:PySem.Expr} {fld:Str} {fn:D} {mn:Str} {v:Value} {Q:Value→Shared→Prop} (N:NmSt G IC R da ms dl ig mods dirs T sc env X W σ se s fn mn) (O:IgOK G.K IC NF fI) (hs:isIgn sc fld e=true)
    (hf:findIn G.K (.ref IC) fld=some none) (hl:∀ es n,InstAt s.heap R (instObj IC da) IC (some (dictOf es n))→getL (Str.ofString "_ignore") es=some (some (.ref ig))→getL (Str.ofString "_mods") es=some (some (.ref ms))→getL (Str.ofString "_dirs") es=some (some (.ref dl))→getL fld es=some (some v)) (hv:handedIn v=true)
    (h:NmSt G IC R da ms dl ig mods dirs T sc env X W σ se { s with toks:=s.toks + 1 } fn mn→Q v { s with toks:=s.toks + 1 }):wpAny (model G.prog G.w) A (eval e env) Q E s:=by
  refine onNA_ hs fun x xp a p hs=>and_ hs fun h1 h2=>?_
  cases eqb_ h2
  obtain ⟨es,n,I1,g1,g2,g3⟩:=N.rd.fld_ign
  exact eval_fld N.fr N.base O h1 N.s0 hf I1 (hl es n I1 g1 g2 g3) hv (h (N.tok _))
theorem eval_int {e:PySem.Expr} {r:Int} {Q:Value→Shared→Prop} (hs:isInt r e=true) (h:Q (.int r s.toks) { s with toks:=s.toks + 1 }):wpAny (model G.prog G.w) A (eval e env) Q E s:=
  onInt_ hs fun v n p hs=>by
    cases eq_of_beq hs
    exact wpAny_Constant_int h
theorem eval_var {e:PySem.Expr} {i:Nat} {d:D} {Q:Value→Shared→Prop} (F:FrOK G i_names sc (allI i_names) env X W s.heap σ) (hs:isVar sc i e=true) (hσ:St.get σ i=some d) (h:∀ v,Rep G X s.heap v d→Q v s):wpAny (model G.prog G.w) A (eval e env) Q E s:=
  onNm_ hs fun m p hs=>F.load hs hσ fun v u u r=>h v (r List.not_mem_nil)
theorem store_end {b:List Stmt} {r:Int} {fn:D} {mn:Str} {Q:Flow→Shared→Prop} (N:NmSt G IC R da ms dl ig mods dirs T sc env X W σ se s fn mn) (O:IgOK G.K IC NF fI) (hs:storeIs sc r b=true) (hz:T.length ≤ 1000) (hno:lookI mn T=none)
    (h:∀ v s',NmEnd G IC R da ms dl ig mods dirs se r (T ++ [(mn,r)]) v s'→Q (.ret v) s'):wpAny (model G.prog G.w) A (execs b env) Q E s:=by
  refine onTwo_ hs fun s1 s2 hs=>onAsg_ hs fun ts x p hs=>onOne_ hs fun t hs=>onSub_ hs fun o i sp hs=>onRetE_ hs fun f rp hs=>and_ hs fun hs h4=>and_ hs fun hs h3=>and_ hs fun h1 h2=>?_
  refine wpAny_execs_cons (wpAny_Assign_Subscript (eval_int h3 ?_) (onInt_ (motive:=fun x=>swapsWith x (some (.Subscript o i sp)) p.line env=pure false) h3 fun u u u u=>rfl))
  have N1:NmSt G IC R da ms dl ig mods dirs T sc env X W σ se { s with toks:=s.toks + 1 } fn mn:=N.tok _
  refine eval_ign N1 O h1 O.f3 (fun u u u g u u=>g) rfl fun N2=>?_
  refine eval_var N2.fr h2 N2.s2 fun v rv=>?_
  obtain ⟨tk,rfl⟩:=(Rep.w rv).str_
  obtain ⟨kv,ht,hk⟩:=N2.rd.ign
  have hlen:=hk.length
  simp only [List.length_map] at hlen
  refine wpAny_setItem_pairs (strKind_is G.prog G.w mn tk) ht.2 (fun h' p' hs'=>?_) (by rw [sizeLine_eq]; exact om163 hlen hz)
  have nd:(kv.map (·.1)).Nodup:=by obtain ⟨_,_,_,_,_,_,_,_,_,nd⟩:=ht; exact nd
  have hk':RepK G (fun u=>False) h' (stored kv mn (.int r s.toks)) ((T ++ [(mn,r)]).map fun p=>(p.1,D.int p.2)):=by
    have h5:=stored_put (k:=mn) (d:=.int r) (repK_ints (h':=h') (Y:=fun u=>False) hk) nd (.int r s.toks)
    have e:dictPut mn (D.int r) (T.map fun p=>(p.1,D.int p.2))=(T ++ [(mn,r)]).map fun p=>(p.1,D.int p.2):=put_new hno
    rwa [e] at h5
  refine wpAny_execs_cons (wpAny_Return_some (eval_int h4 (h _ _ ⟨⟨_,rfl⟩,?_,?_⟩)))
  · obtain ⟨h0,t0,e0,k0⟩:=N.kp
    subst e0
    exact ⟨h',_,rfl,fun b o n q=>(hs'.2 b n).trans (k0 b o q)⟩
  · exact N2.rd.turn (kv:=stored kv mn (.int r s.toks)) hs' ⟨ht.1,p'⟩ hk'
structure Src (G:Gl) (A:Around) (J a:Addr) (S:Option Str) (P:Nat→Heap→Prop):Prop where
  frame:∀ i h h',P i h→(∀ b o,(b=J ∨ b=a)→h.get? b=some o→h'.get? b=some o)→P i h'
  live:∀ i h,P i h→∃ o,h.get? J=some o
  item:∀ y,S=some y→∀ (s:Shared) (Q:Option Value→Shared→Prop) (E:Value→Shared→Prop),P 0 s.heap→(∀ h' t tk,P 1 h'→(∀ b o,b ≠ J→s.heap.get? b=some o→h'.get? b=some o)→Q (some (.str y t)) { s with heap:=h',toks:=tk })→wpAny (model G.prog G.w) A (pyNext (.ref J)) Q E s
  done:∀ (s:Shared) (Q:Option Value→Shared→Prop) (E:Value→Shared→Prop),P (if S.isSome then 1 else 0) s.heap→(∀ h' tk,(∀ b o,b ≠ J→s.heap.get? b=some o→h'.get? b=some o)→Q none { s with heap:=h',toks:=tk })→wpAny (model G.prog G.w) A (pyNext (.ref J)) Q E s
noncomputable def SrcOf (G:Gl) (A:Around) (a:Addr) (S:Option Str) (s:Shared):Prop:=∀ (Q:Value→Shared→Prop) (E:Value→Shared→Prop),
  (∀ J h' tk P,s.heap.get? J=none→(∀ b o,s.heap.get? b=some o→h'.get? b=some o)→Src G A J a S P→P 0 h'→Q (.ref J) { s with heap:=h',toks:=tk })→wpAny (model G.prog G.w) A (pyIter (.ref a)) Q E s
theorem src_set {a:Addr} {S:Option Str} (hh:A.handled=none) (x:SetAt G.prog G.w s.heap a S):SrcOf G A a S s:=by
  intro Q E hQ
  obtain ⟨es,ep,t,ho,hf,hes⟩:=x
  have h1:es.size ≤ 1:=by
    rcases hes with ⟨_,rfl⟩ | ⟨y,tk,_,rfl,_⟩
    · exact Nat.zero_le _
    · exact Nat.le_refl _
  have hne:a ≠ s.heap.objs.size:=Nat.ne_of_lt (Heap.lt_size ho)
  refine set_iter ho hf h1 (hQ s.heap.objs.size _ s.toks (fun i h=>SetStep G.prog G.w s.heap.objs.size a S i h) (none_size _) (fun b o e=>Heap.get?_push_of_some _ e) ?_ ?_)
  · refine ⟨fun i h h' st k=>?_,fun i h st=>?_,fun y hy s1 Q E st hq=>?_,fun s1 Q E st hq=>?_⟩
    · obtain ⟨es,ep,t,sl,hJ,ho,r⟩:=st
      exact ⟨es,ep,t,sl,k _ _ (.inl rfl) hJ,k _ _ (.inr rfl) ho,r⟩
    · obtain ⟨es,ep,t,sl,hJ,_⟩:=st
      exact ⟨_,hJ⟩
    · subst hy
      exact set_next_item hne st fun h' tk st' hs=>hq h' tk s1.toks st' fun b o n e=>(hs.2 b n).trans e
    · exact set_next_end hh st rfl fun h' he=>hq h' s1.toks fun b o n e=>he b o n e
  · refine ⟨es,ep,t,0,Heap.get?_push_size _ rfl,Heap.get?_push_of_some _ ho,hf,?_⟩
    rcases hes with ⟨e1,e2⟩ | ⟨y,tk,e1,e2,e3⟩
    · exact .inl ⟨e1,e2⟩
    · exact .inr ⟨y,tk,e1,e2,e3,rfl⟩
theorem src_list {a:Addr} {S:Option Str} {vs:List Value} (hh:A.handled=none) (x:ListAt s.heap a vs.toArray) (hv:Strs vs S.toList):SrcOf G A a S s:=by
  intro Q E hQ
  have ha:a < s.heap.objs.size:=by obtain ⟨⟨o,e,_⟩,_⟩:=x; exact Heap.lt_size e
  have hne:a ≠ s.heap.objs.size:=Nat.ne_of_lt ha
  have W:=Walks.list (prog:=G.prog) (w:=G.w) hh s.heap.objs.size a hne vs.toArray
  refine wpAny_pyIter_list x.1 (hQ s.heap.objs.size _ s.toks (fun i h=>h.IsListIter s.heap.objs.size a i∧h.IsList a vs.toArray) (none_size _) (fun b o e=>Heap.get?_push_of_some _ e) ?_ ?_)
  · refine ⟨fun i h h' st k=>?_,fun i h st=>?_,fun y hy s1 Q E st hq=>?_,fun s1 Q E st hq=>?_⟩
    · obtain ⟨⟨o,e,r⟩,⟨o',e',r'⟩⟩:=st
      exact ⟨⟨o,k _ _ (.inl rfl) e,r⟩,⟨o',k _ _ (.inr rfl) e',r'⟩⟩
    · obtain ⟨⟨o,e,r⟩,_⟩:=st
      exact ⟨o,e⟩
    · subst hy
      refine W.item 0 s1 _ _ (by rw [List.size_toArray,hv.length]; exact Nat.zero_lt_one) st fun v h' tk hP st' hk=>?_
      obtain ⟨t,e⟩:=hv.get (i:=0) Nat.zero_lt_one
      have:v=.str y t:=by
        have h1:vs[0]?=some v:=by simpa using hP
        rw [h1] at e
        exact Option.some.inj e
      subst this
      exact hq h' t tk st' fun b o n e=>hk b o (by simpa using n) e
    · refine W.done s1 _ _ ?_ fun h' tk hk=>hq h' tk fun b o n e=>hk b o (by simpa using n) e
      have:vs.toArray.size=(if S.isSome then 1 else 0):=by
        rw [List.size_toArray,hv.length]
        cases S <;> rfl
      rw [this]
      exact st
  · exact ⟨⟨_,Heap.get?_push_size _ rfl,rfl,rfl⟩,x.1.push _⟩
end
section
variable {G:Gl} {IC NF fI:Addr} {R da ms dl ig:Addr} {mods dirs:Option Str} {T:List (Str × Int)} {sc:Scope} {env:Env} {X W:Addr→Prop} {σ:St} {s se:Shared} {A:Around} {E:Value→Shared→Prop} {k:Nat}
theorem NmSt.live {fn:D} {mn:Str} (N:NmSt G IC R da ms dl ig mods dirs T sc env X W σ se s fn mn):∀ a,(a=R ∨ a=da ∨ a=ms ∨ a=dl ∨ a=ig)→∃ o,se.heap.get? a=some o:=N.r0.live
theorem NmSt.turn {fn:D} {mn:Str} {J:Addr} {h5:Heap} {tk5:Nat} (N:NmSt G IC R da ms dl ig mods dirs T sc env X W σ se s fn mn) (xJ:X J) (nJe:se.heap.get? J=none) (nl:J ≠ env.locals) (nc:∀ y c,env.cells.lookup y=some c→c ≠ J) (lJ:∃ o,h5.get? J=some o) (k5:∀ b o,b ≠ J→s.heap.get? b=some o→h5.get? b=some o) :
    NmSt G IC R da ms dl ig mods dirs T sc env X W σ se { s with heap:=h5,toks:=tk5 } fn mn:=by
  refine ⟨(N.fr.monoJ (h':=h5) (J:=J) xJ lJ nl nc (fun i x a h1 h2=>absurd h2 List.not_mem_nil) k5).1,N.b0,?_,N.r0,N.w0,N.xi,N.ni,N.s0,N.s1,N.s2⟩
  obtain ⟨h0,t0,e0,k0⟩:=N.kp
  subst e0
  exact Keeps.mk' fun b o q=>k5 b o (fun z=>nomatch (z ▸ q).symm.trans nJe) (k0 b o q)
theorem NmSt.drop {fn:D} {mn:Str} {J:Addr} {h5:Heap} {tk5:Nat} (N:NmSt G IC R da ms dl ig mods dirs T sc env X W σ se s fn mn) (xJ:X J) (nW:¬ W J) (nJe:se.heap.get? J=none) (nl:J ≠ env.locals) (nc:∀ y c,env.cells.lookup y=some c→c ≠ J) (ni:ig ≠ J) (k5:∀ b o,b ≠ J→s.heap.get? b=some o→h5.get? b=some o) :
    NmSt G IC R da ms dl ig mods dirs T sc env (fun b=>X b∧b ≠ J) W σ se { s with heap:=h5,toks:=tk5 } fn mn:=by
  refine ⟨N.fr.dropJ (h':=h5) (J:=J) nW xJ nl nc (fun i x a h1 h2=>absurd h2 List.not_mem_nil) k5,N.b0,?_,N.r0,N.w0,⟨N.xi,ni⟩,N.ni,N.s0,N.s1,N.s2⟩
  obtain ⟨h0,t0,e0,k0⟩:=N.kp
  subst e0
  exact Keeps.mk' fun b o q=>k5 b o (fun z=>nomatch (z ▸ q).symm.trans nJe) (k0 b o q)
theorem NmSt.stored {fn:D} {mn:Str} {j:Nat} {d:D} {s6:Shared} (N:NmSt G IC R da ms dl ig mods dirs T sc env X W σ se s fn mn) (hlt:j < σ.length) (hj:3 ≤ j) (F6:FrOK G i_names sc (allI i_names) env X W s6.heap (σ.put j d)) (k6:KeepsW W s s6):NmSt G IC R da ms dl ig mods dirs T sc env X W (σ.put j d) se s6 fn mn:=
  have g:∀ i,i < 3→St.get (σ.put j d) i=St.get σ i:=fun i hi=>(St.get_put hlt).trans (if_neg (Nat.ne_of_lt (Nat.lt_of_lt_of_le hi hj)))
  ⟨F6,N.b0,by
    obtain ⟨h0,t0,e0,k0⟩:=N.kp
    subst e0
    obtain ⟨h1,t1,e1,k1⟩:=k6
    subst e1
    exact Keeps.mk' fun b o q=>k1 b o (fun w=>nomatch q.symm.trans (N.w0 b w)) (k0 b o q),N.r0,N.w0,N.xi,N.ni,(g 0 (by decide)).trans N.s0,(g 1 (by decide)).trans N.s1,(g 2 (by decide)).trans N.s2⟩
theorem for_item {c:PySem.Expr} {bb:List Stmt} {ip:Pos} {i j:Nat} {suf x y:Str} {sufOk:PySem.Expr→Bool} {fn:D} {mn:Str} {Q:Flow→Shared→Prop} (N:NmSt G IC R da ms dl ig mods dirs T sc env X W σ se s fn mn) (O:IgOK G.K IC NF fI) (hc:startsIs sc i j sufOk c=true) (hbb:storeIs sc 1 bb=true)
    (gi:St.get σ i=some (.str x)) (gj:St.get σ j=some (.str y))
    (hsuf:∀ (e:PySem.Expr) (X' W':Addr→Prop) (σ':St) (s':Shared) (E':Value→Shared→Prop),sufOk e=true→plainE e=true→FrOK G i_names sc (allI i_names) env X' W' s'.heap σ'→BaseOK G s'.heap→wpAny (model G.prog G.w) A (eval e env) (fun v s1=>Keeps s' s1∧∃ t,v=.str suf t) E' s')
    (hpl:∀ e,sufOk e=true→plainE e=true) (hsz:y.length + suf.length ≤ cap) (hz:T.length ≤ 1000) (hno:lookI mn T=none)
    (hT:Txt.startswith x (y ++ suf)=true→∀ v s',NmEnd G IC R da ms dl ig mods dirs se 1 (T ++ [(mn,1)]) v s'→Q (.ret v) s') (hF:Txt.startswith x (y ++ suf)=false→∀ s',Keeps s s'→Q .next s') :
    wpAny (model G.prog G.w) A (execs [.If c bb [] ip] env) Q E s:=by
  refine onMeth_ hc fun o stn ap as cp h3 hc=>onNm_ hc fun m mp hc=>onOne_ hc fun a hc=>onBin_ hc fun l op ee bp hc=>onNm_ hc fun dd ddp hc=>and_ hc fun hc h5'=>and_ hc fun hc h4=>and_ hc fun hc c2=>and_ hc fun c0 hm=>?_
  cases eqb_ c0
  cases eqb_ c2
  refine wpAny_execs_cons (wpAny_If (isTrue_plain (starts_call (X:=X) (b:=y ++ suf) N.fr h3 hm gi rfl N.fr.live ?_) rfl))
  refine wpAny_BinOp (N.fr.load (d:=.str y) h4 gj fun vy u ry u=>?_)
  obtain ⟨ty,rfl⟩:=ry.str_
  refine wpAny_mono (hsuf ee _ _ _ s _ h5' (hpl ee h5') N.fr N.base) (fun vs s7 h7=>?_) fun u u x=>x
  obtain ⟨k7,ts,rfl⟩:=h7
  refine SB.add (fun t8 k8=>⟨Keeps.trans k7 (Keeps.toks _),⟨_,rfl⟩,fun s9 k9=>wpAny_truthy_bool ?_⟩) (cap_line hsz)
  have k:=Keeps.trans (Keeps.trans k7 (Keeps.toks _)) k9
  cases hbq:Txt.startswith x (y ++ suf) with
  | false=>exact wpAny_execs_nil (wpAny_execs_nil (hF hbq s9 k))
  | true=>exact store_end (N.later k) O hbb hz hno fun v s10 he=>hT hbq v s10 he
theorem for_end {st:Stmt} {i j:Nat} {fld suf x:Str} {sufOk:PySem.Expr→Bool} {fn:D} {mn:Str} {a:Addr} {S:Option Str} {b:Bool} (N:NmSt G IC R da ms dl ig mods dirs T sc env X W σ se s fn mn) (O:IgOK G.K IC NF fI) (rm:Room A k) (hs:forIs sc i j fld sufOk st=true)
    (hf:findIn G.K (.ref IC) fld=some none) (hl:∀ es n,InstAt s.heap R (instObj IC da) IC (some (dictOf es n))→getL (Str.ofString "_ignore") es=some (some (.ref ig))→getL (Str.ofString "_mods") es=some (some (.ref ms))→getL (Str.ofString "_dirs") es=some (some (.ref dl))→getL fld es=some (some (.ref a)))
    (ha:a=R ∨ a=da ∨ a=ms ∨ a=dl ∨ a=ig) (hsrc:∀ s',Keeps s s'→SrcOf G A a S s') (hx:∀ σ':St,St.get σ' 1=some fn→St.get σ' 2=some (.str mn)→St.get σ' i=some (.str x)) (hj:3 ≤ j)
    (hsuf:∀ (e:PySem.Expr) (X' W':Addr→Prop) (σ':St) (s':Shared) (E':Value→Shared→Prop),sufOk e=true→plainE e=true→FrOK G i_names sc (allI i_names) env X' W' s'.heap σ'→BaseOK G s'.heap→wpAny (model G.prog G.w) A (eval e env) (fun v s1=>Keeps s' s1∧∃ t,v=.str suf t) E' s')
    (hpl:∀ e,sufOk e=true→plainE e=true) (hsz:∀ y,S=some y→y.length + suf.length ≤ cap) (hb:(S.any fun y=>Txt.startswith x (y ++ suf))=b) (hz:T.length ≤ 1000) (hno:lookI mn T=none) {Q:Flow→Shared→Prop}
    (hT:b=true→∀ v s',NmEnd G IC R da ms dl ig mods dirs se 1 (T ++ [(mn,1)]) v s'→Q (.ret v) s') (hF:b=false→∀ X' σ' s',NmSt G IC R da ms dl ig mods dirs T sc env X' W σ' se s' fn mn→Q .next s'):wpAny (model G.prog G.w) A (exec st env) Q E s:=by
  refine onFor_ hs fun d o bs els fp hs=>onNm_ hs fun d dp hs=>onOne_ hs fun st hs=>onIfS_ hs fun c bb els2 ip hs=>and_ hs fun hs hbb=>and_ hs fun hs hc=>and_ hs fun hs ho=>and_ hs fun hs ht=>and_ hs fun c1 c2=>?_
  cases List.isEmpty_iff.mp c1
  cases List.isEmpty_iff.mp c2
  refine wpAny_For (eval_ign N O ho hf hl rfl fun N1=>?_) (fun x=>onNA_ (motive:=fun o=>foldedSetIterable o env x=pure x) ho fun u u u u u=>rfl)
  refine hsrc _ (Keeps.toks _) _ _ fun J h2 tk2 P nJ k2 SR p0=>?_
  obtain ⟨oJ,eJ⟩:=SR.live _ _ p0
  have kk2:Keeps { s with toks:=s.toks + 1 } { s with heap:=h2,toks:=tk2 }:=⟨h2,tk2,rfl,k2⟩
  have nJe:se.heap.get? J=none:=none_of_none (fun o=>Keeps.get N1.kp J o) nJ
  have F2:=N1.fr.grow (h':=h2) (N:=fun b=>b=J) (W':=W) k2 (fun b q=>by subst q; exact ⟨nJ,oJ,eJ⟩) (fun b w=>w) fun b w=>.inl (N1.fr.wx b w)
  have N2:NmSt G IC R da ms dl ig mods dirs T sc env (fun b=>X b ∨ b=J) W σ se { s with heap:=h2,toks:=tk2 } fn mn:=⟨F2,N.b0,Keeps.trans N1.kp kk2,N.r0,N.w0,.inl N.xi,N.ni,N.s0,N.s1,N.s2⟩
  have nl:J ≠ env.locals:=fun q=>by obtain ⟨m,o,es,ep,e',_⟩:=N1.fr.ns; rw [← q] at e'; rw [nJ] at e'; cases e'
  have nc:∀ y c,env.cells.lookup y=some c→c ≠ J:=fun y c hc q=>by
    obtain ⟨o,e'⟩:=N1.fr.live c (N1.fr.cx y c hc).1
    rw [q,nJ] at e'; cases e'
  have nWJ:¬ W J:=fun w=>by
    obtain ⟨o,e'⟩:=N1.fr.live J (N1.fr.wx J w)
    rw [nJ] at e'; cases e'
  have igJ:ig ≠ J:=fun q=>let ⟨o,eo⟩:=N.live ig (.inr (.inr (.inr (.inr rfl)))); nomatch (q ▸ eo).symm.trans nJe
  let NN:Shared→St→Prop:=fun s' σ'=>NmSt G IC R da ms dl ig mods dirs T sc env (fun b=>X b ∨ b=J) W σ' se s' fn mn
  let Inv:Nat→Shared→Prop:=fun n s'=>(n=2∧S.isSome=true∧P 0 s'.heap∧NN s' σ) ∨
    (n=1∧P (if S.isSome then 1 else 0) s'.heap∧b=false∧∃ σ',NN s' σ')
  refine forLoop_var Inv ?_ (if S.isSome then 2 else 1) ?_
  · rintro NE VE EE hN hV n s' (⟨rfl,hS,p,N'⟩ | ⟨rfl,p,hbf,σ',N'⟩)
    · obtain ⟨y,hy⟩:=Option.isSome_iff_exists.mp hS
      refine SR.item y hy s' _ _ p fun h5 t5 tk5 p5 k5=>?_
      have N5:=NmSt.turn (tk5:=tk5) N' (.inr rfl) nJe nl nc (SR.live _ _ p5) k5
      refine wpAny_letGo_name ?_
      have hjm:j ∈ allI i_names:=mem_allI (tgt_at ht)
      have hlt:j < σ.length:=by rw [N5.fr.size]; exact List.mem_range.mp hjm
      refine wpAny_mono (FrOK.assign_name (s:={ s' with heap:=h5,toks:=tk5 }) N5.fr ht List.not_mem_nil hjm (.str y t5)) (fun u s6 h6=>?_) fun u u x=>x
      obtain ⟨F6,k6,_⟩:=h6
      have N6:=N5.stored hlt hj F6 k6
      have p6:P 1 s6.heap:=SR.frame 1 h5 _ p5 fun b o hb q=>KeepsW.get k6 b o (fun w=>hb.elim (fun e=>nWJ (e ▸ w)) fun e=>let ⟨_,eo⟩:=N.live _ ha; nomatch (e ▸ eo).symm.trans (N.w0 _ w)) q
      have hb':Txt.startswith x (y ++ suf)=b:=by rw [← hb,hy]; rfl
      exact for_item N6 O hc hbb (hx _ N6.s1 N6.s2) ((St.get_put hlt).trans (if_pos rfl)) hsuf hpl (hsz y hy) hz hno (fun q v s10 he=>hV _ _ (hT (hb'.symm.trans q) v s10 he)) fun q s9 k=>⟨1,Nat.lt_succ_self 1,.inr ⟨rfl,by rw [if_pos hS]; exact SR.frame 1 _ _ p6 fun b o u=>Keeps.get k b o,hb'.symm.trans q,_,N6.later k⟩⟩
    · exact SR.done s' _ _ p fun h5 tk5 k5=>hN _ (hF hbf _ σ' _ (NmSt.drop (tk5:=tk5) N' (.inr rfl) nWJ nJe nl nc igJ k5))
  · cases hS:S.isSome
    · rw [if_neg Bool.false_ne_true]
      refine .inr ⟨rfl,by rw [if_neg (by rw [hS]; exact Bool.false_ne_true)]; exact p0,?_,σ,N2⟩
      rw [← hb]
      cases S with
      | none=>rfl
      | some _=>cases hS
    · rw [if_pos rfl]
      exact .inl ⟨rfl,hS,p0,N2⟩
end
noncomputable def nmR (mods dirs:Option Str) (fn:Option Str) (mn:Str):Int:=
  if (mods == some mn)=true then 1 else if (mods.any fun m=>Txt.startswith mn (m ++ Str.ofString "."))=true then 1 else match fn with
    | none=>1
    | some f=>if (dirs.any fun d=>Txt.startswith f (d ++ Str.ofString "/"))=true then 1 else 0
noncomputable def nm (mods dirs:Option Str) (T:List (Str × Int)) (fn:Option Str) (mn:Str):Int × List (Str × Int):=match lookI mn T with
  | some v=>(v,T)
  | none=>(nmR mods dirs fn mn,T ++ [(mn,nmR mods dirs fn mn)])
noncomputable def fnD:Option Str→D
  | none=>.none
  | some f=>.str f
section
variable {G:Gl} {IC NF fI:Addr} {R da ms dl ig:Addr} {mods dirs:Option Str} {T:List (Str × Int)} {sc:Scope} {env:Env} {X W:Addr→Prop} {σ:St} {s se:Shared} {A:Around} {E:Value→Shared→Prop} {k:Nat}
theorem ign_plain {sc:Scope} {fld:Str} {e:PySem.Expr} (h:isIgn sc fld e=true):∀ op,behindInMarks op e=false:=fun op=>onNA_ (motive:=fun e=>behindInMarks op e=false) h fun u u u u u=>rfl
theorem var_plain {sc:Scope} {i:Nat} {e:PySem.Expr} (h:isVar sc i e=true):plainE e=true:=onNm_ h fun u u u=>rfl
theorem text_ok {G:Gl} {x:Str} (e:PySem.Expr) (X' W':Addr→Prop) (σ':St) (s':Shared) (E':Value→Shared→Prop) (h:isText x e=true) (_:plainE e=true) (_:FrOK G i_names sc (allI i_names) env X' W' s'.heap σ') (_:BaseOK G s'.heap) :
    wpAny (model G.prog G.w) A (eval e env) (fun v s1=>Keeps s' s1∧∃ t,v=.str x t) E' s':=
  onStr_ h fun v n p h=>by
    cases eqb_ h
    exact Calls.Constant_str ⟨Keeps.toks _,_,rfl⟩
theorem text_plain {x:Str} (e:PySem.Expr) (h:isText x e=true):plainE e=true:=onStr_ h fun u u u u=>rfl
theorem glob_plain {sc:Scope} {x:Str} (e:PySem.Expr) (h:isGlob sc x e=true):plainE e=true:=onNm_ h fun u u u=>rfl
theorem sep_ok {G:Gl} {x y:Str} {tk:Tok} (hn:nsIn G.K mainGlobals x=some (some (.str y tk))) (e:PySem.Expr) (X' W':Addr→Prop) (σ':St) (s':Shared) (E':Value→Shared→Prop) (h:isGlob sc x e=true) (_:plainE e=true) (F:FrOK G i_names sc (allI i_names) env X' W' s'.heap σ') (B:BaseOK G s'.heap) :
    wpAny (model G.prog G.w) A (eval e env) (fun v s1=>Keeps s' s1∧∃ t,v=.str y t) E' s':=
  onNm_ h fun v p h=>and_ h fun h1 h2=>by
    cases eqb_ h1
    exact load_glob F B h2 hn ⟨Keeps.rfl,_,rfl⟩
theorem NmEnd.of {fn:D} {mn:Str} {r:Int} {t:Tok} {s':Shared} (N:NmSt G IC R da ms dl ig mods dirs T sc env X W σ se s fn mn) (kp:Keeps s s'):NmEnd G IC R da ms dl ig mods dirs se r T (.int r t) s':=
  ⟨⟨_,rfl⟩,Keeps.toW (Keeps.trans N.kp kp),(N.later kp).rd⟩
theorem names_file {fn:Option Str} {mn:Str} {st1 st2:Stmt} {b:List Stmt} {tk:Tok} {Q:Flow→Shared→Prop} (N:NmSt G IC R da ms dl ig mods dirs T sc env X W σ se s (fnD fn) mn) (O:IgOK G.K IC NF fI) (rm:Room A k) (h4:st4Is sc st1=true) (h5:forIs sc 1 4 (Str.ofString "_dirs") (isGlob sc (Str.ofString "sep")) st2=true) (h6:storeIs sc 0 b=true)
    (nsep:nsIn G.K mainGlobals (Str.ofString "sep")=some (some (.str (Str.ofString "/") tk))) (hd:∀ y,dirs=some y→y.length + 1 ≤ cap) (hz:T.length ≤ 1000) (hlk:lookI mn T=none)
    (h1:(∀ f,fn=some f→(dirs.any fun d=>Txt.startswith f (d ++ Str.ofString "/"))=true)→∀ v s',NmEnd G IC R da ms dl ig mods dirs se 1 (T ++ [(mn,1)]) v s'→Q (.ret v) s')
    (h0:∀ f,fn=some f→(dirs.any fun d=>Txt.startswith f (d ++ Str.ofString "/"))=false→∀ v s',NmEnd G IC R da ms dl ig mods dirs se 0 (T ++ [(mn,0)]) v s'→Q (.ret v) s') :
    wpAny (model G.prog G.w) A (execs (st1 :: st2 :: b) env) Q E s:=by
  refine onIfS_ h4 fun c b4 els p h4=>onCmp1_ h4 fun m op n p h4=>onConst_ h4 fun n nn np h4=>and_ h4 fun h4 w2=>and_ h4 fun h4 w1=>and_ h4 fun h4 c2=>and_ h4 fun c0 c1=>?_
  cases List.isEmpty_iff.mp c0
  cases eqb_ c1
  refine isCN_ c2 ?_
  refine wpAny_execs_cons (wpAny_If (wpAny_isTrue_Compare1 (eval_var N.fr w1 N.s1 fun v0 r0=>Constant_none ?_) rfl))
  cases fn with
  | none=>
    cases (Rep.w r0).none_
    exact wpAny_is_self rfl (wpAny_truthy_bool (store_end N O w2 hz hlk (h1 fun f e=>nomatch e)))
  | some f=>
    obtain ⟨tf,rfl⟩:=(Rep.w r0).str_
    refine is_str_none (wpAny_truthy_bool (wpAny_execs_nil ?_))
    obtain ⟨vs,l1,l2⟩:=N.rd.dirs
    exact wpAny_execs_cons (for_end (a:=dl) (S:=dirs) (suf:=Str.ofString "/") (x:=f) (i:=1) (j:=4) (fld:=Str.ofString "_dirs") N O rm h5 O.f2 (fun u u u u u g=>g) (.inr (.inr (.inr (.inl rfl))))
      (fun s' kk=>src_list rm.handled (l1.at' fun o=>Keeps.get kk _ o) l2) (fun σ' q u=>q) (by decide) (sep_ok nsep) glob_plain (fun y hy=>hd y hy) rfl hz hlk (fun q=>h1 fun f' e=>Option.some.inj e ▸ q) fun q X6 σ6 s6 N6=>store_end N6 O h6 hz hlk (h0 f rfl q))
theorem names_mods {fn:Option Str} {mn:Str} {st2 st3 st4 st5:Stmt} {b:List Stmt} {tk:Tok} {Q:Flow→Shared→Prop} (N:NmSt G IC R da ms dl ig mods dirs T sc env X W σ se s (fnD fn) mn) (O:IgOK G.K IC NF fI) (rm:Room A k) (h2:st2Is sc st2=true) (h3:forIs sc 2 3 (Str.ofString "_mods") (isText (Str.ofString ".")) st3=true) (h4:st4Is sc st4=true) (h5:forIs sc 1 4 (Str.ofString "_dirs") (isGlob sc (Str.ofString "sep")) st5=true) (h6:storeIs sc 0 b=true)
    (nsep:nsIn G.K mainGlobals (Str.ofString "sep")=some (some (.str (Str.ofString "/") tk))) (hm:∀ y,mods=some y→y.length + 1 ≤ cap) (hd:∀ y,dirs=some y→y.length + 1 ≤ cap) (hz:T.length ≤ 1000) (hlk:lookI mn T=none)
    (h1:∀ r,nmR mods dirs fn mn=r→∀ v s',NmEnd G IC R da ms dl ig mods dirs se r (T ++ [(mn,r)]) v s'→Q (.ret v) s') :
    wpAny (model G.prog G.w) A (execs (st2 :: st3 :: st4 :: st5 :: b) env) Q E s:=by
  refine onIfS_ h2 fun c b4 els p h2=>onCmp1_ h2 fun m op o p h2=>and_ h2 fun h2 u3=>and_ h2 fun h2 u2=>and_ h2 fun h2 u1=>and_ h2 fun c0 c1=>?_
  cases List.isEmpty_iff.mp c0
  cases eqb_ c1
  refine wpAny_execs_cons (wpAny_If (wpAny_isTrue_Compare1 (eval_var N.fr u1 N.s2 fun v0 r0=>eval_ign N O u2 O.f1 (fun u u u u g u=>g) rfl fun N3=>?_) (ign_plain u2 _)))
  obtain ⟨t0,rfl⟩:=(Rep.w r0).str_
  refine set_in N3.rd.mods (wpAny_truthy_bool ?_)
  have N4:=N3.tok (s.toks + 1 + 1)
  refine ite_P (c:=(mods == some mn)=true) (fun z:Prop=>z) (fun hq=>?_) fun hq=>wpAny_execs_nil ?_
  · exact store_end N4 O u3 hz hlk (h1 1 (if_pos hq))
  · refine wpAny_execs_cons (for_end (a:=ms) (S:=mods) (suf:=Str.ofString ".") (x:=mn) (i:=2) (j:=3) (fld:=Str.ofString "_mods") N4 O rm h3 O.f1 (fun u u u u g u=>g) (.inr (.inr (.inl rfl)))
      (fun s' kk=>src_set rm.handled ((N4.later kk).rd.mods)) (fun σ' u q=>q) (by decide) text_ok text_plain (fun y hy=>hm y hy) rfl hz hlk (fun q2=>h1 1 ((if_neg hq).trans (if_pos q2))) fun q2 X5 σ5 s5 N5=>?_)
    have q2':¬ (mods.any fun m=>Txt.startswith mn (m ++ Str.ofString "."))=true:=fun z=>Bool.false_ne_true (q2.symm.trans z)
    refine names_file N5 O rm h4 h5 h6 nsep hd hz hlk (fun q3=>h1 1 ((if_neg hq).trans ((if_neg q2').trans ?_))) fun f e q3=>h1 0 ((if_neg hq).trans ((if_neg q2').trans ?_))
    · cases fn with
      | none=>rfl
      | some f=>exact if_pos (q3 f rfl)
    · cases e
      exact if_neg (fun z=>Bool.false_ne_true (q3.symm.trans z))
theorem names_run {fn:Option Str} {mn:Str} {b:List Stmt} {tk:Tok} {Q:Flow→Shared→Prop} (N:NmSt G IC R da ms dl ig mods dirs T sc env X W σ se s (fnD fn) mn) (O:IgOK G.K IC NF fI) (rm:Room A k) (hbd:namesBody sc b=true)
    (nsep:nsIn G.K mainGlobals (Str.ofString "sep")=some (some (.str (Str.ofString "/") tk))) (hm:∀ y,mods=some y→y.length + 1 ≤ cap) (hd:∀ y,dirs=some y→y.length + 1 ≤ cap) (hz:T.length ≤ 1000)
    (hQ:∀ p,nm mods dirs T fn mn=p→∀ v s',NmEnd G IC R da ms dl ig mods dirs se p.1 p.2 v s'→Q (.ret v) s'):wpAny (model G.prog G.w) A (execs b env) Q E s:=by
  refine onCons_ hbd fun st1 b hbd=>onCons_ hbd fun st2 b hbd=>onCons_ hbd fun st3 b hbd=>onCons_ hbd fun st4 b hbd=>onCons_ hbd fun st5 b hbd=>and_ hbd fun hbd h6=>and_ hbd fun hbd h5=>and_ hbd fun hbd h4=>and_ hbd fun hbd h3=>and_ hbd fun h1 h2=>?_
  refine onIf1_ h1 fun c a p h1=>onCmp1_ h1 fun m op o p h1=>onRetE_ h1 fun e p h1=>onSub_ h1 fun o2 m2 p h1=>and_ h1 fun h1 g4=>and_ h1 fun h1 g3=>and_ h1 fun h1 g2=>and_ h1 fun c0 g1=>?_
  cases eqb_ c0
  refine wpAny_execs_cons (wpAny_If (wpAny_isTrue_Compare1 (eval_var N.fr g1 N.s2 fun v0 r0=>eval_ign N O g2 O.f3 (fun u u u g u u=>g) rfl fun N1=>?_) (ign_plain g2 _)))
  refine wpAny_mono (cmp_sound (op:=.isin) (X:=X) (r:=(lookI mn T).isSome) (rm) (Rep.w (r0.mono fun u u u q=>q)) (N1.rd.tab X) rfl (congrArg some ((List.any_map).trans lookI_any))) (fun v1 s1 q1=>?_) fun u u x=>x
  obtain ⟨rfl,k1⟩:=q1
  refine wpAny_truthy_bool ?_
  have N2:=N1.later k1
  unfold nm at hQ
  revert hQ
  cases hlk:lookI mn T with
  | some v=>
    intro hQ
    refine wpAny_execs_cons (wpAny_Return_some (Subscript_ (eval_ign N2 O g3 O.f3 (fun u u u g u u=>g) rfl fun N3=>eval_var N3.fr g4 N3.s2 fun v3 r3=>?_)))
    refine wpAny_mono (sub_sound (X:=X) (d:=.int v) (N3.rd.tab X) (Rep.w r3) (show lookD mn _=_ by rw [lookD_map,hlk]; rfl) (plain_sub (var_plain g4))) (fun v4 s4 q4=>?_) fun u u x=>x
    obtain ⟨k4,t,rfl⟩:=q4
    exact hQ _ rfl _ _ (NmEnd.of N3 k4)
  | none=>
    intro hQ
    exact wpAny_execs_nil (names_mods N2 O rm h2 h3 h4 h5 h6 nsep hm hd hz hlk fun r e=>e ▸ hQ _ rfl)
end
noncomputable def namesAt (K:Frag) (fa:Addr):Bool:=onFunc K fa fun fd=>headOk K fd i_names 3 && bodyIs fd && noDefaults fd.defaults && namesBody fd.scope (bodyOf fd)
section
variable {G:Gl} {IC NF fI:Addr} {R da ms dl ig:Addr} {mods dirs:Option Str} {T:List (Str × Int)} {X:Addr→Prop} {s:Shared} {A:Around} {E:Value→Shared→Prop} {k:Nat}
theorem rep_fn {fn:Option Str} {v:Value} (h:(fn=none∧v=.none) ∨ ∃ f t,fn=some f∧v=.str f t) {Y:Addr→Prop} {h':Heap}:Rep G Y h' v (fnD fn):=by
  rcases h with ⟨rfl,rfl⟩ | ⟨f,t,rfl,rfl⟩
  · exact .none
  · exact .str _ _
theorem names_call {fn:Option Str} {mn:Str} {v1 v2:Value} {tk:Tok} (O:IgOK G.K IC NF fI) (hN:namesAt G.K NF=true) (nsep:nsIn G.K mainGlobals (Str.ofString "sep")=some (some (.str (Str.ofString "/") tk)))
    (rm:Room A (k + 1)) (B:BaseOK G s.heap) (lv:Live X s.heap) (rd:RdAt G IC s.heap R da ms dl ig mods dirs T) (xi:X ig) (r1:Rep G X s.heap v1 (fnD fn)) (r2:Rep G X s.heap v2 (.str mn))
    (hm:∀ y,mods=some y→y.length + 1 ≤ cap) (hd:∀ y,dirs=some y→y.length + 1 ≤ cap) (hz:T.length ≤ 1000) :
    wpAny (model G.prog G.w) A (call (.ref NF) [.ref R,v1,v2]) (fun v s'=>NmEnd G IC R da ms dl ig mods dirs s (nm mods dirs T fn mn).1 (nm mods dirs T fn mn).2 v s') E s:=by
  refine onFunc_ hN fun oc od osl fd ho hN=>and_ hN fun hN h4=>and_ hN fun hN h3=>and_ hN fun h1 h2=>?_
  refine call_hand (X:=X) (ds:=[.opq (.ref R),fnD fn,.str mn]) ho h1 h2 h3 rfl rm B lv (.cons (.opq rfl) (.cons r1 (.cons r2 .nil))) fun env X' W s' A' E' rm' F e ub=>?_
  obtain ⟨kv,ht,_⟩:=rd.ign
  obtain ⟨oi,ei⟩:=ht.get
  have N:NmSt G IC R da ms dl ig mods dirs T fd.scope env X' W (start i_names [.opq (.ref R),fnD fn,.str mn]) s s' (fnD fn) mn:=
    ⟨F,e.base,e.kp,rd,e.w0,e.x0 _ xi,ub.2 ig oi ei,rfl,rfl,rfl⟩
  exact names_run N O rm' h4 nsep hm hd hz fun p e v s2 he=>e ▸ he
end
noncomputable def i_mk:FI:=⟨[Str.ofString "self", Str.ofString "modules", Str.ofString "dirs", Str.ofString "d"],[]⟩
theorem binds_mk {s:Shared} {fd:FuncData} {D:Addr} {od:Obj} {n:Nat} {v0 v1:Value} (h1:fd.params.posonlyargs=[]) (h2:fd.params.args.map (·.arg)=i_mk.tbl.take 3) (h3:fd.params.vararg=none) (h4:fd.params.kwonlyargs=[]) (h5:fd.params.kwarg=none)
    (h6:fd.defaults=.ref D) (hD:s.heap.get? D=some od) (hd:od.data=.seq #[.none,.none] n) :
    BindsTo s fd ⟨[v0,v1],[]⟩ ((i_mk.tbl.take 3).zip [v0,v1,.none])∧∀ v2,BindsTo s fd ⟨[v0,v1,v2],[]⟩ ((i_mk.tbl.take 3).zip [v0,v1,v2]):=
  binds_two h1 h2 h3 h4 h5 h6 hD hd (by decide +kernel) (by decide +kernel) (by decide +kernel)
noncomputable def t_dirs:TE:=.ite (.not (.var 2)) (.list .nil) (.lcomp (.fn (Str.ofString "normpath") (.cons (.var 3) .nil)) [3] true (.exp (.var 2)) .nil)
noncomputable def t_ign:TE:=.dict1 (.cStr (Str.ofString "<string>")) (.cInt 1)
noncomputable def fieldIs (sc:Scope) (fld:Str) (e:PySem.Expr):Bool:=onNA e fun s a=>nameOk i_mk sc s 0 && a == fld
noncomputable def setIs (sc:Scope) (e:PySem.Expr):Bool:=onIf e fun t a b=>onFn a fun x as=>onFn b fun y bs=>onOne bs fun m=>onNm m fun m u=>as.isEmpty && chkE i_mk sc (.not (.var 1)) t && x == Str.ofString "set" && globOk sc x && y == Str.ofString "set" && globOk sc y && nameOk i_mk sc m 1
noncomputable def onAsg1 (s:Stmt) (k:PySem.Expr→PySem.Expr→Bool):Bool:=onAsg s fun ts e=>onOne ts fun t=>k t e
@[elab_as_elim] theorem onAsg1_ {s:Stmt} {k:PySem.Expr→PySem.Expr→Bool} {motive:Stmt→Prop} (h:onAsg1 s k=true) (H:∀ t e p,k t e=true→motive (.Assign [t] e p)):motive s:=
  onAsg_ (motive:=motive) (show onAsg s _=true from h) fun ts e p h=>onOne_ (motive:=fun ts=>motive (.Assign ts e p)) h fun t h=>H t e p h
noncomputable def mkBody (sc:Scope) (b:List Stmt):Bool:=onCons b fun s1 b=>onTwo b fun s2 s3=>onAsg1 s1 (fun f1 e1=>fieldIs sc (Str.ofString "_mods") f1 && setIs sc e1) && onAsg1 s2 (fun f2 e2=>fieldIs sc (Str.ofString "_dirs") f2 && chkE i_mk sc t_dirs e2) && onAsg1 s3 fun f3 e3=>fieldIs sc (Str.ofString "_ignore") f3 && chkE i_mk sc t_ign e3
noncomputable def noneTwo (K:Frag) (v:Value):Bool:=(onRef v fun D=>(K.lookup D).bind fun o=>if h:o.data.ctorIdx=2 then Data.seq.elim o.data h fun xs u=>if xs.toList == [.none,.none] then some () else none else none).isSome
theorem noneTwo_ {K:Frag} {v:Value} (h:noneTwo K v=true):∃ D oc od n osl,v=.ref D∧K.lookup D=some ⟨oc,od,.seq #[.none,.none] n,osl⟩:=by
  obtain ⟨u,hu⟩:=Option.isSome_iff_exists.mp h
  refine onRef_ hu fun D hu=>bind_ hu fun o e hu=>?_
  obtain ⟨oc,od,dt,osl⟩:=o
  refine dife_ hu (fun q hu=>Data.seq.elim (motive:=fun dt=>K.lookup D=some ⟨oc,od,dt,osl⟩→∀ q:dt.ctorIdx=2,Data.seq.elim dt q _=some u→_) dt q (fun xs n e z hu=>if_ hu fun hx z=>⟨D,oc,od,n,osl,rfl,?_⟩) e q hu) none_ne
  rw [e,show xs=#[.none,.none] from Array.toList_inj.mp (eq_of_beq hx)]
noncomputable def mkAt (K:Frag) (fa:Addr):Bool:=onFunc K fa fun fd=>headOk K fd i_mk 3 && bodyIs fd && noneTwo K fd.defaults && mkBody fd.scope (bodyOf fd)
section
variable {G:Gl} {IC NF fI:Addr} {R da:Addr} {sc:Scope} {env:Env} {X W:Addr→Prop} {σ:St} {s s0:Shared} {A:Around} {E:Value→Shared→Prop} {k:Nat} {Φ:FEnv}
structure MkSt (G:Gl) (IC:Addr) (R da:Addr) (es:List DictEntry) (n:Nat) (sc:Scope) (env:Env) (X W:Addr→Prop) (σ:St) (s0 s:Shared):Prop where
  fr:FrOK G i_mk sc (allI i_mk) env X W s.heap σ
  b0:BaseOK G s0.heap
  kp:Keeps s0 s
  inst:s.heap.get? R=some (instObj IC da)
  dict:s.heap.get? da=some (dictOf es n)
  nR:s0.heap.get? R=none
  nd:s0.heap.get? da=none
  ne:R ≠ da
  xd:X da
  ni:da ≠ env.locals∧∀ y c,env.cells.lookup y=some c→c ≠ da
  σ0:St.get σ 0=some (.opq (.ref R))
theorem MkSt.base {es n} (M:MkSt G IC R da es n sc env X W σ s0 s):BaseOK G s.heap:=M.b0.mono (Keeps.get M.kp)
theorem MkSt.later {es n} {s':Shared} (M:MkSt G IC R da es n sc env X W σ s0 s) (k:Keeps s s'):MkSt G IC R da es n sc env X W σ s0 s':=
  ⟨M.fr.mono (Keeps.get k),M.b0,Keeps.trans M.kp k,Keeps.get k _ _ M.inst,Keeps.get k _ _ M.dict,M.nR,M.nd,M.ne,M.xd,M.ni,M.σ0⟩
theorem set_field {e:PySem.Expr} {es:List DictEntry} {n:Nat} {fld:Str} {f:PySem.Expr} {p:Pos} {Q:Flow→Shared→Prop} (O:IgOK G.K IC NF fI) (hf:fieldIs sc fld f=true) (ht:takerIn G.K IC fld=some none)
    (hno:(getL fld es).isSome=true) (hz:es.length ≤ 100)
    (h:wpAny (model G.prog G.w) A (eval e env) (fun v s1=>MkSt G IC R da es n sc env X W σ s0 s1∧∀ h2 t,MkSt G IC R da (putL fld (PyData.keyHash G.w.params fld) (.str fld t) v es) (putN fld es n) sc env X W σ s0 { s1 with heap:=h2,toks:=s1.toks + 2 }→Heap.SameBut da s1.heap h2→Q .next { s1 with heap:=h2,toks:=s1.toks + 2 }) E s) :
    wpAny (model G.prog G.w) A (exec (.Assign [f] e p) env) Q E s:=by
  refine onNA_ hf fun x xp a ap hf=>and_ hf fun h1 c0=>?_
  cases eqb_ c0
  refine plainObj_wpAny_Assign_Attribute (wpAny_mono h (fun v s1 h1'=>?_) fun u u x=>x) (by cases e <;> rfl)
  obtain ⟨M,hQ⟩:=h1'
  refine M.fr.load (d:=.opq (.ref R)) h1 M.σ0 fun v0 u r0 u=>?_
  rw [r0.opq_]
  have hc:=O.cls
  refine set_inst M.base.K ⟨M.inst,rfl,rfl,M.dict⟩ (eq_of_beq (both2 (both1 (both1 hc)))) (both2 (both1 hc)) ht (both2 hc) hno hz fun h' t hd' hs'=>hQ h' t ⟨?_,M.b0,?_,(hs'.2 _ M.ne).trans M.inst,hd',M.nR,M.nd,M.ne,M.xd,M.ni,M.σ0⟩ hs'
  · have g:=M.fr.growZ (Z:=fun b=>b=da) (N:=fun u=>False) (W':=W) (h':=h') (fun b o n q=>(hs'.2 b n).trans q) (fun b z=>by subst z; exact ⟨M.xd,⟨_,hd'⟩,M.ni⟩) (fun i x a u n=>absurd n List.not_mem_nil) (fun b z=>z.elim) (fun b w=>w) fun b w=>.inl (M.fr.wx b w)
    rw [show (fun a=>X a ∨ False)=X from funext fun a=>propext (or_false _).to_iff] at g
    exact g.1
  · obtain ⟨h0,t0,e0,k0⟩:=M.kp
    subst e0
    exact Keeps.mk' fun b o q=>(hs'.2 b fun z=>by rw [z,M.nd] at q; cases q).trans (k0 b o q)
theorem set_made {e:PySem.Expr} {ds1:List D} {mods:Option Str} {es:List DictEntry} {n:Nat} {Q:Value→Shared→Prop} (C:CxOK G Φ k) (rm:Room A k) (nset:nsIn G.K mainGlobals (Str.ofString "set")=some none) (M:MkSt G IC R da es n sc env X W σ s0 s) (he:setIs sc e=true)
    (h1:St.get σ 1=some (.list ds1)) (hm:(ds1=[]∧mods=none) ∨ ∃ m,ds1=[.str m]∧mods=some m) (hQ:∀ ms s',Keeps s s'→s.heap.get? ms=none→SetAt G.prog G.w s'.heap ms mods→Q (.ref ms) s'):wpAny (model G.prog G.w) A (eval e env) Q E s:=by
  refine onIf_ he fun t a b ip he=>onFn_ he fun x xp as cp1 he=>onFn_ he fun y yp bs cp2 he=>onOne_ he fun m he=>onNm_ he fun m mp he=>and_ he fun he g4=>and_ he fun he g3=>and_ he fun he c2=>and_ he fun he g2=>and_ he fun he c1=>and_ he fun c0 g1=>?_
  cases List.isEmpty_iff.mp c0
  cases eqb_ c1
  cases eqb_ c2
  have hlen:ds1.length ≤ cap:=by
    rcases hm with ⟨rfl,_⟩ | ⟨m,rfl,_⟩
    · exact Nat.zero_le _
    · show 1 ≤ cap; decide
  have hev:evT Φ (.not (.var 1)) σ=some ds1.isEmpty:=by
    show ((St.get σ 1).bind truth).map _=_
    rw [h1]
    exact (congrArg (Option.map _) (if_pos hlen)).trans (congrArg some (Bool.not_not _))
  refine IfExp_ (wpAny_mono ((all_E (I:=i_mk) C (.not (.var 1)) rfl).2 sc _ env X W s σ A E t _ g1 rm M.fr M.base hev) (fun c s1 q1=>?_) fun u u x=>x)
  obtain ⟨rfl,k1⟩:=q1
  have M1:=M.later k1
  rcases hm with ⟨rfl,rfl⟩ | ⟨mm,rfl,rfl⟩
  · refine Call_ (load_built M1.fr M1.base g2 nset (v:=.type "set") (by decide +kernel) (by decide +kernel) (PyProof.Rows.callWith_type (first:=[]) rfl (PyProof.Rows.evalArgs_none (call_set_0 fun led=>?_))))
    exact hQ _ _ (Keeps.trans k1 (Keeps.push _)) (none_of_none (fun o=>Keeps.get k1 _ o) (none_size _)) ⟨#[],0,_,Heap.get?_push_size _ rfl,by rfl,.inl ⟨rfl,rfl⟩⟩
  · refine Call_ (load_built M1.fr M1.base g3 nset (v:=.type "set") (by decide +kernel) (by decide +kernel) (callWith_type1 (args_cons (M1.fr.load g4 h1 fun v u r1 u=>args_nil ?_) rfl) rfl))
    obtain ⟨a,vs,rfl,hl,rl⟩:=r1.list_
    obtain ⟨v0,rfl,t0,rfl⟩:=rl.one
    refine set_one rm.handled hl fun h' tk' ep t q1 q2 q3 q4=>?_
    exact hQ _ _ (Keeps.trans k1 (Keeps.mk' q4)) (none_of_none (fun o=>Keeps.get k1 _ o) (none_size _)) ⟨_,ep,t,q1,q2,.inr ⟨mm,_,rfl,rfl,q3⟩⟩
theorem strs_opt {X':Addr→Prop} {h:Heap} {vs:List Value} {o:Option Str} (r:RepL G X' h vs (o.toList.map D.str)):Strs vs o.toList:=by
  cases o with
  | none=>exact (show vs=[] from r) ▸ .nil
  | some x=>obtain ⟨v0,rfl,t0,rfl⟩:=r.one; exact .cons .nil
theorem mk_run {b:List Stmt} {ds1:List D} {d2:D} {mods dirs:Option Str} {Q:Flow→Shared→Prop} (O:IgOK G.K IC NF fI) (C:CxOK G Φ k) (rm:Room A k) (nset:nsIn G.K mainGlobals (Str.ofString "set")=some none)
    (M:MkSt G IC R da [] 0 sc env X W (start i_mk [.opq (.ref R),.list ds1,d2]) s0 s) (hbd:mkBody sc b=true)
    (hm:(ds1=[]∧mods=none) ∨ ∃ m,ds1=[.str m]∧mods=some m) (hd:(d2=.none∧dirs=none) ∨ ∃ p q,d2=.list [.str p]∧Φ (Str.ofString "normpath") [.str p]=some (.str q)∧dirs=some q)
    (hQ:∀ ms dl ig s',Keeps s0 s'→s0.heap.get? ms=none→s0.heap.get? dl=none→s0.heap.get? ig=none→RdAt G IC s'.heap R da ms dl ig mods dirs [(Str.ofString "<string>", 1)]→Q .next s') :
    wpAny (model G.prog G.w) A (execs b env) Q E s:=by
  refine onCons_ hbd fun st1 b hbd=>onTwo_ hbd fun st2 st3 hbd=>and_ hbd fun hbd c3=>and_ hbd fun c1 c2=>onAsg1_ c1 fun f1 e1 p1 c1=>onAsg1_ c2 fun f2 e2 p2 c2=>onAsg1_ c3 fun f3 e3 p3 c3=>and_ c1 fun u1 u2=>and_ c2 fun u3 u4=>and_ c3 fun u5 u6=>?_
  refine wpAny_execs_cons (set_field O u1 O.t1 rfl (by decide) (set_made C rm nset M u2 rfl hm fun ms s1 k1 n1 x1=>⟨M.later k1,fun h2 t1 M2 hs2=>?_⟩))
  have nms:s0.heap.get? ms=none:=none_of_none (fun o=>Keeps.get M.kp _ o) n1
  have dms:ms ≠ da:=fun z=>by
    obtain ⟨es,ep,t,e,_⟩:=x1
    have:=(M.later k1).dict
    rw [← z,e] at this
    have:=congrArg Obj.cls (Option.some.inj this)
    simp [setObj,dictOf] at this
  have x2:SetAt G.prog G.w h2 ms mods:=x1.at' fun o e=>(hs2.2 _ dms).trans e
  have ev2:evE Φ t_dirs (start i_mk [.opq (.ref R),.list ds1,d2])=some (.list (dirs.toList.map D.str)):=by
    rcases hd with ⟨rfl,rfl⟩ | ⟨p,q,rfl,hq,rfl⟩
    · rfl
    · show (Option.map D.list ((Φ (Str.ofString "normpath") [.str p]).bind fun y=>some [y]))=_
      rw [hq]
      rfl
  refine wpAny_execs_cons (set_field O u3 O.t2 rfl (Nat.le_trans (putL_len _ _ _ _ _) (by decide)) (wpAny_mono ((all_E (I:=i_mk) C t_dirs (by decide)).1 sc _ env X W _ _ A E e2 _ u4 rm M2.fr M2.base ev2) (fun v s3 q3=>⟨M2.later q3.1,fun h4 t2 M4 hs4=>?_⟩) fun u u x=>x))
  obtain ⟨dl,rfl,nl,rl⟩:=q3.2.2.2 (by decide)
  obtain ⟨vs,ds,e4,⟨nn,pl⟩,rr⟩ | ⟨_,_,e4,_⟩:=rl
  · cases e4
    have ndl:s0.heap.get? dl=none:=none_of_none (fun o=>Keeps.get M2.kp _ o) nl
    have ddl:dl ≠ da:=fun z=>by rw [z] at nl; have:=M2.dict; rw [nl] at this; cases this
    have l4:ListAt h4 dl (List.toArray vs):=ListAt.at' ⟨⟨_,pl,rfl,nn,rfl⟩,_,pl,rfl⟩ fun o e=>(hs4.2 _ ddl).trans e
    have x4:SetAt G.prog G.w h4 ms mods:=(x2.at' fun o=>Keeps.get q3.1 _ o).at' fun o e=>(hs4.2 _ dms).trans e
    have st:=strs_opt rr
    refine wpAny_execs_cons (set_field O u5 O.t3 rfl (Nat.le_trans (putL_len _ _ _ _ _) (Nat.succ_le_succ (Nat.le_trans (putL_len _ _ _ _ _) (show [].length + 1 ≤ 99 by decide)))) (wpAny_mono ((all_E (I:=i_mk) C t_ign (by decide)).1 sc _ env X W _ _ A E e3 (.dict [(Str.ofString "<string>", .int 1)]) u6 rm M4.fr M4.base rfl) (fun v s5 q5=>⟨M4.later q5.1,fun h6 t3 M6 hs6=>?_⟩) fun u u x=>x))
    obtain ⟨ig,rfl,nig,rg⟩:=q5.2.2.2 (by decide)
    obtain ⟨_,_,e6,_⟩ | ⟨kv,kvs,e6,tb,rk⟩:=rg
    · cases e6
    · cases e6
      have dig:ig ≠ da:=fun z=>by rw [z] at nig; have:=M4.dict; rw [nig] at this; cases this
      have lv:∀ a o,h4.get? a=some o→a ≠ ig:=fun a o e z=>by rw [z] at e; have e':({ s3 with heap:=h4,toks:=s3.toks + 2 }:Shared).heap.get? ig=some o:=e; rw [nig] at e'; cases e'
      refine wpAny_execs_nil (hQ ms dl ig _ M6.kp nms ndl (none_of_none (fun o=>Keeps.get M4.kp _ o) nig) ?_)
      refine ⟨M6.inst,?_,?_,?_,?_,lv _ _ M4.inst,lv _ _ M4.dict,?_,?_⟩
      · exact ⟨t1,t2,t3,_,_,_,_,M6.dict⟩
      · exact (x4.at' fun o=>Keeps.get q5.1 _ o).at' fun o e=>(hs6.2 _ dms).trans e
      · exact ⟨vs,(l4.at' fun o=>Keeps.get q5.1 _ o).at' fun o e=>(hs6.2 _ ddl).trans e,st⟩
      · refine ⟨kv,tb.at' fun o e=>(hs6.2 _ dig).trans e,?_⟩
        exact repK_ints (T:=[(Str.ofString "<string>", 1)]) rk
      · obtain ⟨es,ep,t,e,_⟩:=x4
        exact lv _ _ e
      · obtain ⟨⟨o,e,_⟩,_⟩:=l4
        exact lv _ _ e
  · cases e4
end
section
variable {G:Gl} {IC NF fI:Addr} {X:Addr→Prop} {s:Shared} {A:Around} {E:Value→Shared→Prop} {k:Nat} {Φ:FEnv}
theorem reader_call {ds:List D} {ds1:List D} {d2:D} {vs:List Value} {mods dirs:Option Str} (O:IgOK G.K IC NF fI) (hK:mkAt G.K fI=true) (C:CxOK G Φ k) (nset:nsIn G.K mainGlobals (Str.ofString "set")=some none)
    (rm:Room A (k + 2)) (B:BaseOK G s.heap) (lv:Live X s.heap) (r:RepL G X s.heap vs ds) (hds:(ds=[.list ds1]∧d2=.none) ∨ ds=[.list ds1,d2])
    (hm:(ds1=[]∧mods=none) ∨ ∃ m,ds1=[.str m]∧mods=some m) (hd:(d2=.none∧dirs=none) ∨ ∃ p q,d2=.list [.str p]∧Φ (Str.ofString "normpath") [.str p]=some (.str q)∧dirs=some q) :
    wpAny (model G.prog G.w) A (call (.ref IC) vs) (fun v s'=>∃ R da ms dl ig,v=.ref R∧Keeps s s'∧RdAt G IC s'.heap R da ms dl ig mods dirs [(Str.ofString "<string>", 1)] ∧
      s.heap.get? R=none∧s.heap.get? da=none∧s.heap.get? ms=none∧s.heap.get? dl=none∧s.heap.get? ig=none) E s:=by
  have hc:=O.cls
  refine and_ hc fun hc c6=>and_ hc fun hc c5=>and_ hc fun hc c4=>and_ hc fun hc c3=>and_ hc fun c1 c2=>onFunc_ hK fun oc od osl fd ho hK=>and_ hK fun hK h7=>and_ hK fun hK h6=>and_ hK fun h4 h5=>and_ h4 fun h4 a5=>and_ h4 fun h4 a4=>and_ h4 fun h4 a3=>and_ h4 fun h4 a2=>and_ h4 fun hcore a1=>?_
  replace c2:=eq_of_beq c2
  refine make_inst B.K c1 c2 c3 ?_
  obtain ⟨hx,hdx,kp⟩:=inst_heap (h:=s.heap) (C:=IC)
  have nR:s.heap.get? (s.heap.objs.size + 1)=none:=by
    cases q:s.heap.get? (s.heap.objs.size + 1) with
    | none=>rfl
    | some o=>exact absurd (Heap.lt_size q) (Nat.not_lt.mpr (Nat.le_succ _))
  let X1:Addr→Prop:=fun a=>X a ∨ a=s.heap.objs.size ∨ a=s.heap.objs.size + 1
  have nX1:∀ a o,s.heap.get? a=some o→X1 a→X a:=fun a o e q=>by
    rcases q with q | q | q
    · exact q
    · rw [q,none_size] at e; cases e
    · rw [q,nR] at e; cases e
  have lv1:Live X1 ((s.heap.push emptyDict).push (instObj IC s.heap.objs.size)):=fun a q=>by
    rcases q with q | q | q
    · obtain ⟨o,e⟩:=lv a q; exact ⟨o,kp a o e⟩
    · rw [q]; exact ⟨_,hdx⟩
    · rw [q]; exact ⟨_,hx⟩
  have r1:RepL G X1 ((s.heap.push emptyDict).push (instObj IC s.heap.objs.size)) vs ds:=(r.weak nX1).up kp
  obtain ⟨D,_,_,nn,_,d1,d2'⟩:=noneTwo_ h6
  have bm:=fun v1=>binds_mk (v1:=v1) (s:={ s with heap:=(s.heap.push emptyDict).push (instObj IC s.heap.objs.size) }) (v0:=.ref (s.heap.objs.size + 1)) (List.isEmpty_iff.mp a1) (eq_of_beq a2) (Option.isNone_iff_eq_none.mp a3) (List.isEmpty_iff.mp a4) (Option.isNone_iff_eq_none.mp a5) d1 (od:=⟨_,_,.seq #[.none,.none] nn,_⟩) (kp _ _ (B.K _ _ d2')) rfl
  refine code_hand (X:=X1) (s:={ s with heap:=(s.heap.push emptyDict).push (instObj IC s.heap.objs.size) }) ho hcore h5 (ds:=[.opq (.ref (s.heap.objs.size + 1)),.list ds1,d2]) rfl (under_room rm) (B.mono kp) lv1
    (fun A' E' Q hq=>?_) fun env X' W s' A' E' rm' F e ub=>?_
  · rcases hds with ⟨rfl,rfl⟩ | rfl
    · obtain ⟨v1,rfl,q1⟩:=r1.one
      exact (bm v1).1 _ _ _ _ (hq _ _ Keeps.rfl (.cons (.opq rfl) (.cons q1 (.cons .none .nil))))
    · obtain ⟨v1,_,rfl,q1,v2,_,rfl,q2,rfl⟩:=r1
      exact ((bm v1).2 v2) _ _ _ _ (hq _ _ Keeps.rfl (.cons (.opq rfl) (.cons q1 (.cons q2 .nil))))
  · have ek:=Keeps.get e.kp
    have kpp:Keeps s s':=by
      obtain ⟨h0,t0,rfl,k0⟩:=e.kp
      exact Keeps.mk' fun b o q=>k0 b o (kp b o q)
    have M:MkSt G IC (s.heap.objs.size + 1) s.heap.objs.size [] 0 fd.scope env X' W (start i_mk [.opq (.ref (s.heap.objs.size + 1)),.list ds1,d2]) s s':=
      ⟨F,B,kpp,ek _ _ hx,ek _ _ hdx,nR,none_size _,Nat.succ_ne_self _,e.x0 _ (.inr (.inl rfl)),ub.2 _ _ hdx,rfl⟩
    refine mk_run O C rm' nset M h7 hm hd fun ms dl ig s2 k2 n1 n2 n3 rd=>?_
    exact ⟨rfl,_,_,ms,dl,ig,rfl,k2,rd,nR,none_size _,n1,n2,n3⟩
end
noncomputable def i_ans:FI:=⟨[Str.ofString "parts", Str.ofString "rows", Str.ofString "module", Str.ofString "reader", Str.ofString "first", Str.ofString "again", Str.ofString "callers"],[]⟩
noncomputable def tA1:TE:=.list (.cons (.mt .join (.cStr (Str.ofString ".")) (.cons (.var 0) .nil)) .nil)
noncomputable def tA2:TE:=.list .nil
noncomputable def tA3:TE:=.list (.cons (.bin .add (.cStr (Str.ofString "/b/../")) (.mt .join (.cStr (Str.ofString "/")) (.cons (.var 0) .nil))) .nil)
noncomputable def tF1:TE:=.bin .add (.cStr (Str.ofString "/")) (.mt .join (.cStr (Str.ofString "/")) (.cons (.bin .add (.var 6) (.list (.cons (.cStr (Str.ofString "f.py")) .nil))) .nil))
noncomputable def tF2:TE:=.cNone
noncomputable def tF3:TE:=.cStr (Str.ofString "/f.py")
noncomputable def tM:TE:=.mt .join (.cStr (Str.ofString ".")) (.cons (.var 6) .nil)
noncomputable def elIs (sc:Scope) (t1:TE) (e:PySem.Expr):Bool:=onMeth e fun o nm as=>onNm o fun r u=>onTwo as fun e1 e2=>nameOk i_ans sc r 3 && nm == Str.ofString "names" && chkE i_ans sc t1 e1 && chkE i_ans sc tM e2
noncomputable def compIs (sc:Scope) (t1:TE) (e:PySem.Expr):Bool:=onLC e fun el gs sc' u=>onGen gs fun tg it ifs=>ifs.isEmpty && scopeOk i_ans sc sc' [6] && tgtE i_ans sc' true [6] tg && chkI i_ans sc (.exp (.var 1)) it && elIs sc' t1 el
noncomputable def usedIs (sc:Scope) (f:Str) (fp:Pos) (e:PySem.Expr):Bool:=onLC e fun u u sc' ep=>sc.names.lookup f == some .local && fp.line == ep.line && !(sc'.names.any fun (n,k)=>n == f && (k == .local || k == .cell))
noncomputable def tabAt (mods dirs:Option Str) (T0:List (Str × Int)) (fns:List Str→Option Str) (mno:List Str→Str) (rows:List (List Str)):Nat→List (Str × Int)
  | 0=>T0
  | i + 1=>(nm mods dirs (tabAt mods dirs T0 fns mno rows i) (fns (rows.getD i [])) (mno (rows.getD i []))).2
noncomputable def ansAt (mods dirs:Option Str) (T0:List (Str × Int)) (fns:List Str→Option Str) (mno:List Str→Str) (rows:List (List Str)) (i:Nat):Int:=
  (nm mods dirs (tabAt mods dirs T0 fns mno rows i) (fns (rows.getD i [])) (mno (rows.getD i []))).1
theorem tabAt_len {mods dirs:Option Str} {T0:List (Str × Int)} {fns:List Str→Option Str} {mno:List Str→Str} {rows:List (List Str)}:∀ i,(tabAt mods dirs T0 fns mno rows i).length ≤ T0.length + i
  | 0=>Nat.le_refl _
  | i + 1=>by
    have ih:=tabAt_len (mods:=mods) (dirs:=dirs) (T0:=T0) (fns:=fns) (mno:=mno) (rows:=rows) i
    have:∀ fn mn (T:List (Str × Int)),(nm mods dirs T fn mn).2.length ≤ T.length + 1:=fun fn mn T=>by
      unfold nm
      cases lookI mn T with
      | none=>exact Nat.le_of_eq List.length_append
      | some v=>exact Nat.le_succ _
    exact Nat.le_trans (this _ _ _) (Nat.succ_le_succ ih)
noncomputable def strsD (c:List Str):D:=.list (c.map .str)
section
variable {G:Gl} {IC NF fI:Addr} {R da ms dl ig:Addr} {mods dirs:Option Str} {T0:List (Str × Int)} {fns:List Str→Option Str} {mno:List Str→Str} {rows:List (List Str)} {sc sc':Scope} {env:Env} {X W:Addr→Prop} {σ:St} {s s0:Shared} {A:Around} {E:Value→Shared→Prop} {k:Nat} {Φ:FEnv}
noncomputable def ZR (R da ms dl ig:Addr) (b:Addr):Prop:=b=R ∨ b=da ∨ b=ms ∨ b=dl ∨ b=ig
noncomputable def PZR (G:Gl) (IC R da ms dl ig:Addr) (mods dirs:Option Str) (T0:List (Str × Int)) (fns:List Str→Option Str) (mno:List Str→Str) (rows:List (List Str)) (i:Nat) (d:D) (h:Heap):Prop:=
  d=.list ((List.range i).map fun j=>D.int (ansAt mods dirs T0 fns mno rows j))∧RdAt G IC h R da ms dl ig mods dirs (tabAt mods dirs T0 fns mno rows i)
noncomputable def stepR (mods dirs:Option Str) (T0:List (Str × Int)) (fns:List Str→Option Str) (mno:List Str→Str) (rows:List (List Str)) (d:D) (_:St):Option D:=onL d fun ys=>some (.list (ys ++ [.int (ansAt mods dirs T0 fns mno rows ys.length)]))
theorem rd_live {h:Heap} {T:List (Str × Int)} (r:RdAt G IC h R da ms dl ig mods dirs T):∀ b,ZR R da ms dl ig b→∃ o,h.get? b=some o:=r.live
theorem ans_step {el:PySem.Expr} {t1:TE} {tk:Tok} {σ0:St} (O:IgOK G.K IC NF fI) (hN:namesAt G.K NF=true) (nsep:nsIn G.K mainGlobals (Str.ofString "sep")=some (some (.str (Str.ofString "/") tk))) (C:CxOK G Φ k) (rm:Room A (k + 1))
    (he:elIs sc' t1 el=true) (ok1:okE t1=true) (sf1:safe [] t1=true) (h3:St.get σ0 3=some (.opq (.ref R))) (hlen:σ0.length=7)
    (ev1:∀ σ c,c ∈ rows→St.get σ 6=some (strsD c)→evE Φ t1 σ=some (fnD (fns c))) (ev2:∀ σ c,c ∈ rows→St.get σ 6=some (strsD c)→evE Φ tM σ=some (.str (mno c)))
    (hm:∀ y,mods=some y→y.length + 1 ≤ cap) (hd:∀ y,dirs=some y→y.length + 1 ≤ cap) (hz:T0.length + rows.length ≤ 1000) :
    StepOK2 G A i_ans sc' [6] true (clearT [6] σ0) (rows.map strsD) (ZR R da ms dl ig) (PZR G IC R da ms dl ig mods dirs T0 fns mno rows) (stepLW G.prog G.w el) (stepR mods dirs T0 fns mno rows):=by
  intro i x env X W s σ a d d' E Q hx hb F B hXa hZ r pz hdz ev hQ
  obtain ⟨rfl,rd⟩:=pz
  have hi:i < rows.length:=by
    have:=(List.getElem?_eq_some_iff.mp hx).1
    simpa using this
  have hxr:x=strsD (rows.getD i []):=by
    rw [List.getElem?_map,List.getElem?_eq_getElem hi] at hx
    rw [List.getD_eq_getElem?_getD,List.getElem?_eq_getElem hi]
    exact (Option.some.inj hx).symm
  have hmem:rows.getD i [] ∈ rows:=by
    rw [List.getD_eq_getElem?_getD,List.getElem?_eq_getElem hi]
    exact List.getElem_mem hi
  replace hb:(clearT [6] σ0).put 6 x=σ:=Option.some.inj hb
  have hl6:6 < (clearT [6] σ0).length:=by rw [clearT_length,hlen]; decide
  have g6:St.get σ 6=some (strsD (rows.getD i [])):=by rw [← hb,St.get_put hl6,if_pos rfl,hxr]
  have g3:St.get σ 3=some (.opq (.ref R)):=by rw [← hb,St.get_put hl6,if_neg (by decide),clearT_get,if_neg (by decide)]; exact h3
  replace ev:D.list (((List.range i).map fun j=>D.int (ansAt mods dirs T0 fns mno rows j)) ++ [D.int (ansAt mods dirs T0 fns mno rows ((List.range i).map fun j=>D.int (ansAt mods dirs T0 fns mno rows j)).length)])=d':=Option.some.inj ev
  rw [List.length_map,List.length_range] at ev
  subst ev
  refine onMeth_ he fun o nmn as ap cp u3 he=>onNm_ he fun rn rp he=>onTwo_ he fun e1 e2 he=>and_ he fun he u5=>and_ he fun he u4=>and_ he fun u1 c0=>?_
  cases eqb_ c0
  have hcs:chkEs i_ans sc' (.cons t1 (.cons tM .nil)) [e1,e2]=true:=Bool.and_eq_true_iff.mpr ⟨u4,Bool.and_eq_true_iff.mpr ⟨u5,rfl⟩⟩
  refine MCall (plain_base rfl) (few_form hcs (by simp)) u3 (F.load (d:=.opq (.ref R)) u1 g3 fun v0 u r0 u=>?_)
  rw [r0.opq_]
  obtain ⟨q1,q2,q3,qa,qb,qc,qn,qd⟩:=rd.dict
  have I1:InstAt s.heap R (instObj IC da) IC (some (dictOf _ qn)):=⟨rd.inst,rfl,rfl,qd⟩
  refine method_fn B.K I1 (plainGet_of O.pg).1 (plainGet_of O.pg).2 O.nam (beq_iff_eq.mp O.isf) (by rfl) ?_
  have evs:evEs Φ (.cons t1 (.cons tM .nil)) σ=some [fnD (fns (rows.getD i [])),.str (mno (rows.getD i []))]:=by
    show (evE Φ t1 σ).bind _=_
    rw [ev1 σ _ hmem g6]
    show Option.map _ ((evE Φ tM σ).bind _)=_
    rw [ev2 σ _ hmem g6]
    rfl
  refine callWith_fn (first:=[_]) B O.kep hcs (wpAny_mono ((all_Es (I:=i_ans) C (.cons t1 (.cons tM .nil)) (Bool.and_eq_true_iff.mpr ⟨ok1,rfl⟩)).1 sc' [6] env X W s σ A _ _ _ _ hcs (Bool.and_eq_true_iff.mpr ⟨sf1,rfl⟩) (rm.less (Nat.le_succ _)) F B evs) (fun vs s1 h1=>⟨h1.1,?_⟩) fun u u x=>x)
  obtain ⟨k1,r1⟩:=h1
  have q1:=Keeps.get k1
  obtain ⟨va,_,rfl,ra,vb,_,rfl,rb,rfl⟩:=r1
  have rd1:RdAt G IC s1.heap R da ms dl ig mods dirs (tabAt mods dirs T0 fns mno rows i):=rd.mono fun a o u=>q1 a o
  refine wpAny_mono (names_call (X:=X) O hN nsep rm (B.mono q1) (F.mono q1).live rd1 (hZ ig (.inr (.inr (.inr (.inr rfl))))).1 ra rb hm hd (by have:=tabAt_len (mods:=mods) (dirs:=dirs) (T0:=T0) (fns:=fns) (mno:=mno) (rows:=rows) i; exact om164 hz hi this)) (fun v s2 h2=>?_) fun u u x=>x
  obtain ⟨⟨t,rfl⟩,k2,rd2⟩:=h2
  have nai:a ≠ ig:=fun z=>(hZ ig (.inr (.inr (.inr (.inr rfl))))).2 z.symm
  have keep2:∀ b o,¬ X b→s.heap.get? b=some o→s2.heap.get? b=some o:=fun b o n q=>KeepsW.get k2 b o (fun z=>n (z ▸ (hZ ig (.inr (.inr (.inr (.inr rfl))))).1)) (q1 b o q)
  have r2:=r.mono (h':=s2.heap) (fun o q=>KeepsW.get k2 a o nai (q1 a o q)) keep2
  refine r2.is (fun ws ds e p rl=>?_) fun u u e u u=>nomatch e
  · cases e
    have hl:=rl.length
    simp only [dsz] at hdz
    refine wpAny_list_append_plain p (fun h' p' hs'=>?_) (by rw [List.size_toArray,sizeLine_eq]; unfold cap at hdz; exact om165 hl hdz)
    have kx:∀ b o,¬ X b→s2.heap.get? b=some o→h'.get? b=some o:=fun b o n e=>(hs'.2 b fun z=>n (z ▸ hXa)).trans e
    refine hQ _ (by simp [dsz]) (.inl ⟨ws ++ [.int _ t],_,rfl,by rw [List.push_toArray] at p'; exact p',(rl.mono kx).append (.cons (.int _ _) .nil)⟩) ⟨?_,?_⟩ ?_
    · rw [List.range_succ,List.map_append]; rfl
    · exact rd2.mono fun b o hz q=>(hs'.2 b (hZ b hz).2).trans q
    · obtain ⟨h1',t1',e1',k1'⟩:=k1
      subst e1'
      obtain ⟨h2',t2',e2',k2'⟩:=k2
      subst e2'
      exact ⟨h',t2',rfl,fun b o n q=>(hs'.2 b fun z=>n (.inl z)).trans (k2' b o (fun z=>n (.inr (.inr (.inr (.inr (.inr z)))))) (k1' b o q))⟩
theorem compF_R:∀ (n i:Nat),i + n=rows.length→compF (evC Φ .nil) (stepR mods dirs T0 fns mno rows) true [6] (clearT [6] σ) ((rows.map strsD).drop i) (.list ((List.range i).map fun j=>D.int (ansAt mods dirs T0 fns mno rows j)))=some (.list ((List.range rows.length).map fun j=>D.int (ansAt mods dirs T0 fns mno rows j)))
  | 0,i,h=>by
    rw [List.drop_eq_nil_of_le (by simp; exact om166 h)]
    have:i=rows.length:=by omega
    subst this
    rfl
  | n + 1,i,h=>by
    have hi:i < (rows.map strsD).length:=by simp; exact om31 h
    rw [List.drop_eq_getElem_cons hi]
    have ih:=compF_R n (i + 1) (om32 h)
    rw [List.range_succ,List.map_append] at ih
    show compF _ _ _ _ _ _ (.list (((List.range i).map fun j=>D.int (ansAt mods dirs T0 fns mno rows j)) ++ [D.int (ansAt mods dirs T0 fns mno rows ((List.range i).map fun j=>D.int (ansAt mods dirs T0 fns mno rows j)).length)]))=_
    rw [List.length_map,List.length_range]
    exact ih
end
section
variable {G:Gl} {IC NF fI:Addr} {R da ms dl ig:Addr} {mods dirs:Option Str} {T0:List (Str × Int)} {fns:List Str→Option Str} {mno:List Str→Str} {rows:List (List Str)} {sc sc':Scope} {env:Env} {X0 X W:Addr→Prop} {σ:St} {s s0:Shared} {A:Around} {E:Value→Shared→Prop} {k:Nat} {Φ:FEnv}
structure AnSt (G:Gl) (IC R da ms dl ig:Addr) (mods dirs:Option Str) (T:List (Str × Int)) (sc:Scope) (env:Env) (X0 X W:Addr→Prop) (σ:St) (s0 s:Shared):Prop where
  fr:FrOK G i_ans sc (allI i_ans) env X W s.heap σ
  b0:BaseOK G s0.heap
  lv0:Live X0 s0.heap
  kp:Keeps s0 s
  x0:∀ a,X0 a→X a
  w0:∀ a,W a→s0.heap.get? a=none
  rd:RdAt G IC s.heap R da ms dl ig mods dirs T
  z:∀ b,ZR R da ms dl ig b→X b∧¬ W b∧s0.heap.get? b=none∧b ≠ env.locals∧∀ y c,env.cells.lookup y=some c→c ≠ b
theorem AnSt.base {T} (M:AnSt G IC R da ms dl ig mods dirs T sc env X0 X W σ s0 s):BaseOK G s.heap:=M.b0.mono (Keeps.get M.kp)
structure Pass (G:Gl) (Φ:FEnv) (k:Nat) (mods dirs:Option Str) (T0:List (Str × Int)) (fns:List Str→Option Str) (mno:List Str→Str) (rows:List (List Str)) (t1:TE):Prop where
  ok1:okE t1=true
  sf1:safe [] t1=true
  ev1:∀ σ c,c ∈ rows→St.get σ 6=some (strsD c)→evE Φ t1 σ=some (fnD (fns c))
  ev2:∀ σ c,c ∈ rows→St.get σ 6=some (strsD c)→evE Φ tM σ=some (.str (mno c))
  hm:∀ y,mods=some y→y.length + 1 ≤ cap
  hd:∀ y,dirs=some y→y.length + 1 ≤ cap
  hz:T0.length + rows.length ≤ 1000
structure Sur (G:Gl) (IC NF fI:Addr) (Φ:FEnv) (k:Nat):Prop where
  O:IgOK G.K IC NF fI
  hN:namesAt G.K NF=true
  nsep:∃ tk,nsIn G.K mainGlobals (Str.ofString "sep")=some (some (.str (Str.ofString "/") tk))
  C:CxOK G Φ k
theorem ans_comp {el tg it:PySem.Expr} {lp pos:Pos} {t1:TE} {use:Option (Value→Sem Unit)} {Q:Value→Shared→Prop} (U:Sur G IC NF fI Φ k) (P:Pass G Φ k mods dirs T0 fns mno rows t1) (rm:Room A (k + 1))
    (M:AnSt G IC R da ms dl ig mods dirs T0 sc env X0 X W σ s0 s) (hsc:scopeOk i_ans sc sc' [6]=true) (htg:tgtE i_ans sc' true [6] tg=true) (hci:chkI i_ans sc (.exp (.var 1)) it=true) (he:elIs sc' t1 el=true)
    (h1:St.get σ 1=some (.list (rows.map strsD))) (h3:St.get σ 3=some (.opq (.ref R)))
    (hpost:∀ Da C h' tk,s.heap.get? Da=none→s.heap.get? C=none→C ≠ Da→(∃ m,h'.Ns C m)→(∀ b o,¬ ZR R da ms dl ig b→s.heap.get? b=some o→h'.get? b=some o)→RepO G (fun b=>X b ∨ b=C ∨ b=Da) h' Da (.list ((List.range rows.length).map fun j=>D.int (ansAt mods dirs T0 fns mno rows j)))→
      RdAt G IC h' R da ms dl ig mods dirs (tabAt mods dirs T0 fns mno rows rows.length)→compPost (model G.prog G.w) A E use Q (.ref Da) C (.ok .next) { s with heap:=h',toks:=tk }) :
    wpAny (model G.prog G.w) A (comprehension (.ListComp el [⟨tg,it,[],0⟩] sc' lp) sc' env pos (newList []) false (eval it env) use) Q E s:=by
  have hlen:(rows.map strsD).length ≤ cap:=by rw [List.length_map]; have:=P.hz; unfold cap; exact om167 this
  have hev:evI Φ (.exp (.var 1)) σ=some (rows.map strsD):=by
    show (St.get σ 1).bind itemsOf=_
    rw [h1]
    exact if_pos hlen
  obtain ⟨hf,hl⟩:=(all_I (I:=i_ans) U.C (.exp (.var 1)) rfl).1 sc (allI i_ans) env X W s σ A E it _ hci rfl (rm.less (Nat.le_succ _)) M.fr M.base hev
  obtain ⟨tk,ns⟩:=U.nsep
  refine comp_gen (Z:=ZR R da ms dl ig) (PZ:=PZR G IC R da ms dl ig mods dirs T0 fns mno rows) (hb:=s0.heap) (nm:=itNm (.exp (.var 1))) (d0:=.list []) (o0:={ cls:=.type "list", data:=.seq ([]:List Value).toArray }) (step:=stepR mods dirs T0 fns mno rows) compRule_list rfl (plain_set (chkI_plain hci)) M.fr M.base hsc htg rfl hf hl rm.handled
    (fun s Q h=>wpAny_newObj_type h) (fun X h a e u=>.inl ⟨[],[],rfl,⟨_,e⟩,.nil⟩) rfl rfl ((all_Es (I:=i_ans) U.C .nil rfl).2.2.2 A _ [6] [] (rm.less (Nat.le_succ _)) rfl)
    (ans_step (σ0:=σ) U.O U.hN ns U.C rm he P.ok1 P.sf1 h3 M.fr.size P.ev1 P.ev2 P.hm P.hd P.hz) (fun τ q=>by cases q) (fun b hz=>⟨(M.z b hz).1,(M.z b hz).2.2.2.1,(M.z b hz).2.2.2.2⟩) (fun j x a u n=>absurd n List.not_mem_nil) M.b0 (Keeps.get M.kp) (fun b hz=>(M.z b hz).2.2.1)
    (fun i d h h' pz kk=>⟨pz.1,pz.2.mono fun a o ha=>kk a o ha⟩) (fun i d h pz b hz=>rd_live pz.2 b hz) ⟨rfl,M.rd⟩ (compF_R rows.length 0 (Nat.zero_add _)) fun Da C h' tk a1 a2 a3 a4 a5 a6 a7=>?_
  have a8:=a7.2
  rw [List.length_map] at a8
  exact hpost Da C h' tk a1 a2 a3 a4 a5 a6 a8
theorem ans_used {el tg it:PySem.Expr} {lp:Pos} {t1:TE} {i:Nat} {f:Str} {fp:Pos} {Q:Unit→Shared→Prop} (U:Sur G IC NF fI Φ k) (P:Pass G Φ k mods dirs T0 fns mno rows t1) (rm:Room A (k + 1))
    (M:AnSt G IC R da ms dl ig mods dirs T0 sc env X0 X W σ s0 s) (hsc:scopeOk i_ans sc sc' [6]=true) (htg:tgtE i_ans sc' true [6] tg=true) (hci:chkI i_ans sc (.exp (.var 1)) it=true) (he:elIs sc' t1 el=true)
    (h1:St.get σ 1=some (.list (rows.map strsD))) (h3:St.get σ 3=some (.opq (.ref R))) (ok:tgtOk i_ans sc f i=true)
    (hQ:∀ X' s',AnSt G IC R da ms dl ig mods dirs (tabAt mods dirs T0 fns mno rows rows.length) sc env X0 X' W (σ.put i (.list ((List.range rows.length).map fun j=>D.int (ansAt mods dirs T0 fns mno rows j)))) s0 s'→Q () s') :
    wpAny (model G.prog G.w) A (evalThenUse (.ListComp el [⟨tg,it,[],0⟩] sc' lp) env (assign (.Name f fp) env)) Q E s:=by
  unfold evalThenUse
  refine wpAny_bind (wpAny_mono (ans_comp (Q:=fun u s'=>Q () s') U P rm M hsc htg hci he h1 h3 fun Da C h' tk nD nC hne hm kp r rd'=>?_) (fun u s' h'=>wpAny_pure h') fun u u x=>x)
  obtain ⟨m,hm⟩:=hm
  have hi:i_ans.tbl[i]?=some f:=by simp only [tgtOk,Bool.and_eq_true,beq_iff_eq] at ok; exact ok.1
  have no:i ∉ i_ans.own:=List.not_mem_nil
  have lC:∃ o,h'.get? C=some o:=let ⟨o,es,ep,q,_⟩:=hm; ⟨o,q⟩
  have zn:∀ b,ZR R da ms dl ig b→b ≠ C:=fun b hz q=>by
    obtain ⟨o,eo⟩:=rd_live M.rd b hz
    rw [q,nC] at eo; cases eo
  have F1:=(M.fr.growZ (h':=h') (Z:=ZR R da ms dl ig) (N:=fun b=>b=C) (W':=W) kp (fun b hz=>⟨(M.z b hz).1,rd_live rd' b hz,(M.z b hz).2.2.2.1,(M.z b hz).2.2.2.2⟩) (fun j x a u n=>absurd n List.not_mem_nil) (fun b q=>by subst q; exact ⟨nC,lC⟩) (fun b w=>w) fun b w=>.inl (M.fr.wx b w)).1
  have rD:Rep G (fun b=>X b ∨ b=C) h' (.ref Da) (.list ((List.range rows.length).map fun j=>D.int (ansAt mods dirs T0 fns mno rows j))):=by
    refine (r.weak (Y:=fun b=>X b ∨ b=C) fun b o u y=>?_).rep fun q=>?_
    · rcases y with y | y
      · exact .inl y
      · exact .inr (.inl y)
    · rcases q with q | q
      · exact M.fr.live.fresh nD q
      · exact hne q.symm
  have nWC:¬ W C:=fun w=>by obtain ⟨o,q⟩:=M.fr.live C (M.fr.wx C w); rw [nC] at q; cases q
  show wpAny _ A (assign (.Name f fp) env (.ref Da)) _ E _
  refine wpAny_mono (FrOK.assign_name (s:={ s with heap:=h',toks:=tk }) F1 ok no (mem_allI hi) rD) (fun u s2 h2=>?_) fun u u x=>x
  obtain ⟨F2,k2,_⟩:=h2
  obtain ⟨h2,t2,rfl,q2⟩:=id k2
  refine ⟨m,hm.at' fun o q=>q2 C o nWC q,fun h3' hs=>hQ (fun a=>(X a ∨ a=C)∧a ≠ C) _ ?_⟩
  have nl:C ≠ env.locals:=fun q=>by obtain ⟨m,o,es,ep,e',_⟩:=M.fr.ns; rw [← q,nC] at e'; cases e'
  have nc:∀ y c,env.cells.lookup y=some c→c ≠ C:=fun y c hc q=>by
    obtain ⟨o,e'⟩:=M.fr.live c (M.fr.cx y c hc).1
    rw [q,nC] at e'; cases e'
  have F3:=F2.dropJ (J:=C) (h':=h3') nWC (.inr rfl) nl nc (fun j y a hj ho=>by cases ho) fun a o n q=>(hs.2 a n).trans q
  refine ⟨F3,M.b0,M.lv0,?_,fun a q=>⟨.inl (M.x0 a q),fun z=>?_⟩,M.w0,?_,fun b hz=>⟨⟨.inl (M.z b hz).1,zn b hz⟩,(M.z b hz).2⟩⟩
  · obtain ⟨h0,t0,e0,k0⟩:=M.kp
    subst e0
    refine Keeps.mk' fun b o q=>(hs.2 b fun z=>?_).trans (q2 b o (fun w=>by rw [M.w0 b w] at q; cases q) (kp b o (fun hz=>by rw [(M.z b hz).2.2.1] at q; cases q) (k0 b o q)))
    have:=k0 b o q
    rw [z] at this
    have nC':h0.get? C=none:=nC
    rw [nC'] at this; cases this
  · obtain ⟨o,eo⟩:=M.lv0 a q
    have:=Keeps.get M.kp _ _ eo
    rw [z,nC] at this; cases this
  · exact rd'.mono fun b o hz q=>(hs.2 b (zn b hz)).trans (q2 b o (M.z b hz).2.1 q)
end
noncomputable def mkIs (sc:Scope) (s:Stmt):Bool:=onSet s fun r e=>onIf e fun t a b=>onFn a fun c1 as=>onOne as fun a1=>onFn b fun c2 bs=>onTwo bs fun a2 a3=>
    tgtOk i_ans sc r 3 && chkE i_ans sc (.var 2) t && c1 == Str.ofString "_Ignore" && globOk sc c1 && c2 == Str.ofString "_Ignore" && globOk sc c2 && chkE i_ans sc tA1 a1 && chkE i_ans sc tA2 a2 && chkE i_ans sc tA3 a3
noncomputable def asgIs (sc:Scope) (i:Nat) (t1:TE) (s:Stmt):Bool:=onAsg s fun ts e=>onOne ts fun t=>onNm t fun f fp=>tgtOk i_ans sc f i && compIs sc t1 e && usedIs sc f fp e
noncomputable def retIs (sc:Scope) (s:Stmt):Bool:=onRetE s fun e=>onTup e fun es=>onCons es fun f es=>onTwo es fun g e=>onNm f fun f u=>onNm g fun g u=>nameOk i_ans sc f 4 && nameOk i_ans sc g 5 && compIs sc tF3 e
noncomputable def ansBody (sc:Scope) (b:List Stmt):Bool:=onCons b fun a b=>onCons b fun s2 b=>onTwo b fun c d=>mkIs sc a && asgIs sc 4 tF1 s2 && asgIs sc 5 tF2 c && retIs sc d
noncomputable def ansAtK (K:Frag) (fa:Addr):Bool:=onFunc K fa fun fd=>headOk K fd i_ans 3 && bodyIs fd && noDefaults fd.defaults && ansBody fd.scope (bodyOf fd)
noncomputable def onB {β:Type} (d:D) (k:Bool→Option β):Option β:=if h:d.ctorIdx=1 then D.bool.elim d h k else none
@[elab_as_elim] theorem onB_ {β:Type} {y:β} {d:D} {k:Bool→Option β} {motive:D→Prop} (h:onB d k=some y) (H:∀ i,k i=some y→motive (.bool i)):motive d:=
  dife_ h (fun q h=>D.bool.elim (motive_1:=fun d=>∀ q:d.ctorIdx=1,D.bool.elim d q k=some y→motive d) d q (fun i u h=>H i h) q h) none_ne
noncomputable def ansMods (m:Bool) (parts:List Str):Option Str:=if m then some (Txt.join (Str.ofString ".") parts) else none
noncomputable def ansDirs (Φ:FEnv) (m:Bool) (parts:List Str):Option (Option Str):=bif m then some none else (Φ (Str.ofString "normpath") [.str (Str.ofString "/b/../" ++ Txt.join (Str.ofString "/") parts)]).bind fun d=>onS d fun q=>some (some q)
noncomputable def fn1 (c:List Str):Option Str:=some (Str.ofString "/" ++ Txt.join (Str.ofString "/") (c ++ [Str.ofString "f.py"]))
noncomputable def fn2 (_:List Str):Option Str:=none
noncomputable def fn3 (_:List Str):Option Str:=some (Str.ofString "/f.py")
noncomputable def mnm (c:List Str):Str:=Txt.join (Str.ofString ".") c
noncomputable def T00:List (Str × Int):=[(Str.ofString "<string>", 1)]
noncomputable def passD (mods dirs:Option Str) (T0:List (Str × Int)) (fns:List Str→Option Str) (rows:List (List Str)):D:=.list ((List.range rows.length).map fun j=>D.int (ansAt mods dirs T0 fns mnm rows j))
noncomputable def tabN (mods dirs:Option Str) (T0:List (Str × Int)) (fns:List Str→Option Str) (rows:List (List Str)):List (Str × Int):=tabAt mods dirs T0 fns mnm rows rows.length
noncomputable def ansV (mods dirs:Option Str) (rows:List (List Str)):D:=
  .tuple [passD mods dirs T00 fn1 rows,passD mods dirs (tabN mods dirs T00 fn1 rows) fn2 rows,passD mods dirs (tabN mods dirs (tabN mods dirs T00 fn1 rows) fn2 rows) fn3 rows]
noncomputable def rowOk (c:List Str):Bool:=decide (c.length + 1 ≤ cap) && JoinOk (Str.ofString ".") c && JoinOk (Str.ofString "/") (c ++ [Str.ofString "f.py"]) && decide ((Str.ofString "/").length + (Txt.join (Str.ofString "/") (c ++ [Str.ofString "f.py"])).length ≤ cap)
noncomputable def ansG (parts:List Str) (rows:List (List Str)) (mods dirs:Option Str):Bool:=
  JoinOk (Str.ofString ".") parts && JoinOk (Str.ofString "/") parts && decide ((Str.ofString "/b/../").length + (Txt.join (Str.ofString "/") parts).length ≤ cap) && mods.all (fun y=>decide (y.length + 1 ≤ cap)) && dirs.all (fun y=>decide (y.length + 1 ≤ cap)) && decide (rows.length ≤ 300) && rows.all rowOk
noncomputable def decRows:List D→Option (List (List Str))
  | []=>some []
  | d :: r=>onL d fun ds=>(strsOf ds).bind fun c=>(decRows r).map (c :: ·)
noncomputable def ansF (Φ:FEnv) (ds:List D):Option D:=onC ds fun a ds=>onC ds fun b ds=>(one? ds).bind fun c=>onL a fun ps=>onL b fun rs=>onB c fun m=>(strsOf ps).bind fun parts=>(decRows rs).bind fun rows=>(ansDirs Φ m parts).bind fun dirs=>
  if ansG parts rows (ansMods m parts) dirs then some (ansV (ansMods m parts) dirs rows) else none
theorem strsOf_map:∀ {ds:List D} {xs:List Str},strsOf ds=some xs→ds=xs.map .str
  | [],xs,h=>by cases h; rfl
  | d :: ds,xs,h=>onS_ (motive:=fun d=>d :: ds=xs.map .str) (show onS d _=some xs from h) fun i h=>map_ h fun ys e h=>h ▸ congrArg (D.str i :: ·) (strsOf_map e)
theorem map_strsOf:∀ xs:List Str,strsOf (xs.map .str)=some xs
  | []=>rfl
  | x :: xs=>congrArg (Option.map (x :: ·)) (map_strsOf xs)
theorem decRows_map:∀ {ds:List D} {rows:List (List Str)},decRows ds=some rows→ds=rows.map strsD
  | [],rows,h=>by cases h; rfl
  | d :: ds,rows,h=>onL_ (motive:=fun d=>d :: ds=rows.map strsD) (show onL d _=some rows from h) fun i h=>bind_ h fun c e1 h=>map_ h fun ys e h=>h ▸ (by rw [decRows_map e,strsOf_map e1]; rfl)
theorem join_ev {Φ:FEnv} {sep:Str} {t:TE} {σ:St} {xs:List Str} (h:evE Φ t σ=some (.list (xs.map .str))) (hj:JoinOk sep xs=true):evE Φ (.mt .join (.cStr sep) (.cons t .nil)) σ=some (.str (Txt.join sep xs)):=by
  show ((evE Φ t σ).bind fun a=>some [a]).bind (evMt Φ .join (.str sep))=_
  rw [h]
  show ((strsOf (xs.map .str)).bind fun xs=>if JoinOk sep xs=true then some (D.str (Txt.join sep xs)) else none)=_
  rw [map_strsOf]
  exact if_pos hj
theorem pass_of {G:Gl} {Φ:FEnv} {k:Nat} {mods dirs:Option Str} {T0:List (Str × Int)} {fns:List Str→Option Str} {rows:List (List Str)} {t1:TE} (h1:rows.all rowOk=true) (hm:mods.all (fun y=>decide (y.length + 1 ≤ cap))=true) (hd:dirs.all (fun y=>decide (y.length + 1 ≤ cap))=true) (hz:T0.length + rows.length ≤ 1000)
    (ht:(t1=tF1∧fns=fn1) ∨ (t1=tF2∧fns=fn2) ∨ (t1=tF3∧fns=fn3)):Pass G Φ k mods dirs T0 fns mnm rows t1:=by
  have row:∀ c,c ∈ rows→c.length + 1 ≤ cap∧JoinOk (Str.ofString ".") c=true∧JoinOk (Str.ofString "/") (c ++ [Str.ofString "f.py"])=true∧(Str.ofString "/").length + (Txt.join (Str.ofString "/") (c ++ [Str.ofString "f.py"])).length ≤ cap:=fun c hc=>by
    exact and_ (List.all_eq_true.mp h1 c hc) fun h q4=>and_ h fun h q3=>and_ h fun q1 q2=>⟨of_decide_eq_true q1,q2,q3,of_decide_eq_true q4⟩
  refine ⟨?_,?_,fun σ c hc h6=>?_,fun σ c hc h6=>?_,fun y hy=>?_,fun y hy=>?_,hz⟩
  · rcases ht with ⟨rfl,_⟩ | ⟨rfl,_⟩ | ⟨rfl,_⟩ <;> decide
  · rcases ht with ⟨rfl,_⟩ | ⟨rfl,_⟩ | ⟨rfl,_⟩ <;> decide
  · obtain ⟨r1,r2,r3,r4⟩:=row c hc
    rcases ht with ⟨rfl,rfl⟩ | ⟨rfl,rfl⟩ | ⟨rfl,rfl⟩
    · have e1:evE Φ (.bin .add (.var 6) (.list (.cons (.cStr (Str.ofString "f.py")) .nil))) σ=some (.list ((c ++ [Str.ofString "f.py"]).map .str)):=by
        show (St.get σ 6).bind (fun a=>evBin .add a (.list [.str (Str.ofString "f.py")]))=_
        rw [h6,List.map_append]
        exact if_pos (by rw [List.length_map]; exact r1)
      have e2:=join_ev (Φ:=Φ) e1 r3
      show (evE Φ (.mt .join (.cStr (Str.ofString "/")) (.cons (.bin .add (.var 6) (.list (.cons (.cStr (Str.ofString "f.py")) .nil))) .nil)) σ).bind (evBin .add (.str (Str.ofString "/")))=_
      rw [e2]
      exact if_pos r4
    · rfl
    · rfl
  · obtain ⟨r1,r2,r3,r4⟩:=row c hc
    exact join_ev (t:=.var 6) h6 r2
  · subst hy; simpa using hm
  · subst hy; simpa using hd
section
variable {G:Gl} {IC NF fI:Addr} {sc sc':Scope} {env:Env} {X0 X W:Addr→Prop} {σ:St} {s s0:Shared} {A:Around} {E:Value→Shared→Prop} {k:Nat} {Φ:FEnv}
theorem ans_dirs {m:Bool} {parts:List Str} {dirs:Option Str} (hd:ansDirs Φ m parts=some dirs):(m=true∧dirs=none) ∨ (m=false∧∃ q,Φ (Str.ofString "normpath") [.str (Str.ofString "/b/../" ++ Txt.join (Str.ofString "/") parts)]=some (.str q)∧dirs=some q):=by
  cases m with
  | true=>cases hd; exact .inl ⟨rfl,rfl⟩
  | false=>exact bind_ hd fun d e hd=>onS_ (motive:=fun d=>Φ _ _=some d→_) hd (fun q hd e=>by cases hd; exact .inr ⟨rfl,q,e,rfl⟩) e
theorem ans_reader {c1 c2:Str} {p1 p2 p3 p4 p5:Pos} {t a1 a2 a3:PySem.Expr} {m:Bool} {parts:List Str} {dirs:Option Str} (U:Sur G IC NF fI Φ k) (hIC:nsIn G.K mainGlobals (Str.ofString "_Ignore")=some (some (.ref IC))) (kIC:keepIn G.K (.ref IC)=true) (hK:mkAt G.K fI=true) (nset:nsIn G.K mainGlobals (Str.ofString "set")=some none)
    (rm:Room A (k + 2)) (F:FrOK G i_ans sc (allI i_ans) env X W s.heap σ) (B:BaseOK G s.heap) (g2:chkE i_ans sc (.var 2) t=true) (g3:globOk sc c1=true) (g4:globOk sc c2=true) (e3:c1=Str.ofString "_Ignore") (e4:c2=Str.ofString "_Ignore")
    (g5:chkE i_ans sc tA1 a1=true) (g6:chkE i_ans sc tA2 a2=true) (g7:chkE i_ans sc tA3 a3=true) (v0:St.get σ 0=some (strsD parts)) (v2:St.get σ 2=some (.bool m)) (hd:ansDirs Φ m parts=some dirs)
    (j1:JoinOk (Str.ofString ".") parts=true) (j2:JoinOk (Str.ofString "/") parts=true) (j3:(Str.ofString "/b/../").length + (Txt.join (Str.ofString "/") parts).length ≤ cap) :
    wpAny (model G.prog G.w) A (eval (.IfExp t (.Call (.Name c1 p1) [a1] [] p2) (.Call (.Name c2 p3) [a2,a3] [] p4) p5) env) (fun v s'=>∃ R da ms dl ig,v=.ref R∧Keeps s s'∧RdAt G IC s'.heap R da ms dl ig (ansMods m parts) dirs T00∧∀ b,ZR R da ms dl ig b→s.heap.get? b=none) E s:=by
  subst e3 e4
  have rk:Room A k:=rm.less (om168)
  have hev:evT Φ (.var 2) σ=some m:=by
    show (St.get σ 2).bind truth=_
    rw [v2]
    rfl
  refine IfExp_ (wpAny_mono ((all_E (I:=i_ans) U.C (.var 2) rfl).2 sc _ env X W s σ A E t _ g2 rk F B hev) (fun c s1 q1=>?_) fun u u x=>x)
  obtain ⟨rfl,k1⟩:=q1
  have F1:=F.mono (Keeps.get k1)
  have B1:=B.mono (Keeps.get k1)
  have v0':evE Φ (.var 0) σ=some (.list (parts.map .str)):=v0
  have fin:∀ {vs:List Value} {s2:Shared} {ds:List D} {ds1:List D} {d2:D} {mods:Option Str},Keeps s s2→RepL G X s2.heap vs ds→((ds=[.list ds1]∧d2=.none) ∨ ds=[.list ds1,d2])→((ds1=[]∧mods=none) ∨ ∃ m,ds1=[.str m]∧mods=some m)→((d2=.none∧dirs=none) ∨ ∃ p q,d2=.list [.str p]∧Φ (Str.ofString "normpath") [.str p]=some (.str q)∧dirs=some q)→
      wpAny (model G.prog G.w) A (call (.ref IC) vs) (fun v s'=>∃ R da ms dl ig,v=.ref R∧Keeps s s'∧RdAt G IC s'.heap R da ms dl ig mods dirs T00∧∀ b,ZR R da ms dl ig b→s.heap.get? b=none) E s2:=fun {vs s2 ds ds1 d2 mods} k2 r h1 h2 h3=>by
    have q2:=Keeps.get k2
    refine wpAny_mono (reader_call (X:=X) U.O hK U.C nset rm (B.mono q2) (F.mono q2).live r h1 h2 h3) (fun v s3 q3=>?_) fun u u x=>x
    obtain ⟨R,da,ms,dl,ig,rfl,k3,rd,n1,n2,n3,n4,n5⟩:=q3
    have nn:∀ {b},s2.heap.get? b=none→s.heap.get? b=none:=fun {b} h=>none_of_none (fun o=>q2 b o) h
    refine ⟨R,da,ms,dl,ig,rfl,Keeps.trans k2 k3,rd,fun b hz=>?_⟩
    rcases hz with rfl | rfl | rfl | rfl | rfl
    · exact nn n1
    · exact nn n2
    · exact nn n3
    · exact nn n4
    · exact nn n5
  cases c with
  | true=>
    rcases ans_dirs hd with ⟨_,rfl⟩ | ⟨z,_⟩
    · have hcs:chkEs i_ans sc (.cons tA1 .nil) [a1]=true:=Bool.and_eq_true_iff.mpr ⟨g5,rfl⟩
      have evs:evEs Φ (.cons tA1 .nil) σ=some [.list [.str (Txt.join (Str.ofString ".") parts)]]:=by
        show (Option.map _ ((evE Φ (.mt .join (.cStr (Str.ofString ".")) (.cons (.var 0) .nil)) σ).bind _)).bind _=_
        rw [join_ev v0' j1]
        rfl
      refine Call_ (load_glob F1 B1 g3 hIC (callWith_fn (first:=[]) B1 kIC hcs (wpAny_mono ((all_Es (I:=i_ans) U.C (.cons tA1 .nil) rfl).1 sc _ env X W s1 σ A E _ _ _ hcs (by decide) rk F1 B1 evs) (fun vs s2 q2=>⟨q2.1,?_⟩) fun u u x=>x)))
      exact fin (Keeps.trans k1 q2.1) q2.2 (.inl ⟨rfl,rfl⟩) (.inr ⟨_,rfl,rfl⟩) (.inl ⟨rfl,rfl⟩)
    · cases z
  | false=>
    rcases ans_dirs hd with ⟨z,_⟩ | ⟨_,q,hq,rfl⟩
    · cases z
    · have hcs:chkEs i_ans sc (.cons tA2 (.cons tA3 .nil)) [a2,a3]=true:=Bool.and_eq_true_iff.mpr ⟨g6,Bool.and_eq_true_iff.mpr ⟨g7,rfl⟩⟩
      have evs:evEs Φ (.cons tA2 (.cons tA3 .nil)) σ=some [.list [],.list [.str (Str.ofString "/b/../" ++ Txt.join (Str.ofString "/") parts)]]:=by
        show Option.map _ ((Option.map _ (((evE Φ (.mt .join (.cStr (Str.ofString "/")) (.cons (.var 0) .nil)) σ).bind (evBin .add (.str (Str.ofString "/b/../")))).bind _)).bind _)=_
        rw [join_ev v0' j2]
        show Option.map _ ((Option.map _ ((if (Str.ofString "/b/../").length + (Txt.join (Str.ofString "/") parts).length ≤ cap then some (D.str _) else none).bind _)).bind _)=_
        rw [if_pos j3]
        rfl
      refine Call_ (load_glob F1 B1 g4 hIC (callWith_fn (first:=[]) B1 kIC hcs (wpAny_mono ((all_Es (I:=i_ans) U.C (.cons tA2 (.cons tA3 .nil)) rfl).1 sc _ env X W s1 σ A E _ _ _ hcs (by decide) rk F1 B1 evs) (fun vs s2 q2=>⟨q2.1,?_⟩) fun u u x=>x)))
      exact fin (Keeps.trans k1 q2.1) q2.2 (.inr rfl) (.inl ⟨rfl,rfl⟩) (.inr ⟨_,q,rfl,hq,rfl⟩)
theorem swaps_used {h:Heap} (F:FrOK G i_ans sc (allI i_ans) env X W h σ) {t1:TE} {e:PySem.Expr} {f:Str} {fp:Pos} {l:Nat} (hc:compIs sc t1 e=true) (hu:usedIs sc f fp e=true):swapsWith e (some (.Name f fp)) l env=pure true:=by
  refine onLC_ hu fun a gs sc' p hu=>and_ hu fun hu h3=>and_ hu fun h1 h2=>?_
  have hk:env.kindOf f=some .local:=(F.kinds f).elim (fun q=>q.trans (eq_of_beq h1)) fun q=>absurd ((eq_of_beq h1).symm.trans q.1) fun z=>by cases z
  have hb:env.blockKind=.function:=by
    unfold Env.blockKind
    rw [F.kind]
    rfl
  unfold swapsWith
  dsimp only
  rw [hk,hb,show (fp.line == (PySem.Expr.ListComp a gs sc' p).pos.line)=true from h2,h3]
  rfl
theorem ans_pass {a:Stmt} {i:Nat} {t1:TE} {R da ms dl ig:Addr} {mods dirs:Option Str} {T0:List (Str × Int)} {fns:List Str→Option Str} {mno:List Str→Str} {rows:List (List Str)} {Q:Flow→Shared→Prop}
    (U:Sur G IC NF fI Φ k) (P:Pass G Φ k mods dirs T0 fns mno rows t1) (rm:Room A (k + 1)) (M:AnSt G IC R da ms dl ig mods dirs T0 sc env X0 X W σ s0 s) (ha:asgIs sc i t1 a=true)
    (h1:St.get σ 1=some (.list (rows.map strsD))) (h3:St.get σ 3=some (.opq (.ref R)))
    (hQ:∀ X' s',AnSt G IC R da ms dl ig mods dirs (tabAt mods dirs T0 fns mno rows rows.length) sc env X0 X' W (σ.put i (.list ((List.range rows.length).map fun j=>D.int (ansAt mods dirs T0 fns mno rows j)))) s0 s'→Q .next s') :
    wpAny (model G.prog G.w) A (exec a env) Q E s:=by
  refine onAsg_ ha fun ts e ps ha=>onOne_ ha fun u ha=>onNm_ ha fun f fp ha=>and_ ha fun ha hu=>and_ ha fun ok hc=>?_
  rw [exec_Assign_Name_used _ _ _ _ (swaps_used (l:=ps.line) M.fr hc hu)]
  refine onLC_ hc fun el gs sc' lp hc=>onGen_ hc fun tg it ifs hc=>and_ hc fun hc c4=>and_ hc fun hc c3=>and_ hc fun hc c2=>and_ hc fun c0 c1=>?_
  cases List.isEmpty_iff.mp c0
  exact wpAny_bind (wpAny_standAt (wpAny_bind (wpAny_mono (ans_used (Q:=fun z s'=>Q .next s') U P rm M c1 c2 c3 c4 h1 h3 ok hQ) (fun z s2 h2=>wpAny_pure h2) fun z z x=>x)))
theorem ans_start {st:Stmt} {m:Bool} {parts:List Str} {dirs:Option Str} {Q:Flow→Shared→Prop} (U:Sur G IC NF fI Φ k) (hIC:nsIn G.K mainGlobals (Str.ofString "_Ignore")=some (some (.ref IC))) (kIC:keepIn G.K (.ref IC)=true) (hK:mkAt G.K fI=true) (nset:nsIn G.K mainGlobals (Str.ofString "set")=some none)
    (rm:Room A (k + 2)) (F:FrOK G i_ans sc (allI i_ans) env X W s.heap σ) (e:Ent G s0 X0 X W s) (hm:mkIs sc st=true) (v0:St.get σ 0=some (strsD parts)) (v2:St.get σ 2=some (.bool m)) (hd:ansDirs Φ m parts=some dirs)
    (j1:JoinOk (Str.ofString ".") parts=true) (j2:JoinOk (Str.ofString "/") parts=true) (j3:(Str.ofString "/b/../").length + (Txt.join (Str.ofString "/") parts).length ≤ cap)
    (hQ:∀ R da ms dl ig X1 s2,AnSt G IC R da ms dl ig (ansMods m parts) dirs T00 sc env X0 X1 W (σ.put 3 (.opq (.ref R))) s0 s2→Q .next s2):wpAny (model G.prog G.w) A (exec st env) Q E s:=by
  refine onSet_ hm fun x xp ex p hm=>onIf_ hm fun t a b ip hm=>onFn_ hm fun n1 p1 as cp1 hm=>onOne_ hm fun a1 hm=>onFn_ hm fun n2 p2 bs cp2 hm=>onTwo_ hm fun a2 a3 hm=>and_ hm fun hm u9=>and_ hm fun hm u8=>and_ hm fun hm u7=>and_ hm fun hm u6=>and_ hm fun hm u5=>and_ hm fun hm u4=>and_ hm fun hm u3=>and_ hm fun u1 u2=>?_
  refine wpAny_Assign_Name (wpAny_mono (ans_reader (m:=m) (parts:=parts) U hIC kIC hK nset rm F e.b u2 u4 u6 (eqb_ u3) (eqb_ u5) u7 u8 u9 v0 v2 hd j1 j2 j3) (fun v s1 q1=>?_) fun u u x=>x) (by rfl)
  obtain ⟨R,da,ms,dl,ig,rfl,k1,rd,nz⟩:=q1
  have F1:=F.grow (h':=s1.heap) (N:=ZR R da ms dl ig) (W':=W) (Keeps.get k1) (fun b hz=>⟨nz b hz,rd_live rd b hz⟩) (fun b w=>w) fun b w=>.inl (F.wx b w)
  have old:∀ {b},(∃ o,s.heap.get? b=some o)→¬ ZR R da ms dl ig b:=fun ⟨_,q⟩ hz=>nomatch q.symm.trans (nz _ hz)
  have nW:∀ b,ZR R da ms dl ig b→¬ W b:=fun b hz w=>old (F.live b (F.wx b w)) hz
  refine wpAny_mono (store_ready (v:=.ref R) (d:=.opq (.ref R)) F1 u1 ⟨fun u=>.opq rfl,fun n=>nomatch n⟩ fun n=>nomatch n) (fun u s2 h2=>hQ R da ms dl ig (fun a=>X a ∨ ZR R da ms dl ig a) s2 ?_) fun u u x=>x
  have e2:=(e.step (X1:=fun a=>X a ∨ ZR R da ms dl ig a) (W1:=W) (Keeps.toW k1) (fun a q=>.inl (e.x0 a q)) fun u w=>.inl w).step (X1:=fun a=>X a ∨ ZR R da ms dl ig a) (W1:=W) h2.2.1 (fun a q=>.inl (e.x0 a q)) fun u w=>.inl w
  exact ⟨h2.1,e.base,e.live0,e2.kp,fun a q=>.inl (e.x0 a q),e.w0,rd.mono fun b o hz=>KeepsW.get h2.2.1 b o (nW b hz),fun b hz=>⟨.inr hz,nW b hz,none_of_none (fun o=>Keeps.get e.kp b o) (nz b hz),fun z=>old (let ⟨_,o,_,_,q,_⟩:=F.ns; ⟨o,q⟩) (z ▸ hz),fun y c hc z=>old (F.live c (F.cx y c hc).1) (z ▸ hz)⟩⟩
theorem ans_ret {st:Stmt} {d4 d5:D} {R da ms dl ig:Addr} {mods dirs:Option Str} {T0:List (Str × Int)} {fns:List Str→Option Str} {mno:List Str→Str} {rows:List (List Str)} {Q:Flow→Shared→Prop}
    (U:Sur G IC NF fI Φ k) (P:Pass G Φ k mods dirs T0 fns mno rows tF3) (rm:Room A (k + 1)) (M:AnSt G IC R da ms dl ig mods dirs T0 sc env X0 X W σ s0 s) (hr:retIs sc st=true)
    (h1:St.get σ 1=some (.list (rows.map strsD))) (h3:St.get σ 3=some (.opq (.ref R))) (h4:St.get σ 4=some d4) (h5:St.get σ 5=some d5)
    (hQ:∀ v s',Keeps s0 s'→Rep G X0 s'.heap v (.tuple [d4,d5,.list ((List.range rows.length).map fun j=>D.int (ansAt mods dirs T0 fns mno rows j))])→Q (.ret v) s'):wpAny (model G.prog G.w) A (exec st env) Q E s:=by
  refine onRetE_ hr fun e p b4=>onTup_ b4 fun es tn tp b4=>onCons_ b4 fun f es b4=>onTwo_ b4 fun g e b4=>onNm_ b4 fun f fp b4=>onNm_ b4 fun g gp b4=>and_ b4 fun b4 v3=>and_ b4 fun v1 v2=>?_
  refine wpAny_Return_some (Tuple_ (args_cons (M.fr.load v1 h4 fun w1 u u r1=>args_cons (M.fr.load v2 h5 fun w2 u u r2=>?_) rfl) rfl))
  refine onLC_ v3 fun el gs sc' lp v3=>onGen_ v3 fun tg it ifs v3=>and_ v3 fun v3 c4=>and_ v3 fun v3 c3=>and_ v3 fun v3 c2=>and_ v3 fun c0 c1=>?_
  cases List.isEmpty_iff.mp c0
  refine args_cons ?_ rfl
  rw [eval_ListComp]
  refine ans_comp (use:=none) U P rm M c1 c2 c3 c4 h1 h3 fun Da C h' tk nD nC hne hm kp r' rd'=>?_
  obtain ⟨mm,hm⟩:=hm
  refine ⟨mm,hm,fun h'' hs=>args_nil ?_⟩
  have kp2:∀ b o,¬ ZR R da ms dl ig b→s.heap.get? b=some o→h''.get? b=some o:=fun b o n q=>(hs.2 b fun z=>nomatch (z ▸ q).symm.trans nC).trans (kp b o n q)
  have kpx:∀ b o,¬ X b→s.heap.get? b=some o→h''.get? b=some o:=fun b o n q=>kp2 b o (fun hz=>n (M.z b hz).1) q
  have r3:Rep G X h'' (.ref Da) _:=((r'.mono (fun o e=>(hs.2 Da (Ne.symm hne)).trans e) fun b o n e=>(hs.2 b fun z=>n (.inr (.inl z))).trans e).weak (Y:=X) fun b o u y=>.inl y).rep (M.fr.live.fresh nD)
  have kp3:Keeps s0 { s with heap:=h'',toks:=tk }:=by
    obtain ⟨h0,t0,e0,k0⟩:=M.kp
    subst e0
    exact Keeps.mk' fun b o q=>kp2 b o (fun hz=>nomatch q.symm.trans (M.z b hz).2.2.1) (k0 b o q)
  have rl:RepL G X0 h'' [w1,w2,.ref Da] _:=(RepL.cons ((r1 List.not_mem_nil).mono kpx) (.cons ((r2 List.not_mem_nil).mono kpx) (.cons r3 .nil))).weak (Y:=X0) fun b o u q=>M.x0 b q
  exact wpAny_newObj_type (hQ _ _ (Keeps.trans kp3 (Keeps.push _)) (fresh_tuple (M.lv0.mono (Keeps.get kp3)) rl)) (by show [w1,w2,.ref Da].toArray.size ≤ sizeLine; rw [sizeLine_eq]; exact Nat.le_of_ble_eq_true rfl)
theorem tabN_len {mods dirs:Option Str} {T0:List (Str × Int)} {fns:List Str→Option Str} {rows:List (List Str)}:(tabN mods dirs T0 fns rows).length ≤ T0.length + rows.length:=tabAt_len _
theorem ans_calls {fa:Addr} (h:ansAtK G.K fa=true) (U:Sur G IC NF fI Φ k) (hIC:nsIn G.K mainGlobals (Str.ofString "_Ignore")=some (some (.ref IC))) (kIC:keepIn G.K (.ref IC)=true) (hK:mkAt G.K fI=true) (nset:nsIn G.K mainGlobals (Str.ofString "set")=some none) :
    CallsTo G (k + 3) fa (ansF Φ):=by
  refine onFunc_ h fun oc od osl fd ho h=>and_ h fun h h4=>and_ h fun h h3=>and_ h fun h1 h2=>?_
  intro ds d ev A X s vs E rm B lv r
  revert r
  refine onC_ ev fun a ds ev=>onC_ ev fun b ds ev=>bind_ ev fun c e1 ev=>?_
  cases one_ e1
  refine onL_ ev fun ps ev=>onL_ ev fun rs ev=>onB_ ev fun m ev=>bind_ ev fun parts hp ev=>bind_ ev fun rows hr ev=>bind_ ev fun dirs hdirs ev=>if_ ev fun hg ev r=>?_
  cases ev
  cases strsOf_map hp
  cases decRows_map hr
  refine and_ hg fun hg gr=>and_ hg fun hg gn=>and_ hg fun hg gd=>and_ hg fun hg gm=>and_ hg fun hg j3=>and_ hg fun j1 j2=>?_
  replace gn:=of_decide_eq_true gn
  have l0:T00.length + rows.length ≤ 301:=Nat.add_comm .. ▸ Nat.add_le_add_right gn 1
  have l1:(tabN (ansMods m parts) dirs T00 fn1 rows).length + rows.length ≤ 601:=Nat.add_le_add (Nat.le_trans tabN_len l0) gn
  have P1:Pass G Φ k (ansMods m parts) dirs T00 fn1 mnm rows tF1:=pass_of gr gm gd (Nat.le_trans l0 (by decide)) (.inl ⟨rfl,rfl⟩)
  have P2:Pass G Φ k (ansMods m parts) dirs (tabN (ansMods m parts) dirs T00 fn1 rows) fn2 mnm rows tF2:=pass_of gr gm gd (Nat.le_trans l1 (by decide)) (.inr (.inl ⟨rfl,rfl⟩))
  have P3:Pass G Φ k (ansMods m parts) dirs (tabN (ansMods m parts) dirs (tabN (ansMods m parts) dirs T00 fn1 rows) fn2 rows) fn3 mnm rows tF3:=pass_of gr gm gd (Nat.le_trans (Nat.add_le_add (Nat.le_trans tabN_len l1) gn) (by decide)) (.inr (.inr ⟨rfl,rfl⟩))
  refine call_hand ho h1 h2 h3 rfl rm B lv r fun env X' W s' A' E' rm' F e ub=>?_
  generalize bodyOf fd=b at h4
  refine onCons_ h4 fun st1 b h4=>onCons_ h4 fun st2 b h4=>onTwo_ h4 fun st3 st4 h4=>and_ h4 fun h4 b4=>and_ h4 fun h4 b3=>and_ h4 fun b1 b2=>?_
  have rm1:Room A' (k + 1):=rm'.less (Nat.le_succ _)
  exact wpAny_execs_cons (ans_start U hIC kIC hK nset rm' F e b1 rfl rfl hdirs j1 j2 (of_decide_eq_true j3) fun R da ms dl ig X2 s2 M=>wpAny_execs_cons (ans_pass U P1 rm1 M b2 rfl rfl fun X3 s3 M3=>wpAny_execs_cons (ans_pass U P2 rm1 M3 b3 rfl rfl fun X4 s4 M4=>wpAny_execs_cons (ans_ret U P3 rm1 M4 b4 rfl rfl rfl rfl fun v s5 k5 r5=>⟨k5,r5⟩))))
end
noncomputable def T1:Tab:=[(Str.ofString "compare", CmpF (runF (Tab.env []) i_compare t_compare 3)),(Str.ofString "add_callers", runF (Tab.env []) i_add_callers t_add_callers 2),(Str.ofString "count_calls", runF (Tab.env []) i_count_calls t_count_calls 1),(Str.ofString "_splitroot", runF (Tab.env []) i_splitroot t_splitroot 1),(Str.ofString "_kind", kindF)]
noncomputable def Φ1:FEnv:=T1.env
noncomputable def T2:Tab:=T1 ++ [(Str.ofString "_c_path", runF Φ1 i_c_path t_c_path 5),(Str.ofString "_normpath", runF Φ1 i_normpath1 t_normpath1 1),(Str.ofString "_law_calls", runF Φ1 i_law_calls t_law_calls 2),(Str.ofString "_law_sorted", runF Φ1 i_law_sorted t_law_sorted 2),(Str.ofString "_law_place", runF Φ1 i_law_place t_law_place 3),
  (Str.ofString "_law_tables", runF Φ1 i_law_tables t_law_tables 1),(Str.ofString "_law_plain", runF Φ1 i_law_plain t_law_plain 1),(Str.ofString "_law_stretches", runF Φ1 i_law_stretches t_law_stretches 2),(Str.ofString "_law_ahead", runF Φ1 i_law_ahead t_law_ahead 3)]
noncomputable def Φ2:FEnv:=T2.env
noncomputable def T3:Tab:=T2 ++ [(Str.ofString "normpath", normF Φ2),(Str.ofString "_law_read", runF Φ2 i_law_read t_law_read 4),(Str.ofString "_law_found", runF Φ2 i_law_found t_law_found 4)]
noncomputable def Φ3:FEnv:=T3.env
noncomputable def T4:Tab:=T3 ++ [(Str.ofString "_law_answers", ansF Φ3)]
noncomputable def Φ4:FEnv:=T4.env
noncomputable def lawF:List D→Option D:=runF Φ4 i_law t_law 1
noncomputable def byName (K:Frag) (x:Str) (p:Addr→Bool):Bool:=match nameAt K x with
  | some fa=>p fa
  | none=>false
theorem byName_of {K:Frag} {x:Str} {p:Addr→Bool} (h:byName K x p=true):∃ fa,nameAt K x=some fa∧p fa=true:=by
  unfold byName at h
  cases e:nameAt K x with
  | none=>rw [e] at h; cases h
  | some fa=>rw [e] at h; exact ⟨fa,rfl,h⟩
noncomputable def facts0 (K:Frag) (C fC:Addr):Bool:=
  nsIn K mainGlobals (Str.ofString "TupleComp") == some (some (.ref C)) && keepIn K (.ref C) && tupAt K C fC && plainGet K C (Str.ofString "compare") && hasDictIn K C && findIn K (.ref C) (Str.ofString "comp_select_list") == some none &&
  [Str.ofString "len", Str.ofString "sum", Str.ofString "max", Str.ofString "tuple", Str.ofString "list", Str.ofString "range", Str.ofString "zip", Str.ofString "isinstance"].all fun x=>nsIn K mainGlobals x == some none
noncomputable def facts1 (K:Frag) (C cA:Addr):Bool:=
  findIn K (.ref C) (Str.ofString "compare") == some (some (.ref cA)) && isFn K (.ref cA) && keepIn K (.ref cA) && defAt K cA i_compare t_compare 3 &&
  byName K (Str.ofString "add_callers") (fun a=>defAt K a i_add_callers t_add_callers 2) && byName K (Str.ofString "count_calls") (fun a=>defAt K a i_count_calls t_count_calls 1) && byName K (Str.ofString "_splitroot") (fun a=>defAt K a i_splitroot t_splitroot 1) &&
  byName K (Str.ofString "_kind") (fun a=>kindAt K a) && nsIn K mainGlobals (Str.ofString "type") == some none && nsIn K mainGlobals (Str.ofString "str") == some none
noncomputable def facts2 (K:Frag):Bool:=
  byName K (Str.ofString "_c_path") (fun a=>defAt K a i_c_path t_c_path 5) && byName K (Str.ofString "_normpath") (fun a=>defAt K a i_normpath1 t_normpath1 1) && byName K (Str.ofString "_law_calls") (fun a=>defAt K a i_law_calls t_law_calls 2) &&
  byName K (Str.ofString "_law_sorted") (fun a=>defAt K a i_law_sorted t_law_sorted 2) && byName K (Str.ofString "_law_place") (fun a=>defAt K a i_law_place t_law_place 3) && byName K (Str.ofString "_law_tables") (fun a=>defAt K a i_law_tables t_law_tables 1) &&
  byName K (Str.ofString "_law_plain") (fun a=>defAt K a i_law_plain t_law_plain 1) && byName K (Str.ofString "_law_stretches") (fun a=>defAt K a i_law_stretches t_law_stretches 2) && byName K (Str.ofString "_law_ahead") (fun a=>defAt K a i_law_ahead t_law_ahead 3)
noncomputable def facts3 (K:Frag):Bool:=
  byName K (Str.ofString "normpath") (fun a=>normAt K a) && byName K (Str.ofString "_law_read") (fun a=>defAt K a i_law_read t_law_read 4) && byName K (Str.ofString "_law_found") (fun a=>defAt K a i_law_found t_law_found 4)
noncomputable def sepV (v:Value):Bool:=if h:v.ctorIdx=6 then Value.str.elim v h fun x u=>x == Str.ofString "/" else false
theorem sepV_ {v:Value} (h:sepV v=true):∃ tk,v=.str (Str.ofString "/") tk:=
  dif_elim h fun q h=>Value.str.elim (motive:=fun v=>∀ q:v.ctorIdx=6,Value.str.elim v q (fun x u=>x == Str.ofString "/")=true→∃ tk,v=.str (Str.ofString "/") tk) v q (fun x t u h=>⟨t,congrArg (Value.str · t) (eqb_ h)⟩) q h
noncomputable def facts4 (K:Frag) (IC NF fI:Addr):Bool:=
  byName K (Str.ofString "_law_answers") (fun a=>ansAtK K a) && igAt K IC NF fI && namesAt K NF && mkAt K fI && nsIn K mainGlobals (Str.ofString "_Ignore") == some (some (.ref IC)) && keepIn K (.ref IC) &&
  onSome (nsIn K mainGlobals (Str.ofString "sep")) (fun o=>onSome o sepV) && nsIn K mainGlobals (Str.ofString "set") == some none
noncomputable def factsB (K:Frag) (C fC cA IC NF fI lawA:Addr):Bool:=facts0 K C fC && facts1 K C cA && facts2 K && facts3 K && facts4 K IC NF fI && defAt K lawA i_law t_law 1 && nsIn K mainGlobals (Str.ofString "law") == some (some (.ref lawA))
theorem ent_any {G:Gl} {k:Nat} {x:Str} {p:Addr→Bool} {F:List D→Option D} (h:byName G.K x p=true) (hx:x ≠ Str.ofString "compare") (hc:∀ fa,p fa=true→CallsTo G k fa F):EntOK G k x F:=
  let ⟨fa,h1,h2⟩:=byName_of h
  (if_neg hx).mpr ⟨fa,h1,hc fa h2⟩
theorem ent_def {G:Gl} {k n:Nat} {x:Str} {I:FI} {t:TSs} {Φ:FEnv} (h:byName G.K x (fun a=>defAt G.K a I t n)=true) (hx:x ≠ Str.ofString "compare") (ok:okSs t=true) (C:CxOK G Φ k):EntOK G (k + 1) x (runF Φ I t n):=ent_any h hx fun u h2=>defAt_calls h2 ok C
theorem tab_nil {G:Gl} {k:Nat}:∀ p ∈ ([]:Tab),EntOK G k p.1 p.2:=fun u h=>absurd h List.not_mem_nil
theorem tab_one {G:Gl} {k:Nat} {x:Str} {F:List D→Option D} {T:Tab} (a:EntOK G k x F) (h:∀ p ∈ T,EntOK G k p.1 p.2):∀ p ∈ (x,F) :: T,EntOK G k p.1 p.2:=fun p hp=>(List.mem_cons.mp hp).elim (fun e=>e ▸ a) (h p)
theorem tab_app {G:Gl} {k:Nat} {T U:Tab} (h:∀ p ∈ T,EntOK G k p.1 p.2) (h':∀ p ∈ U,EntOK G (k + 1) p.1 p.2):∀ p ∈ T ++ U,EntOK G (k + 1) p.1 p.2:=fun p hp=>
  (List.mem_append.mp hp).elim (fun q=>(h p q).up (Nat.le_succ k)) (h' p)
section
variable {G:Gl} {fC cA IC NF fI lawA:Addr}
theorem facts0_ (h:facts0 G.K G.C fC=true):ClsOK G 2:=
  and_ h fun h h7=>and_ h fun h h6=>and_ h fun h h5=>and_ h fun h h4=>and_ h fun h h3=>and_ h fun h1 h2=>⟨⟨eq_of_beq h1,h2,fun A X s v d E rm B lv r=>tup_calls (k:=0) h3 rm B lv r⟩,h4,h5,eq_of_beq h6,fun x hx=>eq_of_beq (List.all_eq_true.mp h7 x hx)⟩
theorem facts1_ (h:facts1 G.K G.C cA=true) (X0:CxOK G (Tab.env []) 2):∀ p ∈ T1,EntOK G 3 p.1 p.2:=
  and_ h fun h h10=>and_ h fun h h9=>and_ h fun h h8=>and_ h fun h h7=>and_ h fun h h6=>and_ h fun h h5=>and_ h fun h h4=>and_ h fun h h3=>and_ h fun h1 h2=>
    tab_one ((if_pos rfl).mpr ⟨cA,_,rfl,eq_of_beq h1,h2,h3,defAt_calls h4 (by decide) X0⟩) <| tab_one (ent_def h5 (by decide +kernel) (by decide) X0) <| tab_one (ent_def h6 (by decide +kernel) (by decide) X0) <| tab_one (ent_def h7 (by decide +kernel) (by decide) X0) <|
      tab_one (ent_any h8 (by decide +kernel) fun fa h=>kind_calls h (eq_of_beq h9) (eq_of_beq h10)) tab_nil
theorem facts2_ (h:facts2 G.K=true) (E1:∀ p ∈ T1,EntOK G 3 p.1 p.2) (X1:CxOK G Φ1 3):∀ p ∈ T2,EntOK G 4 p.1 p.2:=
  tab_app E1 <| and_ h fun h h9=>and_ h fun h h8=>and_ h fun h h7=>and_ h fun h h6=>and_ h fun h h5=>and_ h fun h h4=>and_ h fun h h3=>and_ h fun h1 h2=>
    tab_one (ent_def h1 (by decide +kernel) (by decide) X1) <| tab_one (ent_def h2 (by decide +kernel) (by decide) X1) <| tab_one (ent_def h3 (by decide +kernel) (by decide) X1) <| tab_one (ent_def h4 (by decide +kernel) (by decide) X1) <| tab_one (ent_def h5 (by decide +kernel) (by decide) X1) <|
      tab_one (ent_def h6 (by decide +kernel) (by decide) X1) <| tab_one (ent_def h7 (by decide +kernel) (by decide) X1) <| tab_one (ent_def h8 (by decide +kernel) (by decide) X1) <| tab_one (ent_def h9 (by decide +kernel) (by decide) X1) tab_nil
theorem facts3_ (h:facts3 G.K=true) (E2:∀ p ∈ T2,EntOK G 4 p.1 p.2) (X2:CxOK G Φ2 4):∀ p ∈ T3,EntOK G 5 p.1 p.2:=
  tab_app E2 <| and_ h fun h h3=>and_ h fun h1 h2=>tab_one (ent_any h1 (by decide +kernel) fun fa h=>norm_calls h X2) <| tab_one (ent_def h2 (by decide +kernel) (by decide) X2) <| tab_one (ent_def h3 (by decide +kernel) (by decide) X2) tab_nil
theorem facts4_ (h:facts4 G.K IC NF fI=true) (E3:∀ p ∈ T3,EntOK G 5 p.1 p.2) (X3:CxOK G Φ3 5):∀ p ∈ T4,EntOK G 8 p.1 p.2:=
  and_ h fun h h8=>and_ h fun h h7=>and_ h fun h h6=>and_ h fun h h5=>and_ h fun h h4=>and_ h fun h h3=>and_ h fun h1 h2=>by
    have hsep:∃ tk,nsIn G.K mainGlobals (Str.ofString "sep")=some (some (.str (Str.ofString "/") tk)):=
      onSome_ (motive:=fun x=>∃ tk,x=some (some (.str (Str.ofString "/") tk))) h7 fun o h=>onSome_ (motive:=fun x=>∃ tk,some x=some (some (.str (Str.ofString "/") tk))) h fun v h=>let ⟨tk,e⟩:=sepV_ h; ⟨tk,e ▸ rfl⟩
    exact tab_app (k:=7) (fun p hp=>(E3 p hp).up (by decide)) (tab_one (ent_any h1 (by decide +kernel) fun fa h=>ans_calls h ⟨igOK_of h2,h3,hsep,X3⟩ (eq_of_beq h5) h6 h4 (eq_of_beq h8)) tab_nil)
theorem law_calls_to (h:factsB G.K G.C fC cA IC NF fI lawA=true):CallsTo G 9 lawA lawF∧nsIn G.K mainGlobals (Str.ofString "law")=some (some (.ref lawA)):=
  and_ h fun h h7=>and_ h fun h h6=>and_ h fun h h5=>and_ h fun h h4=>and_ h fun h h3=>and_ h fun h1 h2=>
    have C0:=facts0_ h1
    have E1:=facts1_ h2 (tab_cx C0 tab_nil)
    have E2:=facts2_ h3 E1 (tab_cx (C0.up (by decide)) E1)
    have E3:=facts3_ h4 E2 (tab_cx (C0.up (by decide)) E2)
    have E4:=facts4_ h5 E3 (tab_cx (C0.up (by decide)) E3)
    ⟨defAt_calls h6 (by decide) (tab_cx (C0.up (by decide)) E4),eq_of_beq h7⟩
end
theorem well_int {P:Params} {h:Heap} {v:Value} {d:WData} {n:Int} (w:Well P h v d):d=.int n→∃ t,v=.int n t:=by
  cases w with
  | int i t=>exact fun e=>⟨t,WData.int.inj e ▸ rfl⟩
  | _=>exact fun e=>WData.noConfusion e
theorem ints_rep {G:Gl} {X:Addr→Prop} {P:Params} {h:Heap} {vs:List Value} {ds:List WData} (w:WellAll P h vs ds):∀ {ns:List Int},ds=ofPys (ns.map .int)→RepL G X h vs (ns.map .int):=by
  induction vs generalizing ds with
  | nil=>cases w; exact fun {ns} e=>match ns,e with | [],_=>.nil
  | cons v vs ih=>
    cases w with
    | cons a b=>
      intro ns e
      match ns,e with
      | n :: ns,e=>
        obtain ⟨t,rfl⟩:=well_int a (List.cons.inj e).1
        exact .cons (.int _ _) (ih b (List.cons.inj e).2)
theorem law_open {prog:Program} {w:World} {K:Frag} {p:Program} {loose:List Str} {mg mb:Str→Option Value} {C fC cA IC NF fI lawA fa a:Addr} {s:Shared} {ns:List Int} {Q:Value→Shared→Prop} {E:Value→Shared→Prop} (H:factsB K C fC cA IC NF fI lawA=true)
    (KX:K.In s.heap) (T:TopRead p loose mg mb s.heap) (hm:mg (Str.ofString "law")=some (.ref fa)) (hw:Well w.params s.heap (.ref a) (ofPy (.list (ns.map .int)))) (ht:lawF [.list (ns.map .int)]=some (.bool true))
    (hQ:∀ s',Keeps s s'→Q (.bool true) s'):wpAny (model prog w) callerA (call (.ref fa) [.ref a]) Q E s:=by
  let G:Gl:=⟨prog,w,K,p,loose,mg,mb,C⟩
  obtain ⟨hc,hl⟩:=law_calls_to (G:=G) H
  have e:=mg_of KX T.g hl
  rw [hm] at e
  cases e
  have rm:Room callerA 9:=⟨rfl,by decide,by decide⟩
  have B:BaseOK G s.heap:=⟨KX,T⟩
  simp only [ofPy] at hw
  cases hw with
  | list e1 e2=>
    have r:RepL G (fun u=>False) s.heap [.ref a] [.list (ns.map .int)]:=.cons (.list (fun q=>q) ⟨⟨_,e1,rfl,_,rfl⟩,_,e1,rfl⟩ (ints_rep e2 rfl)) .nil
    refine wpAny_mono (hc _ _ ht callerA (fun u=>False) s _ E rm B (fun a q=>q.elim) r) (fun v s' q=>?_) fun u u x=>x
    obtain ⟨k,rv⟩:=q
    cases (show v=.bool true from rv)
    exact hQ s' k
end Mine
namespace XB
variable {α:Type} [DecidableEq α]
structure Tree (α:Type) where
  n:Nat
  s:Nat→α
  p:Nat→Nat
  c:Nat→List α
structure Tree.OK (t:Tree α):Prop where
  pos:0 < t.n
  hp:∀ i,0 < i→i < t.n→t.p i < i
  c0:t.c 0=[]
  hc:∀ i,0 < i→i < t.n→t.c i=t.s (t.p i) :: t.c (t.p i)
  lam:∀ j x,0 < j→j < t.n→t.p j < x→x < j→t.p j ≤ t.p x
structure Ord (so:α→α→Bool) (lo:List α→List α→Bool):Prop where
  sirr:∀ a,so a a=false
  strans:∀ a b c,so a b=true→so b c=true→so a c=true
  stri:∀ a b,a ≠ b→so a b=true ∨ so b a=true
  cons:∀ a b x y,lo (a :: x) (b :: y)=if a=b then lo x y else so a b
  nil:lo [] []=false
  root:(∀ a x,lo [] (a :: x)=true∧lo (a :: x) []=false) ∨ (∀ a x,lo (a :: x) []=true∧lo [] (a :: x)=false)
section
variable {so:α→α→Bool} {lo:List α→List α→Bool}
theorem Ord.irr (O:Ord so lo):∀ x,lo x x=false
  | []=>O.nil
  | a :: x=>by rw [O.cons,if_pos rfl]; exact Ord.irr O x
theorem Ord.tri (O:Ord so lo):∀ x y,x ≠ y→lo x y=true ∨ lo y x=true
  | [],[],h=>absurd rfl h
  | [],a :: y,_=>by rcases O.root with r | r <;> simp [r]
  | a :: x,[],_=>by rcases O.root with r | r <;> simp [r]
  | a :: x,b :: y,h=>by
    rw [O.cons,O.cons]
    by_cases e:a=b
    · subst e
      rw [if_pos rfl,if_pos rfl]
      exact Ord.tri O x y fun q=>h (by rw [q])
    · rw [if_neg e,if_neg fun q=>e q.symm]
      exact O.stri a b e
theorem Ord.asym (O:Ord so lo):∀ x y,lo x y=true→lo y x=false
  | [],[],h=>by rw [O.nil] at h; cases h
  | [],a :: y,h=>by rcases O.root with r | r <;> simp [r] at h ⊢
  | a :: x,[],h=>by rcases O.root with r | r <;> simp [r] at h ⊢
  | a :: x,b :: y,h=>by
    rw [O.cons] at h ⊢
    by_cases e:a=b
    · subst e
      rw [if_pos rfl] at h ⊢
      exact Ord.asym O x y h
    · rw [if_neg e] at h
      rw [if_neg fun q=>e q.symm]
      cases q:so b a
      · rfl
      · have:=O.strans a b a h q
        rw [O.sirr] at this
        cases this
theorem Ord.trans (O:Ord so lo):∀ x y z,lo x y=true→lo y z=true→lo x z=true
  | [],[],_,h,_=>by rw [O.nil] at h; cases h
  | _,[],[],_,h=>by rw [O.nil] at h; cases h
  | [],a :: y,[],h,h'=>by rcases O.root with r | r <;> simp [r] at h h'
  | [],a :: y,b :: z,h,h'=>by rcases O.root with r | r <;> simp [r] at h ⊢
  | a :: x,[],b :: z,h,h'=>by rcases O.root with r | r <;> simp [r] at h h'
  | a :: x,b :: y,[],h,h'=>by rcases O.root with r | r <;> simp [r] at h' ⊢
  | a :: x,b :: y,d :: z,h,h'=>by
    rw [O.cons] at h h' ⊢
    by_cases e:a=b
    · subst e
      rw [if_pos rfl] at h
      by_cases e':a=d
      · subst e'
        rw [if_pos rfl] at h' ⊢
        exact Ord.trans O x y z h h'
      · rw [if_neg e'] at h' ⊢
        exact h'
    · rw [if_neg e] at h
      by_cases e':b=d
      · subst e'
        rw [if_neg e]
        exact h
      · rw [if_neg e'] at h'
        have:=O.strans a b d h h'
        by_cases e2:a=d
        · subst e2; rw [O.sirr] at this; cases this
        · rw [if_neg e2]; exact this
end
variable {so:α→α→Bool} {lo:List α→List α→Bool} {t:Tree α}
noncomputable def Tree.prec (t:Tree α) (lo:List α→List α→Bool) (i j:Nat):Prop:=lo (t.c i) (t.c j)=true ∨ (t.c i=t.c j∧i < j)
noncomputable def Tree.vprec (t:Tree α) (so:α→α→Bool) (lo:List α→List α→Bool) (u v:Nat):Prop:=so (t.s u) (t.s v)=true ∨ (t.s u=t.s v∧t.prec lo u v)
noncomputable def Tree.kids (t:Tree α) (v:Nat):List Nat:=(List.range t.n).filter fun j=>decide (0 < j) && t.p j == v
noncomputable def Tree.made (t:Tree α) (v:Nat):Bool:=!(t.kids v).isEmpty
theorem prec_irr (O:Ord so lo) {i:Nat}:¬ t.prec lo i i:=by
  rintro (h | ⟨_,h⟩)
  · rw [O.irr] at h; cases h
  · exact Nat.lt_irrefl _ h
theorem prec_asym (O:Ord so lo) {i j:Nat} (h:t.prec lo i j):¬ t.prec lo j i:=by
  rcases h with h | ⟨e,h⟩ <;> rintro (h' | ⟨e',h'⟩)
  · rw [O.asym _ _ h] at h'; cases h'
  · rw [e',O.irr] at h; cases h
  · rw [e,O.irr] at h'; cases h'
  · exact om59 h h'
theorem prec_trans (O:Ord so lo) {i j k:Nat} (h:t.prec lo i j) (h':t.prec lo j k):t.prec lo i k:=by
  rcases h with h | ⟨e,h⟩ <;> rcases h' with h' | ⟨e',h'⟩
  · exact .inl (O.trans _ _ _ h h')
  · exact .inl (e' ▸ h)
  · exact .inl (e ▸ h')
  · exact .inr ⟨e.trans e',Nat.lt_trans h h'⟩
theorem prec_tri (O:Ord so lo) {i j:Nat} (h:i ≠ j):t.prec lo i j ∨ t.prec lo j i:=by
  by_cases e:t.c i=t.c j
  · rcases Nat.lt_or_gt_of_ne h with q | q
    · exact .inl (.inr ⟨e,q⟩)
    · exact .inr (.inr ⟨e.symm,q⟩)
  · rcases O.tri _ _ e with q | q
    · exact .inl (.inl q)
    · exact .inr (.inl q)
theorem mem_kids {v j:Nat}:j ∈ t.kids v ↔ 0 < j∧j < t.n∧t.p j=v:=by
  unfold Tree.kids
  rw [List.mem_filter,List.mem_range]
  simp only [Bool.and_eq_true,decide_eq_true_eq,beq_iff_eq]
  constructor
  · rintro ⟨a,b,c⟩; exact ⟨b,a,c⟩
  · rintro ⟨a,b,c⟩; exact ⟨b,a,c⟩
theorem made_iff {v:Nat}:t.made v=true ↔ ∃ j,j ∈ t.kids v:=by
  unfold Tree.made
  cases h:t.kids v with
  | nil=>simp
  | cons a l=>simp
theorem Tree.OK.deep (K:t.OK) {j:Nat} (hj:0 < j) (hn:j < t.n):∀ x,t.p j < x→x < j→(t.c (t.p j)).length < (t.c x).length:=by
  intro x
  induction x using Nat.strongRecOn with
  | _ x ih=>
    intro h1 h2
    have hx:0 < x:=om7 h1
    have hxn:x < t.n:=Nat.lt_trans h2 hn
    have hl:=K.lam j x hj hn h1 h2
    rw [K.hc x hx hxn,List.length_cons]
    rcases Nat.lt_or_eq_of_le hl with q | q
    · have:=ih (t.p x) (K.hp x hx hxn) q (by have:=K.hp x hx hxn; exact Nat.lt_trans this h2)
      exact om27 this
    · rw [q]; exact om28
theorem Tree.OK.mono (K:t.OK) {i j:Nat} (hi:0 < i) (hij:i < j) (hj:j < t.n) (e:t.c i=t.c j):t.p i ≤ t.p j:=by
  rcases Nat.lt_or_ge (t.p j) (t.p i) with h | h
  · have h1:=K.hp i hi (Nat.lt_trans hij hj)
    have h2:=K.deep (j:=j) (om7 hij) hj (t.p i) h (Nat.lt_trans h1 hij)
    have e1:=congrArg List.length e
    rw [K.hc i hi (Nat.lt_trans hij hj),K.hc j (om7 hij) hj] at e1
    simp only [List.length_cons] at e1
    exact om60 e1 h2
  · exact h
theorem kids_prec (K:t.OK) {v:Nat}:(t.kids v).Pairwise (t.prec lo):=by
  have h:(t.kids v).Pairwise (· < ·):=List.Pairwise.filter _ List.pairwise_lt_range
  refine List.Pairwise.imp_of_mem (fun {a b} ha hb hab=>?_) h
  obtain ⟨a1,a2,a3⟩:=mem_kids.mp ha
  obtain ⟨b1,b2,b3⟩:=mem_kids.mp hb
  exact .inr ⟨by rw [K.hc a a1 a2,K.hc b b1 b2,a3,b3],hab⟩
theorem vprec_kids (O:Ord so lo) (K:t.OK) {u v x y:Nat} (h:t.vprec so lo u v) (hx:x ∈ t.kids u) (hy:y ∈ t.kids v):t.prec lo x y:=by
  obtain ⟨x1,x2,x3⟩:=mem_kids.mp hx
  obtain ⟨y1,y2,y3⟩:=mem_kids.mp hy
  have ex:=K.hc x x1 x2
  have ey:=K.hc y y1 y2
  rw [x3] at ex
  rw [y3] at ey
  rcases h with h | ⟨e,h | ⟨e',h⟩⟩
  · left
    rw [ex,ey,O.cons,if_neg]
    · exact h
    · intro q; rw [q,O.sirr] at h; cases h
  · left
    rw [ex,ey,O.cons,if_pos e]
    exact h
  · right
    have ec:t.c x=t.c y:=by rw [ex,ey,e,e']
    refine ⟨ec,?_⟩
    rcases Nat.lt_or_ge x y with q | q
    · exact q
    · rcases Nat.lt_or_eq_of_le q with q | q
      · have:=K.mono y1 q x2 ec.symm
        exact om61 h x3 y3 this
      · subst q
        exact om62 h x3 y3
structure Sorted (t:Tree α) (lo:List α→List α→Bool) (ord:List Nat):Prop where
  perm:ord.Perm (List.range t.n)
  pw:ord.Pairwise (t.prec lo)
theorem Sorted.nodup {ord:List Nat} (S:Sorted t lo ord):ord.Nodup:=S.perm.nodup_iff.mpr List.nodup_range
theorem Sorted.mem {ord:List Nat} (S:Sorted t lo ord) {v:Nat}:v ∈ ord ↔ v < t.n:=by rw [S.perm.mem_iff,List.mem_range]
noncomputable def inner (t:Tree α) (ord:List Nat) (sg:List α):List Nat:=sg.flatMap fun a=>ord.filter fun v=>t.made v && t.s v == a
theorem mem_inner {ord:List Nat} (S:Sorted t lo ord) {sg:List α} (hs:∀ v,v < t.n→t.s v ∈ sg) {v:Nat}:v ∈ inner t ord sg ↔ v < t.n∧t.made v=true:=by
  unfold inner
  rw [List.mem_flatMap]
  constructor
  · rintro ⟨a,_,h⟩
    rw [List.mem_filter,S.mem] at h
    simp only [Bool.and_eq_true] at h
    exact ⟨h.1,h.2.1⟩
  · rintro ⟨h1,h2⟩
    exact ⟨t.s v,hs v h1,List.mem_filter.mpr ⟨S.mem.mpr h1,by simp [h2]⟩⟩
theorem inner_pw {ord:List Nat} (S:Sorted t lo ord) {sg:List α} (hg:sg.Pairwise fun a b=>so a b=true):(inner t ord sg).Pairwise (t.vprec so lo):=by
  unfold inner
  rw [List.pairwise_flatMap]
  refine ⟨fun a u=>?_,hg.imp fun {a b} hab x hx y hy=>?_⟩
  · refine List.Pairwise.imp_of_mem (fun {x y} hx hy h=>?_) (S.pw.filter _)
    rw [List.mem_filter] at hx hy
    simp only [Bool.and_eq_true,beq_iff_eq] at hx hy
    exact .inr ⟨hx.2.2.trans hy.2.2.symm,h⟩
  · rw [List.mem_filter] at hx hy
    simp only [Bool.and_eq_true,beq_iff_eq] at hx hy
    left
    rw [hx.2.2,hy.2.2]
    exact hab
theorem rest_eq (O:Ord so lo) (K:t.OK) {ord:List Nat} (S:Sorted t lo ord) {sg:List α} (hs:∀ v,v < t.n→t.s v ∈ sg) (hg:sg.Pairwise fun a b=>so a b=true) :
    ord.filter (fun j=>decide (0 < j))=(inner t ord sg).flatMap t.kids:=by
  have P2:((inner t ord sg).flatMap t.kids).Pairwise (t.prec lo):=by
    rw [List.pairwise_flatMap]
    exact ⟨fun a u=>kids_prec K,(inner_pw S hg).imp fun h x hx y hy=>vprec_kids O K h hx hy⟩
  have P1:(ord.filter fun j=>decide (0 < j)).Pairwise (t.prec lo):=S.pw.filter _
  have nd:∀ {l:List Nat},l.Pairwise (t.prec lo)→l.Nodup:=fun h=>List.Pairwise.imp (fun {a b} (h:t.prec lo a b) (e:a=b)=>by subst e; exact prec_irr O h) h
  refine List.Perm.eq_of_pairwise (fun a b u u h h'=>absurd h' (prec_asym O h)) P1 P2 ((List.perm_ext_iff_of_nodup (nd P1) (nd P2)).mpr fun j=>?_)
  rw [List.mem_filter,S.mem,List.mem_flatMap]
  simp only [decide_eq_true_eq]
  constructor
  · rintro ⟨h1,h2⟩
    have h3:=K.hp j h2 h1
    exact ⟨t.p j,(mem_inner S hs).mpr ⟨Nat.lt_trans h3 h1,made_iff.mpr ⟨j,mem_kids.mpr ⟨h2,h1,rfl⟩⟩⟩,mem_kids.mpr ⟨h2,h1,rfl⟩⟩
  · rintro ⟨v,_,h⟩
    obtain ⟨h1,h2,_⟩:=mem_kids.mp h
    exact ⟨h2,h1⟩
theorem root_at (O:Ord so lo) (K:t.OK) {ord:List Nat} (S:Sorted t lo ord) :
    ((∀ a x,lo [] (a :: x)=true∧lo (a :: x) []=false)→ord=0 :: ord.filter fun j=>decide (0 < j)) ∧
    ((∀ a x,lo (a :: x) []=true∧lo [] (a :: x)=false)→ord=(ord.filter fun j=>decide (0 < j)) ++ [0]):=by
  have h0:0 ∈ ord:=S.mem.mpr K.pos
  have nd:∀ {l:List Nat},l.Pairwise (t.prec lo)→l.Nodup:=fun h=>List.Pairwise.imp (fun {a b} (h:t.prec lo a b) (e:a=b)=>by subst e; exact prec_irr O h) h
  have P1:(ord.filter fun j=>decide (0 < j)).Pairwise (t.prec lo):=S.pw.filter _
  have mm:∀ j,j ∈ ord ↔ j=0 ∨ j ∈ ord.filter fun j=>decide (0 < j):=fun j=>by
    rw [List.mem_filter]
    simp only [decide_eq_true_eq]
    constructor
    · intro h
      rcases Nat.eq_zero_or_pos j with q | q
      · exact .inl q
      · exact .inr ⟨h,q⟩
    · rintro (rfl | h)
      · exact h0
      · exact h.1
  constructor
  · intro r
    have P2:(0 :: ord.filter fun j=>decide (0 < j)).Pairwise (t.prec lo):=List.pairwise_cons.mpr ⟨fun j hj=>by
      rw [List.mem_filter] at hj
      simp only [decide_eq_true_eq] at hj
      left
      rw [K.c0,K.hc j hj.2 (S.mem.mp hj.1)]
      exact (r _ _).1,P1⟩
    refine List.Perm.eq_of_pairwise (fun a b u u h h'=>absurd h' (prec_asym O h)) S.pw P2 ((List.perm_ext_iff_of_nodup (nd S.pw) (nd P2)).mpr fun j=>?_)
    rw [mm j,List.mem_cons]
  · intro r
    have P2:((ord.filter fun j=>decide (0 < j)) ++ [0]).Pairwise (t.prec lo):=List.pairwise_append.mpr ⟨P1,by simp,fun j hj z hz=>by
      rw [List.mem_filter] at hj
      simp only [decide_eq_true_eq] at hj
      have:=List.mem_singleton.mp hz
      subst this
      left
      rw [K.c0,K.hc j hj.2 (S.mem.mp hj.1)]
      exact (r _ _).1⟩
    refine List.Perm.eq_of_pairwise (fun a b u u h h'=>absurd h' (prec_asym O h)) S.pw P2 ((List.perm_ext_iff_of_nodup (nd S.pw) (nd P2)).mpr fun j=>?_)
    rw [mm j,List.mem_append,List.mem_singleton]
    exact Or.comm
end XB
namespace XB
variable {α:Type} [DecidableEq α] {so:α→α→Bool} {lo:List α→List α→Bool} {t:Tree α}
noncomputable def endsOf:Nat→List Bool→List Nat
  | _,[]=>[]
  | b,f :: r=>if f then (b + 1) :: endsOf (b + 1) r else endsOf (b + 1) r
noncomputable def psum:Nat→List Nat→List Nat
  | _,[]=>[]
  | b,l :: r=>(b + l) :: psum (b + l) r
theorem ends_block (F:Nat→Bool):∀ (l:List Nat) (a:Nat) (b:Nat) (rest:List Bool),(a :: l).Pairwise (· < ·)→(∀ j ∈ a :: l,F j=!((a :: l).any fun k=>decide (j < k)))→
    endsOf b ((a :: l).map F ++ rest)=(b + (a :: l).length) :: endsOf (b + (a :: l).length) rest
  | [],a,b,rest,_,h=>by
    have:=h a (.head _)
    simp at this
    simp [endsOf,this]
  | a' :: l,a,b,rest,hp,h=>by
    obtain ⟨p1,p2⟩:=List.pairwise_cons.mp hp
    have ha:F a=false:=by
      rw [h a (.head _)]
      have:decide (a < a')=true:=decide_eq_true (p1 a' (.head _))
      simp [this]
    have hr:∀ j ∈ a' :: l,F j=!((a' :: l).any fun k=>decide (j < k)):=fun j hj=>by
      rw [h j (.tail _ hj),List.any_cons]
      have:decide (j < a)=false:=decide_eq_false (by have:=p1 j hj; exact om29 this)
      rw [this,Bool.false_or]
    have ih:=ends_block F l a' (b + 1) rest p2 hr
    rw [List.map_cons,List.cons_append,endsOf,ha,if_neg Bool.false_ne_true,ih]
    have e:b + 1 + (a' :: l).length=b + (a :: a' :: l).length:=by simp only [List.length_cons]; exact om63
    rw [e]
noncomputable def Tree.last (t:Tree α) (v:Nat):Bool:=!((t.kids (t.p v)).any fun k=>decide (v < k))
theorem ends_eq:∀ (I:List Nat) (b:Nat),(∀ v ∈ I,t.kids v ≠ [])→endsOf b ((I.flatMap t.kids).map t.last)=psum b (I.map fun v=>(t.kids v).length)
  | [],b,_=>rfl
  | v :: I,b,h=>by
    have hv:=h v (.head _)
    have hs:(t.kids v).Pairwise (· < ·):=List.Pairwise.filter _ List.pairwise_lt_range
    have hl:∀ j ∈ t.kids v,t.last j=!((t.kids v).any fun k=>decide (j < k)):=fun j hj=>by
      unfold Tree.last
      rw [(mem_kids.mp hj).2.2]
    rw [List.flatMap_cons,List.map_append,List.map_cons,psum]
    cases hk:t.kids v with
    | nil=>exact absurd hk hv
    | cons a l=>
      rw [hk] at hs hl
      rw [ends_block t.last l a b _ hs hl,ends_eq I _ fun v hv=>h v (.tail _ hv)]
theorem stretch_at:∀ (l1:List Nat) (x:Nat) (l2:List Nat) (b:Nat),((b :: psum b (l1 ++ x :: l2)).zip (psum b (l1 ++ x :: l2)))[l1.length]?=some (b + l1.sum,b + l1.sum + x)
  | [],x,l2,b=>by simp [psum]
  | a :: l1,x,l2,b=>by
    have:=stretch_at l1 x l2 (b + a)
    simp only [List.cons_append,psum,List.length_cons,List.zip_cons_cons,List.getElem?_cons_succ,List.sum_cons]
    rw [this]
    simp [Nat.add_assoc]
noncomputable def cntN (t:Tree α) (l:List Nat) (a:α):Nat:=l.countP fun v=>t.made v && t.s v == a
noncomputable def aheadN (t:Tree α) (so:α→α→Bool) (ord:List Nat) (a:α):Nat:=ord.countP fun v=>t.made v && so (t.s v) a
theorem inner_ahead (O:Ord so lo) {ord:List Nat} (S:Sorted t lo ord) {g1 g2:List α} {a:α} (hs:∀ v,v < t.n→t.s v ∈ g1 ++ a :: g2) (hg:(g1 ++ a :: g2).Pairwise fun a b=>so a b=true):(inner t ord g1).length=aheadN t so ord a:=by
  obtain ⟨p1,p2,p3⟩:=List.pairwise_append.mp hg
  have nd:(inner t ord g1).Nodup:=(inner_pw S p1).imp fun {x y} h e=>by
    subst e
    rcases h with h | ⟨_,h⟩
    · rw [O.sirr] at h; cases h
    · exact prec_irr O h
  unfold aheadN
  rw [List.countP_eq_length_filter]
  refine List.Perm.length_eq ((List.perm_ext_iff_of_nodup nd (S.nodup.filter _)).mpr fun v=>?_)
  unfold inner
  rw [List.mem_flatMap,List.mem_filter]
  simp only [List.mem_filter,Bool.and_eq_true,beq_iff_eq]
  constructor
  · rintro ⟨b,hb,h1,h2,h3⟩
    exact ⟨h1,h2,by rw [h3]; exact p3 b hb a (.head _)⟩
  · rintro ⟨h1,h2,h3⟩
    refine ⟨t.s v,?_,h1,h2,rfl⟩
    rcases List.mem_append.mp (hs v (S.mem.mp h1)) with q | q
    · exact q
    · exfalso
      rcases List.mem_cons.mp q with q | q
      · rw [q,O.sirr] at h3; cases h3
      · have h4:=(List.pairwise_cons.mp p2).1 _ q
        have:=O.strans _ _ _ h3 h4
        rw [O.sirr] at this; cases this
theorem inner_cut {ord l1 l2:List Nat} {m:List Nat} (e:ord=l1 ++ m ++ l2) {g1 g2:List α} {a:α} :
    inner t ord (g1 ++ a :: g2)=(inner t ord g1 ++ l1.filter (fun v=>t.made v && t.s v == a)) ++ m.filter (fun v=>t.made v && t.s v == a) ++ (l2.filter (fun v=>t.made v && t.s v == a) ++ inner t ord g2):=by
  have h1:inner t ord (g1 ++ a :: g2)=inner t ord g1 ++ (ord.filter (fun v=>t.made v && t.s v == a) ++ inner t ord g2):=by
    unfold inner
    rw [List.flatMap_append,List.flatMap_cons]
  have h2:ord.filter (fun v=>t.made v && t.s v == a)=l1.filter (fun v=>t.made v && t.s v == a) ++ m.filter (fun v=>t.made v && t.s v == a) ++ l2.filter (fun v=>t.made v && t.s v == a):=by
    rw [e,List.filter_append,List.filter_append]
  rw [h1,h2]
  simp only [List.append_assoc]
structure Set (t:Tree α) (so:α→α→Bool) (lo:List α→List α→Bool) (sg:List α) (ord:List Nat) (b0:Nat):Prop where
  O:Ord so lo
  K:t.OK
  S:Sorted t lo ord
  hs:∀ v,v < t.n→t.s v ∈ sg
  hg:sg.Pairwise fun a b=>so a b=true
  hb:(b0=1∧∀ a x,lo [] (a :: x)=true∧lo (a :: x) []=false) ∨ (b0=0∧∀ a x,lo (a :: x) []=true∧lo [] (a :: x)=false)
noncomputable def stch (t:Tree α) (ord:List Nat) (sg:List α) (b0:Nat):List (Nat × Nat):=(b0 :: psum b0 ((inner t ord sg).map fun v=>(t.kids v).length)).zip (psum b0 ((inner t ord sg).map fun v=>(t.kids v).length))
section
variable {sg:List α} {ord:List Nat} {b0:Nat} (H:Set t so lo sg ord b0)
theorem Set.shape (H:Set t so lo sg ord b0):∃ z1 z2:List Nat,ord=z1 ++ (inner t ord sg).flatMap t.kids ++ z2∧z1.length=b0∧(∀ v ∈ z1 ++ z2,v=0):=by
  have r:=rest_eq H.O H.K H.S H.hs H.hg
  obtain ⟨r1,r2⟩:=root_at H.O H.K H.S
  rcases H.hb with ⟨h,q⟩ | ⟨h,q⟩
  · refine ⟨[0],[],?_,h.symm,by simp⟩
    rw [← r,List.append_nil]
    exact r1 q
  · refine ⟨[],[0],?_,h.symm,by simp⟩
    rw [← r,List.nil_append]
    exact r2 q
theorem Set.stretch (H:Set t so lo sg ord b0) {o1 o2:List Nat} {v:Nat} (e:ord=o1 ++ v :: o2) (hv:t.made v=true) :
    ∃ pre post,ord=pre ++ t.kids v ++ post∧(stch t ord sg b0)[aheadN t so ord (t.s v) + cntN t o1 (t.s v)]?=some (pre.length,pre.length + (t.kids v).length):=by
  have hvn:v < t.n:=H.S.mem.mp (by rw [e]; simp)
  obtain ⟨g1,g2,eg⟩:=List.append_of_mem (H.hs v hvn)
  have hs':=H.hs
  have hg':=H.hg
  rw [eg] at hs' hg'
  have e':ord=o1 ++ [v] ++ o2:=by rw [e]; simp
  have hi:inner t ord sg=_:=(congrArg (inner t ord) eg).trans (inner_cut e' (g1:=g1) (g2:=g2) (a:=t.s v))
  have hm:[v].filter (fun u=>t.made u && t.s u == t.s v)=[v]:=by simp [hv]
  rw [hm] at hi
  obtain ⟨z1,z2,ez,hz,_⟩:=H.shape
  refine ⟨z1 ++ (inner t ord g1 ++ o1.filter (fun u=>t.made u && t.s u == t.s v)).flatMap t.kids,(o2.filter (fun u=>t.made u && t.s u == t.s v) ++ inner t ord g2).flatMap t.kids ++ z2,?_,?_⟩
  · refine ez.trans ?_
    rw [hi]
    simp only [List.flatMap_append,List.flatMap_cons,List.flatMap_nil,List.append_assoc,List.append_nil]
  · have hl:aheadN t so ord (t.s v) + cntN t o1 (t.s v)=((inner t ord g1 ++ o1.filter (fun u=>t.made u && t.s u == t.s v)).map fun v=>(t.kids v).length).length:=by
      rw [List.length_map,List.length_append,inner_ahead H.O H.S hs' hg']
      unfold cntN
      rw [List.countP_eq_length_filter]
    unfold stch
    rw [hi,List.append_assoc _ [v],List.map_append,List.singleton_append,List.map_cons,hl,stretch_at]
    rw [List.length_append,hz,List.length_flatMap]
end
end XB
namespace XB
variable {α:Type} [DecidableEq α] {so:α→α→Bool} {lo:List α→List α→Bool} {t:Tree α} {sg:List α} {ord:List Nat} {b0:Nat}
noncomputable def wait (t:Tree α) (i:Nat):List Nat:=(List.range t.n).filter fun j=>decide (i ≤ j) && (decide (j=0) || decide (t.p j < i))
theorem mem_wait {i j:Nat}:j ∈ wait t i ↔ j < t.n∧i ≤ j∧(j=0 ∨ t.p j < i):=by
  unfold wait
  rw [List.mem_filter,List.mem_range]
  simp only [Bool.and_eq_true,Bool.or_eq_true,decide_eq_true_eq]
theorem wait_lt (i:Nat):(wait t i).Pairwise (· < ·):=List.Pairwise.filter _ List.pairwise_lt_range
theorem lt_eq {l l':List Nat} (h:l.Pairwise (· < ·)) (h':l'.Pairwise (· < ·)) (m:∀ j,j ∈ l ↔ j ∈ l'):l=l':=by
  have nd:∀ {l:List Nat},l.Pairwise (· < ·)→l.Nodup:=fun h=>List.Pairwise.imp (fun {a b} (h:a < b)=>Nat.ne_of_lt h) h
  exact List.Perm.eq_of_pairwise (fun a b u u x y=>absurd x (Nat.lt_asymm y)) h h' ((List.perm_ext_iff_of_nodup (nd h) (nd h')).mpr m)
theorem wait_pop (K:t.OK) {i:Nat} (hi:i < t.n):∃ r,wait t i=i :: r∧wait t (i + 1)=t.kids i ++ r:=by
  let r:=(List.range t.n).filter fun j=>decide (i < j) && decide (t.p j < i)
  have mr:∀ j,j ∈ r ↔ j < t.n∧i < j∧t.p j < i:=fun j=>by
    show j ∈ List.filter _ _ ↔ _
    rw [List.mem_filter,List.mem_range]
    simp only [Bool.and_eq_true,decide_eq_true_eq]
  have pr:r.Pairwise (· < ·):=List.Pairwise.filter _ List.pairwise_lt_range
  refine ⟨r,lt_eq (wait_lt i) (List.pairwise_cons.mpr ⟨fun j hj=>((mr j).mp hj).2.1,pr⟩) fun j=>?_,lt_eq (wait_lt (i + 1)) (List.pairwise_append.mpr ⟨List.Pairwise.filter _ List.pairwise_lt_range,pr,fun a ha b hb=>?_⟩) fun j=>?_⟩
  · rw [mem_wait,List.mem_cons,mr]
    constructor
    · rintro ⟨h1,h2,h3⟩
      rcases Nat.lt_or_eq_of_le h2 with q | q
      · right
        exact ⟨h1,q,by rcases h3 with h3 | h3 <;> omega⟩
      · exact .inl q.symm
    · rintro (rfl | ⟨h1,h2,h3⟩)
      · refine ⟨hi,Nat.le_refl _,?_⟩
        rcases Nat.eq_zero_or_pos j with q | q
        · exact .inl q
        · exact .inr (K.hp j q hi)
      · exact ⟨h1,Nat.le_of_lt h2,.inr h3⟩
  · obtain ⟨a1,a2,a3⟩:=mem_kids.mp ha
    obtain ⟨b1,b2,b3⟩:=(mr b).mp hb
    rcases Nat.lt_or_ge a b with q | q
    · exact q
    · exfalso
      rcases Nat.lt_or_eq_of_le q with q | q
      · have:=K.lam a b a1 a2 (om16 b2 a3) q
        exact om64 b3 a3 this
      · subst q; exact om30 b3 a3
  · rw [mem_wait,List.mem_append,mem_kids,mr]
    constructor
    · rintro ⟨h1,h2,h3⟩
      have h4:t.p j < i + 1:=by rcases h3 with h3 | h3 <;> omega
      rcases Nat.lt_or_eq_of_le (Nat.le_of_lt_succ h4) with q | q
      · exact .inr ⟨h1,h2,q⟩
      · exact .inl ⟨om65 h2,h1,q⟩
    · rintro (⟨h1,h2,h3⟩ | ⟨h1,h2,h3⟩)
      · have:=K.hp j h1 h2
        exact ⟨h2,om66 this h3,.inr (om67 h3)⟩
      · exact ⟨h1,h2,.inr (om27 h3)⟩
noncomputable def seen (t:Tree α) (ord:List Nat) (j:Nat):Nat × Nat:=(ord.idxOf j,(t.c j).length)
theorem idx_part {pre m post:List Nat} (nd:(pre ++ m ++ post).Nodup):m.map (pre ++ m ++ post).idxOf=(List.range m.length).map (pre.length + ·):=by
  refine List.ext_getElem (by simp) fun i h1 h2=>?_
  have hi:i < m.length:=by simpa using h1
  rw [List.getElem_map,List.getElem_map,List.getElem_range]
  have hl:pre.length + i < (pre ++ m ++ post).length:=by simp only [List.length_append]; exact om68 hi
  have e:(pre ++ m ++ post)[pre.length + i]=m[i]:=by
    rw [List.getElem_append_left (by simp only [List.length_append]; exact om69 hi),List.getElem_append_right (Nat.le_add_right _ _)]
    congr 1
    exact om70
  rw [← e]
  exact nd.idxOf_getElem _ hl
theorem Set.kids_seen (H:Set t so lo sg ord b0) {pre post:List Nat} {v:Nat} (e:ord=pre ++ t.kids v ++ post):(List.range (t.kids v).length).map (fun x=>(pre.length + x,(t.c v).length + 1))=(t.kids v).map (seen t ord):=by
  have nd:=H.S.nodup
  rw [e] at nd
  have h1:=idx_part nd
  have h2:(t.kids v).map (seen t ord)=((t.kids v).map (pre ++ t.kids v ++ post).idxOf).map fun x=>(x,(t.c v).length + 1):=by
    rw [List.map_map]
    refine List.map_congr_left fun j hj=>?_
    obtain ⟨j1,j2,j3⟩:=mem_kids.mp hj
    simp only [seen,Function.comp_apply,← e]
    rw [H.K.hc j j1 j2,j3,List.length_cons]
  rw [h2,h1,List.map_map]
  rfl
noncomputable def todo (t:Tree α) (ord:List Nat) (i:Nat):List (Nat × Nat):=(wait t i).reverse.map (seen t ord)
theorem Set.todo_zero (H:Set t so lo sg ord b0):todo t ord 0=[(ord.idxOf 0,0)]:=by
  have:wait t 0=[0]:=by
    refine lt_eq (wait_lt 0) (by simp) fun j=>?_
    rw [mem_wait,List.mem_singleton]
    constructor
    · rintro ⟨_,_,h | h⟩
      · exact h
      · exact om71 h
    · rintro rfl
      exact ⟨H.K.pos,Nat.le_refl _,.inl rfl⟩
  unfold todo
  rw [this]
  simp [seen,H.K.c0]
theorem Set.todo_step (H:Set t so lo sg ord b0) {i:Nat} (hi:i < t.n):∃ r,todo t ord i=r ++ [(ord.idxOf i,(t.c i).length)]∧todo t ord (i + 1)=r ++ ((t.kids i).map (seen t ord)).reverse:=by
  obtain ⟨r,h1,h2⟩:=wait_pop H.K hi
  refine ⟨r.reverse.map (seen t ord),?_,?_⟩
  · unfold todo
    rw [h1,List.reverse_cons,List.map_append]
    rfl
  · unfold todo
    rw [h2,List.reverse_append,List.map_append,List.map_reverse]
    congr 1
    rw [List.map_reverse]
theorem Set.at_place (H:Set t so lo sg ord b0) {i:Nat} (hi:i < t.n):∃ o1 o2,ord=o1 ++ i :: o2∧o1.length=ord.idxOf i:=by
  have hm:=H.S.mem.mpr hi
  have hl:=List.idxOf_lt_length_of_mem hm
  refine ⟨ord.take (ord.idxOf i),ord.drop (ord.idxOf i + 1),?_,by rw [List.length_take]; exact om72 hl⟩
  have h1:=(List.take_append_drop (ord.idxOf i) ord).symm
  rw [List.drop_eq_getElem_cons hl,List.getElem_idxOf] at h1
  exact h1
noncomputable def foundP (t:Tree α) (so:α→α→Bool) (ord:List Nat) (ss:List (Nat × Nat)):List α→Nat→Nat→Option (Nat × Nat)
  | [],b,e=>some (b,e)
  | a :: r,b,e=>
    if aheadN t so ord a + cntN t (ord.take b) a=aheadN t so ord a + cntN t (ord.take e) a then some (0,0)
    else match ss[aheadN t so ord a + cntN t (ord.take b) a]?,ss[aheadN t so ord a + cntN t (ord.take e) a - 1]? with
      | some x,some y=>foundP t so ord ss r x.1 y.2
      | _,_=>none
theorem Tree.OK.up (K:t.OK) {u:Nat} (hu:u < t.n):∀ k,k ≤ (t.c u).length→∃ w,w < t.n∧t.c w=(t.c u).drop k
  | 0,_=>⟨u,hu,rfl⟩
  | k + 1,h=>by
    obtain ⟨w,h1,h2⟩:=K.up hu k (Nat.le_of_succ_le h)
    have hw:0 < w:=by
      rcases Nat.eq_zero_or_pos w with q | q
      · subst q
        rw [K.c0] at h2
        have:=congrArg List.length h2
        simp only [List.length_nil,List.length_drop] at this
        exact om73 this h
      · exact q
    have h3:=K.hp w hw h1
    refine ⟨t.p w,Nat.lt_trans h3 h1,?_⟩
    rw [K.hc w hw h1] at h2
    have:=congrArg List.tail h2
    rw [List.tail_cons,List.tail_drop] at this
    exact this
theorem Set.found_ok (H:Set t so lo sg ord b0):∀ (r q l1 m l2:List _),ord=l1 ++ m ++ l2→(∀ v ∈ m,q <+: t.c v)→(∀ v ∈ l1 ++ l2,¬ q <+: t.c v)→(∀ a ∈ r,a ∈ sg)→
    ∃ b e,foundP t so ord (stch t ord sg b0) r l1.length (l1 ++ m).length=some (b,e)∧e ≤ t.n∧∀ k v,ord[k]?=some v→(b ≤ k∧k < e ↔ r.reverse ++ q <+: t.c v)
  | [],q,l1,m,l2,ho,hm,hl,_=>by
    have hn:ord.length=t.n:=by rw [H.S.perm.length_eq,List.length_range]
    refine ⟨_,_,rfl,by rw [← hn,ho]; simp only [List.length_append]; exact om17,fun k v hk=>?_⟩
    rw [List.reverse_nil,List.nil_append]
    rw [ho] at hk
    constructor
    · rintro ⟨h1,h2⟩
      rw [List.getElem?_append_left h2,List.getElem?_append_right h1] at hk
      exact hm v (List.mem_of_getElem? hk)
    · intro hp
      rcases Nat.lt_or_ge k l1.length with q1 | q1
      · rw [List.append_assoc,List.getElem?_append_left q1] at hk
        exact absurd hp (hl v (List.mem_append_left _ (List.mem_of_getElem? hk)))
      · refine ⟨q1,?_⟩
        rcases Nat.lt_or_ge k (l1 ++ m).length with q2 | q2
        · exact q2
        · rw [List.getElem?_append_right q2] at hk
          exact absurd hp (hl v (List.mem_append_right _ (List.mem_of_getElem? hk)))
  | a :: r,q,l1,m,l2,ho,hm,hl,hr=>by
    have ha:=hr a (.head _)
    obtain ⟨g1,g2,eg⟩:=List.append_of_mem ha
    have hs':=H.hs
    have hg':=H.hg
    rw [eg] at hs' hg'
    have hi:inner t ord sg=_:=(congrArg (inner t ord) eg).trans (inner_cut ho (g1:=g1) (g2:=g2) (a:=a))
    have hah:=inner_ahead H.O H.S hs' hg'
    have t1:ord.take l1.length=l1:=by rw [ho,List.append_assoc]; exact List.take_left
    have t2:ord.take (l1 ++ m).length=l1 ++ m:=by rw [ho]; exact List.take_left
    have c2:cntN t (l1 ++ m) a=cntN t l1 a + cntN t m a:=by unfold cntN; exact List.countP_append
    have key:∀ u,u < t.n→(a :: q <+: t.c u ↔ 0 < u∧t.s (t.p u)=a∧q <+: t.c (t.p u)):=fun u hu=>by
      rcases Nat.eq_zero_or_pos u with z | z
      · subst z
        rw [H.K.c0,List.prefix_nil]
        simp
      · rw [H.K.hc u z hu,List.cons_prefix_cons]
        constructor
        · rintro ⟨h1,h2⟩; exact ⟨z,h1.symm,h2⟩
        · rintro ⟨_,h1,h2⟩; exact ⟨h1.symm,h2⟩
    have inM:∀ v,v < t.n→q <+: t.c v→v ∈ m:=fun v hv hq=>by
      have:v ∈ ord:=H.S.mem.mpr hv
      rw [ho] at this
      rcases List.mem_append.mp this with h | h
      · rcases List.mem_append.mp h with h | h
        · exact absurd hq (hl v (List.mem_append_left _ h))
        · exact h
      · exact absurd hq (hl v (List.mem_append_right _ h))
    unfold foundP
    rw [t1,t2,c2]
    by_cases hc:cntN t m a=0
    · rw [if_pos (om74 hc)]
      refine ⟨0,0,rfl,Nat.zero_le _,fun k v hk=>⟨fun h=>(om75 h).elim,fun hp=>?_⟩⟩
      exfalso
      have hv:v < t.n:=H.S.mem.mp (List.mem_of_getElem? hk)
      rw [List.reverse_cons,List.append_assoc] at hp
      obtain ⟨x,hx⟩:=hp
      have hlen:r.reverse.length ≤ (t.c v).length:=by rw [← hx]; simp only [List.length_append]; exact om76
      obtain ⟨w,w1,w2⟩:=H.K.up hv _ hlen
      have w3:a :: q <+: t.c w:=by
        rw [w2,← hx,List.append_assoc,List.drop_left]
        exact ⟨x,rfl⟩
      obtain ⟨z,s1,s2⟩:=(key w w1).mp w3
      have hpw:=H.K.hp w z w1
      have hm':=inM (t.p w) (Nat.lt_trans hpw w1) s2
      unfold cntN at hc
      rw [List.countP_eq_zero] at hc
      have:=hc _ hm'
      have hmd:t.made (t.p w)=true:=made_iff.mpr ⟨w,mem_kids.mpr ⟨z,w1,rfl⟩⟩
      simp [hmd,s1] at this
    · rw [if_neg (om77 hc)]
      generalize hfm:m.filter (fun v=>t.made v && t.s v == a)=fm at hi
      have hcm:cntN t m a=fm.length:=by unfold cntN; rw [List.countP_eq_length_filter,hfm]
      have hcl:cntN t l1 a=(l1.filter (fun v=>t.made v && t.s v == a)).length:=by unfold cntN; rw [List.countP_eq_length_filter]
      generalize hf1:l1.filter (fun v=>t.made v && t.s v == a)=f1 at hi hcl
      generalize hf2:l2.filter (fun v=>t.made v && t.s v == a)=f2 at hi
      obtain ⟨z1,z2,ez,hz,hz0⟩:=H.shape
      have hne:fm ≠ []:=fun q=>by rw [hcm,q] at hc; exact hc rfl
      have e1:(stch t ord sg b0)[aheadN t so ord a + cntN t l1 a]?=some (b0 + ((inner t ord g1 ++ f1).map fun v=>(t.kids v).length).sum,b0 + ((inner t ord g1 ++ f1).map fun v=>(t.kids v).length).sum + (t.kids (fm.head hne)).length):=by
        cases fm with
        | nil=>exact absurd rfl hne
        | cons y ys=>
          have:=stretch_at ((inner t ord g1 ++ f1).map fun v=>(t.kids v).length) (t.kids y).length ((ys ++ (f2 ++ inner t ord g2)).map fun v=>(t.kids v).length) b0
          rw [List.length_map,List.length_append,hah,← hcl] at this
          unfold stch
          rw [hi]
          have e:(inner t ord g1 ++ f1 ++ y :: ys ++ (f2 ++ inner t ord g2)).map (fun v=>(t.kids v).length)=((inner t ord g1 ++ f1).map fun v=>(t.kids v).length) ++ (t.kids y).length :: ((ys ++ (f2 ++ inner t ord g2)).map fun v=>(t.kids v).length):=by
            simp only [List.map_append,List.map_cons,List.append_assoc,List.cons_append]
          rw [e]
          exact this
      have e2:∃ z,(stch t ord sg b0)[aheadN t so ord a + (cntN t l1 a + cntN t m a) - 1]?=some (z,b0 + ((inner t ord g1 ++ f1).map fun v=>(t.kids v).length).sum + (fm.map fun v=>(t.kids v).length).sum):=by
        rcases List.eq_nil_or_concat fm with q | ⟨ys,y,q⟩
        · exact absurd q hne
        · rw [List.concat_eq_append] at q
          refine ⟨b0 + ((inner t ord g1 ++ f1 ++ ys).map fun v=>(t.kids v).length).sum,?_⟩
          have:=stretch_at ((inner t ord g1 ++ f1 ++ ys).map fun v=>(t.kids v).length) (t.kids y).length ((f2 ++ inner t ord g2).map fun v=>(t.kids v).length) b0
          have hidx:aheadN t so ord a + (cntN t l1 a + cntN t m a) - 1=((inner t ord g1 ++ f1 ++ ys).map fun v=>(t.kids v).length).length:=by
            rw [List.length_map,List.length_append,List.length_append,hah,← hcl,hcm,q,List.length_append,List.length_singleton]
            exact om78
          rw [hidx]
          unfold stch
          rw [hi]
          have e:(inner t ord g1 ++ f1 ++ fm ++ (f2 ++ inner t ord g2)).map (fun v=>(t.kids v).length)=((inner t ord g1 ++ f1 ++ ys).map fun v=>(t.kids v).length) ++ (t.kids y).length :: ((f2 ++ inner t ord g2).map fun v=>(t.kids v).length):=by
            rw [q]
            simp only [List.map_append,List.map_cons,List.map_nil,List.append_assoc,List.cons_append,List.nil_append]
          rw [e,this]
          rw [q]
          simp only [List.map_append,List.map_cons,List.map_nil,List.sum_append,List.sum_cons,List.sum_nil,Option.some.injEq,Prod.mk.injEq,true_and]
          omega
      obtain ⟨zz,e2⟩:=e2
      rw [e1,e2]
      have s1:b0 + ((inner t ord g1 ++ f1).map fun v=>(t.kids v).length).sum=(z1 ++ (inner t ord g1 ++ f1).flatMap t.kids).length:=by
        rw [List.length_append,hz,List.length_flatMap]
      have s2:b0 + ((inner t ord g1 ++ f1).map fun v=>(t.kids v).length).sum + (fm.map fun v=>(t.kids v).length).sum=(z1 ++ (inner t ord g1 ++ f1).flatMap t.kids ++ fm.flatMap t.kids).length:=by
        rw [List.length_append (bs:=fm.flatMap t.kids),← s1,List.length_flatMap]
      show ∃ b e,foundP t so ord (stch t ord sg b0) r (b0 + ((inner t ord g1 ++ f1).map fun v=>(t.kids v).length).sum) (b0 + ((inner t ord g1 ++ f1).map fun v=>(t.kids v).length).sum + (fm.map fun v=>(t.kids v).length).sum)=some (b,e)∧_
      rw [s2,s1]
      have ho':ord=(z1 ++ (inner t ord g1 ++ f1).flatMap t.kids) ++ fm.flatMap t.kids ++ ((f2 ++ inner t ord g2).flatMap t.kids ++ z2):=by
        refine ez.trans ?_
        rw [hi]
        simp only [List.flatMap_append,List.append_assoc]
      have mfm:∀ v,v ∈ fm ↔ v ∈ m∧t.made v=true∧t.s v=a:=fun v=>by
        rw [← hfm,List.mem_filter]
        simp only [Bool.and_eq_true,beq_iff_eq]
      have hm':∀ u ∈ fm.flatMap t.kids,a :: q <+: t.c u:=fun u hu=>by
        obtain ⟨v,hv,hku⟩:=List.mem_flatMap.mp hu
        obtain ⟨u1,u2,u3⟩:=mem_kids.mp hku
        obtain ⟨v1,v2,v3⟩:=(mfm v).mp hv
        exact (key u u2).mpr ⟨u1,by rw [u3]; exact v3,by rw [u3]; exact hm v v1⟩
      have hl':∀ u ∈ (z1 ++ (inner t ord g1 ++ f1).flatMap t.kids) ++ ((f2 ++ inner t ord g2).flatMap t.kids ++ z2),¬ a :: q <+: t.c u:=fun u hu hp=>by
        have hun:u < t.n:=by
          refine H.S.mem.mp ?_
          rw [ho']
          rcases List.mem_append.mp hu with h | h
          · exact List.mem_append_left _ (List.mem_append_left _ h)
          · exact List.mem_append_right _ h
        obtain ⟨w1,w2,w3⟩:=(key u hun).mp hp
        have hpu:=H.K.hp u w1 hun
        have hmem:t.p u ∈ fm:=(mfm _).mpr ⟨inM _ (Nat.lt_trans hpu hun) w3,made_iff.mpr ⟨u,mem_kids.mpr ⟨w1,hun,rfl⟩⟩,w2⟩
        have huk:u ∈ fm.flatMap t.kids:=List.mem_flatMap.mpr ⟨_,hmem,mem_kids.mpr ⟨w1,hun,rfl⟩⟩
        have nd:=H.S.nodup
        rw [ho'] at nd
        obtain ⟨n1,_,n3⟩:=List.nodup_append.mp nd
        obtain ⟨_,_,n4⟩:=List.nodup_append.mp n1
        rcases List.mem_append.mp hu with h | h
        · exact n4 u h u huk rfl
        · exact n3 u (List.mem_append_right _ huk) u h rfl
      obtain ⟨b,e,h1,h2,h3⟩:=H.found_ok r (a :: q) _ _ _ ho' hm' hl' fun x hx=>hr x (.tail _ hx)
      refine ⟨b,e,h1,h2,fun k v hk=>?_⟩
      rw [List.reverse_cons,List.append_assoc]
      exact h3 k v hk
end XB
namespace XB
section
variable (n:Nat) (ab:Nat→Nat)
noncomputable def ch (k:Nat):List Nat:=(List.range n).filter fun j=>decide (0 < j) && ab j == k
noncomputable def stepT:List Nat × List Nat→List Nat × List Nat
  | (k :: r,V)=>(ch n ab k ++ r,V ++ [k])
  | ([],V)=>([],V)
noncomputable def runT:Nat→List Nat × List Nat
  | 0=>([0],[])
  | i + 1=>stepT n ab (runT i)
end
section
variable {n:Nat} {ab:Nat→Nat}
theorem mem_ch {k j:Nat}:j ∈ ch n ab k ↔ 0 < j∧j < n∧ab j=k:=by
  unfold ch
  rw [List.mem_filter,List.mem_range]
  simp only [Bool.and_eq_true,decide_eq_true_eq,beq_iff_eq]
  constructor
  · rintro ⟨a,b,c⟩; exact ⟨b,a,c⟩
  · rintro ⟨a,b,c⟩; exact ⟨b,a,c⟩
theorem ch_pw (k:Nat):(ch n ab k).Pairwise (· < ·):=List.Pairwise.filter _ List.pairwise_lt_range
theorem lt_nodup {l:List Nat} (h:l.Pairwise (· < ·)):l.Nodup:=List.Pairwise.imp (fun {a b} (h:a < b)=>Nat.ne_of_lt h) h
noncomputable def above (ab:Nat→Nat) (V:List Nat) (a b:Nat):Prop:=V.idxOf (ab b) < V.idxOf (ab a) ∨ (V.idxOf (ab a)=V.idxOf (ab b)∧a < b)
structure TInv (n:Nat) (ab:Nat→Nat) (S V:List Nat):Prop where
  nd:(V ++ S).Nodup
  lt:∀ k ∈ V ++ S,k < n
  cl:∀ k,0 < k→k < n→ab k ∈ V→k ∈ V ++ S
  pa:∀ k ∈ V ++ S,k ≠ 0→ab k ∈ V
  z:(V=[]∧S=[0]) ∨ 0 ∈ V
  pw:S.Pairwise (above ab V)
theorem idx_app {V:List Nat} {k x:Nat} (h:x ∈ V):(V ++ [k]).idxOf x=V.idxOf x:=by
  rw [List.idxOf_append,if_pos h]
theorem idx_new {V:List Nat} {k:Nat} (h:k ∉ V):(V ++ [k]).idxOf k=V.length:=by
  rw [List.idxOf_append,if_neg h]
  simp
theorem TInv.step (hab:∀ k,0 < k→k < n→ab k < k) {k:Nat} {r V:List Nat} (I:TInv n ab (k :: r) V):TInv n ab (ch n ab k ++ r) (V ++ [k]):=by
  obtain ⟨n1,n2,n3⟩:=List.nodup_append.mp I.nd
  have kV:k ∉ V:=fun h=>n3 k h k (.head _) rfl
  have old:∀ j,j ∈ V ++ k :: r→j ∈ (V ++ [k]) ++ (ch n ab k ++ r):=fun j h=>by
    simp only [List.mem_append,List.mem_cons,List.not_mem_nil,or_false] at h ⊢
    rcases h with h | h | h
    · exact .inl (.inl h)
    · exact .inl (.inr h)
    · exact .inr (.inr h)
  have new:∀ j,j ∈ ch n ab k→j ∉ V ++ k :: r:=fun j hj h=>by
    obtain ⟨j1,j2,j3⟩:=mem_ch.mp hj
    have:=I.pa j h (om18 j1)
    rw [j3] at this
    exact kV this
  have par:∀ a ∈ r,ab a ∈ V:=fun a ha=>by
    have ha':a ∈ V ++ k :: r:=List.mem_append_right _ (.tail _ ha)
    rcases I.z with ⟨h1,h2⟩ | h
    · cases h2
      cases ha
    · exact I.pa a ha' fun e=>n3 0 h a (.tail _ ha) e.symm
  refine ⟨?_,fun j h=>?_,fun j h1 h2 h3=>?_,fun j h h0=>?_,?_,?_⟩
  · have p:((V ++ [k]) ++ (ch n ab k ++ r)).Perm (ch n ab k ++ (V ++ k :: r)):=by
      have e:(V ++ [k]) ++ (ch n ab k ++ r)=(V ++ [k]) ++ ch n ab k ++ r:=by simp
      have e2:ch n ab k ++ (V ++ k :: r)=ch n ab k ++ (V ++ [k]) ++ r:=by simp
      rw [e,e2]
      exact List.Perm.append_right r List.perm_append_comm
    rw [p.nodup_iff,List.nodup_append]
    exact ⟨lt_nodup (ch_pw k),I.nd,fun a ha b hb e=>new a ha (e ▸ hb)⟩
  · simp only [List.mem_append,List.mem_cons,List.not_mem_nil,or_false] at h
    rcases h with (h | h) | h | h
    · exact I.lt j (List.mem_append_left _ h)
    · subst h; exact I.lt _ (List.mem_append_right _ (.head _))
    · exact (mem_ch.mp h).2.1
    · exact I.lt j (List.mem_append_right _ (.tail _ h))
  · rcases List.mem_append.mp h3 with h | h
    · exact old j (I.cl j h1 h2 h)
    · exact List.mem_append_right _ (List.mem_append_left _ (mem_ch.mpr ⟨h1,h2,List.mem_singleton.mp h⟩))
  · simp only [List.mem_append,List.mem_cons,List.not_mem_nil,or_false] at h
    rcases h with (h | h) | h | h
    · exact List.mem_append_left _ (I.pa j (List.mem_append_left _ h) h0)
    · subst h; exact List.mem_append_left _ (I.pa _ (List.mem_append_right _ (.head _)) h0)
    · rw [(mem_ch.mp h).2.2]; exact List.mem_append_right _ (.head _)
    · exact List.mem_append_left _ (par j h)
  · right
    rcases I.z with ⟨h1,h2⟩ | h
    · cases h2
      exact List.mem_append_right _ (.head _)
    · exact List.mem_append_left _ h
  · rw [List.pairwise_append]
    refine ⟨(List.Pairwise.imp_of_mem (fun {a b} ha hb hab=>?_) (ch_pw k)),?_,fun a ha b hb=>?_⟩
    · right
      rw [(mem_ch.mp ha).2.2,(mem_ch.mp hb).2.2]
      exact ⟨rfl,hab⟩
    · refine List.Pairwise.imp_of_mem (fun {a b} ha hb hab=>?_) (List.pairwise_cons.mp I.pw).2
      unfold above at hab ⊢
      rw [idx_app (par a ha),idx_app (par b hb)]
      exact hab
    · left
      rw [(mem_ch.mp ha).2.2,idx_new kV,idx_app (par b hb)]
      exact List.idxOf_lt_length_of_mem (par b hb)
theorem nd_len {L:List Nat} (nd:L.Nodup) (lt:∀ k ∈ L,k < n):L.length ≤ n:=by
  have p:L.Perm ((List.range n).filter fun k=>decide (k ∈ L)):=(List.perm_ext_iff_of_nodup nd (List.nodup_range.filter _)).mpr fun k=>by
    rw [List.mem_filter,List.mem_range,decide_eq_true_eq]
    exact ⟨fun h=>⟨lt k h,h⟩,fun h=>h.2⟩
  rw [p.length_eq]
  have:=List.length_filter_le (fun k=>decide (k ∈ L)) (List.range n)
  rwa [List.length_range] at this
theorem TInv.more (hab:∀ k,0 < k→k < n→ab k < k) {S V:List Nat} (I:TInv n ab S V) (h:V.length < n):∃ k r,S=k :: r:=by
  cases S with
  | cons k r=>exact ⟨k,r,rfl⟩
  | nil=>
    exfalso
    have all:∀ k,k < n→k ∈ V:=by
      intro k
      induction k using Nat.strongRecOn with
      | _ k ih=>
        intro hk
        rcases Nat.eq_zero_or_pos k with q | q
        · subst q
          rcases I.z with ⟨_,h2⟩ | h
          · cases h2
          · exact h
        · have:=I.cl k q hk (ih (ab k) (hab k q hk) (by have:=hab k q hk; exact Nat.lt_trans this hk))
          rwa [List.append_nil] at this
    have p:V.Perm (List.range n):=(List.perm_ext_iff_of_nodup (by have:=I.nd; rwa [List.append_nil] at this) List.nodup_range).mpr fun k=>by
      rw [List.mem_range]
      exact ⟨fun hk=>I.lt k (List.mem_append_left _ hk),all k⟩
    have:=p.length_eq
    rw [List.length_range] at this
    exact om30 h this
theorem run_inv (h0:0 < n) (hab:∀ k,0 < k→k < n→ab k < k):∀ i,i ≤ n→TInv n ab (runT n ab i).1 (runT n ab i).2∧(runT n ab i).2.length=i
  | 0,_=>by
    refine ⟨⟨by simp [runT],fun k h=>?_,fun k h1 h2 h3=>?_,fun k h h'=>?_,.inl ⟨rfl,rfl⟩,by simp [runT]⟩,rfl⟩
    · have:k=0:=by simpa [runT] using h
      exact om79 h0 this
    · simp [runT] at h3
    · exact absurd (by simpa [runT] using h) h'
  | i + 1,h=>by
    obtain ⟨I,hl⟩:=run_inv h0 hab i (Nat.le_of_succ_le h)
    obtain ⟨k,r,e⟩:=I.more hab (om80 h hl)
    have e2:runT n ab i=(k :: r,(runT n ab i).2):=by rw [← e]
    rw [e] at I
    have hs:runT n ab (i + 1)=(ch n ab k ++ r,(runT n ab i).2 ++ [k]):=by
      rw [runT,e2]
      rfl
    rw [hs]
    exact ⟨I.step hab,by rw [List.length_append,hl]; rfl⟩
theorem run_step (h0:0 < n) (hab:∀ k,0 < k→k < n→ab k < k) {i:Nat} (hi:i < n):∃ k r,(runT n ab i).1=k :: r∧runT n ab (i + 1)=(ch n ab k ++ r,(runT n ab i).2 ++ [k]):=by
  obtain ⟨I,hl⟩:=run_inv h0 hab i (Nat.le_of_lt hi)
  obtain ⟨k,r,e⟩:=I.more hab (om16 hi hl)
  have e2:runT n ab i=(k :: r,(runT n ab i).2):=by rw [← e]
  exact ⟨k,r,e,by rw [runT,e2]; rfl⟩
noncomputable def visit (n:Nat) (ab:Nat→Nat):List Nat:=(runT n ab n).2
theorem run_take (h0:0 < n) (hab:∀ k,0 < k→k < n→ab k < k):∀ d i,i + d=n→(runT n ab i).2=(visit n ab).take i
  | 0,i,h=>by
    have:i=n:=by omega
    subst this
    have:=(run_inv h0 hab i (Nat.le_refl _)).2
    unfold visit
    rw [List.take_of_length_le (om19 this)]
  | d + 1,i,h=>by
    obtain ⟨k,r,h1,h2⟩:=run_step h0 hab (i:=i) (om31 h)
    have ih:=run_take h0 hab d (i + 1) (om32 h)
    rw [h2] at ih
    have hl:=(run_inv h0 hab i (om81 h)).2
    have:=congrArg (List.take i) ih
    rw [List.take_take,Nat.min_eq_left (om82)] at this
    rw [← this]
    generalize (runT n ab i).2=V at hl
    subst hl
    exact List.take_left.symm
theorem visit_len (h0:0 < n) (hab:∀ k,0 < k→k < n→ab k < k):(visit n ab).length=n:=(run_inv h0 hab n (Nat.le_refl _)).2
theorem visit_nd (h0:0 < n) (hab:∀ k,0 < k→k < n→ab k < k):(visit n ab).Nodup:=(List.nodup_append.mp (run_inv h0 hab n (Nat.le_refl _)).1.nd).1
theorem visit_mem (h0:0 < n) (hab:∀ k,0 < k→k < n→ab k < k) {k:Nat}:k ∈ visit n ab ↔ k < n:=by
  have I:=(run_inv h0 hab n (Nat.le_refl _)).1
  refine ⟨fun h=>I.lt k (List.mem_append_left _ h),fun h=>?_⟩
  have hl:=visit_len h0 hab
  have hS:(runT n ab n).1=[]:=by
    have:=nd_len I.nd I.lt
    rw [List.length_append] at this
    unfold visit at hl
    exact List.eq_nil_of_length_eq_zero (om83 this hl)
  have all:∀ k,k < n→k ∈ visit n ab:=by
    intro k
    induction k using Nat.strongRecOn with
    | _ k ih=>
      intro hk
      rcases Nat.eq_zero_or_pos k with q | q
      · subst q
        rcases I.z with ⟨_,h2⟩ | h
        · rw [hS] at h2; cases h2
        · exact h
      · have:=I.cl k q hk (ih (ab k) (hab k q hk) (by have:=hab k q hk; exact Nat.lt_trans this hk))
        rwa [hS,List.append_nil] at this
  exact all k h
theorem visit_at (h0:0 < n) (hab:∀ k,0 < k→k < n→ab k < k) {i:Nat} (hi:i < n):∃ r,(runT n ab i).1=(visit n ab).getD i 0 :: r∧TInv n ab ((visit n ab).getD i 0 :: r) ((visit n ab).take i):=by
  obtain ⟨k,r,h1,h2⟩:=run_step h0 hab hi
  have h3:=run_take h0 hab (n - i) i (om84 hi)
  have h4:=run_take h0 hab (n - (i + 1)) (i + 1) (om85 hi)
  rw [h2] at h4
  simp only at h4
  have hl:=(run_inv h0 hab i (Nat.le_of_lt hi)).2
  have hk:(visit n ab).getD i 0=k:=by
    have e:((runT n ab i).2 ++ [k])[i]?=((visit n ab).take (i + 1))[i]?:=by rw [h4]
    rw [List.getElem?_append_right (om19 hl),hl,Nat.sub_self,List.getElem?_take,if_pos (om28)] at e
    rw [List.getD_eq_getElem?_getD,← e]
    rfl
  have I:=(run_inv h0 hab i (Nat.le_of_lt hi)).1
  rw [h3,h1] at I
  rw [hk]
  exact ⟨r,h1,I⟩
end
section
variable {α:Type} [DecidableEq α] {n:Nat} {ab:Nat→Nat}
noncomputable def cfl (sg:Nat→α) (ab:Nat→Nat):Nat→Nat→List α
  | 0,_=>[]
  | f + 1,k=>if k=0 then [] else sg (ab k) :: cfl sg ab f (ab k)
noncomputable def cf (sg:Nat→α) (ab:Nat→Nat) (k:Nat):List α:=cfl sg ab k k
theorem cfl_fuel {sg:Nat→α} (hab:∀ k,0 < k→k < n→ab k < k):∀ (f g k:Nat),k < n→k ≤ f→k ≤ g→cfl sg ab f k=cfl sg ab g k
  | 0,0,_,_,_,_=>rfl
  | 0,g + 1,k,_,h,_=>by
    have:k=0:=om33 h
    subst this
    rfl
  | f + 1,0,k,_,_,h=>by
    have:k=0:=om33 h
    subst this
    rfl
  | f + 1,g + 1,k,hk,h1,h2=>by
    unfold cfl
    by_cases q:k=0
    · rw [if_pos q,if_pos q]
    · have:=hab k (om86 q) hk
      rw [if_neg q,if_neg q,cfl_fuel hab f g (ab k) (Nat.lt_trans this hk) (om34 this h1) (om34 this h2)]
theorem cf_zero {sg:Nat→α}:cf sg ab 0=[]:=rfl
theorem cf_pos {sg:Nat→α} (hab:∀ k,0 < k→k < n→ab k < k) {k:Nat} (h:0 < k) (hk:k < n):cf sg ab k=sg (ab k) :: cf sg ab (ab k):=by
  have:=hab k h hk
  unfold cf
  cases k with
  | zero=>omega
  | succ k=>
    rw [cfl,if_neg (om20),cfl_fuel hab k (ab (k + 1)) _ (Nat.lt_trans this hk) (om35 this) (Nat.le.refl)]
noncomputable def lf (n:Nat) (ab:Nat→Nat) (k:Nat):Bool:=decide (k=0) || !((ch n ab (ab k)).any fun j=>decide (k < j))
noncomputable def vt (n:Nat) (ab:Nat→Nat) (i:Nat):Nat:=(visit n ab).getD i 0
noncomputable def tree (n:Nat) (ab:Nat→Nat) (sg:Nat→α):Tree α:=⟨n,fun i=>sg (vt n ab i),fun i=>if i=0 then n else (visit n ab).idxOf (ab (vt n ab i)),fun i=>cf sg ab (vt n ab i)⟩
variable {sg:Nat→α} (h0:0 < n) (hab:∀ k,0 < k→k < n→ab k < k)
theorem vt_get (h0:0 < n) (hab:∀ k,0 < k→k < n→ab k < k) {i:Nat} (hi:i < n):(visit n ab)[i]?=some (vt n ab i):=by
  have:=visit_len h0 hab
  unfold vt
  rw [List.getD_eq_getElem?_getD,List.getElem?_eq_getElem (om12 hi this)]
  rfl
theorem vt_lt (h0:0 < n) (hab:∀ k,0 < k→k < n→ab k < k) {i:Nat} (hi:i < n):vt n ab i < n:=(visit_mem h0 hab).mp (List.mem_of_getElem? (vt_get h0 hab hi))
theorem vt_zero (h0:0 < n) (hab:∀ k,0 < k→k < n→ab k < k):vt n ab 0=0:=by
  obtain ⟨r,h1,_⟩:=visit_at h0 hab h0
  have:([0]:List Nat)=(visit n ab).getD 0 0 :: r:=h1
  exact (List.cons.inj this).1.symm
theorem vt_inj (h0:0 < n) (hab:∀ k,0 < k→k < n→ab k < k) {i j:Nat} (hi:i < n) (hj:j < n) (e:vt n ab i=vt n ab j):i=j:=by
  have nd:=visit_nd h0 hab
  have hl:=visit_len h0 hab
  have h1:=vt_get h0 hab hi
  have h2:=vt_get h0 hab hj
  rw [← e] at h2
  obtain ⟨a,h1⟩:=List.getElem?_eq_some_iff.mp h1
  obtain ⟨b,h2⟩:=List.getElem?_eq_some_iff.mp h2
  exact (List.getElem_inj nd).mp (h1.trans h2.symm)
theorem vt_pos (h0:0 < n) (hab:∀ k,0 < k→k < n→ab k < k) {i:Nat} (h:0 < i) (hi:i < n):0 < vt n ab i:=by
  rcases Nat.eq_zero_or_pos (vt n ab i) with q | q
  · have:=vt_inj h0 hab hi h0 (q.trans (vt_zero h0 hab).symm)
    exact om87 h this
  · exact q
theorem vt_idx (h0:0 < n) (hab:∀ k,0 < k→k < n→ab k < k) {k:Nat} (hk:k < n):(visit n ab).idxOf k < n∧vt n ab ((visit n ab).idxOf k)=k:=by
  have hm:=(visit_mem h0 hab).mpr hk
  have hl:=List.idxOf_lt_length_of_mem hm
  have hn:=visit_len h0 hab
  refine ⟨om21 hl hn,?_⟩
  unfold vt
  rw [List.getD_eq_getElem?_getD,List.getElem?_eq_getElem hl,List.getElem_idxOf]
  rfl
theorem idx_vt (h0:0 < n) (hab:∀ k,0 < k→k < n→ab k < k) {i:Nat} (hi:i < n):(visit n ab).idxOf (vt n ab i)=i:=by
  obtain ⟨h1,h2⟩:=vt_idx h0 hab (vt_lt h0 hab hi)
  exact vt_inj h0 hab h1 hi h2
theorem idx_take {l:List Nat} {i x:Nat} (h:x ∈ l.take i):(l.take i).idxOf x=l.idxOf x:=by
  have e:l.idxOf x=(l.take i ++ l.drop i).idxOf x:=by rw [List.take_append_drop]
  rw [e,List.idxOf_append,if_pos h]
theorem later (h0:0 < n) (hab:∀ k,0 < k→k < n→ab k < k) {x j:Nat} (hx:0 < x) (hxj:x < j) (hj:j < n) (hp:(visit n ab).idxOf (ab (vt n ab j)) < x) :
    (visit n ab).idxOf (ab (vt n ab j)) < (visit n ab).idxOf (ab (vt n ab x)) ∨ ((visit n ab).idxOf (ab (vt n ab x))=(visit n ab).idxOf (ab (vt n ab j))∧vt n ab x < vt n ab j):=by
  obtain ⟨r,h1,I⟩:=visit_at h0 hab (i:=x) (Nat.lt_trans hxj hj)
  have hl:=visit_len h0 hab
  have jp:=vt_pos h0 hab (i:=j) (om7 hxj) hj
  have jn:=vt_lt h0 hab hj
  have hpj:=hab _ jp jn
  have hm:ab (vt n ab j) ∈ (visit n ab).take x:=by
    have hm:ab (vt n ab j) ∈ visit n ab:=(visit_mem h0 hab).mpr (Nat.lt_trans hpj jn)
    have hlt:=List.idxOf_lt_length_of_mem hm
    have e:((visit n ab).take x)[(visit n ab).idxOf (ab (vt n ab j))]?=some (ab (vt n ab j)):=by
      rw [List.getElem?_take,if_pos hp,List.getElem?_eq_getElem hlt,List.getElem_idxOf]
    exact List.mem_of_getElem? e
  have hmem:=I.cl _ jp jn hm
  have hr:vt n ab j ∈ r:=by
    rcases List.mem_append.mp hmem with q | q
    · exfalso
      obtain ⟨m,hm2⟩:=List.mem_iff_getElem?.mp q
      have hm1:m < x:=by
        have:=(List.getElem?_eq_some_iff.mp hm2).1
        rw [List.length_take] at this
        exact om36 this
      rw [List.getElem?_take,if_pos hm1,vt_get h0 hab (om37 hm1 hxj hj)] at hm2
      have:=vt_inj h0 hab (om37 hm1 hxj hj) hj (Option.some.inj hm2)
      exact om88 hm1 this hxj
    · rcases List.mem_cons.mp q with q | q
      · have:=vt_inj h0 hab hj (Nat.lt_trans hxj hj) q
        exact (om89 hxj this).elim
      · exact q
  have hpw:=(List.pairwise_cons.mp I.pw).1 _ hr
  have xm:ab (vt n ab x) ∈ (visit n ab).take x:=I.pa (vt n ab x) (List.mem_append_right _ (.head _)) (by have:=vt_pos h0 hab hx (Nat.lt_trans hxj hj); exact om18 this)
  unfold above at hpw
  have e1:=idx_take hm
  have e2:=idx_take xm
  have e3:(visit n ab).getD x 0=vt n ab x:=rfl
  rw [e3,e1,e2] at hpw
  exact hpw
theorem tree_ok (h0:0 < n) (hab:∀ k,0 < k→k < n→ab k < k):(tree n ab sg).OK where
  pos:=h0
  hp:=fun i h hi=>by
    obtain ⟨r,h1,I⟩:=visit_at h0 hab (i:=i) hi
    have xm:ab (vt n ab i) ∈ (visit n ab).take i:=I.pa (vt n ab i) (List.mem_append_right _ (.head _)) (by have:=vt_pos h0 hab h hi; exact om18 this)
    show (if i=0 then n else _) < i
    rw [if_neg (Nat.ne_of_gt h),← idx_take xm]
    have:=List.idxOf_lt_length_of_mem xm
    rw [List.length_take] at this
    exact om36 this
  c0:=by show cf sg ab (vt n ab 0)=[]; rw [vt_zero h0 hab]; rfl
  hc:=fun i h hi=>by
    show cf sg ab (vt n ab i)=sg (vt n ab (if i=0 then n else _)) :: cf sg ab (vt n ab (if i=0 then n else _))
    have hk:=vt_pos h0 hab h hi
    have hk2:=vt_lt h0 hab hi
    have:=hab _ hk hk2
    rw [if_neg (Nat.ne_of_gt h),(vt_idx h0 hab (k:=ab (vt n ab i)) (Nat.lt_trans this hk2)).2]
    exact cf_pos hab hk hk2
  lam:=fun j x hj hjn h1 h2=>by
    have h1':(if j=0 then n else (visit n ab).idxOf (ab (vt n ab j))) < x:=h1
    show (if j=0 then n else _) ≤ (if x=0 then n else _)
    rw [if_neg (by omega)] at h1' ⊢
    rw [if_neg (om90 h1)]
    rcases later h0 hab (om7 h1) h2 hjn h1' with q | q <;> omega
theorem tree_kids (h0:0 < n) (hab:∀ k,0 < k→k < n→ab k < k) {i j:Nat} (hi:i < n):j ∈ (tree n ab sg).kids i ↔ 0 < j∧j < n∧ab (vt n ab j)=vt n ab i:=by
  rw [mem_kids]
  constructor
  · rintro ⟨h1,h2,h3⟩
    refine ⟨h1,h2,?_⟩
    have h3':(if j=0 then n else (visit n ab).idxOf (ab (vt n ab j)))=i:=h3
    rw [if_neg (Nat.ne_of_gt h1)] at h3'
    have hk:=hab _ (vt_pos h0 hab h1 h2) (vt_lt h0 hab h2)
    have:=(vt_idx h0 hab (k:=ab (vt n ab j)) (by have:=vt_lt h0 hab (i:=j) h2; exact Nat.lt_trans hk this)).2
    rw [h3'] at this
    exact this.symm
  · rintro ⟨h1,h2,h3⟩
    refine ⟨h1,h2,?_⟩
    show (if j=0 then n else _)=i
    rw [if_neg (Nat.ne_of_gt h1),h3,idx_vt h0 hab hi]
theorem tree_made (h0:0 < n) (hab:∀ k,0 < k→k < n→ab k < k) {i:Nat} (hi:i < n):(tree n ab sg).made i=!(ch n ab (vt n ab i)).isEmpty:=by
  rw [Bool.eq_iff_iff,made_iff]
  constructor
  · rintro ⟨j,hj⟩
    obtain ⟨h1,h2,h3⟩:=(tree_kids h0 hab hi).mp hj
    have:vt n ab j ∈ ch n ab (vt n ab i):=mem_ch.mpr ⟨vt_pos h0 hab h1 h2,vt_lt h0 hab h2,h3⟩
    cases q:ch n ab (vt n ab i) with
    | nil=>rw [q] at this; cases this
    | cons a l=>rfl
  · intro h
    cases q:ch n ab (vt n ab i) with
    | nil=>rw [q] at h; cases h
    | cons a l=>
      obtain ⟨a1,a2,a3⟩:=mem_ch.mp (by rw [q]; exact .head _:a ∈ ch n ab (vt n ab i))
      obtain ⟨x1,x2⟩:=vt_idx h0 hab a2
      refine ⟨(visit n ab).idxOf a,(tree_kids h0 hab hi).mpr ⟨?_,x1,by rw [x2]; exact a3⟩⟩
      rcases Nat.eq_zero_or_pos ((visit n ab).idxOf a) with z | z
      · rw [z,vt_zero h0 hab] at x2; exact om38 a1 x2
      · exact z
theorem tree_last (h0:0 < n) (hab:∀ k,0 < k→k < n→ab k < k) {i:Nat} (hi:i < n):(tree n ab sg).last i=lf n ab (vt n ab i):=by
  unfold Tree.last lf
  rcases Nat.eq_zero_or_pos i with q | q
  · subst q
    rw [vt_zero h0 hab]
    have:(tree n ab sg).kids ((tree n ab sg).p 0)=[]:=by
      rw [List.eq_nil_iff_forall_not_mem]
      intro j hj
      obtain ⟨h1,h2,h3⟩:=mem_kids.mp hj
      have h4:(tree n ab sg).p j < j:=(tree_ok (sg:=sg) h0 hab).hp j h1 h2
      have h5:(tree n ab sg).p 0=n:=rfl
      have h6:j < n:=h2
      exact om91 h4 h3 h6 h5
    rw [this]
    rfl
  · have hk:=vt_pos h0 hab q hi
    have hk2:=vt_lt h0 hab hi
    have hk3:=hab _ hk hk2
    obtain ⟨p1,p2⟩:=vt_idx h0 hab (k:=ab (vt n ab i)) (Nat.lt_trans hk3 hk2)
    have hp:(tree n ab sg).p i=(visit n ab).idxOf (ab (vt n ab i)):=by
      show (if i=0 then n else _)=_
      rw [if_neg (om92 q)]
    rw [hp,decide_eq_false ((Nat.ne_of_gt hk):¬ vt n ab i=0),Bool.false_or]
    congr 1
    rw [Bool.eq_iff_iff,List.any_eq_true,List.any_eq_true]
    constructor
    · rintro ⟨j,hj,hij⟩
      obtain ⟨h1,h2,h3⟩:=(tree_kids h0 hab p1).mp hj
      rw [p2] at h3
      have hij':=of_decide_eq_true hij
      have hpi:=(tree_ok (sg:=sg) h0 hab).hp i q hi
      rw [hp] at hpi
      refine ⟨vt n ab j,mem_ch.mpr ⟨vt_pos h0 hab h1 h2,vt_lt h0 hab h2,h3⟩,decide_eq_true ?_⟩
      rcases later h0 hab q hij' h2 (by rw [h3]; exact hpi) with z | z
      · rw [h3] at z; exact om93 z
      · exact z.2
    · rintro ⟨k,hk',hlt⟩
      obtain ⟨a1,a2,a3⟩:=mem_ch.mp hk'
      have hlt':=of_decide_eq_true hlt
      obtain ⟨x1,x2⟩:=vt_idx h0 hab a2
      have jp:0 < (visit n ab).idxOf k:=by
        rcases Nat.eq_zero_or_pos ((visit n ab).idxOf k) with z | z
        · rw [z,vt_zero h0 hab] at x2; exact om38 a1 x2
        · exact z
      refine ⟨(visit n ab).idxOf k,(tree_kids h0 hab p1).mpr ⟨jp,x1,by rw [x2,a3,p2]⟩,decide_eq_true ?_⟩
      rcases Nat.lt_trichotomy i ((visit n ab).idxOf k) with z | z | z
      · exact z
      · rw [← z] at x2; exact om94 hlt' x2
      · exfalso
        have hpk:=(tree_ok (sg:=sg) h0 hab).hp _ jp x1
        have hpk':(if (visit n ab).idxOf k=0 then n else (visit n ab).idxOf (ab (vt n ab ((visit n ab).idxOf k)))) < (visit n ab).idxOf k:=hpk
        rw [if_neg (Nat.ne_of_gt jp),x2,a3] at hpk'
        rcases later h0 hab jp z hi hpk' with y | y
        · rw [x2,a3] at y; exact om39 y
        · rw [x2] at y; exact om95 hlt' y
end
end XB
namespace XB
variable {α:Type} [DecidableEq α] {so:α→α→Bool} {lo:List α→List α→Bool} {t:Tree α}
noncomputable def precB (t:Tree α) (lo:List α→List α→Bool) (i j:Nat):Bool:=lo (t.c i) (t.c j) || (decide (t.c i=t.c j) && decide (i < j))
theorem precB_iff {i j:Nat}:precB t lo i j=true ↔ t.prec lo i j:=by
  unfold precB Tree.prec
  simp only [Bool.or_eq_true,Bool.and_eq_true,decide_eq_true_eq]
noncomputable def insP (t:Tree α) (lo:List α→List α→Bool) (l:List Nat) (p:Nat):List Nat:=l.take (l.countP fun r=>precB t lo r p) ++ [p] ++ l.drop (l.countP fun r=>precB t lo r p)
noncomputable def sortN (t:Tree α) (lo:List α→List α→Bool) (k:Nat):List Nat:=(List.range k).foldl (insP t lo) []
theorem ins_perm (l:List Nat) (p:Nat):(insP t lo l p).Perm (p :: l):=by
  unfold insP
  generalize (l.countP fun r=>precB t lo r p)=c
  have e:p :: l=[p] ++ (l.take c ++ l.drop c):=by rw [List.take_append_drop]; rfl
  rw [e,← List.append_assoc]
  exact List.Perm.append_right _ List.perm_append_comm
theorem ins_pw (O:Ord so lo):∀ {l:List Nat} {p:Nat},l.Pairwise (t.prec lo)→p ∉ l→(insP t lo l p).Pairwise (t.prec lo)
  | [],p,_,_=>by simp [insP]
  | a :: r,p,h,hp=>by
    obtain ⟨h1,h2⟩:=List.pairwise_cons.mp h
    have hpa:p ≠ a:=fun e=>hp (by rw [e]; exact .head _)
    have hpr:p ∉ r:=fun e=>hp (.tail _ e)
    by_cases q:precB t lo a p=true
    · have e:insP t lo (a :: r) p=a :: insP t lo r p:=by
        unfold insP
        rw [List.countP_cons,if_pos q,List.take_succ_cons,List.drop_succ_cons]
        rfl
      rw [e,List.pairwise_cons]
      refine ⟨fun b hb=>?_,ins_pw O h2 hpr⟩
      rcases List.mem_cons.mp ((ins_perm r p).mem_iff.mp hb) with z | z
      · rw [z]; exact precB_iff.mp q
      · exact h1 b z
    · have pa:t.prec lo p a:=by
        rcases prec_tri O hpa with z | z
        · exact z
        · exact absurd (precB_iff.mpr z) q
      have all:∀ b ∈ a :: r,t.prec lo p b:=fun b hb=>by
        rcases List.mem_cons.mp hb with z | z
        · rw [z]; exact pa
        · exact prec_trans O pa (h1 b z)
      have hc:((a :: r).countP fun x=>precB t lo x p)=0:=by
        rw [List.countP_eq_zero]
        intro b hb z
        exact prec_asym O (all b hb) (precB_iff.mp z)
      unfold insP
      rw [hc]
      exact List.pairwise_cons.mpr ⟨all,h⟩
theorem sort_ok (O:Ord so lo):∀ k,(sortN t lo k).Perm (List.range k)∧(sortN t lo k).Pairwise (t.prec lo)
  | 0=>⟨.refl _,.nil⟩
  | k + 1=>by
    obtain ⟨h1,h2⟩:=sort_ok O k
    have e:sortN t lo (k + 1)=insP t lo (sortN t lo k) k:=by
      unfold sortN
      rw [List.range_succ,List.foldl_append]
      rfl
    rw [e]
    refine ⟨(ins_perm _ _).trans ?_,ins_pw O h2 fun z=>?_⟩
    · rw [List.range_succ]
      exact (List.Perm.cons k h1).trans (List.perm_append_comm (l₁:=[k]))
    · have:=List.mem_range.mp (h1.mem_iff.mp z)
      exact om39 this
theorem sort_sorted (O:Ord so lo):Sorted t lo (sortN t lo t.n):=⟨(sort_ok O t.n).1,(sort_ok O t.n).2⟩
theorem rank_at (O:Ord so lo) {ord:List Nat} (S:Sorted t lo ord) {k v:Nat} (h:ord[k]?=some v):((List.range v).countP fun i=>decide (t.c i=t.c v)) + ((List.range t.n).countP fun i=>lo (t.c i) (t.c v))=k:=by
  obtain ⟨hk,hv⟩:=List.getElem?_eq_some_iff.mp h
  have hvn:v < t.n:=S.mem.mp (List.mem_of_getElem? h)
  have e:ord=ord.take k ++ v :: ord.drop (k + 1):=by
    rw [← hv,← List.drop_eq_getElem_cons hk,List.take_append_drop]
  have pw:=S.pw
  rw [e] at pw
  obtain ⟨_,p2,p3⟩:=List.pairwise_append.mp pw
  have c1:ord.countP (fun i=>precB t lo i v)=k:=by
    conv=>lhs; rw [e]
    rw [List.countP_append,List.countP_cons,if_neg (fun z=>prec_irr O (precB_iff.mp z))]
    have a1:(ord.take k).countP (fun i=>precB t lo i v)=(ord.take k).length:=by
      rw [List.countP_eq_length]
      exact fun a ha=>precB_iff.mpr (p3 a ha v (.head _))
    have a2:(ord.drop (k + 1)).countP (fun i=>precB t lo i v)=0:=by
      rw [List.countP_eq_zero]
      exact fun a ha z=>prec_asym O ((List.pairwise_cons.mp p2).1 a ha) (precB_iff.mp z)
    rw [a1,a2,List.length_take]
    exact om96 hk
  rw [S.perm.countP_eq] at c1
  have c2:∀ m,(List.range m).countP (fun i=>precB t lo i v)=(List.range m).countP (fun i=>decide (t.c i=t.c v) && decide (i < v)) + (List.range m).countP fun i=>lo (t.c i) (t.c v):=by
    intro m
    induction m with
    | zero=>rfl
    | succ m ih=>
      rw [List.range_succ,List.countP_append,List.countP_append,List.countP_append,ih,List.countP_singleton,List.countP_singleton,List.countP_singleton]
      unfold precB
      cases hl:lo (t.c m) (t.c v) with
      | false=>simp only [Bool.false_or]; split <;> simp <;> exact om97
      | true=>
        have hne:decide (t.c m=t.c v)=false:=decide_eq_false fun z=>by rw [z,O.irr] at hl; cases hl
        simp [hne]
        exact om98
  have c3:(List.range t.n).countP (fun i=>decide (t.c i=t.c v) && decide (i < v))=(List.range v).countP fun i=>decide (t.c i=t.c v):=by
    obtain ⟨d,hd⟩:∃ d,t.n=v + d:=⟨t.n - v,om99 hvn⟩
    rw [hd,List.range_add,List.countP_append]
    have z:(List.map (fun x=>v + x) (List.range d)).countP (fun i=>decide (t.c i=t.c v) && decide (i < v))=0:=by
      rw [List.countP_eq_zero]
      intro a ha
      obtain ⟨x,_,rfl⟩:=List.mem_map.mp ha
      rw [decide_eq_false ((om100):¬ v + x < v),Bool.and_false]
      exact Bool.false_ne_true
    rw [z,Nat.add_zero]
    refine List.countP_congr fun i hi=>?_
    rw [decide_eq_true (List.mem_range.mp hi),Bool.and_true]
  rw [c2,c3] at c1
  exact c1
theorem psum_len:∀ (b:Nat) (l:List Nat),(psum b l).length=l.length
  | _,[]=>rfl
  | b,a :: l=>by rw [psum,List.length_cons,List.length_cons,psum_len]
theorem psum_pw:∀ (l:List Nat) (b:Nat),(b :: psum b l).Pairwise (· ≤ ·)
  | [],b=>by simp [psum]
  | a :: l,b=>by
    have ih:=psum_pw l (b + a)
    rw [psum,List.pairwise_cons]
    refine ⟨fun x hx=>?_,ih⟩
    rcases List.mem_cons.mp hx with z | z
    · exact om101 z
    · have:=(List.pairwise_cons.mp ih).1 x z
      exact om40 this
theorem psum_le:∀ (l:List Nat) (b:Nat),∀ x ∈ b :: psum b l,x ≤ b + l.sum
  | [],b,x,h=>by
    rw [psum,List.mem_singleton] at h
    simp [h]
  | a :: l,b,x,h=>by
    rw [List.sum_cons]
    rcases List.mem_cons.mp h with z | z
    · exact om102 z
    · have:=psum_le l (b + a) x z
      exact om103 this
variable {sg:List α} {ord:List Nat} {b0:Nat}
theorem Set.strs_le (H:Set t so lo sg ord b0):∀ p ∈ stch t ord sg b0,p.1 ≤ t.n∧p.2 ≤ t.n:=by
  have hn:ord.length=t.n:=by rw [H.S.perm.length_eq,List.length_range]
  obtain ⟨z1,z2,ez,hz,_⟩:=H.shape
  have hs:b0 + ((inner t ord sg).map fun v=>(t.kids v).length).sum ≤ t.n:=by
    rw [← hn]
    conv=>rhs; rw [ez]
    rw [List.length_append,List.length_append,hz,List.length_flatMap]
    exact om17
  intro p hp
  unfold stch at hp
  obtain ⟨h1,h2⟩:=List.of_mem_zip (show (p.1,p.2) ∈ _ from hp)
  have q1:=psum_le _ _ _ h1
  have q2:=psum_le _ _ _ (List.mem_cons_of_mem b0 h2)
  exact om104 q1 hs q2
theorem Set.strs_mo (H:Set t so lo sg ord b0) (i j:Nat) (x y:Nat × Nat) (hij:i ≤ j) (hx:(stch t ord sg b0)[i]?=some x) (hy:(stch t ord sg b0)[j]?=some y):x.1 ≤ y.2:=by
  unfold stch at hx hy
  generalize ((inner t ord sg).map fun v=>(t.kids v).length)=l at hx hy
  rw [List.getElem?_zip_eq_some] at hx hy
  have pw:=psum_pw l b0
  have h2:(b0 :: psum b0 l)[j + 1]?=some y.2:=hy.2
  obtain ⟨a1,a2⟩:=List.getElem?_eq_some_iff.mp hx.1
  obtain ⟨b1,b2⟩:=List.getElem?_eq_some_iff.mp h2
  have:=List.pairwise_iff_getElem.mp pw i (j + 1) a1 b1 (om41 hij)
  rw [a2,b2] at this
  exact this
theorem Set.strs_len (H:Set t so lo sg ord b0):(stch t ord sg b0).length ≤ t.n:=by
  have hn:ord.length=t.n:=by rw [H.S.perm.length_eq,List.length_range]
  unfold stch
  rw [List.length_zip,psum_len,List.length_cons,psum_len,List.length_map]
  have nd:(inner t ord sg).Nodup:=(inner_pw H.S H.hg).imp fun {x y} h e=>by
    subst e
    rcases h with h | ⟨_,h⟩
    · rw [H.O.sirr] at h; cases h
    · exact prec_irr H.O h
  have:=nd_len (n:=t.n) nd fun k hk=>((mem_inner H.S H.hs).mp hk).1
  exact om105 this
theorem Set.ends (H:Set t so lo sg ord b0):endsOf b0 (((ord.drop b0).take (t.n - 1)).map t.last)=psum b0 ((inner t ord sg).map fun v=>(t.kids v).length):=by
  have hn:ord.length=t.n:=by rw [H.S.perm.length_eq,List.length_range]
  obtain ⟨z1,z2,ez,hz,h0⟩:=H.shape
  have nd:=H.S.nodup
  have z0:∀ z:List Nat,(∀ v ∈ z,v=0)→z.Nodup→z.length ≤ 1:=fun z h nd=>by
    rcases z with _ | ⟨a,_ | ⟨b,z⟩⟩
    · simp
    · simp
    · have e1:=h a (.head _)
      have e2:=h b (.tail _ (.head _))
      obtain ⟨n1,_⟩:=List.nodup_cons.mp nd
      rw [e1,e2] at n1
      exact absurd (List.mem_cons_self) n1
  have hl:((inner t ord sg).flatMap t.kids).length=t.n - 1:=by
    have hr:=rest_eq H.O H.K H.S H.hs H.hg
    rw [← hr]
    have c:(ord.filter fun j=>decide (0 < j)).length=(List.range t.n).countP fun j=>decide (0 < j):=by
      rw [← List.countP_eq_length_filter,H.S.perm.countP_eq]
    rw [c]
    have hp:=H.K.pos
    obtain ⟨m,hm⟩:∃ m,t.n=m + 1:=⟨t.n - 1,om22 hp⟩
    rw [hm,List.range_succ_eq_map,List.countP_cons,if_neg (by simp),List.countP_map]
    have:(List.range m).countP ((fun j=>decide (0 < j)) ∘ Nat.succ)=(List.range m).length:=by
      rw [List.countP_eq_length]
      intro a _
      simp
    rw [this,List.length_range]
    exact om106
  have e:(ord.drop b0).take (t.n - 1)=(inner t ord sg).flatMap t.kids:=by
    have e1:ord.drop b0=(inner t ord sg).flatMap t.kids ++ z2:=by
      have:ord.drop b0=(z1 ++ ((inner t ord sg).flatMap t.kids ++ z2)).drop b0:=by
        rw [← List.append_assoc]
        exact congrArg (List.drop b0) ez
      rw [this,← hz,List.drop_left]
    rw [e1,← hl,List.take_left]
  rw [e]
  refine ends_eq _ _ fun v hv=>?_
  have:=((mem_inner H.S H.hs).mp hv).2
  obtain ⟨j,hj⟩:=made_iff.mp this
  exact fun q=>by rw [q] at hj; cases hj
theorem Set.root_idx (H:Set t so lo sg ord b0):(b0=1→ord.idxOf 0=0)∧(b0=0→ord.idxOf 0=t.n - 1):=by
  have hn:ord.length=t.n:=by rw [H.S.perm.length_eq,List.length_range]
  obtain ⟨r1,r2⟩:=root_at H.O H.K H.S
  have hnot:0 ∉ ord.filter fun j=>decide (0 < j):=fun h=>by
    have:=(List.mem_filter.mp h).2
    simp at this
  constructor
  · intro hb
    rcases H.hb with ⟨_,q⟩ | ⟨h,_⟩
    · rw [r1 q,List.idxOf_cons_self]
    · exact om107 h hb
  · intro hb
    rcases H.hb with ⟨h,_⟩ | ⟨_,q⟩
    · exact om108 hb h
    · have e:=r2 q
      have hl:=congrArg List.length e
      rw [List.length_append,List.length_singleton,hn] at hl
      rw [e,List.idxOf_append,if_neg hnot]
      simp only [List.idxOf_cons_self,Nat.zero_add]
      exact om109 hl
end XB
namespace XB
variable {α:Type} [DecidableEq α]
noncomputable def glue (d:α):List (List α)→List α
  | []=>[]
  | [x]=>x
  | x :: y :: r=>x ++ d :: glue d (y :: r)
noncomputable def ended (d:α) (xs:List (List α)):List α:=xs.flatMap (· ++ [d])
theorem ended_cons (d:α) (x:List α) (xs:List (List α)):ended d (x :: xs)=x ++ d :: ended d xs:=by
  unfold ended
  rw [List.flatMap_cons,List.append_assoc]
  rfl
theorem glue_end (d:α):∀ {xs:List (List α)},xs ≠ []→glue d xs ++ [d]=ended d xs
  | [],h=>absurd rfl h
  | [x],_=>by rw [ended_cons]; rfl
  | x :: y :: r,_=>by
    have:=glue_end d (xs:=y :: r) (by simp)
    rw [ended_cons,← this,glue,List.append_assoc]
    rfl
theorem split_pre {d:α}:∀ {p q u v:List α},d ∉ p→d ∉ q→(p ++ d :: u <+: q ++ d :: v ↔ p=q∧u <+: v)
  | [],[],u,v,_,_=>by
    rw [List.nil_append,List.nil_append,List.cons_prefix_cons]
    simp
  | [],b :: q,u,v,_,h=>by
    rw [List.nil_append,List.cons_append,List.cons_prefix_cons]
    constructor
    · rintro ⟨e,_⟩; exact absurd (by rw [e]; exact .head _) h
    · rintro ⟨e,_⟩; cases e
  | a :: p,[],u,v,h,_=>by
    rw [List.nil_append,List.cons_append,List.cons_prefix_cons]
    constructor
    · rintro ⟨e,_⟩; exact absurd (by rw [← e]; exact .head _) h
    · rintro ⟨e,_⟩; cases e
  | a :: p,b :: q,u,v,h1,h2=>by
    rw [List.cons_append,List.cons_append,List.cons_prefix_cons,split_pre (fun h=>h1 (.tail _ h)) fun h=>h2 (.tail _ h),List.cons.injEq,and_assoc]
theorem ended_pre {d:α}:∀ {P c:List (List α)},(∀ x ∈ P,d ∉ x)→(∀ x ∈ c,d ∉ x)→(ended d P <+: ended d c ↔ P <+: c)
  | [],c,_,_=>⟨fun u=>List.nil_prefix,fun u=>List.nil_prefix⟩
  | p :: P,[],h,_=>by
    rw [ended_cons]
    constructor
    · intro q
      have:=q.length_le
      simp [ended] at this
    · intro q
      have:=q.length_le
      simp at this
  | p :: P,x :: c,h1,h2=>by
    rw [ended_cons,ended_cons,split_pre (h1 p (.head _)) (h2 x (.head _)),ended_pre (fun y hy=>h1 y (.tail _ hy)) fun y hy=>h2 y (.tail _ hy),List.cons_prefix_cons]
theorem pre_concat {l m:List α} {d:α}:l <+: m ++ [d] ↔ l=m ++ [d] ∨ l <+: m:=by
  constructor
  · rintro ⟨t,ht⟩
    rcases List.eq_nil_or_concat t with q | ⟨t',z,q⟩
    · left; rw [q,List.append_nil] at ht; exact ht
    · right
      rw [q,List.concat_eq_append,← List.append_assoc] at ht
      exact ⟨t',(List.append_inj' ht rfl).1⟩
  · rintro (h | h)
    · rw [h]; exact List.prefix_refl _
    · exact h.trans (List.prefix_append _ _)
theorem ended_inj {d:α} {P c:List (List α)} (h1:∀ x ∈ P,d ∉ x) (h2:∀ x ∈ c,d ∉ x) (e:ended d P=ended d c):P=c:=by
  have a:=(ended_pre h1 h2).mp (by rw [e]; exact List.prefix_refl _)
  have b:=(ended_pre h2 h1).mp (by rw [e]; exact List.prefix_refl _)
  exact a.eq_of_length (Nat.le_antisymm a.length_le b.length_le)
theorem glue_nil {d:α}:∀ {P:List (List α)},(∀ x ∈ P,x ≠ [])→glue d P=[]→P=[]
  | [],_,_=>rfl
  | [x],h,e=>absurd e (h x (.head _))
  | x :: y :: r,h,e=>by
    rw [glue] at e
    simp at e
theorem glue_inj {d:α} {P c:List (List α)} (h1:∀ x ∈ P,d ∉ x∧x ≠ []) (h2:∀ x ∈ c,d ∉ x∧x ≠ []) (e:glue d P=glue d c):P=c:=by
  by_cases q:P=[]
  · subst q
    exact (glue_nil (fun x hx=>(h2 x hx).2) e.symm).symm
  · have q':c ≠ []:=fun z=>by subst z; exact q (glue_nil (fun x hx=>(h1 x hx).2) e)
    refine ended_inj (d:=d) (fun x hx=>(h1 x hx).1) (fun x hx=>(h2 x hx).1) ?_
    rw [← glue_end d q,← glue_end d q',e]
theorem glue_pre {d:α} {P c:List (List α)} (hP:P ≠ []) (h1:∀ x ∈ P,d ∉ x∧x ≠ []) (h2:∀ x ∈ c,d ∉ x∧x ≠ []):(glue d P=glue d c ∨ glue d P ++ [d] <+: glue d c) ↔ P <+: c:=by
  by_cases q:c=[]
  · subst q
    constructor
    · rintro (h | h)
      · exact absurd (glue_nil (fun x hx=>(h1 x hx).2) h) hP
      · have:=h.length_le
        simp [glue] at this
    · intro h
      exact absurd (List.prefix_nil.mp h) hP
  · rw [← ended_pre (d:=d) (fun x hx=>(h1 x hx).1) fun x hx=>(h2 x hx).1,← glue_end d q,pre_concat,glue_end d hP]
    constructor
    · rintro (h | h)
      · left; rw [← glue_end d hP,h]
      · exact .inr h
    · rintro (h | h)
      · left
        rw [← glue_end d hP] at h
        exact List.append_cancel_right h
      · exact .inr h
theorem glue_file {d:α} {P c:List (List α)} {f:List α} (hP:P ≠ []) (h1:∀ x ∈ P,d ∉ x∧x ≠ []) (h2:∀ x ∈ c,d ∉ x∧x ≠ []) (hf:d ∉ f∧f ∉ P):glue d P ++ [d] <+: glue d (c ++ [f]) ↔ P <+: c:=by
  have q:c ++ [f] ≠ []:=by simp
  have h3:∀ x ∈ c ++ [f],d ∉ x:=fun x hx=>by
    rcases List.mem_append.mp hx with h | h
    · exact (h2 x h).1
    · rw [List.mem_singleton.mp h]; exact hf.1
  constructor
  · intro h
    have h':ended d P <+: ended d (c ++ [f]):=by
      rw [← glue_end d q,← glue_end d hP,pre_concat]
      exact .inr h
    have:=(ended_pre (fun x hx=>(h1 x hx).1) h3).mp h'
    rcases pre_concat.mp this with z | z
    · exact absurd (by rw [z]; simp) hf.2
    · exact z
  · intro h
    have h':ended d P <+: ended d (c ++ [f]):=(ended_pre (fun x hx=>(h1 x hx).1) h3).mpr (h.trans (List.prefix_append _ _))
    rw [← glue_end d q,pre_concat,glue_end d hP] at *
    rcases h' with z | z
    · exfalso
      rw [glue_end d q] at z
      have:=ended_inj (fun x hx=>(h1 x hx).1) h3 z
      exact hf.2 (by rw [this]; simp)
    · exact z
end XB
namespace Mine
open PySem PySem.W
section
variable {α β:Type} {o:Option α} {a:α}
theorem bind_is {f:α→Option β} {r:Option β} (h:o=some a) (h':f a=r):o.bind f=r:=by rw [h]; exact h'
theorem map_is {f:α→β} (h:o=some a):o.map f=some (f a):=by rw [h]; rfl
end
theorem forL_inv {body:St→Option (Fl × St)} {one:Bool} {tg:List Nat} (Inv:Nat→St→Prop):∀ (ds:List D) (i:Nat) (σ:St),Inv i σ→
    (∀ k d σ,ds[k]?=some d→Inv (i + k) σ→∃ σ1 σ2 fl,bindT one tg d σ=some σ1∧body σ1=some (fl,σ2)∧(∀ r,fl ≠ .ret r)∧Inv (i + k + 1) σ2)→∃ σ',forL body one tg ds σ=some (.next,σ')∧Inv (i + ds.length) σ'
  | [],i,σ,h0,_=>⟨σ,rfl,h0⟩
  | d :: ds,i,σ,h0,st=>by
    obtain ⟨σ1,σ2,fl,h1,h2,h3,h4⟩:=st 0 d σ rfl h0
    obtain ⟨σ',h5,h6⟩:=forL_inv Inv ds (i + 1) σ2 h4 fun k d σ hk hi=>by
      have:=st (k + 1) d σ hk (by rw [show i + (k + 1)=i + 1 + k from om14]; exact hi)
      rw [show i + (k + 1) + 1=i + 1 + k + 1 from om169] at this
      exact this
    refine ⟨σ',?_,by rw [List.length_cons,show i + (ds.length + 1)=i + 1 + ds.length from om14]; exact h6⟩
    refine bind_is h1 (bind_is h2 ?_)
    cases fl with
    | ret r=>exact absurd rfl (h3 r)
    | next=>exact h5
    | cont=>exact h5
theorem compL_of {ι:Type} {test:St→Option Bool} {elt:St→Option D} {one:Bool} {tg:List Nat} {σ:St} (g f:ι→D) (p:ι→Bool):∀ xs:List ι,
    (∀ x ∈ xs,∃ σ',bindT one tg (g x) σ=some σ'∧test σ'=some (p x)∧(p x=true→elt σ'=some (f x)))→compL test elt one tg σ (xs.map g)=some ((xs.filter p).map f)
  | [],_=>rfl
  | x :: xs,h=>by
    obtain ⟨σ',h1,h2,h3⟩:=h x (.head _)
    have ih:=compL_of g f p xs fun y hy=>h y (.tail _ hy)
    refine bind_is h1 (bind_is h2 ?_)
    rw [List.filter_cons]
    cases hp:p x with
    | false=>exact ih
    | true=>exact bind_is (h3 hp) (map_is ih)
theorem compL_all {ι:Type} {elt:St→Option D} {Φ:FEnv} {one:Bool} {tg:List Nat} {σ:St} (g f:ι→D) (xs:List ι) (h:∀ x ∈ xs,∃ σ',bindT one tg (g x) σ=some σ'∧elt σ'=some (f x)):compL (evC Φ .nil) elt one tg σ (xs.map g)=some (xs.map f):=by
  have:=compL_of (test:=evC Φ .nil) (elt:=elt) (one:=one) (tg:=tg) (σ:=σ) g f (fun u=>true) xs fun x hx=>by
    obtain ⟨σ',h1,h2⟩:=h x hx
    exact ⟨σ',h1,rfl,fun u=>h2⟩
  rw [this,List.filter_eq_self.mpr fun u u=>rfl]
theorem compD_of {ι:Type} {test:St→Option Bool} {key val:St→Option D} {one:Bool} {tg:List Nat} {σ:St} (g:ι→D) (kf:ι→Str) (vf:ι→D) (p:ι→Bool):∀ (xs:List ι) (acc:List (Str × D)),
    (∀ x ∈ xs,∃ σ',bindT one tg (g x) σ=some σ'∧test σ'=some (p x)∧(p x=true→key σ'=some (.str (kf x))∧val σ'=some (vf x)))→compD test key val one tg σ (xs.map g) acc=some ((xs.filter p).foldl (fun acc x=>dictPut (kf x) (vf x) acc) acc)
  | [],_,_=>rfl
  | x :: xs,acc,h=>by
    obtain ⟨σ',h1,h2,h3⟩:=h x (.head _)
    have ih:=fun acc=>compD_of g kf vf p xs acc fun y hy=>h y (.tail _ hy)
    refine bind_is h1 (bind_is h2 ?_)
    rw [List.filter_cons]
    cases hp:p x with
    | false=>exact ih _
    | true=>exact bind_is (h3 hp).1 (bind_is (h3 hp).2 (ih _))
section
variable {Φ:FEnv} {σ σ':St}
theorem runF_of {I:FI} {t:TSs} {n:Nat} {ds:List D} {d:D} (hl:ds.length=n) (h:evSs Φ t (start I ds)=some (.ret d,σ')):runF Φ I t n ds=some d:=(if_pos hl).trans (bind_is h rfl)
theorem ss_next {s:TS} {r:TSs} (h:evS Φ s σ=some (.next,σ')):evSs Φ (.cons s r) σ=evSs Φ r σ':=bind_is h rfl
theorem ss_ret {s:TS} {r:TSs} {d:D} (h:evS Φ s σ=some (.ret d,σ')):evSs Φ (.cons s r) σ=some (.ret d,σ'):=bind_is h rfl
theorem s_for {tg:List Nat} {one:Bool} {it:TI} {body:TSs} {ds:List D} {x:Option (Fl × St)} (h:evI Φ it σ=some ds) (hx:forL (evSs Φ body) one tg ds σ=x):evS Φ (.forS tg one it body) σ=x:=bind_is h hx
theorem s_assign {i:Nat} {e:TE} {d:D} (h:evE Φ e σ=some d):evS Φ (.assign i e) σ=some (.next,σ.put i d):=map_is h
theorem s_ret {e:TE} {d:D} (h:evE Φ e σ=some d):evS Φ (.ret e) σ=some (.ret d,σ):=map_is h
theorem s_append {j:Nat} {e:TE} {ds:List D} {d:D} (h1:σ.get j=some (.list ds)) (h2:evE Φ e σ=some d) (h3:ds.length ≤ cap):evS Φ (.append j e) σ=some (.next,σ.put j (.list (ds ++ [d]))):=bind_is h1 (bind_is h2 (if_pos h3))
theorem s_if {t:TE} {a b:TSs} {c:Bool} (h:evT Φ t σ=some c):evS Φ (.ifS t a b) σ=if c then evSs Φ a σ else evSs Φ b σ:=bind_is h (by cases c <;> rfl)
theorem s_ift {t:TE} {a b:TSs} (h:evT Φ t σ=some true):evS Φ (.ifS t a b) σ=evSs Φ a σ:=bind_is h rfl
theorem s_iff {t:TE} {a b:TSs} (h:evT Φ t σ=some false):evS Φ (.ifS t a b) σ=evSs Φ b σ:=bind_is h rfl
theorem s_unpack {is:List Nat} {e:TE} {d:D} (h:evE Φ e σ=some d) (hb:bindT false is d σ=some σ'):evS Φ (.unpack is e) σ=some (.next,σ'):=bind_is h (map_is hb)
theorem e_lcomp {elt:TE} {tg:List Nat} {one:Bool} {it:TI} {cond:TEs} {ds ys:List D} (h:evI Φ it σ=some ds) (hc:compL (evC Φ cond) (evE Φ elt) one tg (clearT tg σ) ds=some ys):evE Φ (.lcomp elt tg one it cond) σ=some (.list ys):=bind_is h (map_is hc)
theorem e_dcomp {key val:TE} {tg:List Nat} {one:Bool} {it:TI} {cond:TEs} {ds:List D} {ys:List (Str × D)} (h:evI Φ it σ=some ds) (hc:compD (evC Φ cond) (evE Φ key) (evE Φ val) one tg (clearT tg σ) ds []=some ys):evE Φ (.dcomp key val tg one it cond) σ=some (.dict ys):=bind_is h (map_is hc)
theorem e_bin {op:Bop} {l r:TE} {a b d:D} (h1:evE Φ l σ=some a) (h2:evE Φ r σ=some b) (h:evBin op a b=some d):evE Φ (.bin op l r) σ=some d:=bind_is h1 (bind_is h2 h)
theorem e_sub {l r:TE} {a b d:D} (h1:evE Φ l σ=some a) (h2:evE Φ r σ=some b) (h:evSub a b=some d):evE Φ (.sub l r) σ=some d:=bind_is h1 (bind_is h2 h)
theorem e_bf {f:Bf} {e:TE} {a d:D} (h1:evE Φ e σ=some a) (h:evBf f a=some d):evE Φ (.bf f e) σ=some d:=bind_is h1 h
theorem e_slice {e lo hi st:TE} {a b c d r:D} (h1:evE Φ e σ=some a) (h2:evE Φ lo σ=some b) (h3:evE Φ hi σ=some c) (h4:evE Φ st σ=some d) (h:evSlice a b c d=some r):evE Φ (.slice e lo hi st) σ=some r:=bind_is h1 (bind_is h2 (bind_is h3 (bind_is h4 h)))
theorem e_fn {f:Str} {ts:TEs} {ds:List D} {d:D} (h:evEs Φ ts σ=some ds) (hd:Φ f ds=some d):evE Φ (.fn f ts) σ=some d:=bind_is h hd
theorem e_mt {m:Mt} {o:TE} {ts:TEs} {a:D} {ds:List D} {d:D} (h0:evE Φ o σ=some a) (h:evEs Φ ts σ=some ds) (hd:evMt Φ m a ds=some d):evE Φ (.mt m o ts) σ=some d:=bind_is h0 (bind_is h hd)
theorem e_cls {e:TE} {a:D} (h:evE Φ e σ=some a):evE Φ (.cls e) σ=some (.obj [(Str.ofString "comp_select_list", a)]):=map_is h
theorem e_tuple {ts:TEs} {ds:List D} (h:evEs Φ ts σ=some ds):evE Φ (.tuple ts) σ=some (.tuple ds):=map_is h
theorem e_list {ts:TEs} {ds:List D} (h:evEs Φ ts σ=some ds):evE Φ (.list ts) σ=some (.list ds):=map_is h
theorem es_nil:evEs Φ .nil σ=some []:=rfl
theorem es_cons {e:TE} {r:TEs} {d:D} {ds:List D} (h1:evE Φ e σ=some d) (h2:evEs Φ r σ=some ds):evEs Φ (.cons e r) σ=some (d :: ds):=bind_is h1 (map_is h2)
theorem i_exp {e:TE} {d:D} {ds:List D} (h:evE Φ e σ=some d) (hi:itemsOf d=some ds):evI Φ (.exp e) σ=some ds:=bind_is h hi
theorem i_r1 {e:TE} {j:Int} (h:evE Φ e σ=some (.int j)) (hr:rngOk 0 j=true):evI Φ (.range1 e) σ=some (rangeD 0 j):=bind_is h (if_pos hr)
theorem i_r2 {a b:TE} {i j:Int} (h1:evE Φ a σ=some (.int i)) (h2:evE Φ b σ=some (.int j)) (hr:rngOk i j=true):evI Φ (.range2 a b) σ=some (rangeD i j):=bind_is h1 (bind_is h2 (if_pos hr))
theorem c_one {e:TE}:evC Φ (.cons e .nil) σ=evT Φ e σ:=(show evC Φ (.cons e .nil) σ=if TEs.nil.ctorIdx=0 then evT Φ e σ else none from rfl).trans (if_pos rfl)
theorem t_cmp {op:Cop} {l r:TE} {a b:D} {c:Bool} (h1:evE Φ l σ=some a) (h2:evE Φ r σ=some b) (h:evCmp op a b=some c):evT Φ (.cmp op l r) σ=some c:=bind_is h1 (bind_is h2 h)
theorem e_cmp {op:Cop} {l r:TE} {a b:D} {c:Bool} (h1:evE Φ l σ=some a) (h2:evE Φ r σ=some b) (h:evCmp op a b=some c):evE Φ (.cmp op l r) σ=some (.bool c):=bind_is h1 (bind_is h2 (map_is h))
theorem e_ite {t a b:TE} {c:Bool} (h:evT Φ t σ=some c):evE Φ (.ite t a b) σ=if c then evE Φ a σ else evE Φ b σ:=bind_is h (by cases c <;> rfl)
theorem t_ite {t a b:TE} {c:Bool} (h:evT Φ t σ=some c):evT Φ (.ite t a b) σ=if c then evT Φ a σ else evT Φ b σ:=bind_is h (by cases c <;> rfl)
theorem forL_step {body:St→Option (Fl × St)} {one:Bool} {tg:List Nat} {d:D} {ds:List D} {σ1 σ2:St} (h1:bindT one tg d σ=some σ1) (h2:body σ1=some (.next,σ2)):forL body one tg (d :: ds) σ=forL body one tg ds σ2:=bind_is h1 (bind_is h2 rfl)
end
noncomputable def tabD (T:List (Str × Int)):D:=.dict (T.map fun p=>(p.1,.int p.2))
noncomputable def bump (s:Str):List (Str × Int)→List (Str × Int)
  | []=>[(s,1)]
  | p :: r=>if p.1 == s then (p.1,p.2 + 1) :: r else p :: bump s r
noncomputable def keysNd (T:List (Str × Int)):Prop:=(T.map (·.1)).Nodup
theorem count_ev {Φ:FEnv} {T:List (Str × Int)} (h:T.length ≤ cap):runF Φ i_count_calls t_count_calls 1 [tabD T]=some (.int (T.map (·.2)).sum):=by
  have key:∀ (T:List (Str × Int)) (x y:Option D) (a:Int),∃ y',forL (evSs Φ (.cons (.augVar 1 (.var 2)) .nil)) true [2] (T.map fun p=>D.int p.2) [x,some (.int a),y]=some (.next,[x,some (.int (a + (T.map (·.2)).sum)),y']):=by
    intro T
    induction T with
    | nil=>intro x y a; exact ⟨y,by rw [List.map_nil,List.map_nil,List.sum_nil,Int.add_zero]; rfl⟩
    | cons p T ih=>
      intro x y a
      obtain ⟨y',h⟩:=ih x (some (.int p.2)) (a + p.2)
      refine ⟨y',(forL_step (σ1:=[x,some (.int a),some (.int p.2)]) (σ2:=[x,some (.int (a + p.2)),some (.int p.2)]) rfl rfl).trans ?_⟩
      rw [h,List.map_cons,List.sum_cons,Int.add_assoc]
  obtain ⟨y',hy⟩:=key T (some (tabD T)) none 0
  have hl:(T.map fun p=>(p.1,D.int p.2)).length ≤ cap:=by rw [List.length_map]; exact h
  refine runF_of (σ':=[some (tabD T),some (.int (0 + (T.map (·.2)).sum)),y']) rfl ?_
  refine (ss_next (σ':=[some (tabD T),some (.int 0),none]) rfl).trans ?_
  refine (ss_next (s_for (ds:=T.map fun p=>D.int p.2) ?_ hy)).trans ?_
  · exact (if_pos hl).trans (congrArg some (List.map_map ..))
  · rw [Int.zero_add]
    rfl
theorem dictPut_new {k:Str} {d:D}:∀ {l:List (Str × D)},(∀ p ∈ l,p.1 ≠ k)→dictPut k d l=l ++ [(k,d)]
  | [],_=>rfl
  | p :: l,h=>by
    have:(p.1 == k)=false:=beq_eq_false_iff_ne.mpr (h p (.head _))
    rw [dictPut,this,if_neg Bool.false_ne_true,dictPut_new fun q hq=>h q (.tail _ hq)]
    rfl
noncomputable def toD (T:List (Str × Int)):List (Str × D):=T.map fun p=>(p.1,.int p.2)
theorem put_int {k:Str} {v:Int}:∀ {T:List (Str × Int)},(∀ p ∈ T,p.1 ≠ k)→dictPut k (.int v) (toD T)=toD (T ++ [(k,v)]):=fun {T} h=>by
  rw [dictPut_new]
  · simp [toD]
  · intro p hp
    unfold toD at hp
    obtain ⟨q,hq,rfl⟩:=List.mem_map.mp hp
    exact h q hq
theorem lookI_iff {k:Str}:∀ {T:List (Str × Int)},(T.any fun p=>p.1 == k)=(lookI k T).isSome
  | []=>rfl
  | p :: T=>by
    unfold lookI
    rw [List.any_cons,List.find?_cons]
    cases h:p.1 == k with
    | true=>rfl
    | false=>exact lookI_iff
theorem lookD_toD {k:Str}:∀ {T:List (Str × Int)},lookD k (toD T)=(lookI k T).map .int
  | []=>rfl
  | p :: T=>by
    have ih:=lookD_toD (k:=k) (T:=T)
    unfold lookD lookI toD at ih ⊢
    rw [List.map_cons,List.find?_cons,List.find?_cons]
    cases h:p.1 == k with
    | true=>rfl
    | false=>exact ih
theorem any_toD {k:Str} {T:List (Str × Int)}:((toD T).any fun p=>p.1 == k)=T.any fun p=>p.1 == k:=by
  unfold toD
  rw [List.any_map]
  rfl
theorem bump_new {s:Str}:∀ {T:List (Str × Int)},(T.any fun p=>p.1 == s)=false→bump s T=T ++ [(s,1)]
  | [],_=>rfl
  | p :: T,h=>by
    rw [List.any_cons,Bool.or_eq_false_iff] at h
    rw [bump,h.1,if_neg Bool.false_ne_true,bump_new h.2]
    rfl
theorem bump_put {s:Str} {a:Int}:∀ {T:List (Str × Int)},lookI s T=some a→dictPut s (.int (a + 1)) (toD T)=toD (bump s T)
  | [],h=>by cases h
  | p :: T,h=>by
    unfold lookI at h
    rw [List.find?_cons] at h
    unfold toD
    rw [List.map_cons,dictPut,bump]
    cases hp:p.1 == s with
    | true=>
      rw [hp] at h
      simp only [Option.map_some,Option.some.injEq] at h
      rw [if_pos rfl,if_pos rfl,List.map_cons,h]
    | false=>
      rw [hp] at h
      rw [if_neg Bool.false_ne_true,if_neg Bool.false_ne_true,List.map_cons]
      congr 1
      exact bump_put h
noncomputable def srcD:Option Str→D
  | some s=>.dict [(s,.int 1)]
  | none=>.dict []
noncomputable def srcL:Option Str→List D
  | some s=>[.tuple [.str s,.int 1]]
  | none=>[]
noncomputable def bumpO:Option Str→List (Str × Int)→List (Str × Int)
  | some s,T=>bump s T
  | none,T=>T
theorem add_ev {Φ:FEnv} {T:List (Str × Int)} {o:Option Str} (h:T.length + 1 ≤ cap) (hn:keysNd T):runF Φ i_add_callers t_add_callers 2 [tabD T,srcD o]=some (tabD (bumpO o T)):=by
  generalize hz:srcD o=z
  have copy:∀ (U V:List (Str × Int)) (a b c d e f:Option D),keysNd (V ++ U)→V.length + U.length ≤ cap→∃ c' d',forL (evSs Φ (.cons (.setItem 2 (.var 3) (.var 4)) .nil)) false [3,4] (U.map fun p=>D.tuple [.str p.1,.int p.2]) [a,b,some (.dict (toD V)),c,d,e,f]=some (.next,[a,b,some (.dict (toD (V ++ U))),c',d',e,f]):=by
    intro U
    induction U with
    | nil=>intro V a b c d e f _ _; exact ⟨c,d,by rw [List.append_nil]; rfl⟩
    | cons p U ih=>
      intro V a b c d e f nd hl
      rw [List.length_cons] at hl
      obtain ⟨c',d',hh⟩:=ih (V ++ [p]) a b (some (.str p.1)) (some (.int p.2)) e f (by rw [List.append_assoc]; exact nd) (by simp; exact om170 hl)
      have hV:∀ q ∈ V,q.1 ≠ p.1:=fun q hq=>by
        unfold keysNd at nd
        rw [List.map_append,List.nodup_append] at nd
        exact nd.2.2 _ (List.mem_map_of_mem hq) _ (List.mem_map_of_mem (.head _))
      have hc:(toD V).length ≤ cap:=by unfold toD; rw [List.length_map]; exact om40 hl
      refine ⟨c',d',(forL_step (σ1:=[a,b,some (.dict (toD V)),some (.str p.1),some (.int p.2),e,f]) (σ2:=[a,b,some (.dict (toD (V ++ [p]))),some (.str p.1),some (.int p.2),e,f]) rfl ?_).trans ?_⟩
      · exact bind_is (if_pos hc) (by rw [put_int hV]; rfl)
      · rw [hh,List.append_assoc]
        rfl
  have hl:(T.map fun p=>(p.1,D.int p.2)).length ≤ cap:=by rw [List.length_map]; exact Nat.le_of_succ_le h
  obtain ⟨c1,d1,h1⟩:=copy T [] (some (tabD T)) (some z) none none none none (by exact hn) (by rw [List.length_nil]; exact om171 h)
  rw [List.nil_append] at h1
  have hc:(toD T).length ≤ cap:=by unfold toD; rw [List.length_map]; exact Nat.le_of_succ_le h
  have h2:∃ e f,forL (evSs Φ (.cons (.ifS (.cmp .isin (.var 3) (.var 2)) (.cons (.ifS (.isTup (.var 4)) (.cons .dead .nil) (.cons (.augItem 2 (.var 3) (.var 4)) .nil)) .nil) (.cons (.setItem 2 (.var 3) (.var 4)) .nil)) .nil)) false [3,4] (srcL o) [some (tabD T),some z,some (.dict (toD T)),c1,d1,none,none]=
      some (.next,[some (tabD T),some z,some (tabD (bumpO o T)),e,f,none,none]):=by
    cases o with
    | none=>exact ⟨c1,d1,rfl⟩
    | some s=>
      refine ⟨some (.str s),some (.int 1),(forL_step (σ1:=[some (tabD T),some z,some (.dict (toD T)),some (.str s),some (.int 1),none,none]) (σ2:=[some (tabD T),some z,some (.dict (toD (bump s T))),some (.str s),some (.int 1),none,none]) rfl ?_).trans rfl⟩
      cases hk:T.any fun p=>p.1 == s with
      | false=>
        have hV:∀ q ∈ T,q.1 ≠ s:=fun q hq z=>by
          rw [List.any_eq_false] at hk
          exact hk q hq (by simp [z])
        have hq:evCmp .isin (.str s) (.dict (toD T))=some false:=congrArg some (any_toD.trans hk)
        have hs:evS Φ (.setItem 2 (.var 3) (.var 4)) [some (tabD T),some z,some (.dict (toD T)),some (.str s),some (.int 1),none,none]=some (.next,[some (tabD T),some z,some (.dict (toD (bump s T))),some (.str s),some (.int 1),none,none]):=by
          rw [bump_new hk,← put_int hV]
          exact if_pos hc
        exact ss_next ((s_iff (t_cmp rfl rfl hq)).trans (ss_next hs))
      | true=>
        have hk':=hk
        rw [lookI_iff] at hk'
        obtain ⟨a,ha⟩:=Option.isSome_iff_exists.mp hk'
        have hq:evCmp .isin (.str s) (.dict (toD T))=some true:=congrArg some (any_toD.trans hk)
        have hs:evS Φ (.augItem 2 (.var 3) (.var 4)) [some (tabD T),some z,some (.dict (toD T)),some (.str s),some (.int 1),none,none]=some (.next,[some (tabD T),some z,some (.dict (toD (bump s T))),some (.str s),some (.int 1),none,none]):=by
          rw [← bump_put ha]
          exact bind_is (lookD_toD.trans (congrArg _ ha)) (if_pos hc)
        refine ss_next ((s_ift (t_cmp rfl rfl hq)).trans (ss_next (σ':=[some (tabD T),some z,some (.dict (toD (bump s T))),some (.str s),some (.int 1),none,none]) ?_))
        exact (s_iff rfl).trans (ss_next hs)
  obtain ⟨e,f,h2⟩:=h2
  refine runF_of (σ':=[some (tabD T),some z,some (tabD (bumpO o T)),e,f,none,none]) rfl ?_
  refine (ss_next (σ':=[some (tabD T),some z,some (.dict (toD [])),none,none,none,none]) rfl).trans ?_
  refine (ss_next (s_for (ds:=T.map fun p=>D.tuple [.str p.1,.int p.2]) ?_ h1)).trans ?_
  · exact (if_pos hl).trans (congrArg some (List.map_map ..))
  refine (ss_next (s_for ?_ h2)).trans ?_
  · subst hz
    cases o with
    | none=>rfl
    | some s=>rfl
  · exact ss_ret (s_ret rfl)
noncomputable def firsts (l:List Str):List Str:=l.foldl (fun acc s=>if s ∈ acc then acc else acc ++ [s]) []
noncomputable def cntT (l:List Str):List (Str × Int):=(firsts l).map fun s=>(s,((l.countP (· == s):Nat):Int))
theorem firsts_snoc (l:List Str) (s:Str):firsts (l ++ [s])=if s ∈ firsts l then firsts l else firsts l ++ [s]:=by
  unfold firsts
  rw [List.foldl_append]
  rfl
theorem list_snoc {α:Type} {P:List α→Prop} (h0:P []) (h1:∀ l a,P l→P (l ++ [a])):∀ l,P l:=fun l=>by
  have:∀ n (l:List α),l.length=n→P l:=fun n=>by
    induction n with
    | zero=>intro l h; rw [List.eq_nil_of_length_eq_zero h]; exact h0
    | succ n ih=>
      intro l h
      rcases List.eq_nil_or_concat l with q | ⟨l',a,q⟩
      · subst q; exact h0
      · rw [q,List.concat_eq_append]
        exact h1 _ _ (ih _ (by rw [q,List.concat_eq_append,List.length_append,List.length_singleton] at h; exact om172 h))
  exact this _ l rfl
theorem mem_firsts:∀ (l:List Str) (s:Str),s ∈ firsts l ↔ s ∈ l:=by
  refine list_snoc ?_ fun l a ih s=>?_
  · intro s; exact Iff.rfl
  · rw [firsts_snoc]
    set_option tactic.hygienic true in split
    · rename_i h
      rw [ih,List.mem_append,List.mem_singleton]
      constructor
      · exact .inl
      · rintro (q | rfl)
        · exact q
        · exact (ih _).mp h
    · rw [List.mem_append,ih,List.mem_append]
theorem firsts_nd:∀ l,(firsts l).Nodup:=by
  refine list_snoc List.nodup_nil fun l a ih=>?_
  rw [firsts_snoc]
  set_option tactic.hygienic true in split
  · exact ih
  · rename_i h
    rw [List.nodup_append]
    exact ⟨ih,by simp,fun x hx y hy e=>h (by rw [← List.mem_singleton.mp hy,← e]; exact hx)⟩
theorem firsts_len:∀ l,(firsts l).length ≤ l.length:=by
  refine list_snoc (Nat.le_refl _) fun l a ih=>?_
  rw [firsts_snoc,List.length_append,List.length_singleton]
  split
  · exact om173 ih
  · rw [List.length_append,List.length_singleton]; exact Nat.succ_le_succ ih
theorem cntT_keys (l:List Str):(cntT l).map (·.1)=firsts l:=by unfold cntT; rw [List.map_map]; exact List.map_id _
theorem cntT_nd (l:List Str):keysNd (cntT l):=by unfold keysNd; rw [cntT_keys]; exact firsts_nd l
theorem cntT_len (l:List Str):(cntT l).length ≤ l.length:=by unfold cntT; rw [List.length_map]; exact firsts_len l
theorem look_map {g:Str→Int} {s:Str}:∀ {ks:List Str},lookI s (ks.map fun k=>(k,g k))=if s ∈ ks then some (g s) else none
  | []=>rfl
  | k :: ks=>by
    have ih:=look_map (g:=g) (s:=s) (ks:=ks)
    unfold lookI at ih ⊢
    rw [List.map_cons,List.find?_cons]
    cases h:k == s with
    | true=>
      have:=beq_iff_eq.mp h
      subst this
      rw [if_pos (.head _)]
      rfl
    | false=>
      have hne:=beq_eq_false_iff_ne.mp h
      show Option.map _ (List.find? _ _)=_
      rw [ih]
      by_cases q:s ∈ ks
      · rw [if_pos q,if_pos (.tail _ q)]
      · rw [if_neg q,if_neg]
        intro z
        rcases List.mem_cons.mp z with z | z
        · exact hne z.symm
        · exact q z
theorem cntT_look (l:List Str) (s:Str):(lookI s (cntT l)).getD 0=((l.countP (· == s):Nat):Int):=by
  unfold cntT
  rw [look_map (g:=fun s=>((l.countP (· == s):Nat):Int))]
  set_option tactic.hygienic true in split
  · rfl
  · rename_i h
    rw [mem_firsts] at h
    have:l.countP (· == s)=0:=by
      rw [List.countP_eq_zero]
      intro x hx q
      rw [beq_iff_eq.mp q] at hx
      exact h hx
    rw [this]
    rfl
theorem bump_in {s:Str} {g:Str→Int}:∀ {ks:List Str},ks.Nodup→s ∈ ks→bump s (ks.map fun k=>(k,g k))=ks.map fun k=>(k,if k=s then g k + 1 else g k)
  | [],_,h=>by cases h
  | k :: ks,nd,h=>by
    obtain ⟨n1,n2⟩:=List.nodup_cons.mp nd
    rw [List.map_cons,bump,List.map_cons]
    cases q:k == s with
    | true=>
      have:=beq_iff_eq.mp q
      subst this
      rw [if_pos rfl,if_pos rfl]
      congr 1
      refine List.map_congr_left fun x hx=>?_
      rw [if_neg (fun z:x=k=>n1 (by rw [← z]; exact hx))]
    | false=>
      have hne:=beq_eq_false_iff_ne.mp q
      rw [if_neg Bool.false_ne_true,if_neg hne,bump_in n2]
      rcases List.mem_cons.mp h with z | z
      · exact absurd z.symm hne
      · exact z
theorem cntT_snoc (l:List Str) (s:Str):cntT (l ++ [s])=bump s (cntT l):=by
  unfold cntT
  rw [firsts_snoc]
  have hc:∀ k,(l ++ [s]).countP (· == k)=l.countP (· == k) + if s=k then 1 else 0:=fun k=>by
    rw [List.countP_append,List.countP_singleton]
    by_cases h:s=k
    · subst h; simp
    · rw [if_neg h,if_neg (by simpa using h)]
  set_option tactic.hygienic true in split
  · rename_i h
    rw [bump_in (firsts_nd l) h]
    refine List.map_congr_left fun k u=>?_
    rw [hc]
    by_cases q:k=s
    · subst q; simp
    · rw [if_neg q,if_neg fun z=>q z.symm]; rfl
  · rename_i h
    rw [bump_new,List.map_append]
    · congr 1
      · refine List.map_congr_left fun k hk=>?_
        rw [hc,if_neg (fun z:s=k=>h (by rw [z]; exact hk))]; rfl
      · rw [List.map_singleton,hc,if_pos rfl]
        have:l.countP (· == s)=0:=by
          rw [List.countP_eq_zero]
          intro x hx q
          rw [beq_iff_eq.mp q] at hx
          exact h ((mem_firsts _ _).mpr hx)
        rw [this]
        rfl
    · rw [List.any_map]
      refine List.any_eq_false.mpr fun x hx=>?_
      simp only [Function.comp_apply,beq_iff_eq]
      exact fun q=>h (by rw [← q]; exact hx)
theorem put_fold {g:Str→D}:∀ l:List Str,l.foldl (fun acc s=>dictPut s (g s) acc) []=(firsts l).map fun s=>(s,g s):=by
  refine list_snoc rfl fun l a ih=>?_
  rw [List.foldl_append,ih,firsts_snoc]
  simp only [List.foldl_cons,List.foldl_nil]
  set_option tactic.hygienic true in split
  · rename_i h
    have key:∀ ks:List Str,a ∈ ks→dictPut a (g a) (ks.map fun s=>(s,g s))=ks.map fun s=>(s,g s):=by
      intro ks
      induction ks with
      | nil=>intro h; cases h
      | cons k ks ih=>
        intro h
        rw [List.map_cons,dictPut]
        cases q:k == a with
        | true=>rw [if_pos rfl,beq_iff_eq.mp q]
        | false=>
          rw [if_neg Bool.false_ne_true,ih]
          rcases List.mem_cons.mp h with z | z
          · exact absurd z.symm (beq_eq_false_iff_ne.mp q)
          · exact z
    exact key _ h
  · rename_i h
    rw [dictPut_new,List.map_append]
    · rfl
    · intro p hp
      obtain ⟨k,hk,rfl⟩:=List.mem_map.mp hp
      exact fun q=>h (q ▸ hk)
theorem sum_counts (p:Str→Bool):∀ l:List Str,((((firsts l).filter p).map fun s=>((l.countP (· == s):Nat):Int)).sum)=((l.countP p:Nat):Int):=by
  intro l
  have key:∀ (ks:List Str),ks.Nodup→∀ l:List Str,(∀ x ∈ l,x ∈ ks)→((ks.filter p).map fun s=>((l.countP (· == s):Nat):Int)).sum=((l.countP p:Nat):Int):=by
    intro ks nd l
    induction l with
    | nil=>
      intro _
      have:∀ l:List Str,(l.map fun s=>(((([]:List Str).countP (· == s)):Nat):Int)).sum=0:=fun l=>by
        induction l with
        | nil=>rfl
        | cons a l ih=>rw [List.map_cons,List.sum_cons,ih]; rfl
      rw [this]; rfl
    | cons x l ih=>
      intro h
      have ih:=ih fun y hy=>h y (.tail _ hy)
      have one:∀ ks:List Str,ks.Nodup→(ks.map fun s=>if x=s then (1:Int) else 0).sum=if x ∈ ks then 1 else 0:=by
        intro ks
        induction ks with
        | nil=>intro _; rfl
        | cons k ks ihk=>
          intro nd
          obtain ⟨n1,n2⟩:=List.nodup_cons.mp nd
          rw [List.map_cons,List.sum_cons,ihk n2]
          by_cases q:x=k
          · subst q
            rw [if_pos rfl,if_neg n1,if_pos (.head _)]; rfl
          · rw [if_neg q]
            by_cases z:x ∈ ks
            · rw [if_pos z,if_pos (.tail _ z)]; rfl
            · rw [if_neg z,if_neg fun w=>by
                rcases List.mem_cons.mp w with w | w
                · exact q w
                · exact z w]; rfl
      have split:∀ ks:List Str,(ks.map fun s=>(((x :: l).countP (· == s):Nat):Int)).sum=(ks.map fun s=>((l.countP (· == s):Nat):Int)).sum + (ks.map fun s=>if x=s then (1:Int) else 0).sum:=by
        intro ks
        induction ks with
        | nil=>rfl
        | cons k ks ihk=>
          simp only [List.map_cons,List.sum_cons]
          rw [ihk,List.countP_cons]
          by_cases q:x=k
          · subst q; simp; exact om174
          · rw [if_neg q,if_neg (by simpa using q)]; simp; exact om175
      rw [split,ih,one _ (nd.filter _),List.countP_cons]
      by_cases q:p x=true
      · rw [if_pos q,if_pos (List.mem_filter.mpr ⟨h x (.head _),q⟩)]; rfl
      · rw [if_neg q,if_neg fun z=>q (List.mem_filter.mp z).2]; rfl
  exact key _ (firsts_nd l) l fun x hx=>(mem_firsts _ _).mpr hx
noncomputable def soW (w:Bool) (a b:Str):Bool:=if w then Str.ltb a b else Str.ltb b a
noncomputable def wayI (w:Bool):Int:=if w then 1 else -1
theorem way_eq (w:Bool):evCmp .eq (.int (wayI w)) (.int 1)=some w:=by cases w <;> rfl
theorem ahead_ev {Φ:FEnv} {l:List Str} {a:Str} {w:Bool} (hc:∀ T:List (Str × Int),T.length ≤ cap→Φ (Str.ofString "count_calls") [tabD T]=some (.int (T.map (·.2)).sum)) (hl:l.length ≤ cap) :
    runF Φ i_law_ahead t_law_ahead 3 [tabD (cntT l),.str a,.int (wayI w)]=some (.int ((l.countP fun s=>soW w s a:Nat):Int)):=by
  have hk:((cntT l).map fun p=>(p.1,D.int p.2)).length ≤ cap:=by rw [List.length_map]; exact Nat.le_trans (cntT_len l) hl
  refine runF_of (σ':=_) rfl (ss_ret (s_ret (e_fn (es_cons (e_dcomp (ds:=(firsts l).map .str) (ys:=toD (((firsts l).filter fun s=>soW w s a).map fun s=>(s,((l.countP (· == s):Nat):Int)))) (i_exp rfl ?_) ?_) es_nil) ?_)))
  · show itemsOf (.dict _)=_
    refine (if_pos hk).trans (congrArg some ?_)
    unfold cntT
    rw [List.map_map,List.map_map]
    rfl
  · refine (compD_of (ι:=Str) .str id (fun s=>.int ((l.countP (· == s):Nat):Int)) (fun s=>soW w s a) (firsts l) [] fun s hs=>⟨_,rfl,?_,fun u=>⟨rfl,?_⟩⟩).trans ?_
    · rw [c_one,t_ite (t_cmp (a:=.int (wayI w)) rfl rfl (way_eq w))]
      unfold soW
      cases w
      · rw [if_neg Bool.false_ne_true,if_neg Bool.false_ne_true]
        exact t_cmp (a:=.str s) (b:=.str a) rfl rfl rfl
      · rw [if_pos rfl,if_pos rfl]
        exact t_cmp (a:=.str s) (b:=.str a) rfl rfl rfl
    · refine e_sub (a:=tabD (cntT l)) (b:=.str s) rfl rfl ?_
      show lookD s (toD (cntT l))=_
      rw [lookD_toD]
      unfold cntT
      rw [look_map (g:=fun s=>((l.countP (· == s):Nat):Int)),if_pos hs]
      rfl
    · congr 1
      have hnd:=(firsts_nd l).filter fun s=>soW w s a
      have key:∀ (ks:List Str) (V:List (Str × Int)),ks.Nodup→(∀ k ∈ ks,∀ p ∈ V,p.1 ≠ k)→ks.foldl (fun acc x=>dictPut (id x) (D.int ((l.countP (· == x):Nat):Int)) acc) (toD V)=toD (V ++ ks.map fun s=>(s,((l.countP (· == s):Nat):Int))):=by
        intro ks
        induction ks with
        | nil=>intro V _ _; rw [List.map_nil,List.append_nil]; rfl
        | cons k ks ih=>
          intro V nd hV
          obtain ⟨n1,n2⟩:=List.nodup_cons.mp nd
          rw [List.foldl_cons,id,put_int (hV k (.head _)),ih _ n2 fun k' hk' p hp=>?_,List.append_assoc]
          · rfl
          · rcases List.mem_append.mp hp with q | q
            · exact hV k' (.tail _ hk') p q
            · rw [List.mem_singleton.mp q]
              exact fun z:k=k'=>n1 (by rw [z]; exact hk')
      exact (key _ [] hnd fun k u p hp=>by cases hp).trans (by rw [List.nil_append])
  · show Φ (Str.ofString "count_calls") [tabD _]=_
    rw [hc _ (by rw [List.length_map]; exact Nat.le_trans (List.length_filter_le ..) (Nat.le_trans (firsts_len l) hl)),List.map_map]
    have:=sum_counts (fun s=>soW w s a) l
    rw [← this]
    rfl
theorem pickL {α:Type} (ds:List α) (a k:Nat):((List.range k).map (a + ·)).filterMap (ds[·]?)=(ds.drop a).take k:=by
  have:=pick_run ds.toArray a k
  simpa using this
theorem sliceL_plain {α:Type} (ds:List α) (lo hi:Option Int):sliceL ds lo hi none=(ds.drop (lo.elim 0 (clipAt ds.length))).take (hi.elim ds.length (clipAt ds.length) - lo.elim 0 (clipAt ds.length)):=by
  unfold sliceL
  rw [sliceBounds_plain]
  simp only [sliceRange_one,pickL]
theorem sliceL_upto {α:Type} (ds:List α) (b:Nat):sliceL ds none (some (b:Int)) none=ds.take b:=by
  rw [sliceL_plain]
  simp only [Option.elim,clipAt_nat,List.drop_zero,Nat.sub_zero]
  rcases Nat.le_total b ds.length with h | h
  · rw [Nat.min_eq_left h]
  · rw [Nat.min_eq_right h,List.take_of_length_le (Nat.le_refl _),List.take_of_length_le h]
theorem sliceL_from {α:Type} (ds:List α) (a:Nat):sliceL ds (some (a:Int)) none none=ds.drop a:=by
  rw [sliceL_plain]
  simp only [Option.elim,clipAt_nat]
  rcases Nat.le_total a ds.length with h | h
  · rw [Nat.min_eq_left h,List.take_of_length_le (by simp)]
  · rw [Nat.min_eq_right h,List.drop_of_length_le (Nat.le_refl _),List.drop_of_length_le h]; simp
theorem sliceL_rev {α:Type} (ds:List α):sliceL ds none none (some (-1))=ds.reverse:=by
  unfold sliceL
  have hb:sliceBounds none none (some (-1)) ds.length=((ds.length:Int) - 1,-1,-1):=by
    first
    | rfl
    | simp [sliceBounds]
  rw [hb]
  have hr:sliceRange ((ds.length:Int) - 1) (-1) (-1)=(List.range ds.length).reverse:=by
    unfold sliceRange
    have h1:¬ ((-1:Int) > 0):=by decide
    by_cases h:(ds.length:Int) - 1 > -1
    · have e:((ds.length:Int) - 1 - -1 - -1 - 1) / (- -1)=(ds.length:Int):=by
        rw [show (- -1:Int)=1 by decide,Int.ediv_one]
        exact om176
      simp only [h1,if_false,h,if_true,e,Int.toNat_natCast]
      rw [← List.map_id (List.range ds.length).reverse]
      refine List.ext_getElem (by simp) fun i h1 h2=>?_
      simp only [List.length_map,List.length_range] at h1
      simp
      exact om177
    · have e:ds.length=0:=om178 h
      rw [e]
      simp
  show (sliceRange ((ds.length:Int) - 1) (-1) (-1)).filterMap (ds[·]?)=_
  rw [hr,List.filterMap_reverse]
  have:=pickL ds 0 ds.length
  rw [List.drop_zero,List.take_of_length_le (Nat.le_refl _)] at this
  have e0:(List.range ds.length).map (0 + ·)=List.range ds.length:=by rw [show ((0 + ·):Nat→Nat)=id from funext fun k=>Nat.zero_add k,List.map_id]
  rw [e0] at this
  rw [this]
theorem evS1 {ds:List D} {i:Int}:evSub (.list ds) (.int i)=if 0 ≤ i then (if i < 1000000 then ds[i.toNat]? else none) else if -(ds.length:Int) ≤ i∧-1000000 ≤ i then ds[(i + ds.length).toNat]? else none:=rfl
theorem evS2 {ds:List D} {i:Int}:evSub (.tuple ds) (.int i)=if 0 ≤ i∧i < 1000000 then ds[i.toNat]? else none:=rfl
theorem sub_at {ds:List D} {i:Nat} {d:D} (h:ds[i]?=some d) (hi:i < 1000000):evSub (.list ds) (.int (i:Int))=some d:=by
  rw [evS1,if_pos (Int.natCast_nonneg i),if_pos (show (i:Int) < 1000000 from om179 hi)]
  exact h
theorem sub_last {ds:List D} {d:D}:evSub (.list (ds ++ [d])) (.int (-1))=some d:=by
  have e:((-1:Int) + ((ds ++ [d]).length:Int)).toNat=ds.length:=by rw [List.length_append,List.length_singleton]; exact om180
  rw [evS1,if_neg (by decide),if_pos ⟨by rw [List.length_append,List.length_singleton]; exact om181,by decide⟩,e,List.getElem?_append_right (Nat.le_refl _),Nat.sub_self]
  rfl
theorem tup_at {ds:List D} {i:Nat} {d:D} (h:ds[i]?=some d) (hi:i < 1000000):evSub (.tuple ds) (.int (i:Int))=some d:=by
  rw [evS2,if_pos (show 0 ≤ (i:Int)∧(i:Int) < 1000000 from om182 hi)]
  exact h
theorem len_ev {ds:List D} (h:ds.length ≤ cap):evBf .len (.list ds)=some (.int ds.length):=if_pos h
theorem its_ev {ds:List D} (h:ds.length ≤ cap):itemsOf (.list ds)=some ds:=if_pos h
theorem rng_ok {n:Nat} (h:n ≤ cap):rngOk 0 (n:Int)=true:=by
  unfold rngOk
  simp only [Int.natAbs_natCast,Int.natAbs_zero,Bool.and_eq_true,decide_eq_true_eq]
  exact ⟨Nat.zero_le _,h⟩
theorem range_nat (n:Nat):rangeD 0 (n:Int)=(List.range n).map fun k:Nat=>D.int (k:Int):=by
  unfold rangeD
  rw [Int.sub_zero,Int.toNat_natCast]
  refine List.map_congr_left fun k u=>?_
  rw [Int.zero_add]
noncomputable abbrev Kept:=List (Str × Bool × Bool)
noncomputable def keepD (k:Str × Bool × Bool):D:=.tuple [.str k.1,.bool k.2.1,.bool k.2.2]
noncomputable def keptD (K:Kept):D:=.list (K.map keepD)
noncomputable def madeS (K:Kept):List Str:=(K.filter (·.2.1)).map (·.1)
noncomputable def tabs (K:Kept):List D:=(List.range (K.length + 1)).map fun k=>tabD (cntT (madeS (K.take k)))
theorem madeS_snoc (K:Kept) (u:Str × Bool × Bool):cntT (madeS (K ++ [u]))=bumpO (if u.2.1 then some u.1 else none) (cntT (madeS K)):=by
  unfold madeS
  rw [List.filter_append,List.map_append]
  cases h:u.2.1 with
  | true=>
    have:[u].filter (·.2.1)=[u]:=by simp [h]
    rw [this]
    exact cntT_snoc _ _
  | false=>
    have:[u].filter (·.2.1)=[]:=by simp [h]
    rw [this,List.map_nil,List.append_nil]
    rfl
theorem madeS_len (K:Kept):(madeS K).length ≤ K.length:=by unfold madeS; rw [List.length_map]; exact List.length_filter_le ..
theorem tabs_snoc (K:Kept) (u:Str × Bool × Bool):tabs (K ++ [u])=tabs K ++ [tabD (cntT (madeS (K ++ [u])))]:=by
  unfold tabs
  rw [List.length_append,List.length_singleton,List.range_succ (n:=K.length + 1),List.map_append]
  congr 1
  · refine List.map_congr_left fun k hk=>?_
    rw [List.take_append_of_le_length (by have:=List.mem_range.mp hk; exact om35 this)]
  · rw [List.map_singleton,List.take_of_length_le (by simp)]
theorem tabs_last (K:Kept):∃ l,tabs K=l ++ [tabD (cntT (madeS K))]:=by
  unfold tabs
  rw [List.range_succ,List.map_append]
  refine ⟨(List.range K.length).map fun k=>tabD (cntT (madeS (K.take k))),?_⟩
  rw [List.map_singleton,List.take_length]
theorem tabs_len (K:Kept):(tabs K).length=K.length + 1:=by unfold tabs; simp
theorem tables_ev {Φ:FEnv} {K:Kept} (ha:∀ (T:List (Str × Int)) (o:Option Str),T.length + 1 ≤ cap→keysNd T→Φ (Str.ofString "add_callers") [tabD T,srcD o]=some (tabD (bumpO o T))) (hK:K.length ≤ 1000) :
    runF Φ i_law_tables t_law_tables 1 [keptD K]=some (.list (tabs K)):=by
  have loop:∀ (U P:Kept) (a b c:Option D),P ++ U=K→∃ a' b' c',forL (evSs Φ (.cons (.append 1 (.fn (Str.ofString "add_callers") (.cons (.sub (.var 1) (.neg (.cInt 1))) (.cons (.ite (.var 3) (.dict1 (.var 2) (.cInt 1)) .dict0) .nil)))) .nil)) false [2,3,4] (U.map keepD) [some (keptD K),some (.list (tabs P)),a,b,c]=some (.next,[some (keptD K),some (.list (tabs K)),a',b',c']):=by
    intro U
    induction U with
    | nil=>intro P a b c e; rw [List.append_nil] at e; subst e; exact ⟨a,b,c,rfl⟩
    | cons u U ih=>
      intro P a b c e
      obtain ⟨a',b',c',h⟩:=ih (P ++ [u]) (some (.str u.1)) (some (.bool u.2.1)) (some (.bool u.2.2)) (by rw [List.append_assoc]; exact e)
      have hP:P.length + 1 ≤ 1000:=by
        have:=congrArg List.length e
        rw [List.length_append,List.length_cons] at this
        exact om183 this hK
      refine ⟨a',b',c',(forL_step (σ1:=[some (keptD K),some (.list (tabs P)),some (.str u.1),some (.bool u.2.1),some (.bool u.2.2)]) (σ2:=[some (keptD K),some (.list (tabs (P ++ [u]))),some (.str u.1),some (.bool u.2.1),some (.bool u.2.2)]) rfl ?_).trans h⟩
      obtain ⟨l,hl⟩:=tabs_last P
      refine (ss_next (s_append (ds:=tabs P) (d:=tabD (cntT (madeS (P ++ [u])))) rfl (e_fn (es_cons (e_sub (a:=.list (tabs P)) (b:=.int (-1)) rfl rfl (by rw [hl]; exact sub_last)) (es_cons (d:=srcD (if u.2.1 then some u.1 else none)) ?_ es_nil)) ?_) ?_)).trans ?_
      · rw [e_ite (c:=u.2.1) rfl]
        cases u.2.1 <;> rfl
      · rw [ha _ _ ?_ (cntT_nd _),madeS_snoc]
        have h1:=cntT_len (madeS P)
        have h2:=madeS_len P
        unfold cap
        exact om184 hP h2 h1
      · rw [tabs_len]; unfold cap; exact om1 hP
      · rw [tabs_snoc]; rfl
  obtain ⟨a',b',c',h⟩:=loop K [] none none none rfl
  have hc:(K.map keepD).length ≤ cap:=by rw [List.length_map]; unfold cap; exact om1 hK
  refine runF_of (σ':=[some (keptD K),some (.list (tabs K)),a',b',c']) rfl ?_
  refine (ss_next (σ':=[some (keptD K),some (.list (tabs [])),none,none,none]) rfl).trans ?_
  refine (ss_next (s_for (i_exp (d:=keptD K) rfl (its_ev hc)) h)).trans ?_
  exact ss_ret (s_ret rfl)
theorem plain_ev {Φ:FEnv} {K:Kept} (hK:K.length ≤ 1000):runF Φ i_law_plain t_law_plain 1 [keptD K]=some (.list (tabs K)):=by
  have hc:(K.map keepD).length ≤ cap:=by rw [List.length_map]; unfold cap; exact om1 hK
  let marked:List D:=(List.range (K.length + 1)).map fun k=>.list ((madeS (K.take k)).map .str)
  have hr:evI Φ (.range1 (.bin .add (.bf .len (.var 0)) (.cInt 1))) (start i_law_plain [keptD K])=some (rangeD 0 ((K.length + 1:Nat):Int)):=by
    refine i_r1 (e_bin (e_bf rfl (len_ev hc)) (b:=.int 1) rfl ?_) (rng_ok (by unfold cap; exact om5 hK))
    rw [List.length_map]
    rfl
  have h1:evE Φ (.lcomp (.lcomp (.var 4) [4,5,6] false (.exp (.slice (.var 0) .cNone (.var 2) .cNone)) (.cons (.var 5) .nil)) [2] true (.range1 (.bin .add (.bf .len (.var 0)) (.cInt 1))) .nil) (start i_law_plain [keptD K])=some (.list marked):=by
    refine e_lcomp hr ?_
    rw [range_nat]
    refine compL_all (ι:=Nat) (fun k:Nat=>.int (k:Int)) (fun k=>.list ((madeS (K.take k)).map .str)) (List.range (K.length + 1)) fun k hk=>⟨_,rfl,?_⟩
    refine e_lcomp (ds:=(K.take k).map keepD) (i_exp (e_slice (a:=keptD K) (b:=.none) (c:=.int (k:Int)) (d:=.none) rfl rfl rfl rfl (r:=.list ((K.take k).map keepD)) ?_) ?_) ?_
    · refine (if_pos ⟨(fun z=>nomatch z),hc⟩).trans ?_
      rw [sliceL_upto,List.map_take]
    · exact its_ev (by rw [List.length_map,List.length_take]; unfold cap; exact om185 hK)
    · have:=compL_of (test:=evC Φ (.cons (.var 5) .nil)) (elt:=evE Φ (.var 4)) (one:=false) (tg:=[4,5,6]) (σ:=clearT [4,5,6] (St.put (clearT [2] (start i_law_plain [keptD K])) 2 (.int (k:Int)))) keepD (fun u=>.str u.1) (fun u=>u.2.1) (K.take k) fun u hu=>⟨_,rfl,rfl,fun q=>rfl⟩
      rw [this]
      unfold madeS
      rw [List.map_map]
      rfl
  refine runF_of (σ':=[some (keptD K),some (.list marked),none,none,none,none,none]) rfl ?_
  refine (ss_next (s_assign h1)).trans ?_
  refine ss_ret (s_ret (e_lcomp (ds:=marked) (i_exp (d:=.list marked) rfl ?_) ?_))
  · exact its_ev (by simp [marked]; unfold cap; exact om5 hK)
  · have:=compL_all (Φ:=Φ) (elt:=evE Φ (.dcomp (.var 4) (.mt .count (.var 3) (.cons (.var 4) .nil)) [4] true (.exp (.var 3)) .nil)) (one:=true) (tg:=[3]) (σ:=clearT [3] (St.put (start i_law_plain [keptD K]) 1 (.list marked))) (fun k:Nat=>.list ((madeS (K.take k)).map .str)) (fun k:Nat=>tabD (cntT (madeS (K.take k)))) (List.range (K.length + 1)) fun k hk=>⟨_,rfl,?_⟩
    · exact this
    · generalize hm:madeS (K.take k)=l
      have hl:l.length ≤ cap:=by
        rw [← hm]
        have:=madeS_len (K.take k)
        rw [List.length_take] at this
        unfold cap
        exact om186 hK this
      refine e_dcomp (ds:=l.map .str) (ys:=toD (cntT l)) (i_exp (d:=.list (l.map .str)) rfl (its_ev (by rw [List.length_map]; exact hl))) ?_
      refine (compD_of (ι:=Str) .str id (fun s=>.int ((l.countP (· == s):Nat):Int)) (fun q=>true) l [] fun s hs=>⟨_,rfl,rfl,fun q=>⟨rfl,?_⟩⟩).trans ?_
      · refine e_mt (a:=.list (l.map .str)) (ds:=[.str s]) rfl rfl ?_
        exact map_is (map_is (map_strsOf l))
      · rw [List.filter_eq_self.mpr fun q q=>rfl]
        congr 1
        have:=put_fold (g:=fun s=>.int ((l.countP (· == s):Nat):Int)) l
        refine this.trans ?_
        unfold toD cntT
        rw [List.map_map]
        rfl
noncomputable def pairD (p:Nat × Nat):D:=.tuple [.int (p.1:Int),.int (p.2:Int)]
noncomputable def b0W (w:Bool):Nat:=if w then 1 else 0
theorem ends_enum:∀ (fl:List Bool) (b:Nat),XB.endsOf b fl=((List.range fl.length).filter fun i=>fl.getD i false).map fun i=>b + i + 1
  | [],b=>rfl
  | f :: fl,b=>by
    have ih:=ends_enum fl (b + 1)
    rw [XB.endsOf,List.length_cons,List.range_succ_eq_map,List.filter_cons,ih]
    have e:((List.range fl.length).map Nat.succ).filter (fun i=>(f :: fl).getD i false)=((List.range fl.length).filter fun i=>fl.getD i false).map Nat.succ:=by
      rw [List.filter_map]
      rfl
    rw [e]
    have e2:(((List.range fl.length).filter fun i=>fl.getD i false).map Nat.succ).map (fun i=>b + i + 1)=((List.range fl.length).filter fun i=>fl.getD i false).map fun i=>b + 1 + i + 1:=by
      rw [List.map_map]
      refine List.map_congr_left fun i u=>?_
      simp only [Function.comp_apply]
      exact om187
    cases f
    · simp only [List.getD_cons_zero,Bool.false_eq_true,if_false]
      rw [e2]
    · simp only [List.getD_cons_zero,if_true,List.map_cons,Nat.add_zero]
      rw [e2]
noncomputable def strP (K:Kept) (b0:Nat):List (Nat × Nat):=(b0 :: XB.endsOf b0 (((K.drop b0).take (K.length - 1)).map (·.2.2))).zip (XB.endsOf b0 (((K.drop b0).take (K.length - 1)).map (·.2.2)))
theorem stretches_ev {Φ:FEnv} {K:Kept} {w:Bool} (hK:K.length ≤ 1000) (h0:0 < K.length):runF Φ i_law_stretches t_law_stretches 2 [keptD K,.int (wayI w)]=some (.list ((strP K (b0W w)).map pairD)):=by
  have hc:(K.map keepD).length ≤ cap:=by rw [List.length_map]; unfold cap; exact om1 hK
  have hb:b0W w ≤ 1:=by unfold b0W; split <;> omega
  generalize hfl:((K.drop (b0W w)).take (K.length - 1)).map (·.2.2)=fl
  have hfn:fl.length=K.length - 1:=by rw [← hfl,List.length_map,List.length_take,List.length_drop]; exact om188 hb
  let ends:List D:=(XB.endsOf (b0W w) fl).map fun i:Nat=>.int (i:Int)
  refine runF_of (σ':=[some (keptD K),some (.int (wayI w)),some (.int (b0W w:Int)),some (.list ends),none]) rfl ?_
  refine (ss_next (σ':=[some (keptD K),some (.int (wayI w)),some (.int (b0W w:Int)),none,none]) (s_assign ?_)).trans ?_
  · rw [e_ite (t_cmp (a:=.int (wayI w)) rfl rfl (way_eq w))]
    unfold b0W
    cases w <;> rfl
  refine (ss_next (σ':=[some (keptD K),some (.int (wayI w)),some (.int (b0W w:Int)),some (.list ends),none]) (s_assign (e_lcomp (ds:=rangeD (b0W w:Int) ((b0W w:Int) + (K.length:Int) - 1)) (i_r2 rfl (e_bin (a:=.int ((b0W w:Int) + (K.length:Int))) (b:=.int 1) (e_bin (a:=.int (b0W w:Int)) rfl (e_bf rfl (len_ev hc)) ?_) rfl rfl) ?_) ?_))).trans ?_
  · rw [List.length_map]; rfl
  · unfold rngOk cap
    simp only [Bool.and_eq_true,decide_eq_true_eq]
    exact om189 hb hK
  · have er:rangeD (b0W w:Int) ((b0W w:Int) + (K.length:Int) - 1)=(List.range fl.length).map fun i:Nat=>D.int ((b0W w + i:Nat):Int):=by
      unfold rangeD
      rw [show ((b0W w:Int) + (K.length:Int) - 1 - (b0W w:Int)).toNat=fl.length from om190 hfn]
      refine List.map_congr_left fun k u=>?_
      rw [Int.natCast_add]
    rw [er]
    refine (compL_of (ι:=Nat) (fun i:Nat=>D.int ((b0W w + i:Nat):Int)) (fun i:Nat=>.int ((b0W w + i + 1:Nat):Int)) (fun i=>fl.getD i false) (List.range fl.length) fun i hi=>⟨_,rfl,?_,fun u=>?_⟩).trans ?_
    · have hi':i < fl.length:=List.mem_range.mp hi
      have hk:b0W w + i < K.length:=om191 hi' hfn hb
      have hfi:fl.getD i false=(K[b0W w + i]).2.2:=by
        rw [List.getD_eq_getElem?_getD,← hfl,List.getElem?_map,List.getElem?_take,if_pos (om21 hi' hfn),List.getElem?_drop,List.getElem?_eq_getElem hk]
        rfl
      rw [hfi]
      have h1:(K.map keepD)[b0W w + i]?=some (keepD K[b0W w + i]):=by rw [List.getElem?_map,List.getElem?_eq_getElem hk]; rfl
      have e1:evE Φ (.sub (.var 0) (.var 4)) (St.put (clearT [4] [some (keptD K),some (.int (wayI w)),some (.int (b0W w:Int)),none,none]) 4 (D.int ((b0W w + i:Nat):Int)))=some (keepD K[b0W w + i]):=e_sub (a:=keptD K) rfl rfl (sub_at h1 (om4 hk hK))
      have e2:evT Φ (.sub (.sub (.var 0) (.var 4)) (.cInt 2)) (St.put (clearT [4] [some (keptD K),some (.int (wayI w)),some (.int (b0W w:Int)),none,none]) 4 (D.int ((b0W w + i:Nat):Int)))=some (K[b0W w + i]).2.2:=by
        exact bind_is (bind_is e1 rfl) rfl
      exact c_one.trans e2
    · refine e_bin (a:=.int ((b0W w + i:Nat):Int)) (b:=.int 1) rfl rfl ?_
      rw [evB1,Option.some.injEq,D.int.injEq]
      exact om192
    · show _=some (List.map _ _)
      rw [ends_enum fl,List.map_map]
      rfl
  · refine ss_ret (s_ret ?_)
    have hel:(XB.endsOf (b0W w) fl).length ≤ 1000:=by
      rw [ends_enum,List.length_map]
      have:=List.length_filter_le (fun i=>fl.getD i false) (List.range fl.length)
      rw [List.length_range] at this
      exact om193 hfn hK this
    have e1:evE Φ (.bin .add (.list (.cons (.var 2) .nil)) (.var 3)) [some (keptD K),some (.int (wayI w)),some (.int (b0W w:Int)),some (.list ends),none]=some (.list ([.int (b0W w:Int)] ++ ends)):=by
      refine e_bin (a:=.list [.int (b0W w:Int)]) (b:=.list ends) rfl rfl ?_
      rw [evB3,if_pos (by rw [List.length_map,List.length_singleton]; unfold cap; exact om45 hel)]
    have e2:evE Φ (.var 3) [some (keptD K),some (.int (wayI w)),some (.int (b0W w:Int)),some (.list ends),none]=some (.list ends):=rfl
    refine (map_is (f:=D.list) (bind_is e1 (bind_is e2 (if_pos (show ([D.int (b0W w:Int)] ++ ends).length ≤ cap∧ends.length ≤ cap from ⟨by rw [List.length_append,List.length_singleton,List.length_map]; unfold cap; exact om45 hel,by rw [List.length_map]; unfold cap; exact om1 hel⟩))))).trans (congrArg (fun z=>some (D.list z)) ?_)
    unfold strP
    rw [hfl]
    have e3:[D.int (b0W w:Int)] ++ ends=(b0W w :: XB.endsOf (b0W w) fl).map fun i:Nat=>D.int (i:Int):=rfl
    rw [e3]
    show List.map _ (List.zip _ (List.map _ _))=_
    rw [List.zip_map,List.map_map]
    rfl
section
variable {t:XB.Tree Str}
noncomputable def rowOf (t:XB.Tree Str) (v:Nat):Str × Bool × Bool:=(t.s v,t.made v,t.last v)
noncomputable def keptOf (t:XB.Tree Str) (ord:List Nat):Kept:=ord.map (rowOf t)
theorem made_cnt (l:List Nat) (q:Str→Bool):(madeS (keptOf t l)).countP q=l.countP fun v=>t.made v && q (t.s v):=by
  unfold madeS keptOf
  rw [List.countP_map,List.filter_map,List.countP_map,List.countP_filter]
  refine List.countP_congr fun v u=>?_
  simp only [Function.comp_apply,rowOf,Bool.and_comm]
theorem kept_take (ord:List Nat) (k:Nat):(keptOf t ord).take k=keptOf t (ord.take k):=by unfold keptOf; rw [List.map_take]
theorem kept_ahead (ord:List Nat) (w:Bool) (a:Str):(madeS (keptOf t ord)).countP (fun s=>soW w s a)=XB.aheadN t (soW w) ord a:=made_cnt ord _
theorem kept_cnt (ord:List Nat) (k:Nat) (a:Str):(madeS ((keptOf t ord).take k)).countP (fun s=>s == a)=XB.cntN t (ord.take k) a:=by rw [kept_take]; exact made_cnt _ _
theorem tab_at {K:Kept} {k:Nat} (h:k ≤ K.length) (hK:K.length ≤ 1000):evSub (.list (tabs K)) (.int (k:Int))=some (tabD (cntT (madeS (K.take k)))):=by
  refine sub_at ?_ (om194 hK h)
  unfold tabs
  rw [List.getElem?_map,List.getElem?_range (om41 h)]
  rfl
theorem get_ev {Φ:FEnv} {l:List Str} {a:Str}:evMt Φ .get (tabD (cntT l)) [.str a,.int 0]=some (.int ((l.countP (· == a):Nat):Int)):=by
  show some ((lookD a (toD (cntT l))).getD (.int 0))=_
  rw [lookD_toD,← cntT_look]
  cases lookI a (cntT l) <;> rfl
theorem place_ev {Φ:FEnv} {σ:St} {ord:List Nat} {w:Bool} {a:Str} {k:Nat} {ti ts tw tk:Nat} (ha:∀ (l:List Str) (a:Str),l.length ≤ 1000→Φ (Str.ofString "_law_ahead") [tabD (cntT l),.str a,.int (wayI w)]=some (.int ((l.countP fun s=>soW w s a:Nat):Int))) (hn:ord.length ≤ 1000)
    (h1:σ.get ti=some (.list (tabs (keptOf t ord)))) (h2:σ.get ts=some (.str a)) (h3:σ.get tw=some (.int (wayI w))) :
    evE Φ (.fn (Str.ofString "_law_ahead") (.cons (.sub (.var ti) (.neg (.cInt 1))) (.cons (.var ts) (.cons (.var tw) .nil)))) σ=some (.int ((XB.aheadN t (soW w) ord a:Nat):Int)):=by
  obtain ⟨l,hl⟩:=tabs_last (keptOf t ord)
  have hkl:(keptOf t ord).length ≤ 1000:=by unfold keptOf; rw [List.length_map]; exact hn
  have e0:evE Φ (.sub (.var ti) (.neg (.cInt 1))) σ=some (tabD (cntT (madeS (keptOf t ord)))):=e_sub (a:=.list (tabs (keptOf t ord))) (b:=.int (-1)) h1 rfl (by rw [hl]; exact sub_last)
  refine e_fn (es_cons e0 (es_cons (d:=.str a) h2 (es_cons (d:=.int (wayI w)) h3 es_nil))) ?_
  rw [ha _ _ (Nat.le_trans (madeS_len _) hkl),kept_ahead]
theorem count_at {Φ:FEnv} {σ:St} {ord:List Nat} {a:Str} {k:Nat} {ti ts tk:Nat} (hn:ord.length ≤ 1000) (hk:k ≤ ord.length)
    (h1:σ.get ti=some (.list (tabs (keptOf t ord)))) (h2:σ.get ts=some (.str a)) (h3:σ.get tk=some (.int (k:Int))) :
    evE Φ (.mt .get (.sub (.var ti) (.var tk)) (.cons (.var ts) (.cons (.cInt 0) .nil))) σ=some (.int ((XB.cntN t (ord.take k) a:Nat):Int)):=by
  have hkl:(keptOf t ord).length=ord.length:=by unfold keptOf; rw [List.length_map]
  refine e_mt (e_sub h1 h3 (tab_at (om195 hkl hk) (om24 hkl hn))) (es_cons (d:=.str a) h2 (es_cons (d:=.int 0) rfl es_nil)) ?_
  rw [get_ev,kept_cnt]
end
theorem forL_ret {body:St→Option (Fl × St)} {one:Bool} {tg:List Nat} {d r:D} {ds:List D} {σ σ1 σ2:St} (h1:bindT one tg d σ=some σ1) (h2:body σ1=some (.ret r,σ2)):forL body one tg (d :: ds) σ=some (.ret r,σ2):=bind_is h1 (bind_is h2 rfl)
theorem s_assign2 {Φ:FEnv} {σ:St} {i j:Nat} {a b:TE} {x y:D} (h1:evE Φ a σ=some x) (h2:evE Φ b σ=some y):evS Φ (.assign2 i j a b) σ=some (.next,(σ.put i x).put j y):=bind_is h1 (map_is h2)
noncomputable def okD (n:Nat) (d:D):Prop:=∃ p,toPy d=some p∧p.canLay0=true∧p.depth ≤ n
noncomputable def okL (n:Nat) (ds:List D):Prop:=∃ ps,toPys ds=some ps∧PyData.canLayAll0 ps=true∧PyData.depthAll ps ≤ n
theorem okD_int {n:Nat} (i:Int):okD n (.int i):=⟨_,rfl,rfl,Nat.zero_le _⟩
theorem okD_bool {n:Nat} (b:Bool):okD n (.bool b):=⟨_,rfl,rfl,Nat.zero_le _⟩
theorem okD_str {n:Nat} {s:Str} (h:PyData.strOk s=true):okD n (.str s):=⟨_,rfl,by simpa [PyData.canLay0] using h,Nat.zero_le _⟩
theorem okL_all {n:Nat}:∀ {ds:List D},(∀ d ∈ ds,okD n d)→okL n ds
  | [],_=>⟨[],rfl,rfl,Nat.zero_le _⟩
  | d :: ds,h=>by
    obtain ⟨p,h1,h2,h3⟩:=h d (.head _)
    obtain ⟨ps,g1,g2,g3⟩:=okL_all fun d hd=>h d (.tail _ hd)
    refine ⟨p :: ps,bind_is h1 (map_is g1),by simp only [PyData.canLayAll0,h2,g2,Bool.and_self],?_⟩
    simp only [PyData.depthAll]
    exact om46 h3 g3
theorem okD_list {n:Nat} {ds:List D} (h:∀ d ∈ ds,okD n d):okD (n + 1) (.list ds):=by
  obtain ⟨ps,g1,g2,g3⟩:=okL_all h
  refine ⟨.list ps,map_is g1,by simp only [PyData.canLay0,g2],?_⟩
  simp only [PyData.depth]
  exact Nat.succ_le_succ g3
theorem okD_tuple {n:Nat} {ds:List D} (h:∀ d ∈ ds,okD n d):okD (n + 1) (.tuple ds):=by
  obtain ⟨ps,g1,g2,g3⟩:=okL_all h
  refine ⟨.tuple ps,map_is g1,by simp only [PyData.canLay0,g2],?_⟩
  simp only [PyData.depth]
  exact Nat.succ_le_succ g3
theorem eqD_of {a b:D} {x y:PyData} (h1:toPy a=some x) (h2:toPy b=some y) (hd:x.depth ≤ depthCap) (l1:x.canLay0=true) (l2:y.canLay0=true):eqD a b=some (x.eqv y):=
  bind_is h1 (bind_is h2 (if_pos (Bool.and_eq_true_iff.mpr ⟨Bool.and_eq_true_iff.mpr ⟨decide_eq_true hd,l1⟩,l2⟩)))
theorem evSl {ds:List D} {i:Int}:evSlice (.list ds) .none .none (.int i)=if some i ≠ some 0∧ds.length ≤ cap then some (.list (sliceL ds none none (some i))) else none:=rfl
theorem evSlA {ds:List D} {i:Int}:evSlice (.list ds) (.int i) .none .none=if (none:Option Int) ≠ some 0∧ds.length ≤ cap then some (.list (sliceL ds (some i) none none)) else none:=rfl
theorem evSlB {ds:List D} {i:Int}:evSlice (.list ds) .none (.int i) .none=if (none:Option Int) ≠ some 0∧ds.length ≤ cap then some (.list (sliceL ds none (some i) none)) else none:=rfl
theorem eqD_self {d:D} {n:Nat} (h:okD n d) (hn:n ≤ depthCap):eqD d d=some true:=
  let ⟨p,h1,h2,h3⟩:=h
  (eqD_of h1 h1 (Nat.le_trans h3 hn) h2 h2).trans (congrArg some (PySem.SeqAt.eqv_refl p h2))
theorem cmp_ne {a b:D} {c:Bool} (h:eqD a b=some c):evCmp .ne a b=some (!c):=by
  rw [show evCmp .ne a b=orO ((eqD a b).map (!·)) fun u=>neTabs a b from rfl,h]
  rfl
theorem ne_self {d:D} {n:Nat} (h:okD n d) (hn:n ≤ depthCap):evCmp .ne d d=some false:=cmp_ne (eqD_self h hn)
theorem eqD_int (a b:Int):eqD (.int a) (.int b)=some (a == b):=(eqD_of (x:=.int a) (y:=.int b) rfl rfl (Nat.zero_le _) rfl rfl).trans (congrArg some (by simp only [PyData.eqv]))
theorem eqv_strs:∀ a b:List Str,PyData.eqvAll (a.map .str) (b.map .str)=(a == b)
  | [],[]=>rfl
  | [],_ :: _=>rfl
  | _ :: _,[]=>rfl
  | x :: a,y :: b=>by
    simp only [List.map_cons,PyData.eqvAll,PyData.eqv,eqv_strs a b]
    rfl
theorem toPys_strs:∀ a:List Str,toPys (a.map .str)=some (a.map .str)
  | []=>rfl
  | _ :: a=>bind_is rfl (map_is (toPys_strs a))
theorem lay_strs:∀ {a:List Str},(∀ x ∈ a,PyData.strOk x=true)→PyData.canLayAll0 (a.map .str)=true∧PyData.depthAll (a.map .str)=0
  | [],_=>⟨rfl,rfl⟩
  | x :: a,h=>by
    obtain ⟨h1,h2⟩:=lay_strs fun y hy=>h y (.tail _ hy)
    refine ⟨?_,?_⟩
    · simp only [List.map_cons,PyData.canLayAll0,PyData.canLay0,h x (.head _),h1,Bool.and_self]
    · simp only [List.map_cons,PyData.depthAll,PyData.depth,h2]; rfl
theorem eqD_strs {a b:List Str} (ha:∀ x ∈ a,PyData.strOk x=true) (hb:∀ x ∈ b,PyData.strOk x=true):eqD (strsD a) (strsD b)=some (a == b):=by
  obtain ⟨h1,h2⟩:=lay_strs ha
  have e:PyData.eqv (.list (a.map .str)) (.list (b.map .str))=(a == b):=by simp only [PyData.eqv]; exact eqv_strs a b
  rw [← e]
  refine eqD_of (a:=.list (a.map .str)) (b:=.list (b.map .str)) (x:=.list (a.map .str)) (y:=.list (b.map .str)) (map_is (toPys_strs a)) (map_is (toPys_strs b)) ?_ h1 (lay_strs hb).1
  simp only [PyData.depth,h2]
  decide
theorem toPys_ints:∀ a:List Int,toPys (a.map .int)=some (a.map .int)
  | []=>rfl
  | _ :: a=>bind_is rfl (map_is (toPys_ints a))
theorem lay_ints:∀ (a:List Int),PyData.canLayAll0 (a.map .int)=true∧PyData.depthAll (a.map .int)=0
  | []=>⟨rfl,rfl⟩
  | x :: a=>by
    obtain ⟨h1,h2⟩:=lay_ints a
    refine ⟨?_,?_⟩
    · simp only [List.map_cons,PyData.canLayAll0,PyData.canLay0,h1,Bool.and_self]
    · simp only [List.map_cons,PyData.depthAll,PyData.depth,h2]; rfl
theorem ne_nil (a:List Int):evCmp .ne (.list (a.map .int)) (.list [])=some (!a.isEmpty):=by
  obtain ⟨h1,h2⟩:=lay_ints a
  refine cmp_ne ((eqD_of (a:=.list (a.map .int)) (x:=.list (a.map .int)) (y:=.list []) (map_is (toPys_ints a)) rfl ?_ h1 rfl).trans (congrArg some (by simp only [PyData.eqv]; cases a <;> rfl)))
  simp only [PyData.depth,h2]
  decide
section
variable {t:XB.Tree Str}
noncomputable def AheadOK (Φ:FEnv) (w:Bool):Prop:=∀ (l:List Str) (a:Str),l.length ≤ 1000→Φ (Str.ofString "_law_ahead") [tabD (cntT l),.str a,.int (wayI w)]=some (.int ((l.countP fun s=>soW w s a:Nat):Int))
noncomputable def b_found:TSs:=(.cons (.assign 7 (.fn (Str.ofString "_law_ahead") (.cons (.sub (.var 1) (.neg (.cInt 1))) (.cons (.var 4) (.cons (.var 3) .nil)))))
  (.cons (.assign 8 (.bin .add (.var 7) (.mt .get (.sub (.var 1) (.var 5)) (.cons (.var 4) (.cons (.cInt 0) .nil)))))
  (.cons (.assign 9 (.bin .add (.var 7) (.mt .get (.sub (.var 1) (.var 6)) (.cons (.var 4) (.cons (.cInt 0) .nil)))))
  (.cons (.ifS (.cmp .eq (.var 8) (.var 9))
  (.cons (.ret (.tuple (.cons (.cInt 0) (.cons (.cInt 0) .nil))))
  .nil)
  .nil)
  (.cons (.assign2 5 6 (.sub (.sub (.var 2) (.var 8)) (.cInt 0)) (.sub (.sub (.var 2) (.bin .sub (.var 9) (.cInt 1))) (.cInt 1)))
  .nil)))))
structure SsOK (ss:List (Nat × Nat)) (n:Nat):Prop where
  len:ss.length ≤ 1000
  le:∀ p ∈ ss,p.1 ≤ n∧p.2 ≤ n
  mo:∀ (i j:Nat) (x y:Nat × Nat),i ≤ j→ss[i]?=some x→ss[j]?=some y→x.1 ≤ y.2
theorem found_ev {Φ:FEnv} {ord:List Nat} {w:Bool} {ss:List (Nat × Nat)} {parts:List Str} {x y:Nat} (ha:AheadOK Φ w) (hn:ord.length ≤ 1000) (hs:SsOK ss ord.length) (hp:parts.length ≤ 1000)
    (h:XB.foundP t (soW w) ord ss parts.reverse 0 ord.length=some (x,y)):runF Φ i_law_found t_law_found 4 [strsD parts,.list (tabs (keptOf t ord)),.list (ss.map pairD),.int (wayI w)]=some (pairD (x,y)):=by
  let F:Option D→Option D→Option D→Option D→Option D→Option D→St:=fun a b c d e f=>[some (strsD parts),some (.list (tabs (keptOf t ord))),some (.list (ss.map pairD)),some (.int (wayI w)),a,b,c,d,e,f]
  have loop:∀ (r:List Str) (b e:Nat) (a0 a1 a2 a3:Option D),b ≤ e→e ≤ ord.length→XB.foundP t (soW w) ord ss r b e=some (x,y)→
      (∃ σ',forL (evSs Φ b_found) true [4] (r.map .str) (F a0 (some (.int (b:Int))) (some (.int (e:Int))) a1 a2 a3)=some (.ret (pairD (x,y)),σ')) ∨
      ∃ c0 c1 c2 c3,forL (evSs Φ b_found) true [4] (r.map .str) (F a0 (some (.int (b:Int))) (some (.int (e:Int))) a1 a2 a3)=some (.next,(F c0 (some (.int (x:Int))) (some (.int (y:Int))) c1 c2 c3)):=by
    intro r
    induction r with
    | nil=>
      intro b e a0 a1 a2 a3 _ _ h
      cases h
      exact .inr ⟨a0,a1,a2,a3,rfl⟩
    | cons a r ih=>
      intro b e a0 a1 a2 a3 hbe hen h
      rw [XB.foundP] at h
      generalize hA:XB.aheadN t (soW w) ord a=A at h
      generalize hB:XB.cntN t (ord.take b) a=B at h
      generalize hE:XB.cntN t (ord.take e) a=C at h
      have hBC:B ≤ C:=by
        rw [← hB,← hE]
        unfold XB.cntN
        exact List.Sublist.countP_le (List.take_sublist_take_left hbe)
      have head:∀ (fl:Fl) (σ2:St),evSs Φ (.cons (.ifS (.cmp .eq (.var 8) (.var 9)) (.cons (.ret (.tuple (.cons (.cInt 0) (.cons (.cInt 0) .nil)))) .nil) .nil) (.cons (.assign2 5 6 (.sub (.sub (.var 2) (.var 8)) (.cInt 0)) (.sub (.sub (.var 2) (.bin .sub (.var 9) (.cInt 1))) (.cInt 1))) .nil))
          (F (some (.str a)) (some (.int (b:Int))) (some (.int (e:Int))) (some (.int (A:Int))) (some (.int ((A + B:Nat):Int))) (some (.int ((A + C:Nat):Int))))=some (fl,σ2)→
          evSs Φ b_found (F (some (.str a)) (some (.int (b:Int))) (some (.int (e:Int))) a1 a2 a3)=some (fl,σ2):=by
        intro fl σ2 hh
        refine (ss_next (s_assign (place_ev (t:=t) (ord:=ord) (w:=w) (a:=a) (k:=0) (tk:=0) ha hn rfl rfl rfl))).trans ?_
        refine (ss_next (s_assign (e_bin (a:=.int (A:Int)) (b:=.int (B:Int)) (d:=.int ((A + B:Nat):Int)) ?_ ?_ ?_))).trans ?_
        · rw [hA]; rfl
        · rw [← hB]; exact count_at (t:=t) (ord:=ord) (a:=a) (k:=b) hn (om196 hbe hen) rfl rfl rfl
        · rw [evB1,Int.natCast_add]
        refine (ss_next (s_assign (e_bin (a:=.int (A:Int)) (b:=.int (C:Int)) (d:=.int ((A + C:Nat):Int)) ?_ ?_ ?_))).trans ?_
        · rw [hA]; rfl
        · rw [← hE]; exact count_at (t:=t) (ord:=ord) (a:=a) (k:=e) hn hen rfl rfl rfl
        · rw [evB1,Int.natCast_add]
        rw [hA]
        exact hh
      have hq:evT Φ (.cmp .eq (.var 8) (.var 9)) (F (some (.str a)) (some (.int (b:Int))) (some (.int (e:Int))) (some (.int (A:Int))) (some (.int ((A + B:Nat):Int))) (some (.int ((A + C:Nat):Int))))=some (decide (A + B=A + C)):=by
        refine t_cmp (a:=.int ((A + B:Nat):Int)) (b:=.int ((A + C:Nat):Int)) rfl rfl ?_
        refine (eqD_int _ _).trans (congrArg some ?_)
        rw [Bool.eq_iff_iff]
        simp only [beq_iff_eq,decide_eq_true_eq]
        exact om25
      by_cases hc:A + B=A + C
      · rw [if_pos hc] at h
        cases h
        left
        refine ⟨(F (some (.str a)) (some (.int (b:Int))) (some (.int (e:Int))) (some (.int (A:Int))) (some (.int ((A + B:Nat):Int))) (some (.int ((A + C:Nat):Int)))),?_⟩
        have:=head (.ret (pairD (0,0))) (F (some (.str a)) (some (.int (b:Int))) (some (.int (e:Int))) (some (.int (A:Int))) (some (.int ((A + B:Nat):Int))) (some (.int ((A + C:Nat):Int)))) (ss_ret ((s_if hq).trans (by rw [decide_eq_true hc,if_pos rfl]; exact ss_ret (s_ret rfl))))
        exact forL_ret rfl this
      · rw [if_neg hc] at h
        set_option tactic.hygienic true in split at h
        · rename_i p q h1 h2
          have hp1:=hs.le p (List.mem_of_getElem? h1)
          have hq1:=hs.le q (List.mem_of_getElem? h2)
          have l1:=(List.getElem?_eq_some_iff.mp h1).1
          have l2:=(List.getElem?_eq_some_iff.mp h2).1
          have hl:=hs.len
          have g1:(ss.map pairD)[A + B]?=some (pairD p):=by rw [List.getElem?_map,h1]; rfl
          have g2:(ss.map pairD)[A + C - 1]?=some (pairD q):=by rw [List.getElem?_map,h2]; rfl
          have:=head .next (F (some (.str a)) (some (.int (p.1:Int))) (some (.int (q.2:Int))) (some (.int (A:Int))) (some (.int ((A + B:Nat):Int))) (some (.int ((A + C:Nat):Int))))
            ((ss_next (s_if hq |>.trans (by rw [decide_eq_false hc,if_neg Bool.false_ne_true]; rfl))).trans (by
              have e1:evE Φ (.sub (.sub (.var 2) (.var 8)) (.cInt 0)) (F (some (.str a)) (some (.int (b:Int))) (some (.int (e:Int))) (some (.int (A:Int))) (some (.int ((A + B:Nat):Int))) (some (.int ((A + C:Nat):Int))))=some (.int (p.1:Int)):=e_sub (e_sub (a:=.list (ss.map pairD)) rfl rfl (sub_at g1 (om4 l1 hl))) (b:=.int 0) rfl rfl
              have e2:evE Φ (.sub (.sub (.var 2) (.bin .sub (.var 9) (.cInt 1))) (.cInt 1)) (F (some (.str a)) (some (.int (b:Int))) (some (.int (e:Int))) (some (.int (A:Int))) (some (.int ((A + B:Nat):Int))) (some (.int ((A + C:Nat):Int))))=some (.int (q.2:Int)):=
                e_sub (e_sub (a:=.list (ss.map pairD)) (b:=.int ((A + C - 1:Nat):Int)) rfl (e_bin (a:=.int ((A + C:Nat):Int)) (b:=.int 1) rfl rfl (by rw [evB4,Option.some.injEq,D.int.injEq]; exact om197 hBC hc)) (sub_at g2 (om4 l2 hl))) (b:=.int 1) rfl rfl
              exact (ss_next (s_assign2 e1 e2)).trans rfl))
          have hbe2:=hs.mo _ _ _ _ (show A + B ≤ A + C - 1 from om198 hBC hc) h1 h2
          rcases ih p.1 q.2 (some (.str a)) (some (.int (A:Int))) (some (.int ((A + B:Nat):Int))) (some (.int ((A + C:Nat):Int))) hbe2 hq1.2 h with ⟨σ',hh⟩ | ⟨c0,c1,c2,c3,hh⟩
          · exact .inl ⟨σ',(forL_step (σ1:=(F (some (.str a)) (some (.int (b:Int))) (some (.int (e:Int))) a1 a2 a3)) rfl this).trans hh⟩
          · exact .inr ⟨c0,c1,c2,c3,(forL_step (σ1:=(F (some (.str a)) (some (.int (b:Int))) (some (.int (e:Int))) a1 a2 a3)) rfl this).trans hh⟩
        · cases h
  have hlen:(tabs (keptOf t ord)).length ≤ cap:=by rw [tabs_len]; unfold keptOf; rw [List.length_map]; unfold cap; exact om5 hn
  have hit:evI Φ (.exp (.slice (.var 0) .cNone .cNone (.neg (.cInt 1)))) (F none (some (.int 0)) (some (.int (ord.length:Int))) none none none)=some (parts.reverse.map .str):=by
    refine i_exp (e_slice (a:=strsD parts) (b:=.none) (c:=.none) (d:=.int (-1)) (r:=.list (parts.reverse.map .str)) rfl rfl rfl rfl ?_) ?_
    · show evSlice (.list (parts.map .str)) .none .none (.int (-1))=_
      rw [evSl,if_pos ⟨by decide,by rw [List.length_map]; unfold cap; exact om1 hp⟩,sliceL_rev,List.map_reverse]
    · exact its_ev (by rw [List.length_map,List.length_reverse]; unfold cap; exact om1 hp)
  have h0:evS Φ (.assign2 5 6 (.cInt 0) (.bin .sub (.bf .len (.var 1)) (.cInt 1))) (F none none none none none none)=some (.next,(F none (some (.int 0)) (some (.int (ord.length:Int))) none none none)):=by
    have e1:evE Φ (.bin .sub (.bf .len (.var 1)) (.cInt 1)) (F none none none none none none)=some (.int (ord.length:Int)):=by
      refine e_bin (a:=.int ((tabs (keptOf t ord)).length:Int)) (b:=.int 1) (e_bf rfl (len_ev hlen)) rfl ?_
      rw [tabs_len]
      unfold keptOf
      rw [List.length_map]
      rw [evB4,Option.some.injEq,D.int.injEq]
      exact om199
    exact s_assign2 (x:=.int 0) rfl e1
  rcases loop parts.reverse 0 ord.length none none none none (Nat.zero_le _) (Nat.le_refl _) h with ⟨σ',hh⟩ | ⟨c0,c1,c2,c3,hh⟩
  · exact runF_of (σ':=σ') rfl ((ss_next h0).trans (ss_ret (s_for hit hh)))
  · exact runF_of (σ':=_) rfl ((ss_next h0).trans ((ss_next (s_for hit hh)).trans (ss_ret (σ':=(F c0 (some (.int (x:Int))) (some (.int (y:Int))) c1 c2 c3)) (s_ret rfl))))
end
section
variable {Φ:FEnv} {σ σ':St}
theorem s_pop {is:List Nat} {j:Nat} {ds:List D} {d:D} (h:σ.get j=some (.list (ds ++ [d]))) (hl:(ds ++ [d]).length ≤ cap) (hb:bindT false is d (σ.put j (.list ds))=some σ'):evS Φ (.popUnpack is j) σ=some (.next,σ'):=by
  refine bind_is h (bind_is List.getLast?_concat ((if_pos hl).trans ?_))
  rw [List.dropLast_concat]
  exact map_is hb
theorem range_from (a n:Nat):rangeD (a:Int) ((a + n:Nat):Int)=(List.range n).map fun k:Nat=>D.int ((a + k:Nat):Int):=by
  unfold rangeD
  rw [show (((a + n:Nat):Int) - (a:Int)).toNat=n from om200]
  refine List.map_congr_left fun k u=>?_
  rw [Int.natCast_add]
theorem rng_ok2 {a b:Nat} (h1:a ≤ cap) (h2:b ≤ cap):rngOk (a:Int) (b:Int)=true:=by
  unfold rngOk
  simp only [Int.natAbs_natCast,Bool.and_eq_true,decide_eq_true_eq]
  exact ⟨h1,h2⟩
end
section
variable {t:XB.Tree Str} {lo:List Str→List Str→Bool} {sg:List Str} {ord:List Nat} {b0:Nat} {Φ:FEnv} {w:Bool}
noncomputable def toldD (t:XB.Tree Str) (i:Nat):List D:=(List.range i).map fun j=>.tuple [.str (t.s j),.int ((t.c j).length:Int)]
theorem told_snoc (i:Nat):toldD t (i + 1)=toldD t i ++ [.tuple [.str (t.s i),.int ((t.c i).length:Int)]]:=by
  unfold toldD
  rw [List.range_succ,List.map_append]
  rfl
theorem todo_len (i:Nat):(XB.todo t ord i).length ≤ t.n:=by
  unfold XB.todo XB.wait
  rw [List.length_map,List.length_reverse]
  have:=List.length_filter_le (fun j=>decide (i ≤ j) && (decide (j=0) || decide (t.p j < i))) (List.range t.n)
  rwa [List.length_range] at this
noncomputable def b_read:TSs:=(.cons (.popUnpack [7,8] 6)
  (.cons (.unpack [9,10,11] (.sub (.var 0) (.var 7)))
  (.cons (.append 5 (.tuple (.cons (.var 9) (.cons (.var 8) .nil))))
  (.cons (.ifS (.var 10)
  (.cons (.unpack [12,13] (.sub (.var 2) (.bin .add (.fn (Str.ofString "_law_ahead") (.cons (.sub (.var 1) (.neg (.cInt 1))) (.cons (.var 9) (.cons (.var 3) .nil)))) (.mt .get (.sub (.var 1) (.var 7)) (.cons (.var 9) (.cons (.cInt 0) .nil))))))
  (.cons (.assign 6 (.bin .add (.var 6) (.slice (.lcomp (.tuple (.cons (.var 14) (.cons (.bin .add (.var 8) (.cInt 1)) .nil))) [14] true (.range2 (.var 12) (.var 13)) .nil) .cNone .cNone (.neg (.cInt 1)))))
  .nil))
  .nil)
  .nil))))
theorem read_step (H:XB.Set t (soW w) lo sg ord b0) (ha:AheadOK Φ w) (hn:t.n ≤ 1000) (hs:(XB.stch t ord sg b0).length ≤ 1000) {i:Nat} (hi:i < t.n) (x4 x7 x8 x9 x10 x11 x12 x13 x14:Option D) :
    ∃ y7 y8 y9 y10 y11 y12 y13 y14,evSs Φ b_read [some (keptD (keptOf t ord)),some (.list (tabs (keptOf t ord))),some (.list ((XB.stch t ord sg b0).map pairD)),some (.int (wayI w)),x4,some (.list (toldD t i)),some (.list ((XB.todo t ord i).map pairD)),x7,x8,x9,x10,x11,x12,x13,x14]=
      some (.next,[some (keptD (keptOf t ord)),some (.list (tabs (keptOf t ord))),some (.list ((XB.stch t ord sg b0).map pairD)),some (.int (wayI w)),x4,some (.list (toldD t (i + 1))),some (.list ((XB.todo t ord (i + 1)).map pairD)),y7,y8,y9,y10,y11,y12,y13,y14]):=by
  have hord:ord.length=t.n:=by rw [H.S.perm.length_eq,List.length_range]
  obtain ⟨r,hr1,hr2⟩:=H.todo_step hi
  obtain ⟨o1,o2,ho,hol⟩:=H.at_place hi
  have htl:=todo_len (t:=t) (ord:=ord) i
  rw [hr1] at htl
  have hidx:ord.idxOf i < t.n:=by
    rw [← hord,← hol,ho]
    simp
  have hrow:((keptOf t ord).map keepD)[ord.idxOf i]?=some (keepD (rowOf t i)):=by
    unfold keptOf
    rw [List.getElem?_map,List.getElem?_map,← hol,ho,List.getElem?_append_right (Nat.le_refl _),Nat.sub_self]
    rfl
  have htk:ord.take (ord.idxOf i)=o1:=by
    rw [← hol]
    conv=>lhs; rw [ho]
    exact List.take_left
  generalize hss:XB.stch t ord sg b0=ss at hs
  let σ3:St:=[some (keptD (keptOf t ord)),some (.list (tabs (keptOf t ord))),some (.list (ss.map pairD)),some (.int (wayI w)),x4,some (.list (toldD t (i + 1))),some (.list (r.map pairD)),some (.int (ord.idxOf i:Int)),some (.int ((t.c i).length:Int)),some (.str (t.s i)),some (.bool (t.made i)),some (.bool (t.last i)),x12,x13,x14]
  have head:∀ (fl:Fl) (σ2:St),evSs Φ (.cons (.ifS (.var 10)
  (.cons (.unpack [12,13] (.sub (.var 2) (.bin .add (.fn (Str.ofString "_law_ahead") (.cons (.sub (.var 1) (.neg (.cInt 1))) (.cons (.var 9) (.cons (.var 3) .nil)))) (.mt .get (.sub (.var 1) (.var 7)) (.cons (.var 9) (.cons (.cInt 0) .nil))))))
  (.cons (.assign 6 (.bin .add (.var 6) (.slice (.lcomp (.tuple (.cons (.var 14) (.cons (.bin .add (.var 8) (.cInt 1)) .nil))) [14] true (.range2 (.var 12) (.var 13)) .nil) .cNone .cNone (.neg (.cInt 1)))))
  .nil))
  .nil)
  .nil) σ3=some (fl,σ2)→
    evSs Φ b_read [some (keptD (keptOf t ord)),some (.list (tabs (keptOf t ord))),some (.list (ss.map pairD)),some (.int (wayI w)),x4,some (.list (toldD t i)),some (.list ((XB.todo t ord i).map pairD)),x7,x8,x9,x10,x11,x12,x13,x14]=some (fl,σ2):=by
    intro fl σ2 hh
    refine (ss_next (s_pop (ds:=r.map pairD) (d:=pairD (ord.idxOf i,(t.c i).length)) ?_ ?_ rfl)).trans ?_
    · rw [hr1,List.map_append]; rfl
    · simp only [List.length_append,List.length_map,List.length_singleton] at htl ⊢; unfold cap; exact om6 hn htl
    refine (ss_next (s_unpack (d:=keepD (rowOf t i)) (e_sub (a:=keptD (keptOf t ord)) (b:=.int (ord.idxOf i:Int)) rfl rfl (sub_at hrow (om4 hidx hn))) rfl)).trans ?_
    refine (ss_next (s_append (ds:=toldD t i) (d:=.tuple [.str (t.s i),.int ((t.c i).length:Int)]) rfl rfl (by unfold toldD; rw [List.length_map,List.length_range]; unfold cap; exact om47 hi hn))).trans ?_
    rw [← told_snoc]
    exact hh
  have hq:evT Φ (.var 10) σ3=some (t.made i):=rfl
  rcases Bool.eq_false_or_eq_true (t.made i) with hm | hm
  · obtain ⟨pre,post,hp1,hp2⟩:=H.stretch ho hm
    rw [hss] at hp2
    have hkl:pre.length + (t.kids i).length ≤ t.n:=by
      rw [← hord,hp1]
      simp only [List.length_append]
      exact om17
    have hlt:=(List.getElem?_eq_some_iff.mp hp2).1
    have g:(ss.map pairD)[XB.aheadN t (soW w) ord (t.s i) + XB.cntN t o1 (t.s i)]?=some (pairD (pre.length,pre.length + (t.kids i).length)):=by rw [List.getElem?_map,hp2]; rfl
    have e2:(XB.todo t ord (i + 1)).map pairD=r.map pairD ++ (((t.kids i).map (XB.seen t ord)).map pairD).reverse:=by rw [hr2,List.map_append,List.map_reverse]
    rw [e2]
    refine ⟨some (.int (ord.idxOf i:Int)),some (.int ((t.c i).length:Int)),some (.str (t.s i)),some (.bool (t.made i)),some (.bool (t.last i)),some (.int (pre.length:Int)),some (.int ((pre.length + (t.kids i).length:Nat):Int)),x14,head _ _ ?_⟩
    refine (ss_next ((s_if hq).trans ?_)).trans rfl
    rw [if_pos hm]
    refine (ss_next (s_unpack (d:=pairD (pre.length,pre.length + (t.kids i).length)) (e_sub (a:=.list (ss.map pairD)) (b:=.int ((XB.aheadN t (soW w) ord (t.s i) + XB.cntN t o1 (t.s i):Nat):Int)) rfl (e_bin (place_ev (t:=t) (ord:=ord) (w:=w) (a:=t.s i) (k:=0) (tk:=0) ha (om24 hord hn) rfl rfl rfl) (count_at (t:=t) (ord:=ord) (a:=t.s i) (k:=ord.idxOf i) (om24 hord hn) (om201 hidx hord) rfl rfl rfl) ?_) (sub_at g (om4 hlt hs))) rfl)).trans ?_
    · rw [htk]; simp only [evB1,evB2,evB3,evB4,evB5,evB6,evB7,Int.natCast_add]
    refine (ss_next (s_assign (d:=.list (r.map pairD ++ (((t.kids i).map (XB.seen t ord)).map pairD).reverse)) (e_bin (a:=.list (r.map pairD)) (b:=.list (((t.kids i).map (XB.seen t ord)).map pairD).reverse) rfl (e_slice (a:=.list (((t.kids i).map (XB.seen t ord)).map pairD)) (b:=.none) (c:=.none) (d:=.int (-1)) (e_lcomp (i_r2 (i:=(pre.length:Int)) (j:=((pre.length + (t.kids i).length:Nat):Int)) rfl rfl (rng_ok2 (by unfold cap; exact om202 hkl hn) (by unfold cap; exact om6 hn hkl))) ?_) rfl rfl rfl ?_) ?_))).trans ?_
    · rw [range_from]
      refine (compL_all (ι:=Nat) (fun k:Nat=>D.int ((pre.length + k:Nat):Int)) (fun k:Nat=>pairD (pre.length + k,(t.c i).length + 1)) (List.range (t.kids i).length) fun k hk=>⟨_,rfl,?_⟩).trans ?_
      · refine e_tuple (es_cons (d:=.int ((pre.length + k:Nat):Int)) rfl (es_cons (d:=.int (((t.c i).length + 1:Nat):Int)) (e_bin (a:=.int ((t.c i).length:Int)) (b:=.int 1) rfl rfl ?_) es_nil))
        simp only [evB1,evB2,evB3,evB4,evB5,evB6,evB7,Int.natCast_add]
        rfl
      · have:=H.kids_seen hp1
        rw [← this,List.map_map]
        rfl
    · show evSlice (.list _) _ _ _=_
      rw [evSl,if_pos ⟨by simp,by rw [List.length_map,List.length_map]; unfold cap; exact om203 hkl hn⟩,sliceL_rev]
    · simp only [evB1,evB2,evB3,evB4,evB5,evB6,evB7,List.length_map,List.length_reverse]
      rw [if_pos]
      simp only [List.length_append,List.length_singleton] at htl
      unfold cap
      exact om204 htl hn hkl
    · rfl
  · have hk:t.kids i=[]:=by
      unfold XB.Tree.made at hm
      simpa using hm
    have e2:XB.todo t ord (i + 1)=r:=by rw [hr2,hk]; simp
    rw [e2]
    refine ⟨some (.int (ord.idxOf i:Int)),some (.int ((t.c i).length:Int)),some (.str (t.s i)),some (.bool (t.made i)),some (.bool (t.last i)),x12,x13,x14,head _ _ ?_⟩
    exact (ss_next ((s_if hq).trans (by rw [if_neg (by rw [hm]; exact Bool.false_ne_true)]; rfl))).trans rfl
theorem read_ev (H:XB.Set t (soW w) lo sg ord b0) (ha:AheadOK Φ w) (hn:t.n ≤ 1000) (hs:(XB.stch t ord sg b0).length ≤ 1000) (hz:(ord.idxOf 0:Int)=if w then 0 else (ord.length:Int) - 1) :
    runF Φ i_law_read t_law_read 4 [keptD (keptOf t ord),.list (tabs (keptOf t ord)),.list ((XB.stch t ord sg b0).map pairD),.int (wayI w)]=some (.list (toldD t t.n)):=by
  have hord:ord.length=t.n:=by rw [H.S.perm.length_eq,List.length_range]
  have hlen:((keptOf t ord).map keepD).length=t.n:=by unfold keptOf; rw [List.length_map,List.length_map,hord]
  let Inv:Nat→St→Prop:=fun i σ=>∃ x4 x7 x8 x9 x10 x11 x12 x13 x14,σ=[some (keptD (keptOf t ord)),some (.list (tabs (keptOf t ord))),some (.list ((XB.stch t ord sg b0).map pairD)),some (.int (wayI w)),x4,some (.list (toldD t i)),some (.list ((XB.todo t ord i).map pairD)),x7,x8,x9,x10,x11,x12,x13,x14]
  let σ1:St:=[some (keptD (keptOf t ord)),some (.list (tabs (keptOf t ord))),some (.list ((XB.stch t ord sg b0).map pairD)),some (.int (wayI w)),none,some (.list []),some (.list [pairD (ord.idxOf 0,0)]),none,none,none,none,none,none,none,none]
  have h1:evS Φ (.assign2 5 6 (.list .nil) (.list (.cons (.tuple (.cons (.ite (.cmp .eq (.var 3) (.cInt 1)) (.cInt 0) (.bin .sub (.bf .len (.var 0)) (.cInt 1))) (.cons (.cInt 0) .nil))) .nil))) (start i_law_read [keptD (keptOf t ord),.list (tabs (keptOf t ord)),.list ((XB.stch t ord sg b0).map pairD),.int (wayI w)])=some (.next,σ1):=by
    have e1:evE Φ (.ite (.cmp .eq (.var 3) (.cInt 1)) (.cInt 0) (.bin .sub (.bf .len (.var 0)) (.cInt 1))) (start i_law_read [keptD (keptOf t ord),.list (tabs (keptOf t ord)),.list ((XB.stch t ord sg b0).map pairD),.int (wayI w)])=some (.int (ord.idxOf 0:Int)):=by
      rw [e_ite (t_cmp (a:=.int (wayI w)) rfl rfl (way_eq w)),hz]
      cases w with
      | true=>rw [if_pos rfl,if_pos rfl]; rfl
      | false=>
        rw [if_neg Bool.false_ne_true,if_neg Bool.false_ne_true]
        refine e_bin (e_bf rfl (len_ev (by rw [hlen]; unfold cap; exact om1 hn))) (b:=.int 1) rfl ?_
        rw [hlen,hord]
        rfl
    have e2:evE Φ (.list (.cons (.tuple (.cons (.ite (.cmp .eq (.var 3) (.cInt 1)) (.cInt 0) (.bin .sub (.bf .len (.var 0)) (.cInt 1))) (.cons (.cInt 0) .nil))) .nil)) (start i_law_read [keptD (keptOf t ord),.list (tabs (keptOf t ord)),.list ((XB.stch t ord sg b0).map pairD),.int (wayI w)])=some (.list [pairD (ord.idxOf 0,0)]):=
      e_list (es_cons (e_tuple (es_cons e1 (es_cons (d:=.int 0) rfl es_nil))) es_nil)
    have e3:evE Φ (.list .nil) (start i_law_read [keptD (keptOf t ord),.list (tabs (keptOf t ord)),.list ((XB.stch t ord sg b0).map pairD),.int (wayI w)])=some (.list []):=e_list es_nil
    exact s_assign2 e3 e2
  have hit:evI Φ (.range1 (.bf .len (.var 0))) σ1=some (rangeD 0 (t.n:Int)):=i_r1 (e_bf (a:=keptD (keptOf t ord)) rfl (by have:=len_ev (ds:=(keptOf t ord).map keepD) (by rw [hlen]; unfold cap; exact om1 hn); rw [hlen] at this; exact this)) (rng_ok (by unfold cap; exact om1 hn))
  obtain ⟨σ',hl,x4,x7,x8,x9,x10,x11,x12,x13,x14,e⟩:=forL_inv (body:=evSs Φ b_read) (one:=true) (tg:=[4]) Inv (rangeD 0 (t.n:Int)) 0 σ1 ⟨none,none,none,none,none,none,none,none,none,by rw [H.todo_zero]; rfl⟩ (by
    intro k d σ hd hI
    obtain ⟨x4,x7,x8,x9,x10,x11,x12,x13,x14,rfl⟩:=hI
    rw [range_nat,List.getElem?_map] at hd
    have hk:k < t.n:=by
      rcases Nat.lt_or_ge k t.n with q | q
      · exact q
      · rw [List.getElem?_eq_none (by rw [List.length_range]; exact q)] at hd; cases hd
    rw [List.getElem?_range hk] at hd
    cases hd
    rw [Nat.zero_add]
    obtain ⟨y7,y8,y9,y10,y11,y12,y13,y14,hb⟩:=read_step (Φ:=Φ) H ha hn hs hk (some (.int (k:Int))) x7 x8 x9 x10 x11 x12 x13 x14
    exact ⟨_,_,.next,rfl,hb,fun r=>(fun e=>nomatch e),some (.int (k:Int)),y7,y8,y9,y10,y11,y12,y13,y14,rfl⟩)
  have hrl:(rangeD 0 (t.n:Int)).length=t.n:=by rw [range_nat,List.length_map,List.length_range]
  rw [hrl,Nat.zero_add] at e
  subst e
  exact runF_of (σ':=_) rfl ((ss_next h1).trans ((ss_next (s_for hit hl)).trans (ss_ret (s_ret (d:=.list (toldD t t.n)) rfl))))
end
noncomputable def sign3:List Str:=[Str.ofString "a", Str.ofString "ab", Str.ofString "b"]
noncomputable def abv (xs:List Int) (k:Nat):Nat:=if k=0 then 0 else ((xs.getD (k - 1) 0).fmod k).toNat
noncomputable def sgn (xs:List Int) (s0:Str) (k:Nat):Str:=if k=0 then s0 else sign3.getD (((xs.getD (k - 1) 0).fdiv k).fmod 3).toNat (Str.ofString "a")
theorem abv_lt (xs:List Int) (k:Nat) (h:0 < k):abv xs k < k:=by
  unfold abv
  rw [if_neg (Nat.ne_of_gt h)]
  have h1:=Int.fmod_nonneg_of_pos (xs.getD (k - 1) 0) (b:=(k:Int)) (om48 h)
  have h2:=Int.fmod_lt_of_pos (xs.getD (k - 1) 0) (b:=(k:Int)) (om48 h)
  exact om205 h1 h2
theorem sgn_mem (xs:List Int) (s0:Str) (h:s0 ∈ sign3) (k:Nat):sgn xs s0 k ∈ sign3:=by
  unfold sgn
  split
  · exact h
  · generalize (((xs.getD (k - 1) 0).fdiv k).fmod 3).toNat=m
    rw [List.getD_eq_getElem?_getD]
    cases q:sign3[m]? with
    | none=>exact .head _
    | some s=>exact List.mem_of_getElem? q
noncomputable def callD (t:XB.Tree Str) (i:Nat):D:=.tuple [.str (t.s i),strsD (t.c i),.bool (t.made i),.bool (t.last i)]
noncomputable def callsD (t:XB.Tree Str):D:=.list ((List.range t.n).map (callD t))
section
variable {Φ:FEnv} {xs:List Int} {s0:Str}
noncomputable def absD (xs:List Int) (i:Nat):List D:=(List.range i).map fun k=>.int (abv xs k:Int)
noncomputable def sgsD (xs:List Int) (s0:Str) (i:Nat):List D:=(List.range i).map fun k=>.str (sgn xs s0 k)
theorem abs_len (i:Nat):(absD xs i).length=i:=by unfold absD; simp
theorem sgs_len (i:Nat):(sgsD xs s0 i).length=i:=by unfold sgsD; simp
noncomputable def b_calls1:TSs:=(.cons (.append 5 (.sub (.list (.cons (.cStr (Str.ofString "a")) (.cons (.cStr (Str.ofString "ab")) (.cons (.cStr (Str.ofString "b")) .nil)))) (.bin .mod (.bin .fdiv (.var 2) (.bf .len (.var 4))) (.cInt 3))))
  (.cons (.append 4 (.bin .mod (.var 2) (.bf .len (.var 4))))
  .nil))
theorem calls1_step {i:Nat} {x:Int} (hx:xs[i]?=some x) (hi:i ≤ 1000) (x0 x1 x3 x6 x7 x8 x9 x10 x11 x12:Option D) :
    evSs Φ b_calls1 [x0,x1,some (.int x),x3,some (.list (absD xs (i + 1))),some (.list (sgsD xs s0 (i + 1))),x6,x7,x8,x9,x10,x11,x12]=some (.next,[x0,x1,some (.int x),x3,some (.list (absD xs (i + 2))),some (.list (sgsD xs s0 (i + 2))),x6,x7,x8,x9,x10,x11,x12]):=by
  have hg:xs.getD i 0=x:=by rw [List.getD_eq_getElem?_getD,hx]; rfl
  have hl:∀ y5,evE Φ (.bf .len (.var 4)) [x0,x1,some (.int x),x3,some (.list (absD xs (i + 1))),y5,x6,x7,x8,x9,x10,x11,x12]=some (.int ((i + 1:Nat):Int)):=fun y5=>by
    refine e_bf (a:=.list (absD xs (i + 1))) rfl ?_
    rw [len_ev (by rw [abs_len]; unfold cap; exact om5 hi),abs_len]
  have hm:=Int.fmod_nonneg_of_pos (x.fdiv ((i + 1:Nat):Int)) (b:=3) (by decide)
  have hm2:=Int.fmod_lt_of_pos (x.fdiv ((i + 1:Nat):Int)) (b:=3) (by decide)
  have hk:=Int.fmod_nonneg_of_pos x (b:=((i + 1:Nat):Int)) (om206)
  refine (ss_next (s_append (ds:=sgsD xs s0 (i + 1)) (d:=.str (sgn xs s0 (i + 1))) rfl (e_sub (a:=.list (sign3.map .str)) (b:=.int ((x.fdiv ((i + 1:Nat):Int)).fmod 3)) rfl (e_bin (a:=.int (x.fdiv ((i + 1:Nat):Int))) (b:=.int 3) (e_bin (a:=.int x) (b:=.int ((i + 1:Nat):Int)) rfl (hl _) ?_) rfl ?_) ?_) (by rw [sgs_len]; unfold cap; exact om5 hi))).trans ?_
  · simp only [evB1,evB2,evB3,evB4,evB5,evB6,evB7]
    rw [if_pos ⟨om49,by rw [Int.natAbs_natCast]; unfold cap; exact om5 hi⟩]
  · rfl
  · have e:(((x.fdiv ((i + 1:Nat):Int)).fmod 3).toNat:Int)=(x.fdiv ((i + 1:Nat):Int)).fmod 3:=om50 hm
    rw [← e]
    refine sub_at ?_ (om51 hm2)
    unfold sgn
    rw [if_neg (om20),Nat.add_sub_cancel,hg,List.getElem?_map]
    have hlt:((x.fdiv ((i + 1:Nat):Int)).fmod 3).toNat < sign3.length:=by show _ < 3; exact om52 hm2
    rw [List.getD_eq_getElem?_getD,List.getElem?_eq_getElem hlt]
    rfl
  refine (ss_next (s_append (ds:=absD xs (i + 1)) (d:=.int (abv xs (i + 1):Int)) rfl (e_bin (a:=.int x) (b:=.int ((i + 1:Nat):Int)) rfl (hl _) ?_) (by rw [abs_len]; unfold cap; exact om5 hi))).trans ?_
  · unfold abv
    rw [if_neg (om20),Nat.add_sub_cancel,hg]
    simp only [evB1,evB2,evB3,evB4,evB5,evB6,evB7]
    rw [if_pos (om49)]
    congr 2
    exact om207 hk
  · have e1:absD xs (i + 2)=absD xs (i + 1) ++ [.int (abv xs (i + 1):Int)]:=by unfold absD; rw [List.range_succ (n:=i + 1),List.map_append]; rfl
    have e2:sgsD xs s0 (i + 2)=sgsD xs s0 (i + 1) ++ [.str (sgn xs s0 (i + 1))]:=by unfold sgsD; rw [List.range_succ (n:=i + 1),List.map_append]; rfl
    rw [e1,e2]
    rfl
noncomputable def itemD (n:Nat) (xs:List Int) (s0:Str) (k:Nat):D:=.tuple [.int (k:Int),strsD (XB.cf (sgn xs s0) (abv xs) k),.bool (XB.lf n (abv xs) k)]
theorem ch_eq {n:Nat} {ab:Nat→Nat} {k:Nat} (h:0 < n):((List.range (n - 1)).map fun i=>1 + i).filter (fun j=>ab j == k)=XB.ch n ab k:=by
  obtain ⟨m,rfl⟩:∃ m,n=m + 1:=⟨n - 1,om22 h⟩
  unfold XB.ch
  rw [List.range_succ_eq_map,List.filter_cons,if_neg (by simp),Nat.add_sub_cancel]
  have e:(fun i=>1 + i)=Nat.succ:=funext fun i=>om208
  rw [e]
  refine List.filter_congr fun j hj=>?_
  obtain ⟨i,_,rfl⟩:=List.mem_map.mp hj
  simp
theorem lf_last {n:Nat} {ab:Nat→Nat} {k j:Nat} {l:List Nat} {z:Nat} (e:XB.ch n ab k=l ++ [z]) (hj:j ∈ XB.ch n ab k):XB.lf n ab j=(j == z):=by
  obtain ⟨j1,j2,j3⟩:=XB.mem_ch.mp hj
  have pw:=XB.ch_pw (n:=n) (ab:=ab) k
  unfold XB.lf
  rw [j3,decide_eq_false ((Nat.ne_of_gt j1):¬ j=0),Bool.false_or]
  rw [e] at pw hj ⊢
  obtain ⟨_,_,p3⟩:=List.pairwise_append.mp pw
  rw [Bool.eq_iff_iff]
  simp only [Bool.not_eq_true',List.any_eq_false,decide_eq_true_eq,beq_iff_eq]
  constructor
  · intro h
    rcases List.mem_append.mp hj with q | q
    · exact absurd (p3 j q z (.head _)) (h z (List.mem_append_right _ (.head _)))
    · exact List.mem_singleton.mp q
  · rintro rfl x hx
    rcases List.mem_append.mp hx with q | q
    · have:=p3 x q j (.head _)
      exact om29 this
    · have:=List.mem_singleton.mp q
      exact om209 this
noncomputable def b_calls2:TSs:=(.cons (.popUnpack [9,10,11] 7)
  (.cons (.assign 8 (.lcomp (.var 12) [12] true (.range2 (.cInt 1) (.bf .len (.var 4))) (.cons (.cmp .eq (.sub (.var 4) (.var 12)) (.var 9)) .nil)))
  (.cons (.append 6 (.tuple (.cons (.sub (.var 5) (.var 9)) (.cons (.var 10) (.cons (.cmp .ne (.var 8) (.list .nil)) (.cons (.var 11) .nil))))))
  (.cons (.assign 7 (.bin .add (.var 7) (.lcomp (.tuple (.cons (.var 12) (.cons (.bin .add (.list (.cons (.sub (.var 5) (.var 9)) .nil)) (.var 10)) (.cons (.cmp .eq (.var 12) (.sub (.var 8) (.neg (.cInt 1)))) .nil)))) [12] true (.exp (.slice (.var 8) .cNone .cNone (.neg (.cInt 1)))) .nil)))
  .nil))))
noncomputable def toldC (n:Nat) (xs:List Int) (s0:Str) (k:Nat):D:=.tuple [.str (sgn xs s0 k),strsD (XB.cf (sgn xs s0) (abv xs) k),.bool (!(XB.ch n (abv xs) k).isEmpty),.bool (XB.lf n (abv xs) k)]
theorem calls2_step {n k:Nat} {r V:List Nat} (hn:n ≤ 1000) (h0:0 < n) (hk:k < n) (hr:r.length + 1 ≤ n) (hV:V.length ≤ n) (x0 x1 x2 x3 x8 x9 x10 x11 x12:Option D) :
    ∃ y8 y9 y10 y11,evSs Φ b_calls2 [x0,x1,x2,x3,some (.list (absD xs n)),some (.list (sgsD xs s0 n)),some (.list (V.map (toldC n xs s0))),some (.list ((k :: r).reverse.map (itemD n xs s0))),x8,x9,x10,x11,x12]=
      some (.next,[x0,x1,x2,x3,some (.list (absD xs n)),some (.list (sgsD xs s0 n)),some (.list ((V ++ [k]).map (toldC n xs s0))),some (.list ((XB.ch n (abv xs) k ++ r).reverse.map (itemD n xs s0))),y8,y9,y10,y11,x12]):=by
  have habs:∀ j,j < n→(absD xs n)[j]?=some (.int (abv xs j:Int)):=fun j hj=>by unfold absD; rw [List.getElem?_map,List.getElem?_range hj]; rfl
  have hsgs:∀ j,j < n→(sgsD xs s0 n)[j]?=some (.str (sgn xs s0 j)):=fun j hj=>by unfold sgsD; rw [List.getElem?_map,List.getElem?_range hj]; rfl
  have hchl:(XB.ch n (abv xs) k).length ≤ n:=by
    unfold XB.ch
    have:=List.length_filter_le (fun j=>decide (0 < j) && abv xs j == k) (List.range n)
    rwa [List.length_range] at this
  let C:=(XB.ch n (abv xs) k).map fun j:Nat=>(j:Int)
  refine ⟨some (.list (C.map .int)),some (.int (k:Int)),some (strsD (XB.cf (sgn xs s0) (abv xs) k)),some (.bool (XB.lf n (abv xs) k)),?_⟩
  refine (ss_next (s_pop (ds:=r.reverse.map (itemD n xs s0)) (d:=itemD n xs s0 k) ?_ ?_ rfl)).trans ?_
  · rw [List.reverse_cons,List.map_append]; rfl
  · simp only [List.length_append,List.length_map,List.length_reverse,List.length_singleton]; unfold cap; exact om6 hn hr
  refine (ss_next (s_assign (d:=.list (C.map .int)) (e_lcomp (i_r2 (i:=1) (j:=(n:Int)) rfl (e_bf (a:=.list (absD xs n)) rfl (by have:=len_ev (ds:=absD xs n) (by rw [abs_len]; unfold cap; exact om1 hn); rw [abs_len] at this; exact this)) (rng_ok2 (a:=1) (b:=n) (by unfold cap; omega) (by unfold cap; exact om1 hn))) ?_))).trans ?_
  · have e:rangeD 1 (n:Int)=((List.range (n - 1)).map fun i=>1 + i).map fun j:Nat=>D.int (j:Int):=by
      unfold rangeD
      rw [List.map_map,show ((n:Int) - 1).toNat=n - 1 from om210]
      refine List.map_congr_left fun i u=>?_
      simp only [Function.comp_apply,Int.natCast_add]
      rfl
    rw [e]
    refine (compL_of (ι:=Nat) (fun j:Nat=>D.int (j:Int)) (fun j:Nat=>D.int (j:Int)) (fun j=>abv xs j == k) ((List.range (n - 1)).map fun i=>1 + i) fun j hj=>⟨_,rfl,?_,fun u=>rfl⟩).trans ?_
    · have hjn:j < n:=by
        obtain ⟨i,hi,rfl⟩:=List.mem_map.mp hj
        have:=List.mem_range.mp hi
        exact om211 this
      rw [c_one]
      refine t_cmp (a:=.int (abv xs j:Int)) (b:=.int (k:Int)) (e_sub (a:=.list (absD xs n)) (b:=.int (j:Int)) rfl rfl (sub_at (habs j hjn) (om4 hjn hn))) rfl ?_
      refine (eqD_int _ _).trans (congrArg some ?_)
      rw [Bool.eq_iff_iff]
      simp only [beq_iff_eq]
      exact om25
    · rw [ch_eq h0]
      simp only [C]
      rw [List.map_map]
      rfl
  refine (ss_next (s_append (ds:=V.map (toldC n xs s0)) (d:=toldC n xs s0 k) rfl (e_tuple (es_cons (d:=.str (sgn xs s0 k)) (e_sub (a:=.list (sgsD xs s0 n)) (b:=.int (k:Int)) rfl rfl (sub_at (hsgs k hk) (om4 hk hn))) (es_cons (d:=strsD (XB.cf (sgn xs s0) (abv xs) k)) rfl (es_cons (d:=.bool (!(XB.ch n (abv xs) k).isEmpty)) (e_cmp (a:=.list (C.map .int)) (b:=.list []) rfl (e_list es_nil) ?_) (es_cons (d:=.bool (XB.lf n (abv xs) k)) rfl es_nil))))) (by rw [List.length_map]; unfold cap; exact om6 hn hV))).trans ?_
  · rw [ne_nil]
    simp only [C,List.isEmpty_map]
  have hrev:evI Φ (.exp (.slice (.var 8) .cNone .cNone (.neg (.cInt 1)))) [x0,x1,x2,x3,some (.list (absD xs n)),some (.list (sgsD xs s0 n)),some (.list (V.map (toldC n xs s0) ++ [toldC n xs s0 k])),some (.list (r.reverse.map (itemD n xs s0))),some (.list (C.map .int)),some (.int (k:Int)),some (strsD (XB.cf (sgn xs s0) (abv xs) k)),some (.bool (XB.lf n (abv xs) k)),x12]=some ((XB.ch n (abv xs) k).reverse.map fun j:Nat=>D.int (j:Int)):=by
    refine i_exp (e_slice (a:=.list (C.map .int)) (b:=.none) (c:=.none) (d:=.int (-1)) (r:=.list ((XB.ch n (abv xs) k).reverse.map fun j:Nat=>D.int (j:Int))) rfl rfl rfl rfl ?_) ?_
    · show evSlice (.list _) _ _ _=_
      rw [evSl,if_pos ⟨by simp,by simp only [C,List.length_map]; unfold cap; exact om6 hn hchl⟩,sliceL_rev]
      simp only [C]
      rw [List.map_map,List.map_reverse]
      rfl
    · exact its_ev (by rw [List.length_map,List.length_reverse]; unfold cap; exact om6 hn hchl)
  refine (ss_next (s_assign (d:=.list ((XB.ch n (abv xs) k ++ r).reverse.map (itemD n xs s0))) (e_bin (a:=.list (r.reverse.map (itemD n xs s0))) (b:=.list ((XB.ch n (abv xs) k).reverse.map (itemD n xs s0))) rfl (e_lcomp hrev ?_) ?_))).trans ?_
  · refine compL_all (ι:=Nat) (fun j:Nat=>D.int (j:Int)) (itemD n xs s0) (XB.ch n (abv xs) k).reverse fun j hj=>⟨_,rfl,?_⟩
    have hj':j ∈ XB.ch n (abv xs) k:=List.mem_reverse.mp hj
    obtain ⟨j1,j2,j3⟩:=XB.mem_ch.mp hj'
    have hne:XB.ch n (abv xs) k ≠ []:=fun q=>by rw [q] at hj'; cases hj'
    rcases List.eq_nil_or_concat (XB.ch n (abv xs) k) with q | ⟨l,z,q⟩
    · exact absurd q hne
    · rw [List.concat_eq_append] at q
      have hcf:=XB.cf_pos (n:=n) (sg:=sgn xs s0) (ab:=abv xs) (fun k h u=>abv_lt xs k h) j1 j2
      rw [j3] at hcf
      unfold itemD
      rw [hcf,lf_last q hj']
      refine e_tuple (es_cons (d:=.int (j:Int)) rfl (es_cons (d:=strsD (sgn xs s0 k :: XB.cf (sgn xs s0) (abv xs) k)) (e_bin (a:=.list [.str (sgn xs s0 k)]) (b:=strsD (XB.cf (sgn xs s0) (abv xs) k)) (e_list (es_cons (e_sub (a:=.list (sgsD xs s0 n)) (b:=.int (k:Int)) rfl rfl (sub_at (hsgs k hk) (om4 hk hn))) es_nil)) rfl ?_) (es_cons (d:=.bool (j == z)) (e_cmp (a:=.int (j:Int)) (b:=.int (z:Int)) rfl (e_sub (a:=.list (C.map .int)) (b:=.int (-1)) rfl rfl ?_) ?_) es_nil)))
      · have hcl:∀ k,k < n→(XB.cf (sgn xs s0) (abv xs) k).length ≤ k:=by
          intro k
          induction k using Nat.strongRecOn with
          | _ k ih=>
            intro hk
            rcases Nat.eq_zero_or_pos k with y | y
            · subst y; simp [XB.cf_zero]
            · rw [XB.cf_pos (n:=n) (fun k h u=>abv_lt xs k h) y hk,List.length_cons]
              have h1:=abv_lt xs k y
              have:=ih _ h1 (Nat.lt_trans h1 hk)
              exact om212 h1 this
        have:=hcl k hk
        unfold strsD
        simp only [evB1,evB2,evB3,evB4,evB5,evB6,evB7,List.length_map,List.length_singleton]
        rw [if_pos (by unfold cap; exact om213 hk hn this)]
        rfl
      · simp only [C]
        rw [q,List.map_append,List.map_append]
        exact sub_last
      · refine (eqD_int _ _).trans (congrArg some ?_)
        rw [Bool.eq_iff_iff]
        simp only [beq_iff_eq]
        exact om25
  · simp only [evB1,evB2,evB3,evB4,evB5,evB6,evB7,List.length_map,List.length_reverse]
    rw [if_pos (by unfold cap; exact om214 hr hn hchl),List.reverse_append,List.map_append]
  · rw [List.map_append]
    rfl
theorem calls_ev {n:Nat} (hn:n=xs.length + 1) (h1000:n ≤ 1000):runF Φ i_law_calls t_law_calls 2 [.list (xs.map .int),.str s0]=some (callsD (XB.tree n (abv xs) (sgn xs s0))):=by
  have h0:0 < n:=om215 hn
  have hab:∀ k,0 < k→k < n→abv xs k < k:=fun k h u=>abv_lt xs k h
  have hcap:(xs.map D.int).length ≤ cap:=by rw [List.length_map]; unfold cap; exact om216 hn h1000
  let x0:Option D:=some (.list (xs.map .int))
  let x1:Option D:=some (.str s0)
  have hs1:evS Φ (.assign2 4 5 (.list (.cons (.cInt 0) .nil)) (.list (.cons (.var 1) .nil))) (start i_law_calls [.list (xs.map .int),.str s0])=some (.next,[x0,x1,none,none,some (.list (absD xs 1)),some (.list (sgsD xs s0 1)),none,none,none,none,none,none,none]):=by
    have e1:evE Φ (.list (.cons (.cInt 0) .nil)) (start i_law_calls [.list (xs.map .int),.str s0])=some (.list [.int 0]):=e_list (es_cons rfl es_nil)
    have e2:evE Φ (.list (.cons (.var 1) .nil)) (start i_law_calls [.list (xs.map .int),.str s0])=some (.list [.str s0]):=e_list (es_cons rfl es_nil)
    exact s_assign2 e1 e2
  obtain ⟨σ1,hl1,y2,e⟩:=forL_inv (body:=evSs Φ b_calls1) (one:=true) (tg:=[2]) (fun i σ=>∃ y2,σ=[x0,x1,y2,none,some (.list (absD xs (i + 1))),some (.list (sgsD xs s0 (i + 1))),none,none,none,none,none,none,none]) (xs.map D.int) 0 _ ⟨none,rfl⟩ (by
    intro k d σ hd hI
    obtain ⟨y2,rfl⟩:=hI
    rw [List.getElem?_map] at hd
    cases hx:xs[k]? with
    | none=>rw [hx] at hd; cases hd
    | some x=>
      rw [hx] at hd
      cases hd
      have hk:=(List.getElem?_eq_some_iff.mp hx).1
      rw [Nat.zero_add]
      exact ⟨_,_,.next,rfl,calls1_step hx (om217 hk hn h1000) x0 x1 none none none none none none none none,fun r=>(fun e=>nomatch e),some (.int x),rfl⟩)
  rw [List.length_map,Nat.zero_add,← hn] at e
  subst e
  have hs2:evS Φ (.assign2 6 7 (.list .nil) (.list (.cons (.tuple (.cons (.cInt 0) (.cons (.list .nil) (.cons (.cBool true) .nil)))) .nil))) [x0,x1,y2,none,some (.list (absD xs n)),some (.list (sgsD xs s0 n)),none,none,none,none,none,none,none]=some (.next,[x0,x1,y2,none,some (.list (absD xs n)),some (.list (sgsD xs s0 n)),some (.list []),some (.list [itemD n xs s0 0]),none,none,none,none,none]):=by
    have e1:evE Φ (.list .nil) [x0,x1,y2,none,some (.list (absD xs n)),some (.list (sgsD xs s0 n)),none,none,none,none,none,none,none]=some (.list []):=e_list es_nil
    have e2:evE Φ (.list (.cons (.tuple (.cons (.cInt 0) (.cons (.list .nil) (.cons (.cBool true) .nil)))) .nil)) [x0,x1,y2,none,some (.list (absD xs n)),some (.list (sgsD xs s0 n)),none,none,none,none,none,none,none]=some (.list [itemD n xs s0 0]):=
      e_list (es_cons (e_tuple (es_cons (d:=.int 0) rfl (es_cons (e_list es_nil) (es_cons (d:=.bool true) rfl es_nil)))) es_nil)
    exact s_assign2 e1 e2
  have hit:evI Φ (.range1 (.bf .len (.var 4))) [x0,x1,y2,none,some (.list (absD xs n)),some (.list (sgsD xs s0 n)),some (.list []),some (.list [itemD n xs s0 0]),none,none,none,none,none]=some (rangeD 0 (n:Int)):=
    i_r1 (e_bf (a:=.list (absD xs n)) rfl (by have:=len_ev (ds:=absD xs n) (by rw [abs_len]; unfold cap; exact om1 h1000); rw [abs_len] at this; exact this)) (rng_ok (by unfold cap; exact om1 h1000))
  obtain ⟨σ2,hl2,y3,z8,z9,z10,z11,e⟩:=forL_inv (body:=evSs Φ b_calls2) (one:=true) (tg:=[3]) (fun i σ=>∃ y3 z8 z9 z10 z11,σ=[x0,x1,y2,y3,some (.list (absD xs n)),some (.list (sgsD xs s0 n)),some (.list ((XB.runT n (abv xs) i).2.map (toldC n xs s0))),some (.list ((XB.runT n (abv xs) i).1.reverse.map (itemD n xs s0))),z8,z9,z10,z11,none]) (rangeD 0 (n:Int)) 0 _ ⟨none,none,none,none,none,rfl⟩ (by
    intro k d σ hd hI
    obtain ⟨y3,z8,z9,z10,z11,rfl⟩:=hI
    rw [range_nat,List.getElem?_map] at hd
    have hk:k < n:=by
      rcases Nat.lt_or_ge k n with q | q
      · exact q
      · rw [List.getElem?_eq_none (by rw [List.length_range]; exact q)] at hd; cases hd
    rw [List.getElem?_range hk] at hd
    cases hd
    rw [Nat.zero_add]
    obtain ⟨j,r,h1,h2⟩:=XB.run_step h0 hab hk
    obtain ⟨I,hl⟩:=XB.run_inv h0 hab k (Nat.le_of_lt hk)
    rw [h1] at I
    have hlen:=XB.nd_len I.nd I.lt
    rw [List.length_append,List.length_cons] at hlen
    rw [h1,h2]
    obtain ⟨y8,y9,y10,y11,hb⟩:=calls2_step (Φ:=Φ) (xs:=xs) (s0:=s0) (n:=n) (k:=j) (r:=r) (V:=(XB.runT n (abv xs) k).2) h1000 h0 (I.lt j (List.mem_append_right _ (.head _))) (om218 hlen) (om219 hk hl) x0 x1 y2 (some (.int (k:Int))) z8 z9 z10 z11 none
    exact ⟨_,_,.next,rfl,hb,fun r=>(fun e=>nomatch e),some (.int (k:Int)),y8,y9,y10,y11,rfl⟩)
  have hrl:(rangeD 0 (n:Int)).length=n:=by rw [range_nat,List.length_map,List.length_range]
  rw [hrl,Nat.zero_add] at e
  subst e
  refine (runF_of (σ':=_) rfl ((ss_next hs1).trans ((ss_next (s_for (i_exp (d:=.list (xs.map .int)) rfl (its_ev hcap)) hl1)).trans ((ss_next hs2).trans ((ss_next (s_for hit hl2)).trans (ss_ret (s_ret (d:=.list ((XB.runT n (abv xs) n).2.map (toldC n xs s0))) rfl))))))).trans ?_
  congr 2
  refine List.ext_getElem? fun i=>?_
  rw [List.getElem?_map,List.getElem?_map]
  show Option.map _ (XB.visit n (abv xs))[i]?=_
  have hvl:=XB.visit_len h0 hab
  rcases Nat.lt_or_ge i n with q | q
  · rw [XB.vt_get h0 hab q,List.getElem?_range (by exact q)]
    simp only [Option.map_some,toldC,callD,Option.some.injEq]
    rw [XB.tree_made h0 hab q,XB.tree_last h0 hab q]
    rfl
  · rw [List.getElem?_eq_none (om220 hvl q),List.getElem?_eq_none (by rw [List.length_range]; exact q)]
    rfl
end
theorem ltb_irr (a:Str):Str.ltb a a=false:=decide_eq_false (List.lt_irrefl _)
theorem ltb_trans {a b c:Str} (h:Str.ltb a b=true) (h':Str.ltb b c=true):Str.ltb a c=true:=decide_eq_true (List.lt_trans (of_decide_eq_true h) (of_decide_eq_true h'))
theorem ltb_asym {a b:Str} (h:Str.ltb a b=true):Str.ltb b a=false:=by
  cases q:Str.ltb b a
  · rfl
  · have:=ltb_trans h q
    rw [ltb_irr] at this; cases this
theorem ltb_tri {a b:Str} (h:a ≠ b):Str.ltb a b=true ∨ Str.ltb b a=true:=by
  by_cases q:a.cps.toList < b.cps.toList
  · exact .inl (decide_eq_true q)
  · by_cases q':b.cps.toList < a.cps.toList
    · exact .inr (decide_eq_true q')
    · exfalso
      have e:=List.le_antisymm (List.not_lt.mp q') (List.not_lt.mp q)
      apply h
      cases a; cases b
      simp only at e
      congr 1
      exact Array.toList_inj.mp e
noncomputable def loW (w:Bool) (x y:List Str):Bool:=if w then ltStrs x y else ltStrs y x
theorem ltStrs_cons (a b:Str) (x y:List Str):ltStrs (a :: x) (b :: y)=if a=b then ltStrs x y else Str.ltb a b:=by
  rw [ltStrs]
  by_cases h:a=b
  · rw [if_pos h,if_pos (by simpa using h)]
  · rw [if_neg h,if_neg (by simpa using h)]
theorem ord_w (w:Bool):XB.Ord (soW w) (loW w) where
  sirr:=fun a=>by cases w <;> exact ltb_irr a
  strans:=fun a b c h h'=>by
    cases w
    · exact ltb_trans (a:=c) (b:=b) (c:=a) h' h
    · exact ltb_trans (a:=a) (b:=b) (c:=c) h h'
  stri:=fun a b h=>by
    cases w
    · exact (ltb_tri h).symm
    · exact ltb_tri h
  cons:=fun a b x y=>by
    cases w
    · show ltStrs (b :: y) (a :: x)=if a=b then ltStrs y x else Str.ltb b a
      rw [ltStrs_cons]
      by_cases h:a=b
      · rw [if_pos h,if_pos h.symm]
      · rw [if_neg h,if_neg fun e=>h e.symm]
    · exact ltStrs_cons a b x y
  nil:=by cases w <;> rfl
  root:=by
    cases w
    · exact .inr fun a x=>⟨rfl,rfl⟩
    · exact .inl fun a x=>⟨rfl,rfl⟩
section
variable {t:XB.Tree Str} {Φ:FEnv} {w:Bool}
theorem calls_at {i:Nat} (h:i < t.n):((List.range t.n).map (callD t))[i]?=some (callD t i):=by rw [List.getElem?_map,List.getElem?_range h]; rfl
theorem lt_strs (a b:List Str):ltD (strsD a) (strsD b)=some (ltStrs a b):=bind_is (map_strsOf a) (map_is (map_strsOf b))
theorem lplace_ev (hn:t.n ≤ 1000) (hok:∀ i,i < t.n→∀ x ∈ t.c i,PyData.strOk x=true) {v:Nat} (hv:v < t.n) :
    runF Φ i_law_place t_law_place 3 [callsD t,.int (v:Int),.int (wayI w)]=some (.int ((((List.range v).countP fun i=>decide (t.c i=t.c v)) + ((List.range t.n).countP fun i=>loW w (t.c i) (t.c v)):Nat):Int)):=by
  let like:List D:=((List.range v).filter fun i=>decide (t.c i=t.c v)).map fun i:Nat=>D.int (i:Int)
  let less:List D:=((List.range t.n).filter fun i=>loW w (t.c i) (t.c v)).map fun i=>strsD (t.c i)
  have e1:∀ (σ:St) {i:Nat},σ.get 0=some (callsD t)→i < t.n→∀ j,σ.get j=some (.int (i:Int))→evE Φ (.sub (.sub (.var 0) (.var j)) (.cInt 1)) σ=some (strsD (t.c i)):=fun σ i h0 hi j hj=>
    e_sub (a:=callD t i) (b:=.int 1) (e_sub (a:=callsD t) (b:=.int (i:Int)) h0 hj (sub_at (calls_at hi) (om4 hi hn))) rfl rfl
  have l1:like.length=(List.range v).countP fun i=>decide (t.c i=t.c v):=by simp only [like]; rw [List.length_map,List.countP_eq_length_filter]
  have l2:less.length=(List.range t.n).countP fun i=>loW w (t.c i) (t.c v):=by simp only [less]; rw [List.length_map,List.countP_eq_length_filter]
  have b1:like.length ≤ 1000:=by
    rw [l1]
    have:=List.countP_le_length (p:=fun i=>decide (t.c i=t.c v)) (l:=List.range v)
    rw [List.length_range] at this
    exact om221 hv hn this
  have b2:less.length ≤ 1000:=by
    rw [l2]
    have:=List.countP_le_length (p:=fun i=>loW w (t.c i) (t.c v)) (l:=List.range t.n)
    rw [List.length_range] at this
    exact om222 hn this
  refine runF_of (σ':=[some (callsD t),some (.int (v:Int)),some (.int (wayI w)),some (strsD (t.c v)),some (.list like),some (.list less),none,none,none,none,none]) rfl ?_
  refine (ss_next (s_assign (e1 _ rfl hv 1 rfl))).trans ?_
  refine (ss_next (σ':=[some (callsD t),some (.int (v:Int)),some (.int (wayI w)),some (strsD (t.c v)),some (.list like),none,none,none,none,none,none]) (s_assign (e_lcomp (i_r1 (j:=(v:Int)) rfl (rng_ok (by unfold cap; exact om47 hv hn))) ?_))).trans ?_
  · rw [range_nat]
    refine compL_of (ι:=Nat) (fun i:Nat=>D.int (i:Int)) (fun i:Nat=>D.int (i:Int)) (fun i=>decide (t.c i=t.c v)) (List.range v) fun i hi=>⟨_,rfl,?_,fun u=>rfl⟩
    have hi':=List.mem_range.mp hi
    rw [c_one]
    refine t_cmp (a:=strsD (t.c i)) (b:=strsD (t.c v)) (e1 _ rfl (Nat.lt_trans hi' hv) 6 rfl) rfl ?_
    refine (eqD_strs (hok i (Nat.lt_trans hi' hv)) (hok v hv)).trans (congrArg some ?_)
    rw [Bool.eq_iff_iff]
    simp only [beq_iff_eq,decide_eq_true_eq]
  refine (ss_next (σ':=[some (callsD t),some (.int (v:Int)),some (.int (wayI w)),some (strsD (t.c v)),some (.list like),some (.list less),none,none,none,none,none]) (s_assign (e_lcomp (i_exp (d:=callsD t) rfl (its_ev (by rw [List.length_map,List.length_range]; unfold cap; exact om1 hn))) ?_))).trans ?_
  · refine compL_of (ι:=Nat) (callD t) (fun i=>strsD (t.c i)) (fun i=>loW w (t.c i) (t.c v)) (List.range t.n) fun i hi=>⟨_,rfl,?_,fun u=>rfl⟩
    rw [c_one,t_ite (t_cmp (a:=.int (wayI w)) rfl rfl (way_eq w))]
    unfold loW
    cases w
    · rw [if_neg Bool.false_ne_true,if_neg Bool.false_ne_true]
      exact t_cmp (a:=strsD (t.c i)) (b:=strsD (t.c v)) rfl rfl (lt_strs _ _)
    · rw [if_pos rfl,if_pos rfl]
      exact t_cmp (a:=strsD (t.c i)) (b:=strsD (t.c v)) rfl rfl (lt_strs _ _)
  refine ss_ret (s_ret (e_bin (e_bf (a:=.list like) rfl (len_ev (by unfold cap; exact om1 b1))) (e_bf (a:=.list less) rfl (len_ev (by unfold cap; exact om1 b2))) ?_))
  rw [l1,l2]
  simp only [evB1,evB2,evB3,evB4,evB5,evB6,evB7,Int.natCast_add]
end
noncomputable def cmpL (w:Bool):List Str→List Str→Int→Int→Int
  | [],[],i,j=>if i < j then -1 else if j < i then 1 else 0
  | a :: x,b :: y,i,j=>if Str.ltb a b then -wayI w else if Str.ltb b a then wayI w else cmpL w x y i j
  | _,_,_,_=>0
noncomputable def rowL (x:List Str) (i:Int):D:=.tuple (x.map .str ++ [.int i])
noncomputable def colsD (deep:Nat) (w:Bool):D:=.list (((List.range deep).map fun k:Nat=>.tuple [.int (k:Int),.int (wayI w)]) ++ [.tuple [.int (deep:Int),.int 1]])
noncomputable def b_cmp:TSs:=(.cons (.assign 5 (.sub (.var 1) (.var 3)))
  (.cons (.assign 6 (.sub (.var 2) (.var 3)))
  (.cons (.ifS (.cmp .lt (.var 5) (.var 6))
  (.cons (.ret (.neg (.var 4)))
  .nil)
  .nil)
  (.cons (.ifS (.cmp .gt (.var 5) (.var 6))
  (.cons (.ret (.var 4))
  .nil)
  .nil)
  .nil))))
theorem cmp_step {Φ:FEnv} {x0 x5 x6:Option D} {l r:List D} {a b:D} {k:Nat} {dir:Int} {c1 c2:Bool} (hk:k ≤ 1000) (hl:l[k]?=some a) (hr:r[k]?=some b) (h1:ltD a b=some c1) (h2:ltD b a=some c2) :
    evSs Φ b_cmp [x0,some (.tuple l),some (.tuple r),some (.int (k:Int)),some (.int dir),x5,x6]=some (if c1 then .ret (.int (-dir)) else if c2 then .ret (.int dir) else .next,[x0,some (.tuple l),some (.tuple r),some (.int (k:Int)),some (.int dir),some a,some b]):=by
  refine (ss_next (s_assign (e_sub (a:=.tuple l) (b:=.int (k:Int)) rfl rfl (tup_at hl (om53 hk))))).trans ?_
  refine (ss_next (s_assign (e_sub (a:=.tuple r) (b:=.int (k:Int)) rfl rfl (tup_at hr (om53 hk))))).trans ?_
  have q1:evT Φ (.cmp .lt (.var 5) (.var 6)) [x0,some (.tuple l),some (.tuple r),some (.int (k:Int)),some (.int dir),some a,some b]=some c1:=t_cmp (a:=a) (b:=b) rfl rfl h1
  have q2:evT Φ (.cmp .gt (.var 5) (.var 6)) [x0,some (.tuple l),some (.tuple r),some (.int (k:Int)),some (.int dir),some a,some b]=some c2:=t_cmp (a:=a) (b:=b) rfl rfl h2
  cases c1 with
  | true=>exact ss_ret ((s_if q1).trans (by rw [if_pos rfl]; exact ss_ret (s_ret rfl)))
  | false=>
    refine (ss_next ((s_if q1).trans (by rw [if_neg Bool.false_ne_true]; rfl))).trans ?_
    cases c2 with
    | true=>exact ss_ret ((s_if q2).trans (by rw [if_pos rfl]; exact ss_ret (s_ret rfl)))
    | false=>exact (ss_next ((s_if q2).trans (by rw [if_neg Bool.false_ne_true]; rfl))).trans rfl
theorem cmp_ev {Φ:FEnv} {w:Bool} {X Y:List Str} {i j:Int} (hl:X.length=Y.length) (hX:X.length ≤ 1000):runF Φ i_compare t_compare 3 [.obj [(Str.ofString "comp_select_list", colsD X.length w)],rowL X i,rowL Y j]=some (.int (cmpL w X Y i j)):=by
  have loop:∀ (x y px py:List Str) (x0 x3 x4 x5 x6:Option D),px ++ x=X→py ++ y=Y→px.length=py.length→
      (∃ σ',forL (evSs Φ b_cmp) false [3,4] (((List.range x.length).map fun k:Nat=>D.tuple [.int ((px.length + k:Nat):Int),.int (wayI w)]) ++ [.tuple [.int ((px.length + x.length:Nat):Int),.int 1]]) [x0,some (rowL X i),some (rowL Y j),x3,x4,x5,x6]=some (.ret (.int (cmpL w x y i j)),σ')) ∨
      (cmpL w x y i j=0∧∃ σ',forL (evSs Φ b_cmp) false [3,4] (((List.range x.length).map fun k:Nat=>D.tuple [.int ((px.length + k:Nat):Int),.int (wayI w)]) ++ [.tuple [.int ((px.length + x.length:Nat):Int),.int 1]]) [x0,some (rowL X i),some (rowL Y j),x3,x4,x5,x6]=some (.next,σ')):=by
    intro x
    induction x with
    | nil=>
      intro y px py x0 x3 x4 x5 x6 e1 e2 e3
      rw [List.append_nil] at e1
      have hy:y=[]:=by
        have:=congrArg List.length e2
        rw [List.length_append,← hl,← e1] at this
        exact List.eq_nil_of_length_eq_zero (om223 this e3)
      subst hy
      rw [List.append_nil] at e2
      subst e1 e2
      have g1:(px.map D.str ++ [D.int i])[px.length]?=some (.int i):=by
        rw [List.getElem?_append_right (by rw [List.length_map]; exact Nat.le.refl),List.length_map,Nat.sub_self]
        rfl
      have g2:(py.map D.str ++ [D.int j])[px.length]?=some (.int j):=by
        rw [e3,List.getElem?_append_right (by rw [List.length_map]; exact Nat.le.refl),List.length_map,Nat.sub_self]
        rfl
      have:=cmp_step (Φ:=Φ) (x0:=x0) (x5:=x5) (x6:=x6) (dir:=1) (c1:=decide (i < j)) (c2:=decide (j < i)) hX g1 g2 rfl rfl
      rw [cmpL]
      by_cases q1:i < j
      · left
        rw [if_pos (decide_eq_true q1)] at this
        rw [if_pos q1]
        exact ⟨_,forL_ret rfl this⟩
      · rw [if_neg (by simpa using q1)] at this
        rw [if_neg q1]
        by_cases q2:j < i
        · left
          rw [if_pos (decide_eq_true q2)] at this
          rw [if_pos q2]
          exact ⟨_,forL_ret rfl this⟩
        · right
          rw [if_neg (by simpa using q2)] at this
          rw [if_neg q2]
          exact ⟨rfl,_,(forL_step rfl this).trans rfl⟩
    | cons a x ih=>
      intro y px py x0 x3 x4 x5 x6 e1 e2 e3
      cases y with
      | nil=>
        have h1:=congrArg List.length e1
        have h2:=congrArg List.length e2
        simp only [List.length_append,List.length_cons,List.length_nil] at h1 h2
        omega
      | cons b y=>
        have g1:(X.map D.str ++ [D.int i])[px.length]?=some (.str a):=by
          rw [← e1,List.map_append,List.append_assoc,List.getElem?_append_right (by rw [List.length_map]; exact Nat.le.refl),List.length_map,Nat.sub_self]
          rfl
        have g2:(Y.map D.str ++ [D.int j])[px.length]?=some (.str b):=by
          rw [← e2,List.map_append,List.append_assoc,List.getElem?_append_right (by rw [List.length_map]; exact om224 e3),List.length_map,e3,Nat.sub_self]
          rfl
        have hpx:px.length ≤ 1000:=by
          have:=congrArg List.length e1
          rw [List.length_append] at this
          exact om225 this hX
        have st:=cmp_step (Φ:=Φ) (x0:=x0) (x5:=x5) (x6:=x6) (dir:=wayI w) (c1:=Str.ltb a b) (c2:=Str.ltb b a) hpx g1 g2 rfl rfl
        have ecols:((List.range (a :: x).length).map fun k:Nat=>D.tuple [.int ((px.length + k:Nat):Int),.int (wayI w)]) ++ [.tuple [.int ((px.length + (a :: x).length:Nat):Int),.int 1]]=
            D.tuple [.int (px.length:Int),.int (wayI w)] :: (((List.range x.length).map fun k:Nat=>D.tuple [.int (((px ++ [a]).length + k:Nat):Int),.int (wayI w)]) ++ [.tuple [.int (((px ++ [a]).length + x.length:Nat):Int),.int 1]]):=by
          rw [List.length_cons,List.range_succ_eq_map,List.map_cons,List.map_map,List.cons_append,Nat.add_zero,List.length_append,List.length_singleton]
          rw [show px.length + (x.length + 1)=px.length + 1 + x.length from om14]
          have em:((List.range x.length).map ((fun k:Nat=>D.tuple [.int ((px.length + k:Nat):Int),.int (wayI w)]) ∘ Nat.succ))=(List.range x.length).map fun k:Nat=>D.tuple [.int ((px.length + 1 + k:Nat):Int),.int (wayI w)]:=List.map_congr_left fun k u=>by
            simp only [Function.comp_apply,Nat.succ_eq_add_one]
            rw [show px.length + (k + 1)=px.length + 1 + k from om14]
          rw [em]
        rw [ecols,cmpL]
        by_cases q1:Str.ltb a b=true
        · left
          rw [if_pos q1] at st ⊢
          exact ⟨_,forL_ret rfl st⟩
        · rw [if_neg q1] at st ⊢
          by_cases q2:Str.ltb b a=true
          · left
            rw [if_pos q2] at st ⊢
            exact ⟨_,forL_ret rfl st⟩
          · rw [if_neg q2] at st ⊢
            rcases ih y (px ++ [a]) (py ++ [b]) x0 (some (.int (px.length:Int))) (some (.int (wayI w))) (some (.str a)) (some (.str b)) (by rw [List.append_assoc]; exact e1) (by rw [List.append_assoc]; exact e2) (by simp [e3]) with ⟨σ',h⟩ | ⟨h0,σ',h⟩
            · exact .inl ⟨σ',(forL_step rfl st).trans h⟩
            · exact .inr ⟨h0,σ',(forL_step rfl st).trans h⟩
  have hit:evI Φ (.exp (.attr (.var 0) (Str.ofString "comp_select_list"))) (start i_compare [.obj [(Str.ofString "comp_select_list", colsD X.length w)],rowL X i,rowL Y j])=some (((List.range X.length).map fun k:Nat=>D.tuple [.int ((([]:List Str).length + k:Nat):Int),.int (wayI w)]) ++ [.tuple [.int ((([]:List Str).length + X.length:Nat):Int),.int 1]]):=by
    have e1:evE Φ (.attr (.var 0) (Str.ofString "comp_select_list")) (start i_compare [.obj [(Str.ofString "comp_select_list", colsD X.length w)],rowL X i,rowL Y j])=some (colsD X.length w):=by
      show (if Str.ofString "comp_select_list"=Str.ofString "comp_select_list" then lookD (Str.ofString "comp_select_list") [(Str.ofString "comp_select_list", colsD X.length w)] else none)=_
      rw [if_pos rfl,lookD,List.find?_cons,beq_self_eq_true]
      rfl
    refine i_exp e1 ?_
    unfold colsD
    simp only [List.length_nil,Nat.zero_add]
    exact its_ev (by rw [List.length_append,List.length_map,List.length_range,List.length_singleton]; unfold cap; exact om5 hX)
  rcases loop X Y [] [] (some (.obj [(Str.ofString "comp_select_list", colsD X.length w)])) none none none none rfl rfl rfl with ⟨σ',h⟩ | ⟨h0,σ',h⟩
  · exact runF_of (σ':=σ') rfl (ss_ret (s_for hit h))
  · rw [h0]
    exact runF_of (σ':=σ') rfl ((ss_next (s_for hit h)).trans (ss_ret (s_ret rfl)))
noncomputable def pad (deep:Nat) (x:List Str):List Str:=x ++ List.replicate (deep - x.length) (Str.ofString "")
theorem ltb_nil {a:Str} (h:a ≠ Str.ofString ""):Str.ltb (Str.ofString "") a=true:=by
  rcases ltb_tri h with q | q
  · exfalso
    have:=of_decide_eq_true q
    have e:(Str.ofString "").cps.toList=[]:=by decide +kernel
    rw [e] at this
    exact absurd this (List.not_lt_nil _)
  · exact q
theorem pad_cmp {w:Bool} {i j:Int}:∀ (deep:Nat) (x y:List Str),x.length ≤ deep→y.length ≤ deep→(∀ a ∈ x,a ≠ Str.ofString "")→(∀ a ∈ y,a ≠ Str.ofString "")→
    (cmpL w (pad deep x) (pad deep y) i j=1 ↔ loW w y x=true ∨ (y=x∧j < i))
  | 0,[],[],_,_,_,_=>by
    show cmpL w [] [] i j=1 ↔ _
    rw [cmpL]
    have hn:loW w [] []=false:=(ord_w w).nil
    rw [hn]
    by_cases q1:i < j
    · rw [if_pos q1]
      constructor
      · intro h; cases h
      · rintro (h | ⟨_,h⟩)
        · cases h
        · exact absurd (Int.lt_trans q1 h) (Int.lt_irrefl _)
    · rw [if_neg q1]
      by_cases q2:j < i
      · rw [if_pos q2]; exact ⟨fun u=>.inr ⟨rfl,q2⟩,fun u=>rfl⟩
      · rw [if_neg q2]
        constructor
        · intro h; cases h
        · rintro (h | ⟨_,h⟩)
          · cases h
          · exact absurd h q2
  | 0,a :: x,_,h,_,_,_=>by simp at h
  | 0,[],b :: y,_,h,_,_=>by simp at h
  | d + 1,[],[],_,_,hx,hy=>by
    have ih:=pad_cmp (w:=w) (i:=i) (j:=j) d [] [] (Nat.zero_le _) (Nat.zero_le _) hx hy
    have e:pad (d + 1) []=Str.ofString "" :: pad d []:=rfl
    rw [e,cmpL,ltb_irr,if_neg Bool.false_ne_true,if_neg Bool.false_ne_true]
    exact ih
  | d + 1,[],b :: y,_,h2,hx,hy=>by
    have e:pad (d + 1) []=Str.ofString "" :: pad d []:=rfl
    have e2:pad (d + 1) (b :: y)=b :: pad d y:=by
      unfold pad
      rw [List.length_cons,show d + 1 - (y.length + 1)=d - y.length from om26]
      rfl
    rw [e,e2,cmpL,if_pos (ltb_nil (hy b (.head _)))]
    cases w
    · exact ⟨fun u=>.inl rfl,fun u=>rfl⟩
    · constructor
      · intro h; cases h
      · rintro (h | ⟨h,_⟩) <;> cases h
  | d + 1,a :: x,[],h1,_,hx,hy=>by
    have e:pad (d + 1) []=Str.ofString "" :: pad d []:=rfl
    have e2:pad (d + 1) (a :: x)=a :: pad d x:=by
      unfold pad
      rw [List.length_cons,show d + 1 - (x.length + 1)=d - x.length from om26]
      rfl
    have q:=ltb_nil (hx a (.head _))
    rw [e,e2,cmpL,ltb_asym q,if_neg Bool.false_ne_true,if_pos q]
    cases w
    · constructor
      · intro h; cases h
      · rintro (h | ⟨h,_⟩) <;> cases h
    · exact ⟨fun u=>.inl rfl,fun u=>rfl⟩
  | d + 1,a :: x,b :: y,h1,h2,hx,hy=>by
    have ex:∀ (a:Str) (x:List Str),pad (d + 1) (a :: x)=a :: pad d x:=fun a x=>by
      unfold pad
      rw [List.length_cons,show d + 1 - (x.length + 1)=d - x.length from om26]
      rfl
    rw [List.length_cons] at h1 h2
    have ih:=pad_cmp (w:=w) (i:=i) (j:=j) d x y (om54 h1) (om54 h2) (fun c hc=>hx c (.tail _ hc)) fun c hc=>hy c (.tail _ hc)
    rw [ex,ex,cmpL,(ord_w w).cons]
    by_cases q:a=b
    · subst q
      rw [ltb_irr,if_neg Bool.false_ne_true,if_neg Bool.false_ne_true,if_pos rfl,ih]
      constructor
      · rintro (h | ⟨h,h'⟩)
        · exact .inl h
        · exact .inr ⟨by rw [h],h'⟩
      · rintro (h | ⟨h,h'⟩)
        · exact .inl h
        · exact .inr ⟨(List.cons.inj h).2,h'⟩
    · have hso:(if b=a then loW w y x else soW w b a)=soW w b a:=if_neg fun e=>q e.symm
      rw [hso]
      have hne:∀ P:Prop,(b :: y=a :: x∧P) ↔ False:=fun P=>⟨fun h=>q (List.cons.inj h.1).1.symm,False.elim⟩
      rw [hne,or_false]
      rcases ltb_tri q with z | z
      · rw [if_pos z]
        cases w
        · exact ⟨fun u=>z,fun u=>rfl⟩
        · constructor
          · intro h; cases h
          · intro h
            have h':Str.ltb b a=true:=h
            rw [ltb_asym z] at h'; cases h'
      · rw [ltb_asym z,if_neg Bool.false_ne_true,if_pos z]
        cases w
        · constructor
          · intro h; cases h
          · intro h
            have h':Str.ltb a b=true:=h
            rw [ltb_asym z] at h'; cases h'
        · exact ⟨fun u=>z,fun u=>rfl⟩
theorem intsOf_map:∀ xs:List Int,intsOf (xs.map .int)=some xs
  | []=>rfl
  | x :: xs=>congrArg (Option.map (x :: ·)) (intsOf_map xs)
theorem max_nat:∀ (l:List Nat) (x:Nat),(l.map fun k:Nat=>(k:Int)).foldl max (x:Int)=((l.foldl max x:Nat):Int)
  | [],x=>rfl
  | a :: l,x=>by
    rw [List.map_cons,List.foldl_cons,List.foldl_cons,← max_nat l,show max (x:Int) (a:Int)=((max x a:Nat):Int) from om228]
theorem max_ge:∀ (l:List Nat) (x:Nat),x ≤ l.foldl max x∧∀ a ∈ l,a ≤ l.foldl max x
  | [],x=>⟨Nat.le_refl _,fun a h=>by cases h⟩
  | b :: l,x=>by
    obtain ⟨h1,h2⟩:=max_ge l (max x b)
    rw [List.foldl_cons]
    refine ⟨om229 h1,fun a h=>?_⟩
    rcases List.mem_cons.mp h with q | q
    · exact om230 q h1
    · exact h2 a q
theorem max_le {m:Nat}:∀ (l:List Nat) (x:Nat),x ≤ m→(∀ a ∈ l,a ≤ m)→l.foldl max x ≤ m
  | [],x,h,_=>h
  | b :: l,x,h,h'=>by
    rw [List.foldl_cons]
    have:=h' b (.head _)
    exact max_le l _ (om46 h this) fun a ha=>h' a (.tail _ ha)
section
variable {t:XB.Tree Str} {Φ:FEnv} {w:Bool}
noncomputable def deepN (t:XB.Tree Str):Nat:=((List.range t.n).map fun i=>(t.c i).length).foldl max 0
noncomputable def rowD (t:XB.Tree Str) (i:Nat):D:=rowL (pad (deepN t) (t.c i)) (i:Int)
noncomputable def keysD (t:XB.Tree Str) (w:Bool):D:=.obj [(Str.ofString "comp_select_list", colsD (deepN t) w)]
theorem deep_ge {i:Nat} (h:i < t.n):(t.c i).length ≤ deepN t:=(max_ge _ 0).2 _ (List.mem_map_of_mem (List.mem_range.mpr h))
theorem pad_len {d:Nat} {x:List Str} (h:x.length ≤ d):(pad d x).length=d:=by
  unfold pad
  rw [List.length_append,List.length_replicate]
  exact om15 h
noncomputable def b_sort:TSs:=(.cons (.assign 6 (.sub (.sub (.var 0) (.var 5)) (.cInt 1)))
  (.cons (.assign 7 (.bf .tuple (.bin .add (.bin .add (.var 6) (.bin .mul (.list (.cons (.cStr (Str.ofString "")) .nil)) (.bin .sub (.var 2) (.bf .len (.var 6))))) (.list (.cons (.var 5) .nil)))))
  (.cons (.assign 8 (.mt .count (.lcomp (.mt .compare (.var 3) (.cons (.var 7) (.cons (.var 13) .nil))) [13] true (.exp (.var 4)) .nil) (.cons (.cInt 1) .nil)))
  (.cons (.assign 4 (.bin .add (.bin .add (.slice (.var 4) .cNone (.var 8) .cNone) (.list (.cons (.var 7) .nil))) (.slice (.var 4) (.var 8) .cNone .cNone)))
  .nil))))
noncomputable def CmpOK (Φ:FEnv) (w:Bool):Prop:=∀ (X Y:List Str) (i j:Int),X.length=Y.length→X.length ≤ 1000→Φ (Str.ofString "compare") [.obj [(Str.ofString "comp_select_list", colsD X.length w)],rowL X i,rowL Y j]=some (.int (cmpL w X Y i j))
theorem sort_step (hc:CmpOK Φ w) (hn:t.n ≤ 100) (hd:deepN t ≤ 100) (hne:∀ i,i < t.n→∀ a ∈ t.c i,a ≠ Str.ofString "") {p:Nat} (hp:p < t.n) {l:List Nat} (hl:∀ r ∈ l,r < t.n) (hll:l.length < t.n) (x6 x7 x8:Option D) :
    ∃ y6 y7 y8,evSs Φ b_sort [some (callsD t),some (.int (wayI w)),some (.int (deepN t:Int)),some (keysD t w),some (.list (l.map (rowD t))),some (.int (p:Int)),x6,x7,x8,none,none,none,none,none]=
      some (.next,[some (callsD t),some (.int (wayI w)),some (.int (deepN t:Int)),some (keysD t w),some (.list ((XB.insP t (loW w) l p).map (rowD t))),some (.int (p:Int)),y6,y7,y8,none,none,none,none,none]):=by
  have hdp:=deep_ge hp
  let told:=l.countP fun r=>XB.precB t (loW w) r p
  have htl:told ≤ l.length:=List.countP_le_length
  refine ⟨some (strsD (t.c p)),some (rowD t p),some (.int (told:Int)),?_⟩
  refine (ss_next (s_assign (e_sub (a:=callD t p) (b:=.int 1) (e_sub (a:=callsD t) (b:=.int (p:Int)) rfl rfl (sub_at (calls_at hp) (om231 hp hn))) rfl (d:=strsD (t.c p)) rfl))).trans ?_
  refine (ss_next (s_assign (d:=rowD t p) (e_bf (a:=.list ((pad (deepN t) (t.c p)).map .str ++ [.int (p:Int)])) (e_bin (a:=.list ((pad (deepN t) (t.c p)).map .str)) (b:=.list [.int (p:Int)]) (e_bin (a:=strsD (t.c p)) (b:=.list (List.replicate (deepN t - (t.c p).length) (.str (Str.ofString "")))) rfl
      (e_bin (a:=.list [.str (Str.ofString "")]) (b:=.int ((deepN t - (t.c p).length:Nat):Int)) (e_list (es_cons rfl es_nil)) (e_bin (a:=.int (deepN t:Int)) (b:=.int ((t.c p).length:Int)) rfl (e_bf (a:=strsD (t.c p)) rfl (by have:=len_ev (ds:=(t.c p).map .str) (by rw [List.length_map]; unfold cap; exact om232 hd hdp); rw [List.length_map] at this; exact this)) ?_) ?_) ?_) (e_list (es_cons rfl es_nil)) ?_) ?_))).trans ?_
  · simp only [evB1,evB2,evB3,evB4,evB5,evB6,evB7,Option.some.injEq,D.int.injEq]
    exact om233 hdp
  · simp only [evB1,evB2,evB3,evB4,evB5,evB6,evB7,Int.natAbs_natCast,Int.toNat_natCast,List.length_singleton]
    rw [if_pos (by simp only [Bool.and_eq_true,decide_eq_true_eq]; exact om234 hd)]
    simp only [Option.some.injEq,D.list.injEq]
    exact List.flatten_replicate_singleton
  · unfold strsD pad
    simp only [evB1,evB2,evB3,evB4,evB5,evB6,evB7,List.length_map,List.length_replicate]
    rw [if_pos (by unfold cap; exact om235 hd hdp),List.map_append,List.map_replicate]
  · simp only [evB1,evB2,evB3,evB4,evB5,evB6,evB7,List.length_map,List.length_singleton,pad_len hdp]
    rw [if_pos (by unfold cap; exact om9 hd)]
  · refine if_pos ?_
    rw [List.length_append,List.length_map,List.length_singleton,pad_len hdp]
    unfold cap
    exact om9 hd
  refine (ss_next (s_assign (d:=.int (told:Int)) (e_mt (a:=.list (l.map fun r:Nat=>D.int (cmpL w (pad (deepN t) (t.c p)) (pad (deepN t) (t.c r)) (p:Int) (r:Int)))) (ds:=[.int 1]) (e_lcomp (i_exp (d:=.list (l.map (rowD t))) rfl (its_ev (by rw [List.length_map]; unfold cap; exact om55 hll hn))) ?_) (es_cons rfl es_nil) ?_))).trans ?_
  · refine compL_all (ι:=Nat) (rowD t) (fun r:Nat=>D.int (cmpL w (pad (deepN t) (t.c p)) (pad (deepN t) (t.c r)) (p:Int) (r:Int))) l fun r hr=>⟨_,rfl,?_⟩
    refine e_mt (a:=keysD t w) (ds:=[rowD t p,rowD t r]) rfl (es_cons rfl (es_cons rfl es_nil)) ?_
    have:=hc (pad (deepN t) (t.c p)) (pad (deepN t) (t.c r)) (p:Int) (r:Int) (by rw [pad_len hdp,pad_len (deep_ge (hl r hr))]) (by rw [pad_len hdp]; exact om3 hd)
    rw [pad_len hdp] at this
    exact this
  · have e:(l.map fun r:Nat=>D.int (cmpL w (pad (deepN t) (t.c p)) (pad (deepN t) (t.c r)) (p:Int) (r:Int)))=(l.map fun r:Nat=>cmpL w (pad (deepN t) (t.c p)) (pad (deepN t) (t.c r)) (p:Int) (r:Int)).map .int:=by rw [List.map_map]; rfl
    rw [e]
    refine (map_is (map_is (intsOf_map _))).trans (congrArg (fun n:Nat=>some (D.int (n:Int))) ?_)
    show List.count _ _=List.countP _ _
    rw [List.count,List.countP_map]
    refine List.countP_congr fun r hr=>?_
    have hk:=pad_cmp (w:=w) (i:=(p:Int)) (j:=(r:Int)) (deepN t) (t.c p) (t.c r) hdp (deep_ge (hl r hr)) (hne p hp) (hne r (hl r hr))
    unfold XB.precB
    simp only [Function.comp_apply,beq_iff_eq,Bool.or_eq_true,Bool.and_eq_true,decide_eq_true_eq]
    rw [hk]
    constructor
    · rintro (h | ⟨h,h'⟩)
      · exact .inl h
      · exact .inr ⟨h,om236 h'⟩
    · rintro (h | ⟨h,h'⟩)
      · exact .inl h
      · exact .inr ⟨h,om237 h'⟩
  have hlm:(l.map (rowD t)).length ≤ cap:=by rw [List.length_map]; unfold cap; exact om55 hll hn
  refine (ss_next (s_assign (d:=.list ((XB.insP t (loW w) l p).map (rowD t))) (e_bin (a:=.list ((l.take told ++ [p]).map (rowD t))) (b:=.list ((l.drop told).map (rowD t))) (e_bin (a:=.list ((l.take told).map (rowD t))) (b:=.list [rowD t p]) (e_slice (a:=.list (l.map (rowD t))) (b:=.none) (c:=.int (told:Int)) (d:=.none) rfl rfl rfl rfl ?_) (e_list (es_cons rfl es_nil)) ?_) (e_slice (a:=.list (l.map (rowD t))) (b:=.int (told:Int)) (c:=.none) (d:=.none) rfl rfl rfl rfl ?_) ?_))).trans rfl
  · show evSlice (.list _) _ _ _=_
    rw [evSlB,if_pos ⟨by simp,hlm⟩,sliceL_upto,List.map_take]
  · simp only [evB1,evB2,evB3,evB4,evB5,evB6,evB7,List.length_map,List.length_take,List.length_singleton]
    rw [if_pos (by unfold cap; exact om238 hll hn),List.map_append]
    rfl
  · show evSlice (.list _) _ _ _=_
    rw [evSlA,if_pos ⟨by simp,hlm⟩,sliceL_from,List.map_drop]
  · simp only [evB1,evB2,evB3,evB4,evB5,evB6,evB7,List.length_map,List.length_append,List.length_take,List.length_drop,List.length_singleton]
    rw [if_pos (by unfold cap; exact om239 hll hn),← List.map_append]
    rfl
theorem sorted_ev (hc:CmpOK Φ w) (hn:t.n ≤ 100) (h0:0 < t.n) (hdl:∀ i,i < t.n→(t.c i).length ≤ 100) (hne:∀ i,i < t.n→∀ a ∈ t.c i,a ≠ Str.ofString "") :
    runF Φ i_law_sorted t_law_sorted 2 [callsD t,.int (wayI w)]=some (.list ((XB.sortN t (loW w) t.n).map fun i:Nat=>.int (i:Int))):=by
  have hd:deepN t ≤ 100:=max_le _ 0 (Nat.zero_le _) fun a ha=>by
    obtain ⟨i,hi,rfl⟩:=List.mem_map.mp ha
    exact hdl i (List.mem_range.mp hi)
  have hcl:((List.range t.n).map (callD t)).length=t.n:=by rw [List.length_map,List.length_range]
  have hcc:((List.range t.n).map (callD t)).length ≤ cap:=by rw [hcl]; unfold cap; exact om2 hn
  have ps:∀ k,k ≤ t.n→(∀ r ∈ XB.sortN t (loW w) k,r < k)∧(XB.sortN t (loW w) k).length=k:=fun k u=>by
    have h:=(XB.sort_ok (t:=t) (ord_w w) k).1
    refine ⟨fun r hr=>List.mem_range.mp (h.mem_iff.mp hr),by rw [h.length_eq,List.length_range]⟩
  have h1:evE Φ (.bf .max (.lcomp (.bf .len (.var 6)) [9,6,10,11] false (.exp (.var 0)) .nil)) (start i_law_sorted [callsD t,.int (wayI w)])=some (.int (deepN t:Int)):=by
    refine e_bf (a:=.list ((List.range t.n).map fun i:Nat=>D.int ((t.c i).length:Int))) (e_lcomp (i_exp (d:=callsD t) rfl (its_ev hcc)) ?_) ?_
    · refine compL_all (ι:=Nat) (callD t) (fun i:Nat=>D.int ((t.c i).length:Int)) (List.range t.n) fun i hi=>⟨_,rfl,?_⟩
      refine e_bf (a:=strsD (t.c i)) rfl ?_
      have:=len_ev (ds:=(t.c i).map .str) (by rw [List.length_map]; have:=hdl i (List.mem_range.mp hi); unfold cap; exact om2 this)
      rw [List.length_map] at this
      exact this
    · have e:((List.range t.n).map fun i:Nat=>D.int ((t.c i).length:Int))=(((List.range t.n).map fun i=>(t.c i).length).map fun k:Nat=>(k:Int)).map .int:=by rw [List.map_map,List.map_map]; rfl
      rw [e]
      refine (bind_is (intsOf_map _) rfl).trans ?_
      unfold deepN
      obtain ⟨m,hm⟩:∃ m,t.n=m + 1:=⟨t.n - 1,om22 h0⟩
      rw [hm,List.range_succ_eq_map]
      simp only [List.map_cons,List.foldl_cons]
      show some (D.int (List.foldl max (((t.c 0).length:Nat):Int) (List.map (fun k:Nat=>(k:Int)) _)))=_
      rw [max_nat,Nat.zero_max]
  have h2:evE Φ (.cls (.bin .add (.lcomp (.tuple (.cons (.var 12) (.cons (.var 1) .nil))) [12] true (.range1 (.var 2)) .nil) (.list (.cons (.tuple (.cons (.var 2) (.cons (.cInt 1) .nil))) .nil)))) [some (callsD t),some (.int (wayI w)),some (.int (deepN t:Int)),none,none,none,none,none,none,none,none,none,none,none]=some (keysD t w):=by
    refine e_cls (e_bin (a:=.list ((List.range (deepN t)).map fun k:Nat=>.tuple [.int (k:Int),.int (wayI w)])) (b:=.list [.tuple [.int (deepN t:Int),.int 1]]) (e_lcomp (i_r1 (j:=(deepN t:Int)) rfl (rng_ok (by unfold cap; exact om2 hd))) ?_) (e_list (es_cons (e_tuple (es_cons rfl (es_cons (d:=.int 1) rfl es_nil))) es_nil)) ?_)
    · rw [range_nat]
      exact compL_all (ι:=Nat) (fun k:Nat=>D.int (k:Int)) (fun k:Nat=>.tuple [.int (k:Int),.int (wayI w)]) (List.range (deepN t)) fun k hk=>⟨_,rfl,e_tuple (es_cons rfl (es_cons rfl es_nil))⟩
    · simp only [evB1,evB2,evB3,evB4,evB5,evB6,evB7,List.length_map,List.length_range,List.length_singleton]
      rw [if_pos (by unfold cap; exact om9 hd)]
      rfl
  have hit:evI Φ (.range1 (.bf .len (.var 0))) [some (callsD t),some (.int (wayI w)),some (.int (deepN t:Int)),some (keysD t w),some (.list []),none,none,none,none,none,none,none,none,none]=some (rangeD 0 (t.n:Int)):=
    i_r1 (e_bf (a:=callsD t) rfl (by have:=len_ev hcc; rw [hcl] at this; exact this)) (rng_ok (by unfold cap; exact om2 hn))
  obtain ⟨σ',hl,x5,x6,x7,x8,e⟩:=forL_inv (body:=evSs Φ b_sort) (one:=true) (tg:=[5]) (fun i σ=>∃ x5 x6 x7 x8,σ=[some (callsD t),some (.int (wayI w)),some (.int (deepN t:Int)),some (keysD t w),some (.list ((XB.sortN t (loW w) i).map (rowD t))),x5,x6,x7,x8,none,none,none,none,none]) (rangeD 0 (t.n:Int)) 0 _ ⟨none,none,none,none,rfl⟩ (by
    intro k d σ hd' hI
    obtain ⟨x5,x6,x7,x8,rfl⟩:=hI
    rw [range_nat,List.getElem?_map] at hd'
    have hk:k < t.n:=by
      rcases Nat.lt_or_ge k t.n with q | q
      · exact q
      · rw [List.getElem?_eq_none (by rw [List.length_range]; exact q)] at hd'; cases hd'
    rw [List.getElem?_range hk] at hd'
    cases hd'
    rw [Nat.zero_add]
    have hs:XB.sortN t (loW w) (k + 1)=XB.insP t (loW w) (XB.sortN t (loW w) k) k:=by
      unfold XB.sortN
      rw [List.range_succ,List.foldl_append]
      rfl
    rw [hs]
    obtain ⟨p1,p2⟩:=ps k (Nat.le_of_lt hk)
    obtain ⟨y6,y7,y8,hb⟩:=sort_step (Φ:=Φ) hc hn hd hne hk (l:=XB.sortN t (loW w) k) (fun r hr=>by have:=p1 r hr; exact Nat.lt_trans this hk) (om16 hk p2) x6 x7 x8
    exact ⟨_,_,.next,rfl,hb,fun r=>(fun e=>nomatch e),some (.int (k:Int)),y6,y7,y8,rfl⟩)
  have hrl:(rangeD 0 (t.n:Int)).length=t.n:=by rw [range_nat,List.length_map,List.length_range]
  rw [hrl,Nat.zero_add] at e
  subst e
  obtain ⟨p1,p2⟩:=ps t.n (Nat.le_refl _)
  refine runF_of (σ':=_) rfl ((ss_next (s_assign h1)).trans ((ss_next (s_assign h2)).trans ((ss_next (s_assign (e_list es_nil))).trans ((ss_next (s_for hit hl)).trans (ss_ret (s_ret (e_lcomp (i_exp (d:=.list ((XB.sortN t (loW w) t.n).map (rowD t))) rfl (its_ev (by rw [List.length_map]; unfold cap; exact om56 p2 hn))) ?_)))))))
  refine compL_all (ι:=Nat) (rowD t) (fun i:Nat=>D.int (i:Int)) (XB.sortN t (loW w) t.n) fun i hi=>⟨_,rfl,?_⟩
  refine e_sub (a:=rowD t i) (b:=.int (deepN t:Int)) rfl rfl (tup_at ?_ (om240 hd))
  have hpl:=pad_len (deep_ge (t:=t) (p1 i hi))
  rw [List.getElem?_append_right (by rw [List.length_map]; exact om19 hpl),List.length_map,hpl,Nat.sub_self]
  rfl
end
noncomputable def cl (s:Str):List Nat:=s.cps.toList
theorem cl_inj {a b:Str} (h:cl a=cl b):a=b:=by
  cases a; cases b
  congr 1
  exact Array.toList_inj.mp h
theorem cl_app (a b:Str):cl (a ++ b)=cl a ++ cl b:=KAf.app_list a b
theorem cl_join (d:Nat) (sep:Str) (hs:cl sep=[d]):∀ xs:List Str,cl (Txt.join sep xs)=XB.glue d (xs.map cl):=by
  intro xs
  show cl (Builtin.Str.glued sep xs)=_
  rw [StrLaws.glued_eq_join]
  induction xs with
  | nil=>rfl
  | cons x xs ih=>
    cases xs with
    | nil=>rfl
    | cons y r=>
      show cl (x ++ sep ++ Str.join sep (y :: r))=_
      rw [cl_app,cl_app,hs,ih,List.append_assoc]
      rfl
theorem starts_iff (x y:Str):Txt.startswith x y=true ↔ cl y <+: cl x:=by
  unfold Txt.startswith
  have ly:(cl y).length=y.length:=Array.length_toList
  have lx:(cl x).length=x.length:=Array.length_toList
  rw [Bool.and_eq_true,StrLaws.subAt_eq,List.drop_zero,decide_eq_true_eq,beq_iff_eq,List.prefix_iff_eq_take,ly]
  constructor
  · rintro ⟨_,h⟩; exact h.symm
  · intro h
    refine ⟨?_,h.symm⟩
    have:=congrArg List.length h
    rw [ly,List.length_take,lx] at this
    exact om241 this
theorem pre_map {P c:List Str}:P.map cl <+: c.map cl ↔ P <+: c:=by
  constructor
  · rintro ⟨t,ht⟩
    have:=List.prefix_iff_eq_take.mp ⟨t,ht⟩
    rw [List.length_map,← List.map_take] at this
    refine List.prefix_iff_eq_take.mpr ?_
    have inj:∀ a b:List Str,a.map cl=b.map cl→a=b:=by
      intro a
      induction a with
      | nil=>intro b h; cases b with
        | nil=>rfl
        | cons y b=>simp at h
      | cons x a ih=>intro b h; cases b with
        | nil=>simp at h
        | cons y b=>
          simp only [List.map_cons,List.cons.injEq] at h
          rw [cl_inj h.1,ih b h.2]
    exact inj _ _ this
  · rintro ⟨t,rfl⟩
    exact ⟨t.map cl,(List.map_append).symm⟩
noncomputable def isSg (s:Str):Prop:=s ∈ sign3
theorem sg_dot {s:Str} (h:isSg s):(46 ∉ cl s∧cl s ≠ [])∧(47 ∉ cl s∧cl s ≠ [])∧PyData.strOk s=true∧s ≠ Str.ofString ""∧cl s ≠ cl (Str.ofString "f.py")∧s.length ≤ 2:=by
  have h':s=Str.ofString "a" ∨ s=Str.ofString "ab" ∨ s=Str.ofString "b":=by simpa [isSg,sign3] using h
  rcases h' with rfl | rfl | rfl <;> decide +kernel
theorem sgs_cl {P:List Str} (h:∀ s ∈ P,isSg s):(∀ x ∈ P.map cl,46 ∉ x∧x ≠ [])∧(∀ x ∈ P.map cl,47 ∉ x∧x ≠ []):=by
  refine ⟨fun x hx=>?_,fun x hx=>?_⟩
  · obtain ⟨s,hs,rfl⟩:=List.mem_map.mp hx
    exact (sg_dot (h s hs)).1
  · obtain ⟨s,hs,rfl⟩:=List.mem_map.mp hx
    exact (sg_dot (h s hs)).2.1
noncomputable def dueI (P c:List Str):Int:=if c.take P.length == P then 1 else 0
theorem due_one {P c:List Str} (h:P <+: c):dueI P c=1:=by
  unfold dueI
  rw [if_pos]
  rw [beq_iff_eq]
  exact (List.prefix_iff_eq_take.mp h).symm
theorem due_zero {P c:List Str} (h:¬ P <+: c):dueI P c=0:=by
  unfold dueI
  rw [if_neg]
  rw [beq_iff_eq]
  exact fun e=>h (List.prefix_iff_eq_take.mpr e.symm)
theorem dot_cl:cl (Str.ofString ".")=[46]:=by decide +kernel
theorem sl_cl:cl (Str.ofString "/")=[47]:=by decide +kernel
theorem nmR_mods {P c:List Str} (hP:P ≠ []) (h1:∀ s ∈ P,isSg s) (h2:∀ s ∈ c,isSg s) {f:Str}:nmR (some (Txt.join (Str.ofString ".") P)) none (some f) (mnm c)=dueI P c:=by
  have key:=XB.glue_pre (d:=46) (P:=P.map cl) (c:=c.map cl) (by simpa using hP) (sgs_cl h1).1 (sgs_cl h2).1
  rw [pre_map] at key
  have e1:(some (Txt.join (Str.ofString ".") P) == some (mnm c))=true ↔ XB.glue 46 (P.map cl)=XB.glue 46 (c.map cl):=by
    rw [beq_iff_eq,Option.some.injEq]
    unfold mnm
    rw [← cl_join 46 _ dot_cl,← cl_join 46 _ dot_cl]
    exact ⟨fun e=>by rw [e],cl_inj⟩
  have e2:((some (Txt.join (Str.ofString ".") P)).any fun m=>Txt.startswith (mnm c) (m ++ Str.ofString "."))=true ↔ XB.glue 46 (P.map cl) ++ [46] <+: XB.glue 46 (c.map cl):=by
    rw [Option.any_some,starts_iff,cl_app,dot_cl]
    unfold mnm
    rw [cl_join 46 _ dot_cl,cl_join 46 _ dot_cl]
  unfold nmR
  by_cases q:P <+: c
  · rw [due_one q]
    rcases key.mpr q with z | z
    · rw [if_pos (e1.mpr z)]
    · split
      · rfl
      · rw [if_pos (e2.mpr z)]
  · rw [due_zero q,if_neg (fun z=>q (key.mp (.inl (e1.mp z)))),if_neg (fun z=>q (key.mp (.inr (e2.mp z))))]
    rfl
theorem nmR_dirs {P c:List Str} (hP:P ≠ []) (h1:∀ s ∈ P,isSg s) (h2:∀ s ∈ c,isSg s):nmR none (some (Str.ofString "/" ++ Txt.join (Str.ofString "/") P)) (fn1 c) (mnm c)=dueI P c:=by
  have hfP:cl (Str.ofString "f.py") ∉ P.map cl:=fun h=>by
    obtain ⟨s,hs,e⟩:=List.mem_map.mp h
    exact (sg_dot (h1 s hs)).2.2.2.2.1 e
  have key:=XB.glue_file (d:=47) (P:=P.map cl) (c:=c.map cl) (f:=cl (Str.ofString "f.py")) (by simpa using hP) (sgs_cl h1).2 (sgs_cl h2).2 ⟨by decide +kernel,hfP⟩
  rw [pre_map] at key
  have e2:((some (Str.ofString "/" ++ Txt.join (Str.ofString "/") P)).any fun d=>Txt.startswith (Str.ofString "/" ++ Txt.join (Str.ofString "/") (c ++ [Str.ofString "f.py"])) (d ++ Str.ofString "/"))=true ↔ P <+: c:=by
    rw [Option.any_some,starts_iff,cl_app,cl_app,cl_app,sl_cl,cl_join 47 _ sl_cl,cl_join 47 _ sl_cl,List.map_append,← key,List.append_assoc,List.singleton_append,List.singleton_append,List.cons_prefix_cons]
    simp
  unfold nmR fn1
  rw [if_neg (by simp),if_neg (by simp)]
  simp only
  by_cases q:P <+: c
  · rw [if_pos (e2.mpr q),due_one q]
  · rw [if_neg (fun z=>q (e2.mp z)),due_zero q]
theorem look_some {k:Str} {v:Int}:∀ {T:List (Str × Int)},lookI k T=some v→(k,v) ∈ T
  | [],h=>by cases h
  | p :: T,h=>by
    unfold lookI at h
    rw [List.find?_cons] at h
    cases q:p.1 == k with
    | true=>
      rw [q] at h
      simp only [Option.map_some,Option.some.injEq] at h
      rw [← beq_iff_eq.mp q,← h]
      exact .head _
    | false=>
      rw [q] at h
      exact .tail _ (look_some h)
theorem look_app {k:Str} {T U:List (Str × Int)}:lookI k (T ++ U)=(lookI k T).or (lookI k U):=by
  unfold lookI
  rw [List.find?_append]
  cases T.find? fun p=>p.1 == k <;> rfl
section
variable {mods dirs:Option Str} {P:List Str} {rows:List (List Str)}
noncomputable def good (P:List Str) (rows:List (List Str)) (T:List (Str × Int)):Prop:=∀ p ∈ T,p=(Str.ofString "<string>", 1) ∨ ∃ c ∈ rows,p=(mnm c,dueI P c)
theorem str_ne {c:List Str} (h:∀ s ∈ c,isSg s):mnm c ≠ Str.ofString "<string>":=fun e=>by
  have e':=congrArg cl e
  unfold mnm at e'
  rw [cl_join 46 _ dot_cl] at e'
  have h60:(60:Nat) ∈ XB.glue 46 (c.map cl):=by rw [e']; decide +kernel
  have key:∀ xs:List (List Nat),(∀ x ∈ xs,60 ∉ x)→60 ∉ XB.glue 46 xs:=by
    intro xs
    induction xs with
    | nil=>intro _ h; cases h
    | cons x xs ih=>
      intro h hm
      cases xs with
      | nil=>exact h x (.head _) hm
      | cons y r=>
        rw [XB.glue] at hm
        rcases List.mem_append.mp hm with q | q
        · exact h x (.head _) q
        · rcases List.mem_cons.mp q with q | q
          · cases q
          · exact ih (fun z hz=>h z (.tail _ hz)) q
  refine key _ (fun x hx=>?_) h60
  obtain ⟨s,hs,rfl⟩:=List.mem_map.mp hx
  have h':s=Str.ofString "a" ∨ s=Str.ofString "ab" ∨ s=Str.ofString "b":=by simpa [isSg,sign3] using h s hs
  rcases h' with rfl | rfl | rfl <;> decide +kernel
theorem mnm_inj {c c':List Str} (h:∀ s ∈ c,isSg s) (h':∀ s ∈ c',isSg s) (e:mnm c=mnm c'):c=c':=by
  have e':=congrArg cl e
  unfold mnm at e'
  rw [cl_join 46 _ dot_cl,cl_join 46 _ dot_cl] at e'
  have:=XB.glue_inj (sgs_cl h).1 (sgs_cl h').1 e'
  have p1:c <+: c':=pre_map.mp (by rw [this]; exact List.prefix_refl _)
  have p2:c' <+: c:=pre_map.mp (by rw [this]; exact List.prefix_refl _)
  exact p1.eq_of_length (Nat.le_antisymm p1.length_le p2.length_le)
theorem good_look {T:List (Str × Int)} (hr:∀ c ∈ rows,∀ s ∈ c,isSg s) (h:good P rows T) {c:List Str} (hc:c ∈ rows) {v:Int} (e:lookI (mnm c) T=some v):v=dueI P c:=by
  rcases h _ (look_some e) with q | ⟨c',hc',q⟩
  · exact absurd (congrArg Prod.fst q) (str_ne (hr c hc))
  · have e1:mnm c=mnm c':=congrArg Prod.fst q
    rw [mnm_inj (hr c hc) (hr c' hc') e1]
    exact congrArg Prod.snd q
theorem row_mem {i:Nat} (h:i < rows.length):rows.getD i [] ∈ rows:=by
  rw [List.getD_eq_getElem?_getD,List.getElem?_eq_getElem h]
  exact List.getElem_mem h
theorem pass1 (hr:∀ c ∈ rows,∀ s ∈ c,isSg s) (hn:∀ c ∈ rows,nmR mods dirs (fn1 c) (mnm c)=dueI P c):∀ i,i ≤ rows.length→
    good P rows (tabAt mods dirs T00 fn1 mnm rows i)∧(∀ j,j < i→lookI (mnm (rows.getD j [])) (tabAt mods dirs T00 fn1 mnm rows i)=some (dueI P (rows.getD j [])))∧(i < rows.length→ansAt mods dirs T00 fn1 mnm rows i=dueI P (rows.getD i []))
  | i,hi=>by
    have core:good P rows (tabAt mods dirs T00 fn1 mnm rows i)∧(∀ j,j < i→lookI (mnm (rows.getD j [])) (tabAt mods dirs T00 fn1 mnm rows i)=some (dueI P (rows.getD j []))):=by
      cases i with
      | zero=>exact ⟨fun p hp=>.inl (List.mem_singleton.mp hp),fun j hj=>(om242 hj).elim⟩
      | succ i=>
        obtain ⟨g1,g2,_⟩:=pass1 hr hn i (Nat.le_of_succ_le hi)
        have hm:=row_mem (rows:=rows) (i:=i) (om57 hi)
        rw [tabAt]
        unfold nm
        cases q:lookI (mnm (rows.getD i [])) (tabAt mods dirs T00 fn1 mnm rows i) with
        | some v=>
          refine ⟨g1,fun j hj=>?_⟩
          rcases Nat.lt_or_ge j i with z | z
          · exact g2 j z
          · have:j=i:=om58 hj z
            subst this
            simp only
            rw [q,good_look hr g1 hm q]
        | none=>
          simp only [hn _ hm]
          refine ⟨fun p hp=>?_,fun j hj=>?_⟩
          · rcases List.mem_append.mp hp with z | z
            · exact g1 p z
            · exact .inr ⟨_,hm,List.mem_singleton.mp z⟩
          · rw [look_app]
            rcases Nat.lt_or_ge j i with z | z
            · rw [g2 j z]; rfl
            · have:j=i:=om58 hj z
              subst this
              rw [q]
              simp [lookI]
    refine ⟨core.1,core.2,fun hlt=>?_⟩
    have hm:=row_mem (rows:=rows) hlt
    unfold ansAt nm
    cases q:lookI (mnm (rows.getD i [])) (tabAt mods dirs T00 fn1 mnm rows i) with
    | some v=>exact good_look hr core.1 hm q
    | none=>exact hn _ hm
theorem pass2 {T:List (Str × Int)} {fns:List Str→Option Str} (h:∀ j,j < rows.length→lookI (mnm (rows.getD j [])) T=some (dueI P (rows.getD j []))):∀ i,i ≤ rows.length→tabAt mods dirs T fns mnm rows i=T∧(i < rows.length→ansAt mods dirs T fns mnm rows i=dueI P (rows.getD i []))
  | i,hi=>by
    have core:tabAt mods dirs T fns mnm rows i=T:=by
      cases i with
      | zero=>rfl
      | succ i=>
        have:=(pass2 (fns:=fns) h i (Nat.le_of_succ_le hi)).1
        rw [tabAt,this]
        unfold nm
        rw [h i (om57 hi)]
    refine ⟨core,fun hlt=>?_⟩
    unfold ansAt
    rw [core]
    unfold nm
    rw [h i hlt]
theorem list_getD {f:List Str→D} {g:Nat→D} (h:∀ i,i < rows.length→g i=f (rows.getD i [])):(List.range rows.length).map g=rows.map f:=by
  refine List.ext_getElem (by simp) fun i h1 h2=>?_
  have hi:i < rows.length:=by simpa using h1
  rw [List.getElem_map,List.getElem_map,List.getElem_range,h i hi,List.getD_eq_getElem?_getD,List.getElem?_eq_getElem hi]
  rfl
theorem ansV_ok (hr:∀ c ∈ rows,∀ s ∈ c,isSg s) (hn:∀ c ∈ rows,nmR mods dirs (fn1 c) (mnm c)=dueI P c):ansV mods dirs rows=.tuple [.list (rows.map fun c=>.int (dueI P c)),.list (rows.map fun c=>.int (dueI P c)),.list (rows.map fun c=>.int (dueI P c))]:=by
  have p1:=pass1 (P:=P) hr hn
  have hT:∀ j,j < rows.length→lookI (mnm (rows.getD j [])) (tabN mods dirs T00 fn1 rows)=some (dueI P (rows.getD j [])):=fun j hj=>(p1 rows.length (Nat.le_refl _)).2.1 j hj
  have p2:=pass2 (mods:=mods) (dirs:=dirs) (fns:=fn2) hT
  have e2:tabN mods dirs (tabN mods dirs T00 fn1 rows) fn2 rows=tabN mods dirs T00 fn1 rows:=(p2 rows.length (Nat.le_refl _)).1
  have p3:=pass2 (mods:=mods) (dirs:=dirs) (fns:=fn3) hT
  have a1:passD mods dirs T00 fn1 rows=.list (rows.map fun c=>.int (dueI P c)):=congrArg D.list (list_getD fun i hi=>by rw [(p1 i (Nat.le_of_lt hi)).2.2 hi])
  have a2:passD mods dirs (tabN mods dirs T00 fn1 rows) fn2 rows=.list (rows.map fun c=>.int (dueI P c)):=congrArg D.list (list_getD fun i hi=>by rw [(p2 i (Nat.le_of_lt hi)).2 hi])
  have a3:passD mods dirs (tabN mods dirs T00 fn1 rows) fn3 rows=.list (rows.map fun c=>.int (dueI P c)):=congrArg D.list (list_getD fun i hi=>by rw [(p3 i (Nat.le_of_lt hi)).2 hi])
  unfold ansV
  rw [e2,a1,a2,a3]
end
noncomputable def normIs (P:List Str):Bool:=match Φ3 (Str.ofString "normpath") [.str (Str.ofString "/b/../" ++ Txt.join (Str.ofString "/") P)] with
  | some (.str q)=>q == Str.ofString "/" ++ Txt.join (Str.ofString "/") P
  | _=>false
noncomputable def parts1:List (List Str):=sign3.map fun a=>[a]
noncomputable def parts2:List (List Str):=sign3.flatMap fun a=>sign3.map fun b=>[a,b]
noncomputable def parts3 (c:Str):List (List Str):=sign3.flatMap fun a=>sign3.map fun b=>[c,a,b]
theorem norm1:parts1.all normIs=true:=by decide +kernel
theorem norm2:parts2.all normIs=true:=by decide +kernel
theorem norm3a:(parts3 (Str.ofString "a")).all normIs=true:=by decide +kernel
theorem norm3b:(parts3 (Str.ofString "ab")).all normIs=true:=by decide +kernel
theorem norm3c:(parts3 (Str.ofString "b")).all normIs=true:=by decide +kernel
theorem norm_is {P:List Str} (h0:P ≠ []) (h3:P.length ≤ 3) (h:∀ s ∈ P,isSg s):normIs P=true:=by
  rcases P with _ | ⟨a,_ | ⟨b,_ | ⟨c,_ | ⟨d,r⟩⟩⟩⟩
  · exact absurd rfl h0
  · exact List.all_eq_true.mp norm1 _ (List.mem_map.mpr ⟨a,h a (.head _),rfl⟩)
  · exact List.all_eq_true.mp norm2 _ (List.mem_flatMap.mpr ⟨a,h a (.head _),List.mem_map.mpr ⟨b,h b (.tail _ (.head _)),rfl⟩⟩)
  · have hm:∀ x,[x,b,c] ∈ parts3 x:=fun x=>List.mem_flatMap.mpr ⟨b,h b (.tail _ (.head _)),List.mem_map.mpr ⟨c,h c (.tail _ (.tail _ (.head _))),rfl⟩⟩
    have h':a=Str.ofString "a" ∨ a=Str.ofString "ab" ∨ a=Str.ofString "b":=by simpa [isSg,sign3] using h a (.head _)
    rcases h' with rfl | rfl | rfl
    · exact List.all_eq_true.mp norm3a _ (hm _)
    · exact List.all_eq_true.mp norm3b _ (hm _)
    · exact List.all_eq_true.mp norm3c _ (hm _)
  · simp at h3
theorem norm_ev {P:List Str} (h0:P ≠ []) (h3:P.length ≤ 3) (h:∀ s ∈ P,isSg s):Φ3 (Str.ofString "normpath") [.str (Str.ofString "/b/../" ++ Txt.join (Str.ofString "/") P)]=some (.str (Str.ofString "/" ++ Txt.join (Str.ofString "/") P)):=by
  have:=norm_is h0 h3 h
  unfold normIs at this
  set_option tactic.hygienic true in split at this
  · rename_i q hq
    rw [hq,beq_iff_eq.mp this]
  · cases this
theorem fold_len (k:Nat):∀ (xs:List Str) (a:Nat),(∀ x ∈ xs,x.length ≤ 4)→xs.foldl (fun n x=>n + x.length + k) a ≤ a + xs.length * (4 + k)
  | [],a,_=>by simp
  | x :: xs,a,h=>by
    rw [List.foldl_cons,List.length_cons,Nat.succ_mul]
    have h1:=fold_len k xs (a + x.length + k) fun y hy=>h y (.tail _ hy)
    have h2:=h x (.head _)
    exact om243 h2 h1
theorem join_ok {sep:Str} {xs:List Str} (hs:sep.length=1) (h:∀ x ∈ xs,x.length ≤ 4) (hl:xs.length ≤ 1000):JoinOk sep xs=true:=by
  unfold JoinOk
  rw [List.foldl_toArray,hs]
  have h1:=fold_len 1 xs 0 h
  have:¬ (xs.foldl (fun n x=>n + x.length + 1) 0 > sizeLine):=by
    have:=sizeLine_eq
    exact om244 this h1 hl
  unfold Builtin.Str.tooLong
  rw [decide_eq_false this]
  rfl
theorem sum_len:∀ (xs:List Str),(∀ x ∈ xs,x.length ≤ 4)→(xs.map fun x=>x.length).sum ≤ xs.length * 4
  | [],_=>by simp
  | x :: xs,h=>by
    rw [List.map_cons,List.sum_cons,List.length_cons,Nat.succ_mul]
    have h1:=sum_len xs fun y hy=>h y (.tail _ hy)
    have h2:=h x (.head _)
    exact om245 h2 h1
theorem join_len {sep:Str} {xs:List Str} (hs:sep.length=1) (h:∀ x ∈ xs,x.length ≤ 4) (hl:xs.length ≤ 1000):(Txt.join sep xs).length ≤ 5000:=by
  show (Builtin.Str.glued sep xs).length ≤ _
  rw [StrLaws.glued_eq_join]
  have h1:=StrLaws.join_length_le sep xs
  have h2:=sum_len xs h
  rw [hs] at h1
  exact om246 hl h2 h1
theorem dec_rows:∀ rows:List (List Str),decRows (rows.map strsD)=some rows
  | []=>rfl
  | c :: rows=>by
    exact bind_is (map_strsOf c) (map_is (dec_rows rows))
theorem ans_ev {P:List Str} {rows:List (List Str)} (h0:P ≠ []) (h3:P.length ≤ 3) (h1:∀ s ∈ P,isSg s) (hr:∀ c ∈ rows,∀ s ∈ c,isSg s) (hn:rows.length ≤ 300) (hc:∀ c ∈ rows,c.length ≤ 100) (m:Bool) :
    ansF Φ3 [strsD P,.list (rows.map strsD),.bool m]=some (.tuple [.list (rows.map fun c=>.int (dueI P c)),.list (rows.map fun c=>.int (dueI P c)),.list (rows.map fun c=>.int (dueI P c))]):=by
  have l1:(Str.ofString ".").length=1:=by decide +kernel
  have l2:(Str.ofString "/").length=1:=by decide +kernel
  have l3:(Str.ofString "/b/../").length=6:=by decide +kernel
  have l4:(Str.ofString "f.py").length=4:=by decide +kernel
  have sl:∀ {c:List Str},(∀ s ∈ c,isSg s)→∀ x ∈ c,x.length ≤ 4:=fun h x hx=>Nat.le_trans (sg_dot (h x hx)).2.2.2.2.2 (by omega)
  have sf:∀ {c:List Str},(∀ s ∈ c,isSg s)→∀ x ∈ c ++ [Str.ofString "f.py"],x.length ≤ 4:=fun h x hx=>by
    rcases List.mem_append.mp hx with q | q
    · exact sl h x q
    · rw [List.mem_singleton.mp q,l4]; exact Nat.le_refl _
  have row:rows.all rowOk=true:=List.all_eq_true.mpr fun c hcm=>by
    have hl:=hc c hcm
    have hl':(c ++ [Str.ofString "f.py"]).length ≤ 1000:=by rw [List.length_append,List.length_singleton]; exact om247 hl
    unfold rowOk
    rw [join_ok l1 (sl (hr c hcm)) (om3 hl),join_ok l2 (sf (hr c hcm)) hl',decide_eq_true (by unfold cap; exact om9 hl),decide_eq_true]
    · rfl
    · have:=join_len l2 (sf (hr c hcm)) hl'
      rw [l2]
      unfold cap
      exact om248 this
  have jp1:=join_ok l1 (sl h1) (om10 h3)
  have jp2:=join_ok l2 (sl h1) (om10 h3)
  have jl1:=join_len l1 (sl h1) (om10 h3)
  have jl2:=join_len l2 (sl h1) (om10 h3)
  have g:∀ mods dirs,(mods.all fun y=>decide (y.length + 1 ≤ cap))=true→(dirs.all fun y=>decide (y.length + 1 ≤ cap))=true→ansG P rows mods dirs=true:=fun mods dirs a b=>by
    unfold ansG
    rw [jp1,jp2,a,b,row,decide_eq_true (by rw [l3]; unfold cap; exact om249 jl2),decide_eq_true hn]
    rfl
  show ansF Φ3 [.list (P.map .str),.list (rows.map strsD),.bool m]=_
  cases m with
  | true=>exact bind_is (map_strsOf P) (bind_is (dec_rows rows) (bind_is (a:=none) rfl ((if_pos (g (ansMods true P) none (by simp only [ansMods,if_true,Option.all_some,decide_eq_true_eq]; unfold cap; exact om250 jl1) rfl)).trans (congrArg some (ansV_ok hr fun c hcm=>nmR_mods h0 h1 (hr c hcm))))))
  | false=>
    have hd:ansDirs Φ3 false P=some (some (Str.ofString "/" ++ Txt.join (Str.ofString "/") P)):=bind_is (norm_ev h0 h3 h1) rfl
    exact bind_is (map_strsOf P) (bind_is (dec_rows rows) (bind_is hd ((if_pos (g (ansMods false P) _ rfl (by simp only [Option.all_some,decide_eq_true_eq,Str.length_append,l2]; unfold cap; exact om251 jl2))).trans (congrArg some (ansV_ok hr fun c hcm=>nmR_dirs h0 h1 (hr c hcm))))))
theorem fn_calls (ds:List D):Φ4 (Str.ofString "_law_calls") ds=runF Φ1 i_law_calls t_law_calls 2 ds:=by kernel_rfl
theorem fn_sorted (ds:List D):Φ4 (Str.ofString "_law_sorted") ds=runF Φ1 i_law_sorted t_law_sorted 2 ds:=by kernel_rfl
theorem fn_place (ds:List D):Φ4 (Str.ofString "_law_place") ds=runF Φ1 i_law_place t_law_place 3 ds:=by kernel_rfl
theorem fn_tables (ds:List D):Φ4 (Str.ofString "_law_tables") ds=runF Φ1 i_law_tables t_law_tables 1 ds:=by kernel_rfl
theorem fn_plain (ds:List D):Φ4 (Str.ofString "_law_plain") ds=runF Φ1 i_law_plain t_law_plain 1 ds:=by kernel_rfl
theorem fn_stretches (ds:List D):Φ4 (Str.ofString "_law_stretches") ds=runF Φ1 i_law_stretches t_law_stretches 2 ds:=by kernel_rfl
theorem fn_read (ds:List D):Φ4 (Str.ofString "_law_read") ds=runF Φ2 i_law_read t_law_read 4 ds:=by kernel_rfl
theorem fn_found (ds:List D):Φ4 (Str.ofString "_law_found") ds=runF Φ2 i_law_found t_law_found 4 ds:=by kernel_rfl
theorem fn_answers (ds:List D):Φ4 (Str.ofString "_law_answers") ds=ansF Φ3 ds:=by kernel_rfl
theorem fn_ahead (ds:List D):Φ2 (Str.ofString "_law_ahead") ds=runF Φ1 i_law_ahead t_law_ahead 3 ds:=by kernel_rfl
theorem fn_count (ds:List D):Φ1 (Str.ofString "count_calls") ds=runF (Tab.env []) i_count_calls t_count_calls 1 ds:=by kernel_rfl
theorem fn_add (ds:List D):Φ1 (Str.ofString "add_callers") ds=runF (Tab.env []) i_add_callers t_add_callers 2 ds:=by kernel_rfl
theorem fn_cmp (ds:List D):Φ1 (Str.ofString "compare") ds=CmpF (runF (Tab.env []) i_compare t_compare 3) ds:=by kernel_rfl
theorem ahead_ok (w:Bool):AheadOK Φ2 w:=fun l a hl=>by
  rw [fn_ahead]
  exact ahead_ev (fun T hT=>by rw [fn_count]; exact count_ev hT) (by unfold cap; exact om1 hl)
theorem cmp_ok (w:Bool):CmpOK Φ1 w:=fun X Y i j h1 h2=>by
  rw [fn_cmp]
  show (if Str.ofString "comp_select_list"=Str.ofString "comp_select_list"∧[rowL X i,rowL Y j] ≠ [] then runF (Tab.env []) i_compare t_compare 3 [.obj [(Str.ofString "comp_select_list", colsD X.length w)],rowL X i,rowL Y j] else none)=_
  rw [if_pos ⟨rfl,fun z=>nomatch z⟩]
  exact cmp_ev h1 h2
theorem add_ok (T:List (Str × Int)) (o:Option Str) (h:T.length + 1 ≤ cap) (hn:keysNd T):Φ1 (Str.ofString "add_callers") [tabD T,srcD o]=some (tabD (bumpO o T)):=by
  rw [fn_add]
  exact add_ev h hn
theorem flatK_toD:∀ T:List (Str × Int),flatK (T.map fun p=>(p.1,D.int p.2))=some T
  | []=>rfl
  | p :: T=>congrArg (Option.map ((p.1,p.2) :: ·)) (flatK_toD T)
theorem flats_tabs:∀ Ts:List (List (Str × Int)),flats (Ts.map tabD)=some Ts
  | []=>rfl
  | T :: Ts=>bind_is (flatK_toD T) (map_is (flats_tabs Ts))
theorem look_self {p:Str × Int}:∀ {T:List (Str × Int)},keysNd T→p ∈ T→lookI p.1 T=some p.2
  | [],_,h=>by cases h
  | q :: T,nd,h=>by
    unfold keysNd at nd
    rw [List.map_cons,List.nodup_cons] at nd
    unfold lookI
    rw [List.find?_cons]
    rcases List.mem_cons.mp h with e | e
    · rw [e,show (q.1 == q.1)=true from beq_self_eq_true _]
      rfl
    · have hne:(q.1 == p.1)=false:=beq_eq_false_iff_ne.mpr fun z=>nd.1 (by rw [z]; exact List.mem_map_of_mem e)
      rw [hne]
      exact look_self nd.2 e
theorem eqFlat_self {T:List (Str × Int)} (h:keysNd T):eqFlat T T=true:=by
  unfold eqFlat
  rw [beq_self_eq_true,Bool.true_and,List.all_eq_true]
  intro p hp
  rw [look_self h hp]
  exact beq_self_eq_true _
theorem zip_self {α:Type}:∀ l:List α,l.zip l=l.map fun x=>(x,x)
  | []=>rfl
  | x :: l=>by rw [List.zip_cons_cons,zip_self l]; rfl
theorem ne_tabs (K:Kept) (hK:K.length ≤ 1000):evCmp .ne (.list (tabs K)) (.list (tabs K))=some false:=by
  have e:tabs K=((List.range (K.length + 1)).map fun k=>cntT (madeS (K.take k))).map tabD:=by unfold tabs; rw [List.map_map]; rfl
  have h1:eqD (.list (tabs K)) (.list (tabs K))=none:=by
    obtain ⟨l,hl⟩:∃ l,tabs K=tabD (cntT (madeS (K.take 0))) :: l:=by
      unfold tabs
      rw [List.range_succ_eq_map,List.map_cons]
      exact ⟨_,rfl⟩
    have h0:toPy (.list (tabs K))=none:=by
      rw [hl]
      rfl
    unfold eqD
    rw [h0]
    rfl
  have:eqFlats ((List.range (K.length + 1)).map fun k=>cntT (madeS (K.take k))) ((List.range (K.length + 1)).map fun k=>cntT (madeS (K.take k)))=true:=by
    unfold eqFlats
    rw [beq_self_eq_true,Bool.true_and,zip_self,List.all_map,List.all_eq_true]
    intro T hT
    obtain ⟨k,_,rfl⟩:=List.mem_map.mp hT
    exact eqFlat_self (cntT_nd _)
  show orO ((eqD _ _).map (!·)) (fun u=>neTabs _ _)=_
  rw [h1]
  show neTabs (.list (tabs K)) (.list (tabs K))=_
  rw [e]
  refine bind_is (flats_tabs _) (bind_is (flats_tabs _) ((if_pos (by rw [List.length_map,List.length_range]; unfold cap; exact om5 hK)).trans ?_))
  rw [this]
  rfl
noncomputable def sgW (w:Bool):List Str:=if w then sign3 else sign3.reverse
theorem sgW_mem {w:Bool} {s:Str} (h:isSg s):s ∈ sgW w:=by
  unfold sgW
  cases w
  · rw [if_neg Bool.false_ne_true]; exact List.mem_reverse.mpr h
  · exact h
theorem sgW_pw (w:Bool):(sgW w).Pairwise fun a b=>soW w a b=true:=by
  cases w <;> decide +kernel
section
variable {n:Nat} {xs:List Int} {s0:Str} {w:Bool}
noncomputable abbrev trL (n:Nat) (xs:List Int) (s0:Str):XB.Tree Str:=XB.tree n (abv xs) (sgn xs s0)
noncomputable abbrev ordL (n:Nat) (xs:List Int) (s0:Str) (w:Bool):List Nat:=XB.sortN (trL n xs s0) (loW w) n
theorem set_ok (h0:0 < n) (hs:isSg s0):XB.Set (trL n xs s0) (soW w) (loW w) (sgW w) (ordL n xs s0 w) (b0W w) where
  O:=ord_w w
  K:=XB.tree_ok h0 fun k h u=>abv_lt xs k h
  S:=XB.sort_sorted (t:=trL n xs s0) (ord_w w)
  hs:=fun v hv=>sgW_mem (sgn_mem xs s0 hs _)
  hg:=sgW_pw w
  hb:=by
    cases w
    · exact .inr ⟨rfl,fun a x=>⟨rfl,rfl⟩⟩
    · exact .inl ⟨rfl,fun a x=>⟨rfl,rfl⟩⟩
theorem cf_sg (hs:isSg s0):∀ f k,∀ s ∈ XB.cfl (sgn xs s0) (abv xs) f k,isSg s
  | 0,k,s,h=>by cases h
  | f + 1,k,s,h=>by
    unfold XB.cfl at h
    split at h
    · cases h
    · rcases List.mem_cons.mp h with q | q
      · rw [q]; exact sgn_mem xs s0 hs _
      · exact cf_sg hs f _ s q
theorem c_sg (hs:isSg s0) (i:Nat):∀ s ∈ (trL n xs s0).c i,isSg s:=cf_sg hs _ _
theorem cfl_len:∀ f k,(XB.cfl (sgn xs s0) (abv xs) f k).length ≤ f
  | 0,k=>Nat.le_refl _
  | f + 1,k=>by
    unfold XB.cfl
    split
    · simp
    · rw [List.length_cons]
      have:=cfl_len f (abv xs k)
      exact Nat.succ_le_succ this
theorem c_len (h0:0 < n) {i:Nat} (hi:i < n):((trL n xs s0).c i).length ≤ n:=by
  have h1:=XB.vt_lt (ab:=abv xs) h0 (fun k h u=>abv_lt xs k h) hi
  exact Nat.le_trans (cfl_len _ _) (Nat.le_of_lt h1)
theorem strP_eq (h0:0 < n) (hs:isSg s0):strP (keptOf (trL n xs s0) (ordL n xs s0 w)) (b0W w)=XB.stch (trL n xs s0) (ordL n xs s0 w) (sgW w) (b0W w):=by
  have H:=set_ok (n:=n) (xs:=xs) (w:=w) h0 hs
  have hl:(ordL n xs s0 w).length=n:=by rw [H.S.perm.length_eq,List.length_range]; rfl
  have e:(((keptOf (trL n xs s0) (ordL n xs s0 w)).drop (b0W w)).take ((keptOf (trL n xs s0) (ordL n xs s0 w)).length - 1)).map (fun k=>k.2.2)=(((ordL n xs s0 w).drop (b0W w)).take (n - 1)).map (trL n xs s0).last:=by
    unfold keptOf
    rw [List.length_map,hl,← List.map_drop,← List.map_take,List.map_map]
    rfl
  have h2:XB.endsOf (b0W w) (((ordL n xs s0 w).drop (b0W w)).take (n - 1) |>.map (trL n xs s0).last)=_:=H.ends
  unfold strP XB.stch
  rw [e,h2]
end
theorem sliceL_map {α β:Type} (f:α→β) (ds:List α) (lo hi st:Option Int):sliceL (ds.map f) lo hi st=(sliceL ds lo hi st).map f:=by
  unfold sliceL
  rw [List.length_map,List.map_filterMap]
  congr 1
  funext i
  rw [List.getElem?_map]
theorem fmod_nat (v k:Nat):((v:Int)).fmod (k:Int)=((v % k:Nat):Int):=by
  rw [Int.fmod_eq_emod_of_nonneg _ (Int.natCast_nonneg k),Int.natCast_emod]
section
variable {t:XB.Tree Str} {sg:List Str} {ord:List Nat} {b0:Nat} {w:Bool}
theorem call_comp {Φ:FEnv} {σ:St} {v j m:Nat} {d:D} (h5:σ.get 5=some (callsD t)) (hj:σ.get j=some (.int (v:Int))) (hv:v < t.n) (hn:t.n ≤ 1000) (hm:m < 4) (hd:[D.str (t.s v),strsD (t.c v),.bool (t.made v),.bool (t.last v)][m]?=some d) :
    evE Φ (.sub (.sub (.var 5) (.var j)) (.cInt (m:Int))) σ=some d:=
  e_sub (a:=callD t v) (b:=.int (m:Int)) (e_sub (a:=callsD t) (b:=.int (v:Int)) h5 hj (sub_at (calls_at hv) (om4 hv hn))) rfl (tup_at hd (om252 hm))
noncomputable def b_law:TSs:=(.cons (.assign 12 (.slice (.bin .add (.list (.cons (.sub (.sub (.var 5) (.var 11)) (.cInt 0)) .nil)) (.sub (.sub (.var 5) (.var 11)) (.cInt 1))) .cNone (.bin .add (.cInt 1) (.bin .mod (.var 11) (.cInt 3))) .cNone))
  (.cons (.unpack [14,15] (.fn (Str.ofString "_law_found") (.cons (.var 12) (.cons (.var 8) (.cons (.var 9) (.cons (.var 2) .nil))))))
  (.cons (.assign 13 (.lcomp (.ite (.cmp2 .le .lt (.var 14) (.var 16) (.var 15)) (.cInt 1) (.cInt 0)) [16] true (.range1 (.bf .len (.var 10))) .nil))
  (.cons (.ifS (.cmp .ne (.var 13) (.lcomp (.ite (.cmp .eq (.slice (.var 18) .cNone (.bf .len (.var 12)) .cNone) (.var 12)) (.cInt 1) (.cInt 0)) [18] true (.exp (.var 10)) .nil))
  (.cons (.ret (.cBool false))
  .nil)
  .nil)
  (.cons (.ifS (.cmp .ne (.fn (Str.ofString "_law_answers") (.cons (.var 12) (.cons (.var 10) (.cons (.cmp .eq (.bin .mod (.var 11) (.cInt 2)) (.cInt 0)) .nil)))) (.tuple (.cons (.var 13) (.cons (.var 13) (.cons (.var 13) .nil)))))
  (.cons (.ret (.cBool false))
  .nil)
  .nil)
  .nil)))))
structure Fine (t:XB.Tree Str):Prop where
  n100:t.n ≤ 100
  sgS:∀ i,i < t.n→isSg (t.s i)
  sgC:∀ i,i < t.n→∀ s ∈ t.c i,isSg s
  len:∀ i,i < t.n→(t.c i).length ≤ 100
theorem ss_ok (H:XB.Set t (soW w) (loW w) sg ord b0) (F:Fine t):SsOK (XB.stch t ord sg b0) ord.length:=by
  have hord:ord.length=t.n:=by rw [H.S.perm.length_eq,List.length_range]
  refine ⟨Nat.le_trans H.strs_len (Nat.le_trans F.n100 (by omega)),fun p hp=>by rw [hord]; exact H.strs_le p hp,H.strs_mo⟩
theorem law_step (H:XB.Set t (soW w) (loW w) sg ord b0) (hsg:∀ s,isSg s→s ∈ sg) (F:Fine t) {v:Nat} (hv:v < t.n) (x0 x1 x3 x4 x6 x7 x12 x13 x14 x15:Option D) :
    ∃ y12 y13 y14 y15,evSs Φ4 b_law [x0,x1,some (.int (wayI w)),x3,x4,some (callsD t),x6,x7,some (.list (tabs (keptOf t ord))),some (.list ((XB.stch t ord sg b0).map pairD)),some (.list ((ord.map t.c).map strsD)),some (.int (v:Int)),x12,x13,x14,x15,none,none,none,none,none]=
      some (.next,[x0,x1,some (.int (wayI w)),x3,x4,some (callsD t),x6,x7,some (.list (tabs (keptOf t ord))),some (.list ((XB.stch t ord sg b0).map pairD)),some (.list ((ord.map t.c).map strsD)),some (.int (v:Int)),y12,y13,y14,y15,none,none,none,none,none]):=by
  have hord:ord.length=t.n:=by rw [H.S.perm.length_eq,List.length_range]
  have hn:=F.n100
  let P:=(t.s v :: t.c v).take (1 + v % 3)
  have hP0:P ≠ []:=by
    simp only [P,Nat.add_comm 1,List.take_succ_cons]
    simp
  have hP3:P.length ≤ 3:=by
    simp only [P,List.length_take]
    have:=Nat.mod_lt v (show 0 < 3 by omega)
    exact om253
  have hPs:∀ s ∈ P,isSg s:=fun s hs=>by
    have:=List.mem_of_mem_take hs
    rcases List.mem_cons.mp this with q | q
    · rw [q]; exact F.sgS v hv
    · exact F.sgC v hv s q
  have hrowm:∀ c ∈ ord.map t.c,∃ i,i < t.n∧c=t.c i:=fun c hc=>by
    obtain ⟨i,hi,rfl⟩:=List.mem_map.mp hc
    exact ⟨i,H.S.mem.mp hi,rfl⟩
  have hrl:((ord.map t.c).map strsD).length=t.n:=by rw [List.length_map,List.length_map,hord]
  obtain ⟨b,e,hf,hen,hbe⟩:=H.found_ok P.reverse [] [] ord [] (by simp) (fun v u=>List.nil_prefix) (fun v hv=>by cases hv) fun a ha=>hsg a (hPs a (List.mem_reverse.mp ha))
  rw [List.reverse_reverse,List.append_nil] at hbe
  rw [List.nil_append,List.length_nil] at hf
  let due:List D:=(ord.map t.c).map fun c=>.int (dueI P c)
  have hdue:(List.range t.n).map (fun k:Nat=>D.int (if b ≤ k∧k < e then 1 else 0))=due:=by
    refine List.ext_getElem (by simp [due,hord]) fun i h1 h2=>?_
    have hi:i < t.n:=by simpa using h1
    simp only [due,List.getElem_map,List.getElem_range]
    have hk:=hbe i (ord[i]'(om12 hi hord)) (List.getElem?_eq_getElem (om12 hi hord))
    by_cases q:P <+: t.c (ord[i]'(om12 hi hord))
    · rw [if_pos (hk.mpr q),due_one q]
    · rw [if_neg (fun z=>q (hk.mp z)),due_zero q]
  refine ⟨some (strsD P),some (.list due),some (.int (b:Int)),some (.int (e:Int)),?_⟩
  have hcl:=F.len v hv
  refine (ss_next (s_assign (d:=strsD P) (e_slice (a:=.list ((t.s v :: t.c v).map .str)) (b:=.none) (c:=.int ((1 + v % 3:Nat):Int)) (d:=.none) (e_bin (a:=.list [.str (t.s v)]) (b:=strsD (t.c v)) (e_list (es_cons (call_comp (t:=t) (v:=v) (j:=11) (m:=0) (d:=.str (t.s v)) rfl rfl hv (om3 hn) (by omega) rfl) es_nil)) (call_comp (t:=t) (v:=v) (j:=11) (m:=1) (d:=strsD (t.c v)) rfl rfl hv (om3 hn) (by omega) rfl) ?_) rfl (e_bin (a:=.int 1) (b:=.int ((v % 3:Nat):Int)) rfl (e_bin (a:=.int (v:Int)) (b:=.int 3) rfl rfl ?_) ?_) rfl ?_))).trans ?_
  · unfold strsD
    simp only [evB1,evB2,evB3,evB4,evB5,evB6,evB7,List.length_singleton,List.length_map]
    rw [if_pos (by unfold cap; exact om254 hcl)]
    rfl
  · simp only [evB1,evB2,evB3,evB4,evB5,evB6,evB7]
    rw [if_pos (by decide)]
    exact congrArg (fun x=>some (D.int x)) (fmod_nat v 3)
  · simp only [evB1,evB2,evB3,evB4,evB5,evB6,evB7,Int.natCast_add]
    rfl
  · show evSlice (.list _) _ _ _=_
    rw [evSlB,if_pos ⟨by simp,by rw [List.length_map,List.length_cons]; unfold cap; exact om9 hcl⟩,sliceL_upto,← List.map_take]
    rfl
  refine (ss_next (s_unpack (d:=pairD (b,e)) (e_fn (es_cons (d:=strsD P) rfl (es_cons (d:=.list (tabs (keptOf t ord))) rfl (es_cons (d:=.list ((XB.stch t ord sg b0).map pairD)) rfl (es_cons (d:=.int (wayI w)) rfl es_nil)))) ?_) rfl)).trans ?_
  · rw [fn_found]
    exact found_ev (ahead_ok w) (om11 hord hn) (ss_ok H F) (om10 hP3) hf
  refine (ss_next (s_assign (d:=.list due) (e_lcomp (i_r1 (j:=(t.n:Int)) (e_bf (a:=.list ((ord.map t.c).map strsD)) rfl (by have:=len_ev (ds:=(ord.map t.c).map strsD) (by rw [hrl]; unfold cap; exact om2 hn); rw [hrl] at this; exact this)) (rng_ok (by unfold cap; exact om2 hn))) ?_))).trans ?_
  · rw [range_nat,← hdue]
    refine compL_all (ι:=Nat) (fun k:Nat=>D.int (k:Int)) (fun k:Nat=>D.int (if b ≤ k∧k < e then 1 else 0)) (List.range t.n) fun k hk=>⟨_,rfl,?_⟩
    refine (e_ite (c:=decide (b ≤ k∧k < e)) ?_).trans ?_
    · have g1:∀ σ:St,σ.get 14=some (.int (b:Int))→σ.get 15=some (.int (e:Int))→σ.get 16=some (.int (k:Int))→evT Φ4 (.cmp2 .le .lt (.var 14) (.var 16) (.var 15)) σ=some (decide (b ≤ k∧k < e)):=fun σ a1 a2 a3=>by
        refine (bind_is a1 (bind_is a3 (bind_is (a:=decide ((b:Int) ≤ (k:Int))) rfl ?_)))
        by_cases q:b ≤ k
        · rw [decide_eq_true (show (b:Int) ≤ (k:Int) from om255 q)]
          refine bind_is a2 (congrArg some ?_)
          rw [Bool.eq_iff_iff]
          simp only [decide_eq_true_eq]
          exact om256 q
        · rw [decide_eq_false (show ¬ (b:Int) ≤ (k:Int) from om257 q),decide_eq_false (om258 q)]
          rfl
      exact g1 _ rfl rfl rfl
    · by_cases q:b ≤ k∧k < e
      · rw [if_pos (decide_eq_true q),if_pos q]; rfl
      · rw [if_neg (by simpa using q),if_neg q]; rfl
  have hd2:∀ d ∈ due,okD 0 d:=fun d hd=>by
    obtain ⟨c,_,rfl⟩:=List.mem_map.mp hd
    exact okD_int _
  have hPl:((P.map D.str).length:Int)=(P.length:Int):=by rw [List.length_map]
  refine (ss_next ((s_if (c:=false) (t_cmp (a:=.list due) (b:=.list due) rfl (e_lcomp (ds:=(ord.map t.c).map strsD) (i_exp (d:=.list ((ord.map t.c).map strsD)) rfl (its_ev (by rw [hrl]; unfold cap; exact om2 hn))) ?_) (ne_self (okD_list hd2) (by unfold depthCap; omega)))).trans (by rw [if_neg Bool.false_ne_true]; rfl))).trans ?_
  · refine compL_all (ι:=List Str) strsD (fun c=>.int (dueI P c)) (ord.map t.c) fun c hc=>⟨_,rfl,?_⟩
    obtain ⟨i,hi,rfl⟩:=hrowm c hc
    have hli:=F.len i hi
    have hsl:evSlice (strsD (t.c i)) .none (.int (P.length:Int)) .none=some (strsD ((t.c i).take P.length)):=by
      unfold strsD
      rw [evSlB,if_pos ⟨by simp,by rw [List.length_map]; unfold cap; exact om2 hli⟩,sliceL_upto,← List.map_take]
    refine (e_ite (c:=(t.c i).take P.length == P) (t_cmp (a:=strsD ((t.c i).take P.length)) (b:=strsD P) (e_slice (a:=strsD (t.c i)) (b:=.none) (c:=.int (P.length:Int)) (d:=.none) rfl rfl (e_bf (a:=strsD P) rfl (by have:=len_ev (ds:=P.map .str) (by rw [List.length_map]; unfold cap; exact om259 hP3); rw [List.length_map] at this; exact this)) rfl hsl) rfl ?_)).trans ?_
    · exact eqD_strs (fun x hx=>(sg_dot (F.sgC i hi x (List.mem_of_mem_take hx))).2.2.1) fun x hx=>(sg_dot (hPs x hx)).2.2.1
    · unfold dueI
      by_cases q:((t.c i).take P.length == P)=true
      · rw [if_pos q,if_pos q]; rfl
      · rw [if_neg q,if_neg q]; rfl
  have hmod:∀ σ:St,σ.get 11=some (.int (v:Int))→evE Φ4 (.cmp .eq (.bin .mod (.var 11) (.cInt 2)) (.cInt 0)) σ=some (.bool (((v % 2:Nat):Int) == 0)):=fun σ h=>by
    refine e_cmp (a:=.int ((v % 2:Nat):Int)) (b:=.int 0) (e_bin (a:=.int (v:Int)) (b:=.int 2) h rfl ?_) rfl ?_
    · simp only [evB1,evB2,evB3,evB4,evB5,evB6,evB7]
      rw [if_pos (by decide)]
      exact congrArg (fun x=>some (D.int x)) (fmod_nat v 2)
    · exact eqD_int _ _
  refine (ss_next ((s_if (c:=false) (t_cmp (a:=.tuple [.list due,.list due,.list due]) (b:=.tuple [.list due,.list due,.list due]) (e_fn (es_cons (d:=strsD P) rfl (es_cons (d:=.list ((ord.map t.c).map strsD)) rfl (es_cons (hmod _ rfl) es_nil))) ?_) (e_tuple (es_cons rfl (es_cons rfl (es_cons rfl es_nil)))) (ne_self (n:=2) (okD_tuple fun d hd=>?_) (by unfold depthCap; omega)))).trans (by rw [if_neg Bool.false_ne_true]; rfl))).trans rfl
  · rw [fn_answers]
    exact ans_ev hP0 hP3 hPs (fun c hc=>by obtain ⟨i,hi,rfl⟩:=hrowm c hc; exact F.sgC i hi) (by rw [List.length_map,hord]; exact om260 hn) (fun c hc=>by obtain ⟨i,hi,rfl⟩:=hrowm c hc; exact F.len i hi) _
  · simp only [List.mem_cons,List.not_mem_nil,or_false,or_self] at hd
    subst hd
    exact okD_list hd2
end
theorem even_way {m:Int} (h0:0 ≤ m) (h2:m < 2):1 - 2 * m=wayI (m == 0):=by
  have:m=0 ∨ m=1:=om261 h0 h2
  rcases this with rfl | rfl <;> rfl
noncomputable def given8:List Int:=[1,0,1,6,11,4,10,18]
noncomputable def numsL (ns:List Int):List Int:=((List.range 8).map fun k=>given8.getD k 0 + (sliceL ns (some (k:Int)) none (some 8)).sum) ++ ns.take 4
noncomputable def wL (ns:List Int):Bool:=ns.sum.fmod 2 == 0
noncomputable def s0L (ns:List Int):Str:=sign3.getD (ns.sum.fmod 3).toNat (Str.ofString "a")
noncomputable def nL (ns:List Int):Nat:=(numsL ns).length + 1
theorem nL_le (ns:List Int):nL ns ≤ 13:=by
  unfold nL numsL
  rw [List.length_append,List.length_map,List.length_range,List.length_take]
  exact om262
theorem s0_sg (ns:List Int):isSg (s0L ns):=by
  unfold s0L isSg
  rw [List.getD_eq_getElem?_getD]
  cases q:sign3[(ns.sum.fmod 3).toNat]? with
  | none=>exact .head _
  | some s=>exact List.mem_of_getElem? q
section
variable {t:XB.Tree Str} {sg:List Str} {ord:List Nat} {b0:Nat} {w:Bool}
noncomputable def t_law2:TSs:=(.cons (.assign 6 (.fn (Str.ofString "_law_sorted") (.cons (.var 5) (.cons (.var 2) .nil))))
  (.cons (.ifS (.cmp .ne (.lcomp (.fn (Str.ofString "_law_place") (.cons (.var 5) (.cons (.var 11) (.cons (.var 2) .nil)))) [11] true (.exp (.var 6)) .nil) (.listOf (.range1 (.bf .len (.var 5)))))
  (.cons (.ret (.cBool false))
  .nil)
  .nil)
  (.cons (.assign 7 (.lcomp (.tuple (.cons (.sub (.sub (.var 5) (.var 11)) (.cInt 0)) (.cons (.sub (.sub (.var 5) (.var 11)) (.cInt 2)) (.cons (.sub (.sub (.var 5) (.var 11)) (.cInt 3)) .nil)))) [11] true (.exp (.var 6)) .nil))
  (.cons (.assign 8 (.fn (Str.ofString "_law_tables") (.cons (.var 7) .nil)))
  (.cons (.ifS (.cmp .ne (.var 8) (.fn (Str.ofString "_law_plain") (.cons (.var 7) .nil)))
  (.cons (.ret (.cBool false))
  .nil)
  .nil)
  (.cons (.assign 9 (.fn (Str.ofString "_law_stretches") (.cons (.var 7) (.cons (.var 2) .nil))))
  (.cons (.ifS (.cmp .ne (.fn (Str.ofString "_law_read") (.cons (.var 7) (.cons (.var 8) (.cons (.var 9) (.cons (.var 2) .nil))))) (.lcomp (.tuple (.cons (.var 17) (.cons (.bf .len (.var 18)) .nil))) [17,18,19,20] false (.exp (.var 5)) .nil))
  (.cons (.ret (.cBool false))
  .nil)
  .nil)
  (.cons (.assign 10 (.lcomp (.sub (.sub (.var 5) (.var 11)) (.cInt 1)) [11] true (.exp (.var 6)) .nil))
  (.cons (.forS [11] true (.range1 (.bf .len (.var 5))) b_law)
  (.cons (.ret (.cBool true))
  .nil))))))))))
theorem law_checks (H:XB.Set t (soW w) (loW w) sg ord b0) (hb:b0=b0W w) (ho:ord=XB.sortN t (loW w) t.n) (hsp:strP (keptOf t ord) b0=XB.stch t ord sg b0) (hsg:∀ s,isSg s→s ∈ sg) (F:Fine t) (x0 x1 x3 x4:Option D) :
    ∃ σ',evSs Φ4 t_law2 [x0,x1,some (.int (wayI w)),x3,x4,some (callsD t),none,none,none,none,none,none,none,none,none,none,none,none,none,none,none]=some (.ret (.bool true),σ'):=by
  have hord:ord.length=t.n:=by rw [H.S.perm.length_eq,List.length_range]
  have hn:=F.n100
  have h0:=H.K.pos
  have hcl:((List.range t.n).map (callD t)).length=t.n:=by rw [List.length_map,List.length_range]
  have hlen:evBf .len (callsD t)=some (.int (t.n:Int)):=by
    have:=len_ev (ds:=(List.range t.n).map (callD t)) (by rw [hcl]; unfold cap; exact om2 hn)
    rw [hcl] at this
    exact this
  have hkl:(keptOf t ord).length=t.n:=by unfold keptOf; rw [List.length_map,hord]
  have hlt:∀ v ∈ ord,v < t.n:=fun v hv=>H.S.mem.mp hv
  let oD:D:=.list (ord.map fun i:Nat=>D.int (i:Int))
  have hoi:itemsOf oD=some (ord.map fun i:Nat=>D.int (i:Int)):=by
    simp only [oD]
    exact its_ev (by rw [List.length_map]; unfold cap; exact om56 hord hn)
  let rD:D:=.list ((List.range t.n).map fun k:Nat=>D.int (k:Int))
  have hrk:okD 1 rD:=okD_list fun d hd=>by
    obtain ⟨k,_,rfl⟩:=List.mem_map.mp hd
    exact okD_int _
  let K:=keptOf t ord
  let ss:=XB.stch t ord sg b0
  have h6:evE Φ4 (.fn (Str.ofString "_law_sorted") (.cons (.var 5) (.cons (.var 2) .nil))) [x0,x1,some (.int (wayI w)),x3,x4,some (callsD t),none,none,none,none,none,none,none,none,none,none,none,none,none,none,none]=some oD:=by
    refine e_fn (es_cons (d:=callsD t) rfl (es_cons (d:=.int (wayI w)) rfl es_nil)) ?_
    rw [fn_sorted,sorted_ev (cmp_ok w) hn h0 F.len fun i hi a ha=>(sg_dot (F.sgC i hi a ha)).2.2.2.1]
    simp only [oD]
    rw [ho]
  let base:Option D→Option D→Option D→Option D→Option D→St:=fun x11 x12 x13 x14 x15=>[x0,x1,some (.int (wayI w)),x3,x4,some (callsD t),some oD,some (keptD K),some (.list (tabs K)),some (.list (ss.map pairD)),some (.list ((ord.map t.c).map strsD)),x11,x12,x13,x14,x15,none,none,none,none,none]
  obtain ⟨σ',hl,x11,x12,x13,x14,x15,e⟩:=forL_inv (body:=evSs Φ4 b_law) (one:=true) (tg:=[11]) (fun i σ=>∃ x11 x12 x13 x14 x15,σ=base x11 x12 x13 x14 x15) (rangeD 0 (t.n:Int)) 0 (base none none none none none) ⟨none,none,none,none,none,rfl⟩ (by
    intro k d σ hd hI
    obtain ⟨x11,x12,x13,x14,x15,rfl⟩:=hI
    rw [range_nat,List.getElem?_map] at hd
    have hk:k < t.n:=by
      rcases Nat.lt_or_ge k t.n with q | q
      · exact q
      · rw [List.getElem?_eq_none (by rw [List.length_range]; exact q)] at hd; cases hd
    rw [List.getElem?_range hk] at hd
    cases hd
    obtain ⟨y12,y13,y14,y15,hb'⟩:=law_step H hsg F hk x0 x1 x3 x4 (some oD) (some (keptD K)) x12 x13 x14 x15
    exact ⟨_,_,.next,rfl,hb',fun r=>(fun e=>nomatch e),some (.int (k:Int)),y12,y13,y14,y15,rfl⟩)
  subst e
  refine ⟨base x11 x12 x13 x14 x15,(ss_next (s_assign h6)).trans ?_⟩
  refine (ss_next ((s_if (c:=false) (t_cmp (a:=rD) (b:=rD) (e_lcomp (ds:=ord.map fun i:Nat=>D.int (i:Int)) (i_exp (d:=oD) rfl hoi) ?_) ?_ (ne_self hrk (by unfold depthCap; omega)))).trans (by rw [if_neg Bool.false_ne_true]; rfl))).trans ?_
  · refine (compL_all (ι:=Nat) (fun i:Nat=>D.int (i:Int)) (fun v:Nat=>D.int ((((List.range v).countP fun i=>decide (t.c i=t.c v)) + ((List.range t.n).countP fun i=>loW w (t.c i) (t.c v)):Nat):Int)) ord fun v hv=>⟨_,rfl,?_⟩).trans ?_
    · refine e_fn (es_cons (d:=callsD t) rfl (es_cons (d:=.int (v:Int)) rfl (es_cons (d:=.int (wayI w)) rfl es_nil))) ?_
      rw [fn_place]
      exact lplace_ev (om3 hn) (fun i hi x hx=>(sg_dot (F.sgC i hi x hx)).2.2.1) (hlt v hv)
    · congr 1
      refine List.ext_getElem (by simp [hord]) fun i h1 h2=>?_
      have hi:i < ord.length:=by simpa using h1
      rw [List.getElem_map,List.getElem_map,List.getElem_range,XB.rank_at H.O H.S (List.getElem?_eq_getElem hi)]
  · have e1:evI Φ4 (.range1 (.bf .len (.var 5))) (St.put [x0,x1,some (.int (wayI w)),x3,x4,some (callsD t),none,none,none,none,none,none,none,none,none,none,none,none,none,none,none] 6 oD)=some (rangeD 0 (t.n:Int)):=i_r1 (e_bf (a:=callsD t) rfl hlen) (rng_ok (by unfold cap; exact om2 hn))
    exact (map_is (f:=D.list) e1).trans (by rw [range_nat])
  refine (ss_next (s_assign (d:=keptD K) (e_lcomp (ds:=ord.map fun i:Nat=>D.int (i:Int)) (i_exp (d:=oD) rfl hoi) ?_))).trans ?_
  · refine (compL_all (ι:=Nat) (fun i:Nat=>D.int (i:Int)) (fun v=>keepD (rowOf t v)) ord fun v hv=>⟨_,rfl,?_⟩).trans ?_
    · exact e_tuple (es_cons (call_comp (t:=t) (v:=v) (j:=11) (m:=0) (d:=.str (t.s v)) rfl rfl (hlt v hv) (om3 hn) (by omega) rfl) (es_cons (call_comp (t:=t) (v:=v) (j:=11) (m:=2) (d:=.bool (t.made v)) rfl rfl (hlt v hv) (om3 hn) (by omega) rfl) (es_cons (call_comp (t:=t) (v:=v) (j:=11) (m:=3) (d:=.bool (t.last v)) rfl rfl (hlt v hv) (om3 hn) (by omega) rfl) es_nil)))
    · simp only [K,keptOf]
      rw [List.map_map]
      rfl
  refine (ss_next (s_assign (d:=.list (tabs K)) (e_fn (es_cons (d:=keptD K) rfl es_nil) (by rw [fn_tables]; exact tables_ev add_ok (by simp only [K]; exact om11 hkl hn))))).trans ?_
  refine (ss_next ((s_if (c:=false) (t_cmp (a:=.list (tabs K)) (b:=.list (tabs K)) rfl (e_fn (es_cons (d:=keptD K) rfl es_nil) (by rw [fn_plain]; exact plain_ev (by simp only [K]; exact om11 hkl hn))) (ne_tabs K (by simp only [K]; exact om11 hkl hn)))).trans (by rw [if_neg Bool.false_ne_true]; rfl))).trans ?_
  refine (ss_next (s_assign (d:=.list (ss.map pairD)) (e_fn (es_cons (d:=keptD K) rfl (es_cons (d:=.int (wayI w)) rfl es_nil)) ?_))).trans ?_
  · rw [fn_stretches,stretches_ev (by simp only [K]; exact om11 hkl hn) (by simp only [K]; exact om263 h0 hkl),← hb]
    simp only [K,ss]
    rw [hsp]
  have hto:okD 2 (.list (toldD t t.n)):=okD_list fun d hd=>by
    obtain ⟨i,hi,rfl⟩:=List.mem_map.mp hd
    refine okD_tuple (n:=0) fun d hd=>?_
    simp only [List.mem_cons,List.not_mem_nil,or_false] at hd
    rcases hd with rfl | rfl
    · exact okD_str (sg_dot (F.sgS i (List.mem_range.mp hi))).2.2.1
    · exact okD_int _
  refine (ss_next ((s_if (c:=false) (t_cmp (a:=.list (toldD t t.n)) (b:=.list (toldD t t.n)) (e_fn (es_cons (d:=keptD K) rfl (es_cons (d:=.list (tabs K)) rfl (es_cons (d:=.list (ss.map pairD)) rfl (es_cons (d:=.int (wayI w)) rfl es_nil)))) ?_) (e_lcomp (ds:=(List.range t.n).map (callD t)) (i_exp (d:=callsD t) rfl (its_ev (by rw [hcl]; unfold cap; exact om2 hn))) ?_) (ne_self hto (by unfold depthCap; omega)))).trans (by rw [if_neg Bool.false_ne_true]; rfl))).trans ?_
  · rw [fn_read]
    refine read_ev H (ahead_ok w) (om3 hn) (Nat.le_trans H.strs_len (om3 hn)) ?_
    obtain ⟨r1,r2⟩:=H.root_idx
    rw [hb] at r1 r2
    cases w
    · rw [r2 rfl,if_neg Bool.false_ne_true,hord]
      exact om264 h0
    · rw [r1 rfl,if_pos rfl]
      rfl
  · refine compL_all (ι:=Nat) (callD t) (fun j=>.tuple [.str (t.s j),.int ((t.c j).length:Int)]) (List.range t.n) fun j hj=>⟨_,rfl,?_⟩
    refine e_tuple (es_cons (d:=.str (t.s j)) rfl (es_cons (d:=.int ((t.c j).length:Int)) (e_bf (a:=strsD (t.c j)) rfl ?_) es_nil))
    have:=len_ev (ds:=(t.c j).map .str) (by rw [List.length_map]; have:=F.len j (List.mem_range.mp hj); unfold cap; exact om2 this)
    rw [List.length_map] at this
    exact this
  refine (ss_next (s_assign (d:=.list ((ord.map t.c).map strsD)) (e_lcomp (ds:=ord.map fun i:Nat=>D.int (i:Int)) (i_exp (d:=oD) rfl hoi) ?_))).trans ?_
  · rw [List.map_map]
    exact compL_all (ι:=Nat) (fun i:Nat=>D.int (i:Int)) (strsD ∘ t.c) ord fun v hv=>⟨_,rfl,call_comp (t:=t) (v:=v) (j:=11) (m:=1) (d:=strsD (t.c v)) rfl rfl (hlt v hv) (om3 hn) (by omega) rfl⟩
  exact (ss_next (s_for (σ:=base none none none none none) (i_r1 (e_bf (a:=callsD t) rfl hlen) (rng_ok (by unfold cap; exact om2 hn))) hl)).trans (ss_ret (s_ret rfl))
end
theorem fine_n {n:Nat} {xs:List Int} {s0:Str} (h0:0 < n) (h1:n ≤ 100) (hs:isSg s0):Fine (trL n xs s0):=
  { n100:=h1,sgS:=fun i hi=>sgn_mem xs s0 hs (XB.vt n (abv xs) i),sgC:=fun i hi=>c_sg (n:=n) (xs:=xs) hs i,len:=fun i hi=>Nat.le_trans (c_len (n:=n) (xs:=xs) (s0:=s0) h0 hi) h1 }
theorem law_rest {n:Nat} {xs:List Int} {s0:Str} (w:Bool) (h0:0 < n) (h1:n ≤ 100) (hs:isSg s0) (x0 x1 x3 x4:Option D):∃ σ',evSs Φ4 t_law2 [x0,x1,some (.int (wayI w)),x3,x4,some (callsD (trL n xs s0)),none,none,none,none,none,none,none,none,none,none,none,none,none,none,none]=some (.ret (.bool true),σ'):=
  law_checks (t:=trL n xs s0) (sg:=sgW w) (ord:=ordL n xs s0 w) (b0:=b0W w) (set_ok h0 hs) rfl rfl (strP_eq h0 hs) (fun s hs=>sgW_mem hs) (fine_n h0 h1 hs) x0 x1 x3 x4
theorem nL_pos (ns:List Int):0 < nL ns:=Nat.succ_pos _
set_option maxHeartbeats 2000000 in
theorem law_true (ns:List Int) (h:ns.length ≤ 63):lawF [.list (ns.map .int)]=some (.bool true):=by
  have hn:=nL_le ns
  have hc:(ns.map D.int).length ≤ cap:=by rw [List.length_map]; unfold cap; exact om265 h
  let S0:D:=.list (ns.map .int)
  obtain ⟨σ',hlaw⟩:=law_rest (n:=nL ns) (xs:=numsL ns) (s0:=s0L ns) (wL ns) (nL_pos ns) (Nat.le_trans hn (by decide)) (s0_sg ns) (some S0) (some (.int ns.sum)) (some (.list (given8.map .int))) (some (.list ((numsL ns).map .int)))
  have m0:=Int.fmod_nonneg_of_pos ns.sum (b:=2) (by decide)
  have m1:=Int.fmod_lt_of_pos ns.sum (b:=2) (by decide)
  have q0:=Int.fmod_nonneg_of_pos ns.sum (b:=3) (by decide)
  have q1:=Int.fmod_lt_of_pos ns.sum (b:=3) (by decide)
  refine runF_of (σ':=σ') rfl ?_
  refine (ss_next (s_assign (d:=.int ns.sum) (e_bf (a:=S0) rfl (by show (intsOf (ns.map .int)).map _=_; rw [intsOf_map]; rfl)))).trans ?_
  refine (ss_next (s_assign (d:=.int (wayI (wL ns))) (e_bin (a:=.int 1) (b:=.int (2 * ns.sum.fmod 2)) rfl (e_bin (a:=.int 2) (b:=.int (ns.sum.fmod 2)) rfl (e_bin (a:=.int ns.sum) (b:=.int 2) rfl rfl ?_) ?_) ?_))).trans ?_
  · simp only [evB1,evB2,evB3,evB4,evB5,evB6,evB7]
    rw [if_pos (by decide)]
  · rw [show evBin .mul (.int 2) (.int (ns.sum.fmod 2))=if (2:Int).natAbs ≤ 100 && (ns.sum.fmod 2).natAbs ≤ 100 then some (.int (2 * ns.sum.fmod 2)) else none from rfl,if_pos (by simp only [Bool.and_eq_true,decide_eq_true_eq]; exact om266 m0 m1)]
  · simp only [evB1,evB2,evB3,evB4,evB5,evB6,evB7]
    rw [even_way m0 m1]
    rfl
  refine (ss_next (s_assign (d:=.list (given8.map .int)) rfl)).trans ?_
  refine (ss_next (s_assign (d:=.list ((numsL ns).map .int)) (e_bin (a:=.list (((List.range 8).map fun k=>given8.getD k 0 + (sliceL ns (some (k:Int)) none (some 8)).sum).map .int)) (b:=.list ((ns.take 4).map .int)) (e_lcomp (i_r1 (j:=8) rfl rfl) ?_) (e_slice (a:=S0) (b:=.none) (c:=.int 4) (d:=.none) rfl rfl rfl rfl ?_) ?_))).trans ?_
  · have:=range_nat 8
    rw [show ((8:Nat):Int)=8 from rfl] at this
    rw [this,List.map_map]
    refine compL_all (ι:=Nat) (fun k:Nat=>D.int (k:Int)) (D.int ∘ fun k:Nat=>given8.getD k 0 + (sliceL ns (some (k:Int)) none (some 8)).sum) (List.range 8) fun k hk=>⟨_,rfl,?_⟩
    have hk8:=List.mem_range.mp hk
    refine e_bin (a:=.int (given8.getD k 0)) (b:=.int (sliceL ns (some (k:Int)) none (some 8)).sum) (e_sub (a:=.list (given8.map .int)) (b:=.int (k:Int)) rfl rfl (sub_at ?_ (om267 hk8))) (e_bf (a:=.list ((sliceL ns (some (k:Int)) none (some 8)).map .int)) (e_slice (a:=S0) (b:=.int (k:Int)) (c:=.none) (d:=.int 8) rfl rfl rfl rfl ?_) ?_) rfl
    · have hl:k < given8.length:=by show k < 8; omega
      rw [List.getElem?_map,List.getD_eq_getElem?_getD,List.getElem?_eq_getElem hl]
      rfl
    · simp only [S0]
      rw [show evSlice (.list (ns.map .int)) (.int (k:Int)) .none (.int 8)=if some (8:Int) ≠ some 0∧(ns.map D.int).length ≤ cap then some (.list (sliceL (ns.map .int) (some (k:Int)) none (some 8))) else none from rfl,if_pos ⟨by simp,hc⟩,sliceL_map]
    · show (intsOf _).map _=_
      rw [intsOf_map]
      rfl
  · simp only [S0]
    rw [evSlB,if_pos ⟨by simp,hc⟩,sliceL_map]
    have:=sliceL_upto ns 4
    rw [show ((4:Nat):Int)=4 from rfl] at this
    rw [this]
  · simp only [evB1,evB2,evB3,evB4,evB5,evB6,evB7,List.length_map,List.length_range,List.length_take]
    rw [if_pos (by unfold cap; exact om268),← List.map_append]
    rfl
  refine (ss_next (s_assign (d:=callsD (trL (nL ns) (numsL ns) (s0L ns))) (e_fn (es_cons (d:=.list ((numsL ns).map .int)) rfl (es_cons (d:=.str (s0L ns)) (e_sub (a:=.list (sign3.map .str)) (b:=.int (ns.sum.fmod 3)) rfl (e_bin (a:=.int ns.sum) (b:=.int 3) rfl rfl ?_) ?_) es_nil)) ?_))).trans hlaw
  · simp only [evB1,evB2,evB3,evB4,evB5,evB6,evB7]
    rw [if_pos (by decide)]
  · have e:((ns.sum.fmod 3).toNat:Int)=ns.sum.fmod 3:=om50 q0
    rw [← e]
    refine sub_at ?_ (om51 q1)
    have hl:(ns.sum.fmod 3).toNat < sign3.length:=by show _ < 3; exact om52 q1
    unfold s0L
    rw [List.getElem?_map,List.getD_eq_getElem?_getD,List.getElem?_eq_getElem hl]
    rfl
  · rw [fn_calls]
    exact calls_ev rfl (om269 hn)
end Mine
open PySem PySem.W PyProof.Rows
set_option Elab.async false
set_option maxRecDepth 100000
set_option maxHeartbeats 8000000
namespace MineH
noncomputable def loopT (ok:Thread→Bool) (f:SharedT→Thread→Option (SharedT × Thread)):Nat→SharedT→Thread→Option SharedT
  | 0,_,_=>none
  | n + 1,s,t=>match through t with
    | true=>some s
    | false=>match ok t with
      | false=>none
      | true=>match f s t with
        | some (s',t')=>loopT ok f n s' t'
        | none=>none
theorem loopT_of {tb:String→Option Builtin} {p:Program} {w:World} {m:Nat} {ann:Option Value}:∀ {n:Nat} {s r:SharedT} {t:Thread},loopT (stepOk m ann) (stepT (denote tb) p w) n s t=some r→topRun tb p w m ann n s.abs t=some r.abs
  | 0,_,_,_,h=>by cases h
  | n + 1,s,r,t,h=>by
    unfold loopT at h
    unfold topRun
    cases he:through t with
    | true=>rw [he] at h; cases h; rfl
    | false=>
      rw [he] at h
      cases hk:stepOk m ann t with
      | false=>rw [hk] at h; cases h
      | true=>
        rw [hk] at h
        cases hs:stepT (denote tb) p w s t with
        | none=>rw [hs] at h; cases h
        | some r=>obtain ⟨s₂,t₂⟩:=r; rw [hs] at h; dsimp only; rw [stepT_spec hs]; exact loopT_of h
theorem left_own {p q:Program} {loose:List Str} {Xt:Shared→Bool} {α:Type} {Yf:Shared→α} {Ya:World→α} {N M:Nat} {g0:Bool} {H₀:Params→Heap} {T₀:Params→BT} {life:Life} {gs₀:Array GenState} {d₀:Drawn} {k₀ m₀:Nat} {ann:Option Value}
    (open_:∀ w:World,(fencedOpening treeTable p w N).map (fun s=>(s.heap,s.gens,s.drawn,s.toks))=some (H₀ w.params,gs₀,d₀,k₀))
    (heap:∀ P,H₀ P=absHeap (T₀ P) m₀ life)
    (size:∀ P,((H₀ P).isNs mainGlobals && gs₀.size == 0,(H₀ P).objs.size,(H₀ P).nsMap mainGlobals "__annotations__")=(true,m₀,ann)) (le:Nat.ble M N=true)
    (run:∀ (w:World) (os:OsState),(loopT (stepOk m₀ ann) (stepT (denote treeTable) p w) M ⟨T₀ w.params,m₀,life,gs₀,d₀,k₀,os⟩ (topStub p)).map (fun r=>((staticsOk (importedModules p.main.body) (H₀ w.params) r.abs.heap && namesBound p r.abs.heap && gensDone r.abs && laidKept (H₀ w.params) r.abs.heap),
        openSeen q loose (importedModules p.main.body) Xt g0 r.abs,Yf r.abs))=some (true,openGood q loose,Ya w)):LeftO p q loose Xt Yf Ya N g0:=fun w=>by
  obtain ⟨⟨h,gs,d,k,os⟩,e,e'⟩:=Option.map_eq_some_iff.mp (open_ w)
  obtain ⟨rfl,rfl,rfl,rfl⟩:h=H₀ w.params∧gs=gs₀∧d=d₀∧k=k₀:=by simpa using e'
  obtain ⟨z1,z2,z3⟩:_∧_∧_:=by simpa only [Prod.mk.injEq] using size w.params
  obtain ⟨r,e1,e2⟩:=Option.map_eq_some_iff.mp (run w os)
  obtain ⟨l1,l2,l3⟩:_∧_∧_:=by simpa only [Prod.mk.injEq] using e2
  have t:=topRun_mono (N - M) _ _ _ _ (loopT_of e1)
  rw [show M + (N - M)=N by have:=Nat.le_of_ble_eq_true le; exact om15 this] at t
  have t:topFrom treeTable p w N ⟨H₀ w.params,gs,d,k,os⟩=some r.abs:=by
    unfold topFrom
    dsimp only
    rw [z1,z2,z3]
    rw [show (⟨H₀ w.params,gs,d,k,os⟩:Shared)=SharedT.abs ⟨T₀ w.params,m₀,life,gs,d,k,os⟩ by rw [heap]; rfl,t]
    show (match staticsOk (importedModules p.main.body) (H₀ w.params) r.abs.heap && namesBound p r.abs.heap && gensDone r.abs && laidKept (H₀ w.params) r.abs.heap with | true=>some r.abs | false=>none)=_
    rw [l1]
  unfold openEnds
  rw [e]
  show (topFrom treeTable p w N _).map _=_
  rw [t]
  exact congrArg some (Prod.ext l2 l3)
end MineH
open PySem PySem.W PyProof.Rows PySem.Challenge MineH
set_option Elab.async false
set_option maxRecDepth 100000
set_option maxHeartbeats 8000000
namespace MineH
noncomputable def bootT (P:Params):BT:=.node (boot_o_0 P) (.node (boot_o_1 P) (.node (boot_o_3 P) (.node (boot_o_7 P) .nil .nil) .nil) (.node (boot_o_5 P) (.node (boot_o_9 P) .nil .nil) .nil)) (.node (boot_o_2 P) (.node (boot_o_4 P) (.node (boot_o_8 P) .nil .nil) .nil) (.node (boot_o_6 P) (.node (boot_o_10 P) .nil .nil) .nil))
theorem boot_is (P:Params):boot_heap P=absHeap (bootT P) 11 {}:=by kernel_rfl
noncomputable def view1:Program:=view pw_pu0011_01 [25]
theorem opening_is:opening pw_pu0011_01=plainProg pw_pu0011_01.main.scope.names:=by kernel_rfl
theorem fence_is (s:Shared):fenceModules? pw_pu0011_01 s=some s:=by kernel_rfl
theorem ann_is (P:Params):((boot_heap P).isNs mainGlobals && (#[]:Array GenState).size == 0,(boot_heap P).objs.size,(boot_heap P).nsMap mainGlobals "__annotations__")=(true,11,some (.ref 6)):=by kernel_rfl
theorem looks1:(chainsOk view1 && opensWell pw_pu0011_01)=true:=by kernel_rfl
end MineH
open PySem PySem.W PyProof.Rows PySem.Challenge MineH
set_option Elab.async false
set_option maxRecDepth 100000
set_option maxHeartbeats 8000000
namespace Mine
noncomputable def fragOf (n:Nat) (h:Heap):Frag:=(List.range n).filterMap fun a=>(h.get? a).map fun o=>(a,o)
theorem lookup_filter {h:Heap} {a:Addr} {o:Obj}:∀ l:List Addr,(l.filterMap fun a=>(h.get? a).map fun o=>(a,o)).lookup a=some o→h.get? a=some o
  | [],e=>by cases e
  | b :: l,e=>by
    rw [List.filterMap_cons] at e
    cases q:h.get? b with
    | none=>rw [q] at e; exact lookup_filter l e
    | some o'=>
      rw [q] at e
      change List.lookup a ((b,o') :: _)=_ at e
      rw [List.lookup_cons] at e
      cases r:a == b with
      | true=>rw [r] at e; cases e; rw [beq_iff_eq.mp r,q]
      | false=>rw [r] at e; exact lookup_filter l e
theorem fragOf_in (n:Nat) (h:Heap):(fragOf n h).In h:=fun u u e=>lookup_filter _ e
noncomputable def myHook:Hook:=⟨Bool,fun s=>factsB (fragOf 185 s.heap) 45 35 42 121 118 111 184,fun u=>true,fun u h=>∃ K:Frag,K.In h∧factsB K 45 35 42 121 118 111 184=true,fun u s e=>⟨fragOf 185 s.heap,fragOf_in _ _,e⟩,fun _ _ _ ⟨K,x,y⟩ k=>⟨K,Frag.In.keeps x k,y⟩⟩
noncomputable def view1:Program:=view pw_pu0011_01 [25]
theorem law_some:(defOf view1 (Str.ofString "law")).isSome=true:=by kernel_rfl
noncomputable def lawD:DefRec × List (Str × PySem.Expr):=(defOf view1 (Str.ofString "law")).get law_some
noncomputable def loose1:List Str:=(pw_pu0011_01.main.scope.names.map (·.1)).filter fun x=>x != Str.ofString "__name__" && x != Str.ofString "law"
theorem said1:PySem.Challenge.rw_pu0011_01.wellSaid=true:=by
  rw [PySem.W.Fast.te9446332074065402090]
  kernel_rfl
theorem run2 (w:World) (os:OsState):(loopT (PySem.W.Fast.tw6613529449190102663 11 (some (.ref 6))) (PySem.W.Fast.tw10156331382660048174 (PySem.W.Fast.tw11892475500146522536 PySem.W.Fast.tw14364793385576792824) pw_pu0011_01 w) 1300 ⟨bootT w.params,11,{},#[],boot_drawn,boot_toks,os⟩ (topStub pw_pu0011_01)).map (fun r=>
   ((staticsOk (importedModules pw_pu0011_01.main.body) (boot_heap w.params) r.abs.heap && namesBound pw_pu0011_01 r.abs.heap && gensDone r.abs && laidKept (boot_heap w.params) r.abs.heap),
        PySem.W.Fast.tw4187177175401517315 view1 loose1 (importedModules pw_pu0011_01.main.body) (fun s=>xlAt view1 [] s && recOk [] s) true r.abs,factsB (fragOf 185 r.abs.heap) 45 35 42 121 118 111 184))=some (true,openGood view1 loose1,true):=by kernel_rfl
end Mine
open PySem PySem.W PyProof.Rows PySem.Challenge MineH
set_option Elab.async false
set_option maxRecDepth 100000
set_option maxHeartbeats 8000000
namespace Mine
theorem left1:LeftO pw_pu0011_01 view1 loose1 (fun s=>xlAt view1 [] s && recOk [] s) myHook.obs myHook.val 1300:=by
  refine left_own (M:=1300) (H₀:=boot_heap) (T₀:=bootT) (life:={}) (gs₀:=#[]) (m₀:=11) (ann:=some (.ref 6)) (boot_open opening_is rfl fence_is) boot_is ann_is rfl fun w os=>?_
  have:=run2 w os
  rw [← PySem.W.Fast.te6613529449190102663,← PySem.W.Fast.te10156331382660048174,← PySem.W.Fast.te11892475500146522536,← PySem.W.Fast.te14364793385576792824,← PySem.W.Fast.te4187177175401517315] at this
  exact this
theorem law_hdef:defOf view1 (Str.ofString "law")=some (lawD.1,lawD.2):=(Option.some_get law_some).symm
theorem law_hp:pw_pu0011_01.theDef (Str.ofString "law")=some (lawD.1.params,lawD.1.body,lawD.1.scope):=by kernel_rfl
theorem law_hk:kwWritten? lawD.1.params.kwonlyargs lawD.1.params.kw_defaults=some lawD.2:=by kernel_rfl
theorem law_name:lawD.1.name=Str.ofString "law":=by kernel_rfl
theorem ok1:(chainsOk view1 && opensWell pw_pu0011_01 && (frees rw_pu0011_01.row.toRowW && rw_pu0011_01.row.toRowW.within.isEmpty))=true:=by kernel_rfl
end Mine
set_option tactic.hygienic true in
theorem PySem.Challenge.cw_pu0011_01_holds : PySem.Challenge.rw_pu0011_01.Holds := by
  w_on
  refine holds_law Mine.said1 fun said=>?_
  refine holds_open (q:=Mine.view1) (loose:=Mine.loose1) (Xt:=fun s=>xlAt Mine.view1 [] s && recOk [] s) (XP:=XL Mine.view1 []) (YP:=Mine.myHook.says) (d:=Mine.lawD.1) (kwd:=Mine.lawD.2) (N:=1300) Mine.left1 Mine.myHook.of Mine.myHook.keeps (fun s e=>xl_of s (Bool.and_eq_true_iff.mp e).1) XL.keeps Mine.law_hdef Mine.law_hp Mine.law_hk (fun s e=>recFacts_of (Bool.and_eq_true_iff.mp e).2) rfl said Mine.ok1 ⟨rfl,rfl,rfl,rfl,rfl,by decide +kernel⟩ ?hw ?hc
  (case hw=>w_witness2)
  intro w s0 s1 mg mb G Y fa o pm cd doc dV kV ho hd' hcd hD hmg hg args vals as hpre hlay hrd hwl hlo
  obtain ⟨K,KX,HB⟩:=Y
  rw [Mine.law_name] at hmg
  refine Ground.open G ?_
  intro T B D TE TW
  clear hd' hcd hD ho G D TE TW B
  wrow_args hpre hlay hrd hwl hlo
  rename_i ns _ _ _ _ _ _ _ _ _ _ _ _ hW _ _ _ hlen _
  refine Mine.law_open (C:=45) (fC:=35) (cA:=42) (IC:=121) (NF:=118) (fI:=111) (lawA:=184) HB KX (topRead_of T) hmg hW (Mine.law_true ns (om270 hlen)) fun s' k=>?_
  obtain ⟨h',tk,rfl,kk⟩:=k
  refine ⟨.inl ⟨.bool true,.bool true,[],rfl,?_,.bool true,?_,?_⟩,.of_keep kk,rfl,AllBare.of_eq hg⟩
  · exact fun cls=>raisesW_false (by wrow_none_raised) cls
  · wrow_post
  · exact fun u=>⟨List.nodup_nil,fun a ha=>by cases ha⟩
